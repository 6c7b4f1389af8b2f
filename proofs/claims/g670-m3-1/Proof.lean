import JvmDerived
import JvmDerived.Pilot.@@N@@Statement
import JvmDerived.Pilot.@@N@@Code
set_option linter.unusedVariables false
set_option linter.unusedSimpArgs false
namespace Jvm.RoadKit
open Sem ClassFile Op Lib Jvm.Stand Jvm.Free Jvm.LawKit
section New
variable {p : Program} {l : Launch} {e : Env} {R : Room} {s : State} {m : MethodId} {args : Array Value} {below : List Frame} {meth : Method} {c : Code} {T : State} {locs : List Loc} {cells slots : Nat}
theorem retI (X : Stand p l e R s m args below meth c T locs cells slots) (hx : p.tables.exec = Jvm.exec) {pc : Nat} {Ls : Array Slot} {z : Int32} {rest : List Value} (hret : meth.sig.returnType = some .int) (hd : decode c.code pc = .ok (.ireturn, 1)) {fs : List Frame}
    (hl : ∀ (f : JFrame) (acts : List Action), f.method = m → f.locked = none → f.entered = [] → (doReturn e (T.setTop f) acts (some (.int z))).1 = T.setFrames fs) : Steps p.tables e below (T.setTop (mkF m pc Ls (.int z :: rest))) (T.setFrames fs) := by
  have hm' : T.vm.method? m = some meth := X.method'
  have hn : narrow .int (.int z) = .int z := rfl
  show Steps p.tables e below (T.setTop { method := m, pc := pc, locals := Ls, stack := _ :: rest, locked := none }) _
  jvm_step X.here [X.here.top, hx, hd, hm', hret, hn]
  first | (intro acts; rw [hl _ acts rfl rfl rfl]) | rw [hl _ _ rfl rfl rfl]
  exact Steps.refl _
end New
end Jvm.RoadKit
namespace Jvm.Pilot.@@N@@
open Jvm Jvm.ClassFile Sem Op Lib Jvm.Free Jvm.Stand Jvm.LawKit Jvm.RoadKit Bundle Jvm.Pilot.@@N@@.Jvm.D
abbrev own_un : Slot := Slot.unset
abbrev own_sd : Slot := Slot.second
abbrev own_jv (x : Int64) : Slot := Slot.val (.long x)
theorem own_lo {p : Program} {l : Launch} {e : Env} {R : Room} {s : State} {m : MethodId} {args : Array Value} {below : List Frame} {meth : Method} {c : Code} {T : State} {locs : List Loc} {cells slots n : Nat}
    (X : Stand p l e R s m args below meth c T locs cells slots) (N : Fr n locs) : ∃ lc, Stand p l e R s m args below meth c T lc cells slots ∧ Fr n lc := ⟨_, X, N⟩
/-- from this frame the run comes to its end, and Q is said of what it leaves -/
def own_Dn (p : Program) (e : Env) (below : List Frame) (s : State) (Q : Option Value → Heap → List Loc → Prop) (k n : Nat) (T : State) (g : JFrame) : Prop :=
  ∃ s₂ o, Steps p.tables e below (T.setTop g) s₂ ∧ s₂.status = .running ∧ Ended s₂ below o ∧ ∃ v L, o = .returned v ∧ Q v s₂.heap L ∧ FrameEnd s o s₂ L k n
theorem own_go {p : Program} {e : Env} {below : List Frame} {s : State} {Q : Option Value → Heap → List Loc → Prop} {k n : Nat} {T T' : State} {g g' : JFrame}
    (h : ∀ t, Steps p.tables e below (T'.setTop g') t → Steps p.tables e below (T.setTop g) t) (d : own_Dn p e below s Q k n T' g') : own_Dn p e below s Q k n T g := by
  obtain ⟨s₂, o, h1, h2⟩ := d
  exact ⟨s₂, o, h _ h1, h2⟩
theorem own_as {p : Program} {e : Env} {below : List Frame} {s : State} {Q : Option Value → Heap → List Loc → Prop} {k n : Nat} {T : State} {g g' : JFrame}
    (h : g = g') (d : own_Dn p e below s Q k n T g') : own_Dn p e below s Q k n T g := h ▸ d
theorem own_ret {p : Program} {l : Launch} {e : Env} {R : Room} {s : State} {m : MethodId} {args : Array Value} {below : List Frame} {meth : Method} {c : Code} {T : State} {locs : List Loc} {cells slots : Nat}
    {Q : Option Value → Heap → List Loc → Prop} {k n : Nat} {g : JFrame} (X : Stand p l e R s m args below meth c T locs cells slots) (hlocks : meth.locks = false) (v : Option Value) (hv : meth.sig.returnType = none → v = none)
    (hr : ∀ fs : List Frame, (∀ (f : JFrame) (acts : List Action), f.method = m → f.locked = none → f.entered = [] → (doReturn e (T.setTop f) acts v).1 = T.setFrames fs) → Steps p.tables e below (T.setTop g) (T.setFrames fs))
    (hQ : Q v T.heap locs) (hk : cells ≤ k) (hn : slots ≤ n) : own_Dn p e below s Q k n T g := by
  obtain ⟨fs, h1, hrun, hended, hW, hsame⟩ := X.leave (v := v) hv hlocks
  exact ⟨_, _, hr fs h1, hrun, hended, _, _, rfl, hQ, ⟨_, rfl⟩, hW, hsame.mono hk hn⟩
theorem own_l0 : (0 : Int32).toInt = 0 := by decide
theorem own_l1 : (1 : Int32).toInt = 1 := by decide
theorem own_l10 : (10 : Int32).toInt = 10 := by decide
theorem own_l128 : (128 : Int32).toInt = 128 := by decide
theorem own_l255 : (255 : Int32).toInt = 255 := by decide
theorem own_l2147483347 : (2147483347 : Int32).toInt = 2147483347 := by decide
theorem own_l2147483647 : (2147483647 : Int32).toInt = 2147483647 := by decide
theorem own_L0 : (0 : Int64).toInt = 0 := by decide
theorem own_L1 : (1 : Int64).toInt = 1 := by decide
theorem own_len31 {Z : State} {args : Array Value} {t : Term} {a : Addr} {c : Cell} {v : Value} (ht : t.eval args Z none [] Z = some (.ref a)) (hc : Z.arrayAt? a = some c) (h : (Term.length t).eval args Z none [] Z = some v) : c.slots.size < 2 ^ 31 ∧ Value.int c.slots.size.toInt32 = v := by
  simp only [Term.eval, ht, hc, Option.bind_eq_bind, Option.bind_some] at h
  split at h
  · exact ⟨‹_›, Option.some.inj h⟩
  · cases h
theorem own_static_idx {Z : State} {args : Array Value} {C n d : String} (idx : List Nat) : (Term.static C n d).eval args Z none idx Z = (Term.static C n d).eval args Z none [] Z := rfl
theorem own_sub_idx {Z : State} {args : Array Value} {j : Int32} (nn : ¬ j < 0) : (Term.sub (.index 0) (.int (128 : Int32))).eval args Z none [j.toNatClampNeg] Z = some (.int (j - 128)) := by
  exact Term.sub_int (idx_at nn) (Term.int_eval (128))
def own_DnW (p : Program) (e : Env) (below : List Frame) (s : State) (Q : Option Value → Heap → List Loc → Prop) (k n : Nat) (T : State) (g : JFrame) : Prop :=
  ∃ s₂ o, Steps p.tables e below (T.setTop g) s₂ ∧ s₂.status = .running ∧ Ended s₂ below o ∧ ∃ v L, o = .returned v ∧ Q v s₂.heap L ∧ ReturnedEndW s o s₂ L k n
theorem own_goW {p : Program} {e : Env} {below : List Frame} {s : State} {Q : Option Value → Heap → List Loc → Prop} {k n : Nat} {T T' : State} {g g' : JFrame}
    (h : ∀ t, Steps p.tables e below (T'.setTop g') t → Steps p.tables e below (T.setTop g) t) (d : own_DnW p e below s Q k n T' g') : own_DnW p e below s Q k n T g := by
  obtain ⟨s₂, o, h1, h2⟩ := d
  exact ⟨s₂, o, h _ h1, h2⟩
theorem own_retW {p : Program} {l : Launch} {e : Env} {R : Room} {s : State} {vm₁ : Vm} {m : MethodId} {args : Array Value} {below : List Frame} {meth : Method} {c : Code} {T : State} {locs : List Loc} {cells slots : Nat}
    {Q : Option Value → Heap → List Loc → Prop} {k n k1 : Nat} {g : JFrame} (X : Stand p l e R (s.setVm vm₁) m args below meth c T locs cells slots) (hlocks : meth.locks = false) (v : Option Value) (hv : meth.sig.returnType = none → v = none)
    (hr : ∀ fs : List Frame, (∀ (f : JFrame) (acts : List Action), f.method = m → f.locked = none → f.entered = [] → (doReturn e (T.setTop f) acts v).1 = T.setFrames fs) → Steps p.tables e below (T.setTop g) (T.setFrames fs))
    (hQ : Q v T.heap locs) (hk : cells ≤ k) (hn : slots ≤ n) (hS : s.Since vm₁ k1) (hb : k1 ≤ T.heap.size) : own_DnW p e below s Q k n T g := by
  obtain ⟨fs, h1, hrun, hended, hE⟩ := X.leaveW hS hb (v := v) hv hlocks
  exact ⟨_, _, hr fs h1, hrun, hended, _, _, rfl, hQ, hE.1, hE.2.1, hE.2.2.1, hE.2.2.2.mono hk hn⟩
theorem own_d1_0 : decode jdk_29_method_69_code 0 = .ok (.iload_n 0, 1) := by decide +kernel
theorem own_d1_1 : decode jdk_29_method_69_code 1 = .ok (.iload_n 1, 1) := by decide +kernel
theorem own_d1_2 : decode jdk_29_method_69_code 2 = .ok (.if_icmp .gt 7, 3) := by decide +kernel
theorem own_d1_5 : decode jdk_29_method_69_code 5 = .ok (.iload_n 0, 1) := by decide +kernel
theorem own_d1_6 : decode jdk_29_method_69_code 6 = .ok (.goto 4, 3) := by decide +kernel
theorem own_d1_9 : decode jdk_29_method_69_code 9 = .ok (.iload_n 1, 1) := by decide +kernel
theorem own_d1_10 : decode jdk_29_method_69_code 10 = .ok (.ireturn, 1) := by decide +kernel
theorem own_ef1 (m : MethodId) (u : Int32) (t : Int32) : entryFrame m #[(.int u), (.int t)] 2 = mkF m 0 #[.val (.int u), .val (.int t)] [] := by first | (simp [entryFrame, mkF, argsToLocals, Value.category]; done) | rfl
def own_Q1 (Z : State) (u : Int32) (t : Int32) (h0 : Heap) (n0 : Nat) (v : Option Value) (h : Heap) (L : List Loc) : Prop := ∃ z : Int32, v = some (.int z) ∧ Fr n0 L ∧ h = h0 ∧ ((u.toInt ≤ t.toInt ∧ z.toInt = u.toInt) ∨ (t.toInt ≤ u.toInt ∧ z.toInt = t.toInt))
set_option maxRecDepth 65536 in
set_option maxHeartbeats 40000000 in
theorem own_rm1 (l : Launch) (Z : State) (a0 : Array Value) (hw : ∀ d ∈ tables_1, d.before a0 Z = true) (ws : List Jvm.Cond) (u : Int32) (t : Int32) (h0 : Heap) (n0 : Nat) (Zs : n0 ≤ h0.size)  :
    MetFree l (⟨"java/lang/Math", "min", "(II)I"⟩ : MethodName) (head1 (Jvm.Cond.code (⟨"java/lang/Math", "min", "(II)I"⟩ : MethodName) jdk_29_method_69_code 2 (some .int) :: ws) ({ frames := 0, cells := 0, slots := 0, locals := 0 } : Room)) (fun aA_ U => aA_ = #[(.int u), (.int t)] ∧ Z.Warmed39 U.vm ∧ U.heap = h0) (fun _ _ _ _ _ => True) (fun _ U o U' => ∃ v L, o = .returned v ∧ own_Q1 Z u t h0 n0 v U'.heap L ∧ FrameEnd U o U' L ({ frames := 0, cells := 0, slots := 0, locals := 0 } : Room).cells ({ frames := 0, cells := 0, slots := 0, locals := 0 } : Room).slots) := by
  refine MetFree.of_bodySF (Jvm.Free.JP.mathPlain rfl (by decide +kernel)) hisR ?_
  intro p e s m args below meth c s₁ Bd hml0 hP hK
  obtain ⟨rfl, hZ, hh⟩ := hP
  have hx := Bd.exec
  have hby := Bd.bytes
  have hml : c.maxLocals = 2 := hml0
  have hown : s.vm.findClass "java/lang/Math" = some m.cls := findClass_of_methodNamed Bd.named
  have hnm := (name_of_methodNamed Bd.named Bd.method).1
  have X0 : Stand p l e ({ frames := 0, cells := 0, slots := 0, locals := 0 } : Room) s m #[(.int u), (.int t)] below meth c s₁ [] 0 0 := Stand.of_body Bd
  have e0 : s₁.heap = h0 := by rw [← hh, Bd.state]; rfl
  have NF := Fr.nil n0
  rw [own_ef1 m u t]
  show own_Dn p e below s (own_Q1 Z u t h0 n0) 0 0 s₁ (mkF m 0 #[.val (.int u), .val (.int t)] [])
  refine own_go (T' := s₁) (g' := (mkF m 1 #[.val (.int u), .val (.int t)] [(.int u)])) (fun _ k => XS.iloadN X0.here hx rfl (hb hby own_d1_0) rfl k) ?_
  refine own_go (T' := s₁) (g' := (mkF m 2 #[.val (.int u), .val (.int t)] [(.int t), (.int u)])) (fun _ k => XS.iloadN X0.here hx rfl (hb hby own_d1_1) rfl k) ?_
  by_cases c1 : t < u
  · refine own_go (T' := s₁) (g' := (mkF m 9 #[.val (.int u), .val (.int t)] [])) (fun _ k => XS.icmpYes X0.here hx rfl (pc0 := 2) (pc' := 9) rfl (hb hby own_d1_2) rfl (tlt c1).2.2.1 (by decide) (by decide) k) ?_
    refine own_go (T' := s₁) (g' := (mkF m 10 #[.val (.int u), .val (.int t)] [(.int t)])) (fun _ k => XS.iloadN X0.here hx rfl (hb hby own_d1_9) rfl k) ?_
    refine own_ret X0 Bd.notSynchronized (some (.int t)) (fun h => by rw [Bd.returns] at h; cases h) (fun fs hr => retI X0 hx Bd.returns (hb hby own_d1_10) hr) ?_ (by decide) (by decide)
    show (own_Q1 Z u t h0 n0) (some (.int t)) s₁.heap _
    rw [e0]
    exact ⟨_, rfl, NF, rfl, by (try simp only [own_l0, own_l1, own_l10, own_l128, own_l255, own_l2147483347, own_l2147483647, own_L0, own_L1, Int32.lt_iff_toInt_lt, ← Int32.toInt_inj, Int64.lt_iff_toInt_lt, ← Int64.toInt_inj, and_true, true_and, and_false, false_and, or_true, true_or, or_false, false_or, not_true_eq_false, not_false_eq_true, ne_eq, true_implies, false_implies, implies_true] at c1 ⊢) <;> omega⟩
  · refine own_go (T' := s₁) (g' := (mkF m 5 #[.val (.int u), .val (.int t)] [])) (fun _ k => XS.icmpNo X0.here hx rfl (hb hby own_d1_2) rfl (flt c1).2.2.1 k) ?_
    refine own_go (T' := s₁) (g' := (mkF m 6 #[.val (.int u), .val (.int t)] [(.int u)])) (fun _ k => XS.iloadN X0.here hx rfl (hb hby own_d1_5) rfl k) ?_
    refine own_go (T' := s₁) (g' := (mkF m 10 #[.val (.int u), .val (.int t)] [(.int u)])) (fun _ k => XS.goto X0.here hx rfl (pc0 := 6) (pc' := 10) rfl (hb hby own_d1_6) (by decide) (by decide) k) ?_
    refine own_ret X0 Bd.notSynchronized (some (.int u)) (fun h => by rw [Bd.returns] at h; cases h) (fun fs hr => retI X0 hx Bd.returns (hb hby own_d1_10) hr) ?_ (by decide) (by decide)
    show (own_Q1 Z u t h0 n0) (some (.int u)) s₁.heap _
    rw [e0]
    exact ⟨_, rfl, NF, rfl, by (try simp only [own_l0, own_l1, own_l10, own_l128, own_l255, own_l2147483347, own_l2147483647, own_L0, own_L1, Int32.lt_iff_toInt_lt, ← Int32.toInt_inj, Int64.lt_iff_toInt_lt, ← Int64.toInt_inj, and_true, true_and, and_false, false_and, or_true, true_or, or_false, false_or, not_true_eq_false, not_false_eq_true, ne_eq, true_implies, false_implies, implies_true] at c1 ⊢) <;> omega⟩
theorem own_d2_0 : decode jdk_29_method_65_code 0 = .ok (.iload_n 0, 1) := by decide +kernel
theorem own_d2_1 : decode jdk_29_method_65_code 1 = .ok (.iload_n 1, 1) := by decide +kernel
theorem own_d2_2 : decode jdk_29_method_65_code 2 = .ok (.if_icmp .lt 7, 3) := by decide +kernel
theorem own_d2_5 : decode jdk_29_method_65_code 5 = .ok (.iload_n 0, 1) := by decide +kernel
theorem own_d2_6 : decode jdk_29_method_65_code 6 = .ok (.goto 4, 3) := by decide +kernel
theorem own_d2_9 : decode jdk_29_method_65_code 9 = .ok (.iload_n 1, 1) := by decide +kernel
theorem own_d2_10 : decode jdk_29_method_65_code 10 = .ok (.ireturn, 1) := by decide +kernel
theorem own_ef2 (m : MethodId) (u : Int32) (t : Int32) : entryFrame m #[(.int u), (.int t)] 2 = mkF m 0 #[.val (.int u), .val (.int t)] [] := by first | (simp [entryFrame, mkF, argsToLocals, Value.category]; done) | rfl
def own_Q2 (Z : State) (u : Int32) (t : Int32) (h0 : Heap) (n0 : Nat) (v : Option Value) (h : Heap) (L : List Loc) : Prop := ∃ z : Int32, v = some (.int z) ∧ Fr n0 L ∧ h = h0 ∧ ((u.toInt ≤ t.toInt ∧ z.toInt = t.toInt) ∨ (t.toInt ≤ u.toInt ∧ z.toInt = u.toInt))
set_option maxRecDepth 65536 in
set_option maxHeartbeats 40000000 in
theorem own_rm2 (l : Launch) (Z : State) (a0 : Array Value) (hw : ∀ d ∈ tables_1, d.before a0 Z = true) (ws : List Jvm.Cond) (u : Int32) (t : Int32) (h0 : Heap) (n0 : Nat) (Zs : n0 ≤ h0.size)  :
    MetFree l (⟨"java/lang/Math", "max", "(II)I"⟩ : MethodName) (head1 (Jvm.Cond.code (⟨"java/lang/Math", "max", "(II)I"⟩ : MethodName) jdk_29_method_65_code 2 (some .int) :: ws) ({ frames := 0, cells := 0, slots := 0, locals := 0 } : Room)) (fun aA_ U => aA_ = #[(.int u), (.int t)] ∧ Z.Warmed39 U.vm ∧ U.heap = h0) (fun _ _ _ _ _ => True) (fun _ U o U' => ∃ v L, o = .returned v ∧ own_Q2 Z u t h0 n0 v U'.heap L ∧ FrameEnd U o U' L ({ frames := 0, cells := 0, slots := 0, locals := 0 } : Room).cells ({ frames := 0, cells := 0, slots := 0, locals := 0 } : Room).slots) := by
  refine MetFree.of_bodySF (Jvm.Free.JP.mathPlain rfl (by decide +kernel)) hisR ?_
  intro p e s m args below meth c s₁ Bd hml0 hP hK
  obtain ⟨rfl, hZ, hh⟩ := hP
  have hx := Bd.exec
  have hby := Bd.bytes
  have hml : c.maxLocals = 2 := hml0
  have hown : s.vm.findClass "java/lang/Math" = some m.cls := findClass_of_methodNamed Bd.named
  have hnm := (name_of_methodNamed Bd.named Bd.method).1
  have X0 : Stand p l e ({ frames := 0, cells := 0, slots := 0, locals := 0 } : Room) s m #[(.int u), (.int t)] below meth c s₁ [] 0 0 := Stand.of_body Bd
  have e0 : s₁.heap = h0 := by rw [← hh, Bd.state]; rfl
  have NF := Fr.nil n0
  rw [own_ef2 m u t]
  show own_Dn p e below s (own_Q2 Z u t h0 n0) 0 0 s₁ (mkF m 0 #[.val (.int u), .val (.int t)] [])
  refine own_go (T' := s₁) (g' := (mkF m 1 #[.val (.int u), .val (.int t)] [(.int u)])) (fun _ k => XS.iloadN X0.here hx rfl (hb hby own_d2_0) rfl k) ?_
  refine own_go (T' := s₁) (g' := (mkF m 2 #[.val (.int u), .val (.int t)] [(.int t), (.int u)])) (fun _ k => XS.iloadN X0.here hx rfl (hb hby own_d2_1) rfl k) ?_
  by_cases c1 : u < t
  · refine own_go (T' := s₁) (g' := (mkF m 9 #[.val (.int u), .val (.int t)] [])) (fun _ k => XS.icmpYes X0.here hx rfl (pc0 := 2) (pc' := 9) rfl (hb hby own_d2_2) rfl (tlt c1).1 (by decide) (by decide) k) ?_
    refine own_go (T' := s₁) (g' := (mkF m 10 #[.val (.int u), .val (.int t)] [(.int t)])) (fun _ k => XS.iloadN X0.here hx rfl (hb hby own_d2_9) rfl k) ?_
    refine own_ret X0 Bd.notSynchronized (some (.int t)) (fun h => by rw [Bd.returns] at h; cases h) (fun fs hr => retI X0 hx Bd.returns (hb hby own_d2_10) hr) ?_ (by decide) (by decide)
    show (own_Q2 Z u t h0 n0) (some (.int t)) s₁.heap _
    rw [e0]
    exact ⟨_, rfl, NF, rfl, by (try simp only [own_l0, own_l1, own_l10, own_l128, own_l255, own_l2147483347, own_l2147483647, own_L0, own_L1, Int32.lt_iff_toInt_lt, ← Int32.toInt_inj, Int64.lt_iff_toInt_lt, ← Int64.toInt_inj, and_true, true_and, and_false, false_and, or_true, true_or, or_false, false_or, not_true_eq_false, not_false_eq_true, ne_eq, true_implies, false_implies, implies_true] at c1 ⊢) <;> omega⟩
  · refine own_go (T' := s₁) (g' := (mkF m 5 #[.val (.int u), .val (.int t)] [])) (fun _ k => XS.icmpNo X0.here hx rfl (hb hby own_d2_2) rfl (flt c1).1 k) ?_
    refine own_go (T' := s₁) (g' := (mkF m 6 #[.val (.int u), .val (.int t)] [(.int u)])) (fun _ k => XS.iloadN X0.here hx rfl (hb hby own_d2_5) rfl k) ?_
    refine own_go (T' := s₁) (g' := (mkF m 10 #[.val (.int u), .val (.int t)] [(.int u)])) (fun _ k => XS.goto X0.here hx rfl (pc0 := 6) (pc' := 10) rfl (hb hby own_d2_6) (by decide) (by decide) k) ?_
    refine own_ret X0 Bd.notSynchronized (some (.int u)) (fun h => by rw [Bd.returns] at h; cases h) (fun fs hr => retI X0 hx Bd.returns (hb hby own_d2_10) hr) ?_ (by decide) (by decide)
    show (own_Q2 Z u t h0 n0) (some (.int u)) s₁.heap _
    rw [e0]
    exact ⟨_, rfl, NF, rfl, by (try simp only [own_l0, own_l1, own_l10, own_l128, own_l255, own_l2147483347, own_l2147483647, own_L0, own_L1, Int32.lt_iff_toInt_lt, ← Int32.toInt_inj, Int64.lt_iff_toInt_lt, ← Int64.toInt_inj, and_true, true_and, and_false, false_and, or_true, true_or, or_false, false_or, not_true_eq_false, not_false_eq_true, ne_eq, true_implies, false_implies, implies_true] at c1 ⊢) <;> omega⟩
theorem own_d3_0 : decode prog_27_method_1_code 0 = .ok (.aload_n 0, 1) := by decide +kernel
theorem own_d3_1 : decode prog_27_method_1_code 1 = .ok (.invokespecial 1, 3) := by decide +kernel
theorem own_d3_4 : decode prog_27_method_1_code 4 = .ok (.aload_n 0, 1) := by decide +kernel
theorem own_d3_5 : decode prog_27_method_1_code 5 = .ok (.aload_n 1, 1) := by decide +kernel
theorem own_d3_6 : decode prog_27_method_1_code 6 = .ok (.putfield 7, 3) := by decide +kernel
theorem own_d3_9 : decode prog_27_method_1_code 9 = .ok (.aload_n 0, 1) := by decide +kernel
theorem own_d3_10 : decode prog_27_method_1_code 10 = .ok (.aload_n 2, 1) := by decide +kernel
theorem own_d3_11 : decode prog_27_method_1_code 11 = .ok (.putfield 13, 3) := by decide +kernel
theorem own_d3_14 : decode prog_27_method_1_code 14 = .ok (.aload_n 0, 1) := by decide +kernel
theorem own_d3_15 : decode prog_27_method_1_code 15 = .ok (.aload_n 1, 1) := by decide +kernel
theorem own_d3_16 : decode prog_27_method_1_code 16 = .ok (.arraylength, 1) := by decide +kernel
theorem own_d3_17 : decode prog_27_method_1_code 17 = .ok (.newarray .long, 2) := by decide +kernel
theorem own_d3_19 : decode prog_27_method_1_code 19 = .ok (.putfield 17, 3) := by decide +kernel
theorem own_d3_22 : decode prog_27_method_1_code 22 = .ok (.lconst 0, 1) := by decide +kernel
theorem own_d3_23 : decode prog_27_method_1_code 23 = .ok (.lstore_n 3, 1) := by decide +kernel
theorem own_d3_24 : decode prog_27_method_1_code 24 = .ok (.iconst 0, 1) := by decide +kernel
theorem own_d3_25 : decode prog_27_method_1_code 25 = .ok (.istore 5, 2) := by decide +kernel
theorem own_d3_27 : decode prog_27_method_1_code 27 = .ok (.iload 5, 2) := by decide +kernel
theorem own_d3_29 : decode prog_27_method_1_code 29 = .ok (.aload_n 1, 1) := by decide +kernel
theorem own_d3_30 : decode prog_27_method_1_code 30 = .ok (.arraylength, 1) := by decide +kernel
theorem own_d3_31 : decode prog_27_method_1_code 31 = .ok (.if_icmp .ge 32, 3) := by decide +kernel
theorem own_d3_34 : decode prog_27_method_1_code 34 = .ok (.aload_n 0, 1) := by decide +kernel
theorem own_d3_35 : decode prog_27_method_1_code 35 = .ok (.getfield 17, 3) := by decide +kernel
theorem own_d3_38 : decode prog_27_method_1_code 38 = .ok (.iload 5, 2) := by decide +kernel
theorem own_d3_40 : decode prog_27_method_1_code 40 = .ok (.lload_n 3, 1) := by decide +kernel
theorem own_d3_41 : decode prog_27_method_1_code 41 = .ok (.lastore, 1) := by decide +kernel
theorem own_d3_42 : decode prog_27_method_1_code 42 = .ok (.lload_n 3, 1) := by decide +kernel
theorem own_d3_43 : decode prog_27_method_1_code 43 = .ok (.aload_n 2, 1) := by decide +kernel
theorem own_d3_44 : decode prog_27_method_1_code 44 = .ok (.iload 5, 2) := by decide +kernel
theorem own_d3_46 : decode prog_27_method_1_code 46 = .ok (.iaload, 1) := by decide +kernel
theorem own_d3_47 : decode prog_27_method_1_code 47 = .ok (.i2l, 1) := by decide +kernel
theorem own_d3_48 : decode prog_27_method_1_code 48 = .ok (.aload_n 1, 1) := by decide +kernel
theorem own_d3_49 : decode prog_27_method_1_code 49 = .ok (.iload 5, 2) := by decide +kernel
theorem own_d3_51 : decode prog_27_method_1_code 51 = .ok (.laload, 1) := by decide +kernel
theorem own_d3_52 : decode prog_27_method_1_code 52 = .ok (.lsub, 1) := by decide +kernel
theorem own_d3_53 : decode prog_27_method_1_code 53 = .ok (.lconst 1, 1) := by decide +kernel
theorem own_d3_54 : decode prog_27_method_1_code 54 = .ok (.ladd, 1) := by decide +kernel
theorem own_d3_55 : decode prog_27_method_1_code 55 = .ok (.ladd, 1) := by decide +kernel
theorem own_d3_56 : decode prog_27_method_1_code 56 = .ok (.lstore_n 3, 1) := by decide +kernel
theorem own_d3_57 : decode prog_27_method_1_code 57 = .ok (.iinc 5 1, 3) := by decide +kernel
theorem own_d3_60 : decode prog_27_method_1_code 60 = .ok (.goto (-33), 3) := by decide +kernel
theorem own_d3_63 : decode prog_27_method_1_code 63 = .ok (.aload_n 0, 1) := by decide +kernel
theorem own_d3_64 : decode prog_27_method_1_code 64 = .ok (.lload_n 3, 1) := by decide +kernel
theorem own_d3_65 : decode prog_27_method_1_code 65 = .ok (.putfield 20, 3) := by decide +kernel
theorem own_d3_68 : decode prog_27_method_1_code 68 = .ok (.return_, 1) := by decide +kernel
theorem own_pn3 : plainName "com/example/ordence/ordence/Domain" = true := by first | (simp [plainName, overriddenIn]; done) | decide +kernel
theorem own_ef3 (m : MethodId) (a : Addr) (la : Addr) (ha : Addr) : entryFrame m #[(.ref a), (.ref la), (.ref ha)] 6 = mkF m 0 #[.val (.ref a), .val (.ref la), .val (.ref ha), .unset, .unset, .unset] [] := by first | (simp [entryFrame, mkF, argsToLocals, Value.category]; done) | rfl
def own_Q3 (Z : State) (a : Addr) (la : Addr) (ha : Addr) (kl : ClassId) (kh : ClassId) (u : Int64) (t : Int32) (h0 : Heap) (n0 : Nat) (v : Option Value) (h : Heap) (L : List Loc) : Prop := v = none ∧ Fr n0 L ∧ Keep h0 h [a] ∧ Exa Z h a "com/example/ordence/ordence/Domain"
set_option maxRecDepth 65536 in
set_option maxHeartbeats 40000000 in
theorem own_rm3 (l : Launch) (Z : State) (a0 : Array Value) (hw : ∀ d ∈ tables_1, d.before a0 Z = true) (ws : List Jvm.Cond) (a : Addr) (la : Addr) (ha : Addr) (kl : ClassId) (kh : ClassId) (u : Int64) (t : Int32) (h0 : Heap) (n0 : Nat) (Zs : n0 ≤ h0.size) (F_a_los : Fld Z h0 a "com/example/ordence/ordence/Domain" "los" "[J" .null) (F_a_his : Fld Z h0 a "com/example/ordence/ordence/Domain" "his" "[I" .null) (F_a_firstIndexes : Fld Z h0 a "com/example/ordence/ordence/Domain" "firstIndexes" "[J" .null) (F_a_size : Fld Z h0 a "com/example/ordence/ordence/Domain" "size" "J" (.long (0 : Int64))) (E_a : Exa Z h0 a "com/example/ordence/ordence/Domain") (g_a : n0 ≤ a) (ne_a_la : a ≠ la) (ne_a_ha : a ≠ ha) (V_la : Arv Z h0 la kl .long (1 : Int32) [.long u] (.long (0 : Int64))) (V_ha : Arv Z h0 ha kh .int (1 : Int32) [.int t] (.int (0 : Int32))) :
    MetFree l (⟨"com/example/ordence/ordence/Domain", "<init>", "([J[I)V"⟩ : MethodName) (head1 (Jvm.Cond.code (⟨"com/example/ordence/ordence/Domain", "<init>", "([J[I)V"⟩ : MethodName) prog_27_method_1_code 6 none :: ws) ({ frames := 1, cells := 1, slots := 1, locals := 12 } : Room)) (fun aA_ U => aA_ = #[(.ref a), (.ref la), (.ref ha)] ∧ Z.Warmed39 U.vm ∧ U.heap = h0) (fun _ _ _ _ _ => True) (fun _ U o U' => ∃ v L, o = .returned v ∧ own_Q3 Z a la ha kl kh u t h0 n0 v U'.heap L ∧ FrameEnd U o U' L ({ frames := 1, cells := 1, slots := 1, locals := 12 } : Room).cells ({ frames := 1, cells := 1, slots := 1, locals := 12 } : Room).slots) := by
  refine MetFree.of_bodySF (plainFor_of_name own_pn3) hisR ?_
  intro p e s m args below meth c s₁ Bd hml0 hP hK
  obtain ⟨rfl, hZ, hh⟩ := hP
  have hx := Bd.exec
  have hby := Bd.bytes
  have hml : c.maxLocals = 6 := hml0
  have hown : s.vm.findClass "com/example/ordence/ordence/Domain" = some m.cls := findClass_of_methodNamed Bd.named
  have hnm := (name_of_methodNamed Bd.named Bd.method).1
  have X0 : Stand p l e ({ frames := 1, cells := 1, slots := 1, locals := 12 } : Room) s m #[(.ref a), (.ref la), (.ref ha)] below meth c s₁ [] 0 0 := Stand.of_body Bd
  have e0 : s₁.heap = h0 := by rw [← hh, Bd.state]; rfl
  have NF := Fr.nil n0
  rw [own_ef3 m a la ha]
  show own_Dn p e below s (own_Q3 Z a la ha kl kh u t h0 n0) 1 1 s₁ (mkF m 0 #[.val (.ref a), .val (.ref la), .val (.ref ha), .unset, .unset, .unset] [])
  have KP := Keep.refl h0 [a]
  refine own_go (T' := s₁) (g' := (mkF m 1 #[.val (.ref a), .val (.ref la), .val (.ref ha), .unset, .unset, .unset] [(.ref a)])) (fun _ k => XS.aloadN X0.here hx rfl (hb hby own_d3_0) rfl rfl k) ?_
  obtain ⟨T1, X1, e1, st1⟩ := initO X0 hx hZ hown (hw _ (List.mem_of_getElem? (i := 31) rfl)) (hw _ (List.mem_of_getElem? (i := 32) rfl)) (hw _ (List.mem_of_getElem? (i := 33) rfl)) e0 (g := (mkF m 1 #[.val (.ref a), .val (.ref la), .val (.ref ha), .unset, .unset, .unset] [(.ref a)])) rfl (by rw [hml]; rfl) rfl (hb hby own_d3_1) (by decide) (W := 0) (by show 2 * 0 + _ ≤ _; exact Nat.le_of_eq rfl) (by decide)
  refine own_go (T' := T1) (g' := (mkF m 4 #[.val (.ref a), .val (.ref la), .val (.ref ha), .unset, .unset, .unset] [])) (fun _ k => st1 _ k) ?_
  refine own_go (T' := T1) (g' := (mkF m 5 #[.val (.ref a), .val (.ref la), .val (.ref ha), .unset, .unset, .unset] [(.ref a)])) (fun _ k => XS.aloadN X1.here hx rfl (hb hby own_d3_4) rfl rfl k) ?_
  refine own_go (T' := T1) (g' := (mkF m 6 #[.val (.ref a), .val (.ref la), .val (.ref ha), .unset, .unset, .unset] [(.ref la), (.ref a)])) (fun _ k => XS.aloadN X1.here hx rfl (hb hby own_d3_5) rfl rfl k) ?_
  obtain ⟨T2, h2, X2, e2, W2, st2⟩ := putF X1 hx hZ hown (host := "") (Or.inl (hw _ (List.mem_of_getElem? (i := 34) rfl))) Via.refl e1 F_a_los E_a (Or.inr ⟨(hw _ (List.mem_of_getElem? (i := 35) rfl)), rfl, hnm⟩) (hw _ (List.mem_of_getElem? (i := 25) rfl)) (ty := (.array .long)) (by decide) rfl rfl (g := (mkF m 6 #[.val (.ref a), .val (.ref la), .val (.ref ha), .unset, .unset, .unset] [(.ref la), (.ref a)])) rfl rfl (hb hby own_d3_6)
  have E_a := E_a.wr W2
  have F_a_his := F_a_his.other W2 (Or.inr (slot_ne (Or.inr (hw _ (List.mem_of_getElem? (i := 37) rfl))) (Or.inr (hw _ (List.mem_of_getElem? (i := 35) rfl))) (by decide) (t := (.array .int)) (t' := (.array .long)) (by decide) (by decide)))
  have F_a_firstIndexes := F_a_firstIndexes.other W2 (Or.inr (slot_ne (Or.inr (hw _ (List.mem_of_getElem? (i := 39) rfl))) (Or.inr (hw _ (List.mem_of_getElem? (i := 35) rfl))) (by decide) (t := (.array .long)) (t' := (.array .long)) (by decide) (by decide)))
  have F_a_size := F_a_size.other W2 (Or.inr (slot_ne (Or.inr (hw _ (List.mem_of_getElem? (i := 41) rfl))) (Or.inr (hw _ (List.mem_of_getElem? (i := 35) rfl))) (by decide) (t := .long) (t' := (.array .long)) (by decide) (by decide)))
  have V_la := V_la.other W2 (Ne.symm ne_a_la)
  have V_ha := V_ha.other W2 (Ne.symm ne_a_ha)
  have Zs := Nat.le_trans Zs (Keep.of_wr W2).1
  have F_a_los := F_a_los.same W2
  have KP := KP.wr W2 (Or.inl (by simp))
  have NF := Fr.snoc X2 NF g_a
  refine own_go (T' := T2) (g' := (mkF m 9 #[.val (.ref a), .val (.ref la), .val (.ref ha), .unset, .unset, .unset] [])) (fun _ k => st2 _ k) ?_
  refine own_go (T' := T2) (g' := (mkF m 10 #[.val (.ref a), .val (.ref la), .val (.ref ha), .unset, .unset, .unset] [(.ref a)])) (fun _ k => XS.aloadN X2.here hx rfl (hb hby own_d3_9) rfl rfl k) ?_
  refine own_go (T' := T2) (g' := (mkF m 11 #[.val (.ref a), .val (.ref la), .val (.ref ha), .unset, .unset, .unset] [(.ref ha), (.ref a)])) (fun _ k => XS.aloadN X2.here hx rfl (hb hby own_d3_10) rfl rfl k) ?_
  obtain ⟨T3, h3, X3, e3, W3, st3⟩ := putF X2 hx hZ hown (host := "") (Or.inl (hw _ (List.mem_of_getElem? (i := 36) rfl))) Via.refl e2 F_a_his E_a (Or.inr ⟨(hw _ (List.mem_of_getElem? (i := 37) rfl)), rfl, hnm⟩) (hw _ (List.mem_of_getElem? (i := 25) rfl)) (ty := (.array .int)) (by decide) rfl rfl (g := (mkF m 11 #[.val (.ref a), .val (.ref la), .val (.ref ha), .unset, .unset, .unset] [(.ref ha), (.ref a)])) rfl rfl (hb hby own_d3_11)
  have E_a := E_a.wr W3
  have F_a_firstIndexes := F_a_firstIndexes.other W3 (Or.inr (slot_ne (Or.inr (hw _ (List.mem_of_getElem? (i := 39) rfl))) (Or.inr (hw _ (List.mem_of_getElem? (i := 37) rfl))) (by decide) (t := (.array .long)) (t' := (.array .int)) (by decide) (by decide)))
  have F_a_size := F_a_size.other W3 (Or.inr (slot_ne (Or.inr (hw _ (List.mem_of_getElem? (i := 41) rfl))) (Or.inr (hw _ (List.mem_of_getElem? (i := 37) rfl))) (by decide) (t := .long) (t' := (.array .int)) (by decide) (by decide)))
  have V_la := V_la.other W3 (Ne.symm ne_a_la)
  have V_ha := V_ha.other W3 (Ne.symm ne_a_ha)
  have F_a_los := F_a_los.other W3 (Or.inr (slot_ne (Or.inr (hw _ (List.mem_of_getElem? (i := 35) rfl))) (Or.inr (hw _ (List.mem_of_getElem? (i := 37) rfl))) (by decide) (t := (.array .long)) (t' := (.array .int)) (by decide) (by decide)))
  have Zs := Nat.le_trans Zs (Keep.of_wr W3).1
  have F_a_his := F_a_his.same W3
  have KP := KP.wr W3 (Or.inl (by simp))
  have NF := Fr.snoc X3 NF g_a
  refine own_go (T' := T3) (g' := (mkF m 14 #[.val (.ref a), .val (.ref la), .val (.ref ha), .unset, .unset, .unset] [])) (fun _ k => st3 _ k) ?_
  refine own_go (T' := T3) (g' := (mkF m 15 #[.val (.ref a), .val (.ref la), .val (.ref ha), .unset, .unset, .unset] [(.ref a)])) (fun _ k => XS.aloadN X3.here hx rfl (hb hby own_d3_14) rfl rfl k) ?_
  refine own_go (T' := T3) (g' := (mkF m 16 #[.val (.ref a), .val (.ref la), .val (.ref ha), .unset, .unset, .unset] [(.ref la), (.ref a)])) (fun _ k => XS.aloadN X3.here hx rfl (hb hby own_d3_15) rfl rfl k) ?_
  obtain ⟨c_4, Ar_4, q_4, S_4, N_4, H_4, G_4⟩ := id V_la
  refine own_go (T' := T3) (g' := (mkF m 17 #[.val (.ref a), .val (.ref la), .val (.ref ha), .unset, .unset, .unset] [(.int (1 : Int32)), (.ref a)])) (fun _ k => X3.arraylength hx (by rw [e3]; exact Ar_4.1) (State.isArrayOf_alike hZ.alike Ar_4.2.1) (g := (mkF m 16 #[.val (.ref a), .val (.ref la), .val (.ref ha), .unset, .unset, .unset] [(.ref la), (.ref a)])) rfl rfl (hb hby own_d3_16) _ (by rw [len_of S_4 N_4]; exact k)) ?_
  obtain ⟨T5, h5, k5, X5, e5, E5, A5, st5⟩ := newP X3 hx hZ (hw _ (List.mem_of_getElem? (i := 26) rfl)) e3 (g := (mkF m 17 #[.val (.ref a), .val (.ref la), .val (.ref ha), .unset, .unset, .unset] [(.int (1 : Int32)), (.ref a)])) rfl (hb hby own_d3_17) rfl (by decide) (cap := 1) (by decide) (by decide) (by decide) (by decide)
  obtain ⟨b5, g5⟩ : ∃ z, z = h3.size := ⟨_, rfl⟩
  rw [← g5] at A5 st5
  have ne_a_b5 : a ≠ b5 := Nat.ne_of_lt (Nat.lt_of_lt_of_le E_a.lt (Nat.le_of_eq g5.symm))
  have ne_ha_b5 : ha ≠ b5 := Nat.ne_of_lt (Nat.lt_of_lt_of_le V_ha.lt (Nat.le_of_eq g5.symm))
  have ne_la_b5 : la ≠ b5 := Nat.ne_of_lt (Nat.lt_of_lt_of_le V_la.lt (Nat.le_of_eq g5.symm))
  have g_b5 : n0 ≤ b5 := Nat.le_trans Zs (Nat.le_of_eq g5.symm)
  have sz_b5 : h0.size ≤ b5 := Nat.le_trans KP.1 (Nat.le_of_eq g5.symm)
  have E_a := E_a.ext E5
  have F_a_firstIndexes := F_a_firstIndexes.ext E5
  have F_a_size := F_a_size.ext E5
  have V_la := V_la.ext E5
  have V_ha := V_ha.ext E5
  have F_a_los := F_a_los.ext E5
  have F_a_his := F_a_his.ext E5
  have KP := KP.ext E5
  have Zs := Nat.le_trans Zs E5.1
  have V_b5 : Arv Z h5 b5 k5 .long (1 : Int32) [(.long (0 : Int64))] (.long (0 : Int64)) := (Arv.new A5 (by decide)).pad (pad_rep [] (.long (0 : Int64)) 1)
  refine own_go (T' := T5) (g' := (mkF m 19 #[.val (.ref a), .val (.ref la), .val (.ref ha), .unset, .unset, .unset] [(.ref b5), (.ref a)])) (fun _ k => st5 _ k) ?_
  obtain ⟨T6, h6, X6, e6, W6, st6⟩ := putF X5 hx hZ hown (host := "") (Or.inl (hw _ (List.mem_of_getElem? (i := 38) rfl))) Via.refl e5 F_a_firstIndexes E_a (Or.inr ⟨(hw _ (List.mem_of_getElem? (i := 39) rfl)), rfl, hnm⟩) (hw _ (List.mem_of_getElem? (i := 25) rfl)) (ty := (.array .long)) (by decide) rfl rfl (g := (mkF m 19 #[.val (.ref a), .val (.ref la), .val (.ref ha), .unset, .unset, .unset] [(.ref b5), (.ref a)])) rfl rfl (hb hby own_d3_19)
  have E_a := E_a.wr W6
  have F_a_size := F_a_size.other W6 (Or.inr (slot_ne (Or.inr (hw _ (List.mem_of_getElem? (i := 41) rfl))) (Or.inr (hw _ (List.mem_of_getElem? (i := 39) rfl))) (by decide) (t := .long) (t' := (.array .long)) (by decide) (by decide)))
  have V_la := V_la.other W6 (Ne.symm ne_a_la)
  have V_ha := V_ha.other W6 (Ne.symm ne_a_ha)
  have F_a_los := F_a_los.other W6 (Or.inr (slot_ne (Or.inr (hw _ (List.mem_of_getElem? (i := 35) rfl))) (Or.inr (hw _ (List.mem_of_getElem? (i := 39) rfl))) (by decide) (t := (.array .long)) (t' := (.array .long)) (by decide) (by decide)))
  have F_a_his := F_a_his.other W6 (Or.inr (slot_ne (Or.inr (hw _ (List.mem_of_getElem? (i := 37) rfl))) (Or.inr (hw _ (List.mem_of_getElem? (i := 39) rfl))) (by decide) (t := (.array .int)) (t' := (.array .long)) (by decide) (by decide)))
  have V_b5 := V_b5.other W6 (Ne.symm ne_a_b5)
  have Zs := Nat.le_trans Zs (Keep.of_wr W6).1
  have F_a_firstIndexes := F_a_firstIndexes.same W6
  have KP := KP.wr W6 (Or.inl (by simp))
  have NF := Fr.snoc X6 NF g_a
  refine own_go (T' := T6) (g' := (mkF m 22 #[.val (.ref a), .val (.ref la), .val (.ref ha), .unset, .unset, .unset] [])) (fun _ k => st6 _ k) ?_
  refine own_go (T' := T6) (g' := (mkF m 23 #[.val (.ref a), .val (.ref la), .val (.ref ha), .unset, .unset, .unset] [(.long (0 : Int64))])) (fun _ k => XS.lconst X6.here hx rfl (hb hby own_d3_22) k) ?_
  refine own_go (T' := T6) (g' := (mkF m 24 #[.val (.ref a), .val (.ref la), .val (.ref ha), .val (.long (0 : Int64)), .second, .unset] [])) (fun _ k => XS.lstoreN X6.here hx rfl (hb hby own_d3_23) rfl (l' := #[.val (.ref a), .val (.ref la), .val (.ref ha), .val (.long (0 : Int64)), .second, .unset]) rfl k) ?_
  refine own_go (T' := T6) (g' := (mkF m 25 #[.val (.ref a), .val (.ref la), .val (.ref ha), .val (.long (0 : Int64)), .second, .unset] [(.int (0 : Int32))])) (fun _ k => XS.iconst X6.here hx rfl (hb hby own_d3_24) k) ?_
  refine own_go (T' := T6) (g' := (mkF m 27 #[.val (.ref a), .val (.ref la), .val (.ref ha), .val (.long (0 : Int64)), .second, .val (.int (0 : Int32))] [])) (fun _ k => XS.istore X6.here hx rfl (hb hby own_d3_25) rfl (l' := #[.val (.ref a), .val (.ref la), .val (.ref ha), .val (.long (0 : Int64)), .second, .val (.int (0 : Int32))]) rfl k) ?_
  refine own_go (T' := T6) (g' := (mkF m 29 #[.val (.ref a), .val (.ref la), .val (.ref ha), .val (.long (0 : Int64)), .second, .val (.int (0 : Int32))] [(.int (0 : Int32))])) (fun _ k => XS.iload X6.here hx rfl (hb hby own_d3_27) rfl k) ?_
  refine own_go (T' := T6) (g' := (mkF m 30 #[.val (.ref a), .val (.ref la), .val (.ref ha), .val (.long (0 : Int64)), .second, .val (.int (0 : Int32))] [(.ref la), (.int (0 : Int32))])) (fun _ k => XS.aloadN X6.here hx rfl (hb hby own_d3_29) rfl rfl k) ?_
  obtain ⟨c_7, Ar_7, q_7, S_7, N_7, H_7, G_7⟩ := id V_la
  refine own_go (T' := T6) (g' := (mkF m 31 #[.val (.ref a), .val (.ref la), .val (.ref ha), .val (.long (0 : Int64)), .second, .val (.int (0 : Int32))] [(.int (1 : Int32)), (.int (0 : Int32))])) (fun _ k => X6.arraylength hx (by rw [e6]; exact Ar_7.1) (State.isArrayOf_alike hZ.alike Ar_7.2.1) (g := (mkF m 30 #[.val (.ref a), .val (.ref la), .val (.ref ha), .val (.long (0 : Int64)), .second, .val (.int (0 : Int32))] [(.ref la), (.int (0 : Int32))])) rfl rfl (hb hby own_d3_30) _ (by rw [len_of S_7 N_7]; exact k)) ?_
  refine own_go (T' := T6) (g' := (mkF m 34 #[.val (.ref a), .val (.ref la), .val (.ref ha), .val (.long (0 : Int64)), .second, .val (.int (0 : Int32))] [])) (fun _ k => XS.icmpNo X6.here hx rfl (hb hby own_d3_31) rfl (by decide) k) ?_
  refine own_go (T' := T6) (g' := (mkF m 35 #[.val (.ref a), .val (.ref la), .val (.ref ha), .val (.long (0 : Int64)), .second, .val (.int (0 : Int32))] [(.ref a)])) (fun _ k => XS.aloadN X6.here hx rfl (hb hby own_d3_34) rfl rfl k) ?_
  obtain ⟨T8, X8, e8, st8⟩ := getF X6 hx hZ hown (host := "") (Or.inl (hw _ (List.mem_of_getElem? (i := 38) rfl))) Via.refl e6 F_a_firstIndexes (g := (mkF m 35 #[.val (.ref a), .val (.ref la), .val (.ref ha), .val (.long (0 : Int64)), .second, .val (.int (0 : Int32))] [(.ref a)])) rfl rfl (hb hby own_d3_35)
  refine own_go (T' := T8) (g' := (mkF m 38 #[.val (.ref a), .val (.ref la), .val (.ref ha), .val (.long (0 : Int64)), .second, .val (.int (0 : Int32))] [(.ref b5)])) (fun _ k => st8 _ k) ?_
  refine own_go (T' := T8) (g' := (mkF m 40 #[.val (.ref a), .val (.ref la), .val (.ref ha), .val (.long (0 : Int64)), .second, .val (.int (0 : Int32))] [(.int (0 : Int32)), (.ref b5)])) (fun _ k => XS.iload X8.here hx rfl (hb hby own_d3_38) rfl k) ?_
  refine own_go (T' := T8) (g' := (mkF m 41 #[.val (.ref a), .val (.ref la), .val (.ref ha), .val (.long (0 : Int64)), .second, .val (.int (0 : Int32))] [(.long (0 : Int64)), (.int (0 : Int32)), (.ref b5)])) (fun _ k => XS.lloadN X8.here hx rfl (hb hby own_d3_40) rfl k) ?_
  obtain ⟨c_9, Ar_9, q_9, S_9, N_9, H_9, G_9⟩ := id V_b5
  have hin_9 : ¬ ((0 : Int32) < 0 ∨ c_9.slots.size ≤ ((0 : Int32)).toNatClampNeg) := inb_of S_9 ⟨by decide, by decide⟩
  obtain ⟨T9, h9, X9, e9, W9, st9⟩ := stJ X8 hx hZ e8 Ar_9 (j := (0 : Int32)) hin_9 (g := (mkF m 41 #[.val (.ref a), .val (.ref la), .val (.ref ha), .val (.long (0 : Int64)), .second, .val (.int (0 : Int32))] [(.long (0 : Int64)), (.int (0 : Int32)), (.ref b5)])) rfl rfl (hb hby own_d3_41)
  have E_a := E_a.wr W9
  have F_a_size := F_a_size.other W9 (Or.inl ne_a_b5)
  have V_la := V_la.other W9 ne_la_b5
  have V_ha := V_ha.other W9 ne_ha_b5
  have F_a_los := F_a_los.other W9 (Or.inl ne_a_b5)
  have F_a_his := F_a_his.other W9 (Or.inl ne_a_b5)
  have F_a_firstIndexes := F_a_firstIndexes.other W9 (Or.inl ne_a_b5)
  have Zs := Nat.le_trans Zs (Keep.of_wr W9).1
  have V_b5 := Arv.set Ar_9 q_9 S_9 N_9 H_9 G_9 rfl W9 0 rfl (Nat.le_of_ble_eq_true rfl)
  have KP := KP.wr W9 (Or.inr sz_b5)
  have NF := Fr.snoc X9 NF g_b5
  refine own_go (T' := T9) (g' := (mkF m 42 #[.val (.ref a), .val (.ref la), .val (.ref ha), .val (.long (0 : Int64)), .second, .val (.int (0 : Int32))] [])) (fun _ k => st9 _ k) ?_
  refine own_go (T' := T9) (g' := (mkF m 43 #[.val (.ref a), .val (.ref la), .val (.ref ha), .val (.long (0 : Int64)), .second, .val (.int (0 : Int32))] [(.long (0 : Int64))])) (fun _ k => XS.lloadN X9.here hx rfl (hb hby own_d3_42) rfl k) ?_
  refine own_go (T' := T9) (g' := (mkF m 44 #[.val (.ref a), .val (.ref la), .val (.ref ha), .val (.long (0 : Int64)), .second, .val (.int (0 : Int32))] [(.ref ha), (.long (0 : Int64))])) (fun _ k => XS.aloadN X9.here hx rfl (hb hby own_d3_43) rfl rfl k) ?_
  refine own_go (T' := T9) (g' := (mkF m 46 #[.val (.ref a), .val (.ref la), .val (.ref ha), .val (.long (0 : Int64)), .second, .val (.int (0 : Int32))] [(.int (0 : Int32)), (.ref ha), (.long (0 : Int64))])) (fun _ k => XS.iload X9.here hx rfl (hb hby own_d3_44) rfl k) ?_
  obtain ⟨c_10, Ar_10, q_10, S_10, N_10, H_10, G_10⟩ := id V_ha
  have hin_10 : ¬ ((0 : Int32) < 0 ∨ c_10.slots.size ≤ ((0 : Int32)).toNatClampNeg) := inb_of S_10 ⟨by decide, by decide⟩
  have hat_10 : c_10.slots[((0 : Int32)).toNatClampNeg]? = some (.int t) := H_10.at hin_10 rfl
  refine own_go (T' := T9) (g' := (mkF m 47 #[.val (.ref a), .val (.ref la), .val (.ref ha), .val (.long (0 : Int64)), .second, .val (.int (0 : Int32))] [(.int t), (.long (0 : Int64))])) (fun _ k => X9.iaload hx (j := (0 : Int32)) (v := (.int t)) (by rw [e9]; exact Ar_10.1) (State.isArrayOf_alike hZ.alike Ar_10.2.1) Ar_10.2.2 hin_10 hat_10 (g := (mkF m 46 #[.val (.ref a), .val (.ref la), .val (.ref ha), .val (.long (0 : Int64)), .second, .val (.int (0 : Int32))] [(.int (0 : Int32)), (.ref ha), (.long (0 : Int64))])) rfl rfl (hb hby own_d3_46) _ k) ?_
  refine own_go (T' := T9) (g' := (mkF m 48 #[.val (.ref a), .val (.ref la), .val (.ref ha), .val (.long (0 : Int64)), .second, .val (.int (0 : Int32))] [(.long (t.toInt64)), (.long (0 : Int64))])) (fun _ k => XS.i2l X9.here hx rfl (hb hby own_d3_47) rfl k) ?_
  refine own_go (T' := T9) (g' := (mkF m 49 #[.val (.ref a), .val (.ref la), .val (.ref ha), .val (.long (0 : Int64)), .second, .val (.int (0 : Int32))] [(.ref la), (.long (t.toInt64)), (.long (0 : Int64))])) (fun _ k => XS.aloadN X9.here hx rfl (hb hby own_d3_48) rfl rfl k) ?_
  refine own_go (T' := T9) (g' := (mkF m 51 #[.val (.ref a), .val (.ref la), .val (.ref ha), .val (.long (0 : Int64)), .second, .val (.int (0 : Int32))] [(.int (0 : Int32)), (.ref la), (.long (t.toInt64)), (.long (0 : Int64))])) (fun _ k => XS.iload X9.here hx rfl (hb hby own_d3_49) rfl k) ?_
  obtain ⟨c_11, Ar_11, q_11, S_11, N_11, H_11, G_11⟩ := id V_la
  have hin_11 : ¬ ((0 : Int32) < 0 ∨ c_11.slots.size ≤ ((0 : Int32)).toNatClampNeg) := inb_of S_11 ⟨by decide, by decide⟩
  have hat_11 : c_11.slots[((0 : Int32)).toNatClampNeg]? = some (.long u) := H_11.at hin_11 rfl
  refine own_go (T' := T9) (g' := (mkF m 52 #[.val (.ref a), .val (.ref la), .val (.ref ha), .val (.long (0 : Int64)), .second, .val (.int (0 : Int32))] [(.long u), (.long (t.toInt64)), (.long (0 : Int64))])) (fun _ k => X9.laload hx (j := (0 : Int32)) (v := (.long u)) (by rw [e9]; exact Ar_11.1) (State.isArrayOf_alike hZ.alike Ar_11.2.1) Ar_11.2.2 hin_11 hat_11 (g := (mkF m 51 #[.val (.ref a), .val (.ref la), .val (.ref ha), .val (.long (0 : Int64)), .second, .val (.int (0 : Int32))] [(.int (0 : Int32)), (.ref la), (.long (t.toInt64)), (.long (0 : Int64))])) rfl rfl (hb hby own_d3_51) _ k) ?_
  refine own_go (T' := T9) (g' := (mkF m 53 #[.val (.ref a), .val (.ref la), .val (.ref ha), .val (.long (0 : Int64)), .second, .val (.int (0 : Int32))] [(.long ((t.toInt64) - u)), (.long (0 : Int64))])) (fun _ k => XS.lsub X9.here hx rfl (hb hby own_d3_52) rfl k) ?_
  refine own_go (T' := T9) (g' := (mkF m 54 #[.val (.ref a), .val (.ref la), .val (.ref ha), .val (.long (0 : Int64)), .second, .val (.int (0 : Int32))] [(.long (1 : Int64)), (.long ((t.toInt64) - u)), (.long (0 : Int64))])) (fun _ k => XS.lconst X9.here hx rfl (hb hby own_d3_53) k) ?_
  refine own_go (T' := T9) (g' := (mkF m 55 #[.val (.ref a), .val (.ref la), .val (.ref ha), .val (.long (0 : Int64)), .second, .val (.int (0 : Int32))] [(.long (((t.toInt64) - u) + (1 : Int64))), (.long (0 : Int64))])) (fun _ k => XS.ladd X9.here hx rfl (hb hby own_d3_54) rfl k) ?_
  refine own_go (T' := T9) (g' := (mkF m 56 #[.val (.ref a), .val (.ref la), .val (.ref ha), .val (.long (0 : Int64)), .second, .val (.int (0 : Int32))] [(.long ((0 : Int64) + (((t.toInt64) - u) + (1 : Int64))))])) (fun _ k => XS.ladd X9.here hx rfl (hb hby own_d3_55) rfl k) ?_
  refine own_go (T' := T9) (g' := (mkF m 57 #[.val (.ref a), .val (.ref la), .val (.ref ha), .val (.long ((0 : Int64) + (((t.toInt64) - u) + (1 : Int64)))), .second, .val (.int (0 : Int32))] [])) (fun _ k => XS.lstoreN X9.here hx rfl (hb hby own_d3_56) rfl (l' := #[.val (.ref a), .val (.ref la), .val (.ref ha), .val (.long ((0 : Int64) + (((t.toInt64) - u) + (1 : Int64)))), .second, .val (.int (0 : Int32))]) rfl k) ?_
  refine own_go (T' := T9) (g' := (mkF m 60 #[.val (.ref a), .val (.ref la), .val (.ref ha), .val (.long ((0 : Int64) + (((t.toInt64) - u) + (1 : Int64)))), .second, .val (.int (1 : Int32))] [])) (fun _ k => XS.iinc X9.here hx rfl (hb hby own_d3_57) rfl (l' := #[.val (.ref a), .val (.ref la), .val (.ref ha), .val (.long ((0 : Int64) + (((t.toInt64) - u) + (1 : Int64)))), .second, .val (.int (1 : Int32))]) rfl k) ?_
  refine own_go (T' := T9) (g' := (mkF m 27 #[.val (.ref a), .val (.ref la), .val (.ref ha), .val (.long ((0 : Int64) + (((t.toInt64) - u) + (1 : Int64)))), .second, .val (.int (1 : Int32))] [])) (fun _ k => XS.goto X9.here hx rfl (pc0 := 60) (pc' := 27) rfl (hb hby own_d3_60) (by decide) (by decide) k) ?_
  refine own_go (T' := T9) (g' := (mkF m 29 #[.val (.ref a), .val (.ref la), .val (.ref ha), .val (.long ((0 : Int64) + (((t.toInt64) - u) + (1 : Int64)))), .second, .val (.int (1 : Int32))] [(.int (1 : Int32))])) (fun _ k => XS.iload X9.here hx rfl (hb hby own_d3_27) rfl k) ?_
  refine own_go (T' := T9) (g' := (mkF m 30 #[.val (.ref a), .val (.ref la), .val (.ref ha), .val (.long ((0 : Int64) + (((t.toInt64) - u) + (1 : Int64)))), .second, .val (.int (1 : Int32))] [(.ref la), (.int (1 : Int32))])) (fun _ k => XS.aloadN X9.here hx rfl (hb hby own_d3_29) rfl rfl k) ?_
  obtain ⟨c_12, Ar_12, q_12, S_12, N_12, H_12, G_12⟩ := id V_la
  refine own_go (T' := T9) (g' := (mkF m 31 #[.val (.ref a), .val (.ref la), .val (.ref ha), .val (.long ((0 : Int64) + (((t.toInt64) - u) + (1 : Int64)))), .second, .val (.int (1 : Int32))] [(.int (1 : Int32)), (.int (1 : Int32))])) (fun _ k => X9.arraylength hx (by rw [e9]; exact Ar_12.1) (State.isArrayOf_alike hZ.alike Ar_12.2.1) (g := (mkF m 30 #[.val (.ref a), .val (.ref la), .val (.ref ha), .val (.long ((0 : Int64) + (((t.toInt64) - u) + (1 : Int64)))), .second, .val (.int (1 : Int32))] [(.ref la), (.int (1 : Int32))])) rfl rfl (hb hby own_d3_30) _ (by rw [len_of S_12 N_12]; exact k)) ?_
  refine own_go (T' := T9) (g' := (mkF m 63 #[.val (.ref a), .val (.ref la), .val (.ref ha), .val (.long ((0 : Int64) + (((t.toInt64) - u) + (1 : Int64)))), .second, .val (.int (1 : Int32))] [])) (fun _ k => XS.icmpYes X9.here hx rfl (pc0 := 31) (pc' := 63) rfl (hb hby own_d3_31) rfl (by decide) (by decide) (by decide) k) ?_
  refine own_go (T' := T9) (g' := (mkF m 64 #[.val (.ref a), .val (.ref la), .val (.ref ha), .val (.long ((0 : Int64) + (((t.toInt64) - u) + (1 : Int64)))), .second, .val (.int (1 : Int32))] [(.ref a)])) (fun _ k => XS.aloadN X9.here hx rfl (hb hby own_d3_63) rfl rfl k) ?_
  refine own_go (T' := T9) (g' := (mkF m 65 #[.val (.ref a), .val (.ref la), .val (.ref ha), .val (.long ((0 : Int64) + (((t.toInt64) - u) + (1 : Int64)))), .second, .val (.int (1 : Int32))] [(.long ((0 : Int64) + (((t.toInt64) - u) + (1 : Int64)))), (.ref a)])) (fun _ k => XS.lloadN X9.here hx rfl (hb hby own_d3_64) rfl k) ?_
  obtain ⟨T13, h13, X13, e13, W13, st13⟩ := putF X9 hx hZ hown (host := "") (Or.inl (hw _ (List.mem_of_getElem? (i := 40) rfl))) Via.refl e9 F_a_size E_a (Or.inr ⟨(hw _ (List.mem_of_getElem? (i := 41) rfl)), rfl, hnm⟩) (hw _ (List.mem_of_getElem? (i := 25) rfl)) (ty := .long) (by decide) rfl rfl (g := (mkF m 65 #[.val (.ref a), .val (.ref la), .val (.ref ha), .val (.long ((0 : Int64) + (((t.toInt64) - u) + (1 : Int64)))), .second, .val (.int (1 : Int32))] [(.long ((0 : Int64) + (((t.toInt64) - u) + (1 : Int64)))), (.ref a)])) rfl rfl (hb hby own_d3_65)
  have E_a := E_a.wr W13
  have V_la := V_la.other W13 (Ne.symm ne_a_la)
  have V_ha := V_ha.other W13 (Ne.symm ne_a_ha)
  have F_a_los := F_a_los.other W13 (Or.inr (slot_ne (Or.inr (hw _ (List.mem_of_getElem? (i := 35) rfl))) (Or.inr (hw _ (List.mem_of_getElem? (i := 41) rfl))) (by decide) (t := (.array .long)) (t' := .long) (by decide) (by decide)))
  have F_a_his := F_a_his.other W13 (Or.inr (slot_ne (Or.inr (hw _ (List.mem_of_getElem? (i := 37) rfl))) (Or.inr (hw _ (List.mem_of_getElem? (i := 41) rfl))) (by decide) (t := (.array .int)) (t' := .long) (by decide) (by decide)))
  have F_a_firstIndexes := F_a_firstIndexes.other W13 (Or.inr (slot_ne (Or.inr (hw _ (List.mem_of_getElem? (i := 39) rfl))) (Or.inr (hw _ (List.mem_of_getElem? (i := 41) rfl))) (by decide) (t := (.array .long)) (t' := .long) (by decide) (by decide)))
  have V_b5 := V_b5.other W13 (Ne.symm ne_a_b5)
  have Zs := Nat.le_trans Zs (Keep.of_wr W13).1
  have F_a_size := F_a_size.same W13
  have KP := KP.wr W13 (Or.inl (by simp))
  have NF := Fr.snoc X13 NF g_a
  refine own_go (T' := T13) (g' := (mkF m 68 #[.val (.ref a), .val (.ref la), .val (.ref ha), .val (.long ((0 : Int64) + (((t.toInt64) - u) + (1 : Int64)))), .second, .val (.int (1 : Int32))] [])) (fun _ k => st13 _ k) ?_
  refine own_ret X13 Bd.notSynchronized none (fun _ => rfl) (fun fs hr => X13.returnOut hx Bd.returns (hb hby own_d3_68) hr) ?_ (by decide) (by decide)
  show (own_Q3 Z a la ha kl kh u t h0 n0) none T13.heap _
  rw [e13]
  exact ⟨rfl, NF, KP, E_a⟩
theorem own_d4_0 : decode prog_27_method_2_code 0 = .ok (.iload_n 0, 1) := by decide +kernel
theorem own_d4_1 : decode prog_27_method_2_code 1 = .ok (.iload_n 1, 1) := by decide +kernel
theorem own_d4_2 : decode prog_27_method_2_code 2 = .ok (.if_icmp .le 18, 3) := by decide +kernel
theorem own_d4_20 : decode prog_27_method_2_code 20 = .ok (.new 8, 3) := by decide +kernel
theorem own_d4_23 : decode prog_27_method_2_code 23 = .ok (.dup, 1) := by decide +kernel
theorem own_d4_24 : decode prog_27_method_2_code 24 = .ok (.iconst 1, 1) := by decide +kernel
theorem own_d4_25 : decode prog_27_method_2_code 25 = .ok (.newarray .long, 2) := by decide +kernel
theorem own_d4_27 : decode prog_27_method_2_code 27 = .ok (.dup, 1) := by decide +kernel
theorem own_d4_28 : decode prog_27_method_2_code 28 = .ok (.iconst 0, 1) := by decide +kernel
theorem own_d4_29 : decode prog_27_method_2_code 29 = .ok (.iload_n 0, 1) := by decide +kernel
theorem own_d4_30 : decode prog_27_method_2_code 30 = .ok (.i2l, 1) := by decide +kernel
theorem own_d4_31 : decode prog_27_method_2_code 31 = .ok (.lastore, 1) := by decide +kernel
theorem own_d4_32 : decode prog_27_method_2_code 32 = .ok (.iconst 1, 1) := by decide +kernel
theorem own_d4_33 : decode prog_27_method_2_code 33 = .ok (.newarray .int, 2) := by decide +kernel
theorem own_d4_35 : decode prog_27_method_2_code 35 = .ok (.dup, 1) := by decide +kernel
theorem own_d4_36 : decode prog_27_method_2_code 36 = .ok (.iconst 0, 1) := by decide +kernel
theorem own_d4_37 : decode prog_27_method_2_code 37 = .ok (.iload_n 1, 1) := by decide +kernel
theorem own_d4_38 : decode prog_27_method_2_code 38 = .ok (.iastore, 1) := by decide +kernel
theorem own_d4_39 : decode prog_27_method_2_code 39 = .ok (.invokespecial 33, 3) := by decide +kernel
theorem own_d4_42 : decode prog_27_method_2_code 42 = .ok (.areturn, 1) := by decide +kernel
theorem own_pn4 : plainName "com/example/ordence/ordence/Domain" = true := by first | (simp [plainName, overriddenIn]; done) | decide +kernel
theorem own_pd4_0 : parseMethodDescriptor "([J[I)V" = some ⟨[(.array .long), (.array .int)], none⟩ := by decide +kernel
theorem own_ef4 (m : MethodId) (u : Int32) (t : Int32) : entryFrame m #[(.int u), (.int t)] 2 = mkF m 0 #[.val (.int u), .val (.int t)] [] := by first | (simp [entryFrame, mkF, argsToLocals, Value.category]; done) | rfl
def own_Q4 (Z : State) (u : Int32) (t : Int32) (h0 : Heap) (n0 : Nat) (v : Option Value) (h : Heap) (L : List Loc) : Prop := (∃ d : Addr, v = some (.ref d)) ∧ Fr n0 L ∧ Keep h0 h []
set_option maxRecDepth 65536 in
set_option maxHeartbeats 40000000 in
theorem own_rm4 (l : Launch) (Z : State) (a0 : Array Value) (hw : ∀ d ∈ tables_1, d.before a0 Z = true) (ws : List Jvm.Cond) (u : Int32) (t : Int32) (h0 : Heap) (n0 : Nat) (Zs : n0 ≤ h0.size) (hc : ¬ (t < u)) :
    MetFree l (⟨"com/example/ordence/ordence/Domain", "interval", "(II)Lcom/example/ordence/ordence/Domain;"⟩ : MethodName) (head1 (Jvm.Cond.code (⟨"com/example/ordence/ordence/Domain", "interval", "(II)Lcom/example/ordence/ordence/Domain;"⟩ : MethodName) prog_27_method_2_code 2 (some (.object "com/example/ordence/ordence/Domain")) :: ws) ({ frames := 2, cells := 4, slots := 7, locals := 30 } : Room)) (fun aA_ U => aA_ = #[(.int u), (.int t)] ∧ Z.Warmed39 U.vm ∧ U.heap = h0) (fun _ _ _ _ _ => True) (fun _ U o U' => ∃ v L, o = .returned v ∧ own_Q4 Z u t h0 n0 v U'.heap L ∧ FrameEnd U o U' L ({ frames := 2, cells := 4, slots := 7, locals := 30 } : Room).cells ({ frames := 2, cells := 4, slots := 7, locals := 30 } : Room).slots) := by
  refine MetFree.of_bodySF (plainFor_of_name own_pn4) hisR ?_
  intro p e s m args below meth c s₁ Bd hml0 hP hK
  obtain ⟨rfl, hZ, hh⟩ := hP
  have hx := Bd.exec
  have hby := Bd.bytes
  have hml : c.maxLocals = 2 := hml0
  have hown : s.vm.findClass "com/example/ordence/ordence/Domain" = some m.cls := findClass_of_methodNamed Bd.named
  have hnm := (name_of_methodNamed Bd.named Bd.method).1
  have X0 : Stand p l e ({ frames := 2, cells := 4, slots := 7, locals := 30 } : Room) s m #[(.int u), (.int t)] below meth c s₁ [] 0 0 := Stand.of_body Bd
  have e0 : s₁.heap = h0 := by rw [← hh, Bd.state]; rfl
  have NF := Fr.nil n0
  rw [own_ef4 m u t]
  show own_Dn p e below s (own_Q4 Z u t h0 n0) 4 7 s₁ (mkF m 0 #[.val (.int u), .val (.int t)] [])
  have KP := Keep.refl h0 []
  refine own_go (T' := s₁) (g' := (mkF m 1 #[.val (.int u), .val (.int t)] [(.int u)])) (fun _ k => XS.iloadN X0.here hx rfl (hb hby own_d4_0) rfl k) ?_
  refine own_go (T' := s₁) (g' := (mkF m 2 #[.val (.int u), .val (.int t)] [(.int t), (.int u)])) (fun _ k => XS.iloadN X0.here hx rfl (hb hby own_d4_1) rfl k) ?_
  refine own_go (T' := s₁) (g' := (mkF m 20 #[.val (.int u), .val (.int t)] [])) (fun _ k => XS.icmpYes X0.here hx rfl (pc0 := 2) (pc' := 20) rfl (hb hby own_d4_2) rfl (flt hc).2.2.2 (by decide) (by decide) k) ?_
  obtain ⟨T1, h1, X1, e1, E1, A1, D1, -, st1⟩ := newO X0 hx hZ hown (hw _ (List.mem_of_getElem? (i := 24) rfl)) (hw _ (List.mem_of_getElem? (i := 25) rfl)) (hw _ (List.mem_of_getElem? (i := 22) rfl)) e0 (g := (mkF m 20 #[.val (.int u), .val (.int t)] [])) rfl (hb hby own_d4_20) (by decide) (by decide)
  obtain ⟨b1, g1⟩ : ∃ z, z = h0.size := ⟨_, rfl⟩
  rw [← g1] at A1 D1 st1
  have g_b1 : n0 ≤ b1 := Nat.le_trans Zs (Nat.le_of_eq g1.symm)
  have sz_b1 : h0.size ≤ b1 := Nat.le_trans KP.1 (Nat.le_of_eq g1.symm)
  have KP := KP.ext E1
  have Zs := Nat.le_trans Zs E1.1
  have E_b1 := A1
  have F_b1_los : Fld Z h1 b1 "com/example/ordence/ordence/Domain" "los" "[J" .null := D1 (Or.inr (hw _ (List.mem_of_getElem? (i := 35) rfl))) (ty := (.array .long)) (by decide)
  have F_b1_his : Fld Z h1 b1 "com/example/ordence/ordence/Domain" "his" "[I" .null := D1 (Or.inr (hw _ (List.mem_of_getElem? (i := 37) rfl))) (ty := (.array .int)) (by decide)
  have F_b1_firstIndexes : Fld Z h1 b1 "com/example/ordence/ordence/Domain" "firstIndexes" "[J" .null := D1 (Or.inr (hw _ (List.mem_of_getElem? (i := 39) rfl))) (ty := (.array .long)) (by decide)
  have F_b1_size : Fld Z h1 b1 "com/example/ordence/ordence/Domain" "size" "J" (.long (0 : Int64)) := D1 (Or.inr (hw _ (List.mem_of_getElem? (i := 41) rfl))) (ty := .long) (by decide)
  refine own_go (T' := T1) (g' := (mkF m 23 #[.val (.int u), .val (.int t)] [(.ref b1)])) (fun _ k => st1 _ k) ?_
  refine own_go (T' := T1) (g' := (mkF m 24 #[.val (.int u), .val (.int t)] [(.ref b1), (.ref b1)])) (fun _ k => XS.dup X1.here hx rfl (hb hby own_d4_23) rfl rfl k) ?_
  refine own_go (T' := T1) (g' := (mkF m 25 #[.val (.int u), .val (.int t)] [(.int (1 : Int32)), (.ref b1), (.ref b1)])) (fun _ k => XS.iconst X1.here hx rfl (hb hby own_d4_24) k) ?_
  obtain ⟨T2, h2, k2, X2, e2, E2, A2, st2⟩ := newP X1 hx hZ (hw _ (List.mem_of_getElem? (i := 26) rfl)) e1 (g := (mkF m 25 #[.val (.int u), .val (.int t)] [(.int (1 : Int32)), (.ref b1), (.ref b1)])) rfl (hb hby own_d4_25) rfl (by decide) (cap := 1) (by decide) (by decide) (by decide) (by decide)
  obtain ⟨b2, g2⟩ : ∃ z, z = h1.size := ⟨_, rfl⟩
  rw [← g2] at A2 st2
  have ne_b1_b2 : b1 ≠ b2 := Nat.ne_of_lt (Nat.lt_of_lt_of_le E_b1.lt (Nat.le_of_eq g2.symm))
  have g_b2 : n0 ≤ b2 := Nat.le_trans Zs (Nat.le_of_eq g2.symm)
  have sz_b2 : h0.size ≤ b2 := Nat.le_trans KP.1 (Nat.le_of_eq g2.symm)
  have E_b1 := E_b1.ext E2
  have F_b1_los := F_b1_los.ext E2
  have F_b1_his := F_b1_his.ext E2
  have F_b1_firstIndexes := F_b1_firstIndexes.ext E2
  have F_b1_size := F_b1_size.ext E2
  have KP := KP.ext E2
  have Zs := Nat.le_trans Zs E2.1
  have V_b2 : Arv Z h2 b2 k2 .long (1 : Int32) [(.long (0 : Int64))] (.long (0 : Int64)) := (Arv.new A2 (by decide)).pad (pad_rep [] (.long (0 : Int64)) 1)
  refine own_go (T' := T2) (g' := (mkF m 27 #[.val (.int u), .val (.int t)] [(.ref b2), (.ref b1), (.ref b1)])) (fun _ k => st2 _ k) ?_
  refine own_go (T' := T2) (g' := (mkF m 28 #[.val (.int u), .val (.int t)] [(.ref b2), (.ref b2), (.ref b1), (.ref b1)])) (fun _ k => XS.dup X2.here hx rfl (hb hby own_d4_27) rfl rfl k) ?_
  refine own_go (T' := T2) (g' := (mkF m 29 #[.val (.int u), .val (.int t)] [(.int (0 : Int32)), (.ref b2), (.ref b2), (.ref b1), (.ref b1)])) (fun _ k => XS.iconst X2.here hx rfl (hb hby own_d4_28) k) ?_
  refine own_go (T' := T2) (g' := (mkF m 30 #[.val (.int u), .val (.int t)] [(.int u), (.int (0 : Int32)), (.ref b2), (.ref b2), (.ref b1), (.ref b1)])) (fun _ k => XS.iloadN X2.here hx rfl (hb hby own_d4_29) rfl k) ?_
  refine own_go (T' := T2) (g' := (mkF m 31 #[.val (.int u), .val (.int t)] [(.long (u.toInt64)), (.int (0 : Int32)), (.ref b2), (.ref b2), (.ref b1), (.ref b1)])) (fun _ k => XS.i2l X2.here hx rfl (hb hby own_d4_30) rfl k) ?_
  obtain ⟨c_3, Ar_3, q_3, S_3, N_3, H_3, G_3⟩ := id V_b2
  have hin_3 : ¬ ((0 : Int32) < 0 ∨ c_3.slots.size ≤ ((0 : Int32)).toNatClampNeg) := inb_of S_3 ⟨by decide, by decide⟩
  obtain ⟨T3, h3, X3, e3, W3, st3⟩ := stJ X2 hx hZ e2 Ar_3 (j := (0 : Int32)) hin_3 (g := (mkF m 31 #[.val (.int u), .val (.int t)] [(.long (u.toInt64)), (.int (0 : Int32)), (.ref b2), (.ref b2), (.ref b1), (.ref b1)])) rfl rfl (hb hby own_d4_31)
  have E_b1 := E_b1.wr W3
  have F_b1_los := F_b1_los.other W3 (Or.inl ne_b1_b2)
  have F_b1_his := F_b1_his.other W3 (Or.inl ne_b1_b2)
  have F_b1_firstIndexes := F_b1_firstIndexes.other W3 (Or.inl ne_b1_b2)
  have F_b1_size := F_b1_size.other W3 (Or.inl ne_b1_b2)
  have Zs := Nat.le_trans Zs (Keep.of_wr W3).1
  have V_b2 := Arv.set Ar_3 q_3 S_3 N_3 H_3 G_3 rfl W3 0 rfl (Nat.le_of_ble_eq_true rfl)
  have KP := KP.wr W3 (Or.inr sz_b2)
  have NF := Fr.snoc X3 NF g_b2
  refine own_go (T' := T3) (g' := (mkF m 32 #[.val (.int u), .val (.int t)] [(.ref b2), (.ref b1), (.ref b1)])) (fun _ k => st3 _ k) ?_
  refine own_go (T' := T3) (g' := (mkF m 33 #[.val (.int u), .val (.int t)] [(.int (1 : Int32)), (.ref b2), (.ref b1), (.ref b1)])) (fun _ k => XS.iconst X3.here hx rfl (hb hby own_d4_32) k) ?_
  obtain ⟨T4, h4, k4, X4, e4, E4, A4, st4⟩ := newP X3 hx hZ (hw _ (List.mem_of_getElem? (i := 27) rfl)) e3 (g := (mkF m 33 #[.val (.int u), .val (.int t)] [(.int (1 : Int32)), (.ref b2), (.ref b1), (.ref b1)])) rfl (hb hby own_d4_33) rfl (by decide) (cap := 1) (by decide) (by decide) (by decide) (by decide)
  obtain ⟨b4, g4⟩ : ∃ z, z = h3.size := ⟨_, rfl⟩
  rw [← g4] at A4 st4
  have ne_b1_b4 : b1 ≠ b4 := Nat.ne_of_lt (Nat.lt_of_lt_of_le E_b1.lt (Nat.le_of_eq g4.symm))
  have ne_b2_b4 : b2 ≠ b4 := Nat.ne_of_lt (Nat.lt_of_lt_of_le V_b2.lt (Nat.le_of_eq g4.symm))
  have g_b4 : n0 ≤ b4 := Nat.le_trans Zs (Nat.le_of_eq g4.symm)
  have sz_b4 : h0.size ≤ b4 := Nat.le_trans KP.1 (Nat.le_of_eq g4.symm)
  have E_b1 := E_b1.ext E4
  have F_b1_los := F_b1_los.ext E4
  have F_b1_his := F_b1_his.ext E4
  have F_b1_firstIndexes := F_b1_firstIndexes.ext E4
  have F_b1_size := F_b1_size.ext E4
  have V_b2 := V_b2.ext E4
  have KP := KP.ext E4
  have Zs := Nat.le_trans Zs E4.1
  have V_b4 : Arv Z h4 b4 k4 .int (1 : Int32) [(.int (0 : Int32))] (.int (0 : Int32)) := (Arv.new A4 (by decide)).pad (pad_rep [] (.int (0 : Int32)) 1)
  refine own_go (T' := T4) (g' := (mkF m 35 #[.val (.int u), .val (.int t)] [(.ref b4), (.ref b2), (.ref b1), (.ref b1)])) (fun _ k => st4 _ k) ?_
  refine own_go (T' := T4) (g' := (mkF m 36 #[.val (.int u), .val (.int t)] [(.ref b4), (.ref b4), (.ref b2), (.ref b1), (.ref b1)])) (fun _ k => XS.dup X4.here hx rfl (hb hby own_d4_35) rfl rfl k) ?_
  refine own_go (T' := T4) (g' := (mkF m 37 #[.val (.int u), .val (.int t)] [(.int (0 : Int32)), (.ref b4), (.ref b4), (.ref b2), (.ref b1), (.ref b1)])) (fun _ k => XS.iconst X4.here hx rfl (hb hby own_d4_36) k) ?_
  refine own_go (T' := T4) (g' := (mkF m 38 #[.val (.int u), .val (.int t)] [(.int t), (.int (0 : Int32)), (.ref b4), (.ref b4), (.ref b2), (.ref b1), (.ref b1)])) (fun _ k => XS.iloadN X4.here hx rfl (hb hby own_d4_37) rfl k) ?_
  obtain ⟨c_5, Ar_5, q_5, S_5, N_5, H_5, G_5⟩ := id V_b4
  have hin_5 : ¬ ((0 : Int32) < 0 ∨ c_5.slots.size ≤ ((0 : Int32)).toNatClampNeg) := inb_of S_5 ⟨by decide, by decide⟩
  obtain ⟨T5, h5, X5, e5, W5, st5⟩ := stI X4 hx hZ e4 Ar_5 (j := (0 : Int32)) hin_5 (g := (mkF m 38 #[.val (.int u), .val (.int t)] [(.int t), (.int (0 : Int32)), (.ref b4), (.ref b4), (.ref b2), (.ref b1), (.ref b1)])) rfl rfl (hb hby own_d4_38)
  have E_b1 := E_b1.wr W5
  have F_b1_los := F_b1_los.other W5 (Or.inl ne_b1_b4)
  have F_b1_his := F_b1_his.other W5 (Or.inl ne_b1_b4)
  have F_b1_firstIndexes := F_b1_firstIndexes.other W5 (Or.inl ne_b1_b4)
  have F_b1_size := F_b1_size.other W5 (Or.inl ne_b1_b4)
  have V_b2 := V_b2.other W5 ne_b2_b4
  have Zs := Nat.le_trans Zs (Keep.of_wr W5).1
  have V_b4 := Arv.set Ar_5 q_5 S_5 N_5 H_5 G_5 rfl W5 0 rfl (Nat.le_of_ble_eq_true rfl)
  have KP := KP.wr W5 (Or.inr sz_b4)
  have NF := Fr.snoc X5 NF g_b4
  refine own_go (T' := T5) (g' := (mkF m 39 #[.val (.int u), .val (.int t)] [(.ref b4), (.ref b2), (.ref b1), (.ref b1)])) (fun _ k => st5 _ k) ?_
  obtain ⟨_, _, ⟨T6, L6, k6, n6⟩, -, X6, ⟨Lc6, hQ6, l6, y6, z6⟩, st6⟩ := X5.specialBack hx (y := (⟨"com/example/ordence/ordence/Domain", "<init>", "([J[I)V"⟩ : MethodName)) rfl hown (mvT hZ (hw _ (List.mem_of_getElem? (i := 28) rfl))) (mvT hZ (hw _ (List.mem_of_getElem? (i := 29) rfl))) (mvT hZ (hw _ (List.mem_of_getElem? (i := 30) rfl))) (by decide) (backOf (W := 1) (own_rm3 l Z a0 hw [] b1 b2 b4 k2 k4 _ _ h5 n0 Zs F_b1_los F_b1_his F_b1_firstIndexes F_b1_size E_b1 g_b1 ne_b1_b2 ne_b1_b4 V_b2 V_b4) hZ (hw _ (List.mem_of_getElem? (i := 30) rfl)) (hw _ (List.mem_of_getElem? (i := 22) rfl)) (by decide) (by decide)) (g := (mkF m 39 #[.val (.int u), .val (.int t)] [(.ref b4), (.ref b2), (.ref b1), (.ref b1)])) rfl (by rw [hml]; rfl) (Steps.refl _) (a := b1) (argsL := [(.ref b2), (.ref b4)]) (rest := [(.ref b1)]) (lenOf own_pd4_0 rfl) rfl (by show 2 * 0 + _ ≤ _; exact Nat.le_of_eq rfl) (hb hby own_d4_39) (fun _ _ => ⟨rfl, e5, (by decide : 3 + 1 ≤ _), (by decide : 6 + 1 ≤ _)⟩)
  dsimp only [Pt.U, Pt.locs, Pt.cells, Pt.slots] at X6 l6 y6 z6 st6 hQ6
  subst l6 y6 z6
  obtain ⟨rfl, NQ6, K6, E_b1⟩ := hQ6
  have NF := Fr.app NF NQ6
  have V_b2 := V_b2.keep K6 (ninS (Ne.symm ne_b1_b2) nin0)
  have V_b4 := V_b4.keep K6 (ninS (Ne.symm ne_b1_b4) nin0)
  have Zs := Nat.le_trans Zs K6.1
  have KP := KP.trans K6 ((allS (Or.inr sz_b1) all0))
  refine own_go (T' := T6) (g' := (mkF m 42 #[.val (.int u), .val (.int t)] [(.ref b1)])) (fun _ k => st6.trans k) ?_
  refine own_ret X6 Bd.notSynchronized (some (.ref b1)) (fun h => by rw [Bd.returns] at h; cases h) (fun fs hr => retOut X6 hx (t := (.object "com/example/ordence/ordence/Domain")) Bd.returns rfl (Or.inr (Or.inr (Or.inr (Or.inr ⟨rfl, rfl, rfl⟩)))) (hb hby own_d4_42) hr) ?_ (by decide) (by decide)
  show (own_Q4 Z u t h0 n0) (some (.ref b1)) T6.heap _
  exact ⟨⟨_, rfl⟩, NF, KP⟩
theorem own_d5_0 : decode prog_77_method_3_code 0 = .ok (.aload_n 0, 1) := by decide +kernel
theorem own_d5_1 : decode prog_77_method_3_code 1 = .ok (.invokespecial 16, 3) := by decide +kernel
theorem own_d5_4 : decode prog_77_method_3_code 4 = .ok (.aload_n 0, 1) := by decide +kernel
theorem own_d5_5 : decode prog_77_method_3_code 5 = .ok (.aload_n 1, 1) := by decide +kernel
theorem own_d5_6 : decode prog_77_method_3_code 6 = .ok (.putfield 21, 3) := by decide +kernel
theorem own_d5_9 : decode prog_77_method_3_code 9 = .ok (.aload_n 0, 1) := by decide +kernel
theorem own_d5_10 : decode prog_77_method_3_code 10 = .ok (.aload_n 2, 1) := by decide +kernel
theorem own_d5_11 : decode prog_77_method_3_code 11 = .ok (.putfield 25, 3) := by decide +kernel
theorem own_d5_14 : decode prog_77_method_3_code 14 = .ok (.aload_n 0, 1) := by decide +kernel
theorem own_d5_15 : decode prog_77_method_3_code 15 = .ok (.iload_n 3, 1) := by decide +kernel
theorem own_d5_16 : decode prog_77_method_3_code 16 = .ok (.putfield 29, 3) := by decide +kernel
theorem own_d5_19 : decode prog_77_method_3_code 19 = .ok (.return_, 1) := by decide +kernel
theorem own_pn5 : plainName "com/example/ordence/ordence/IntVariable" = true := by first | (simp [plainName, overriddenIn]; done) | decide +kernel
theorem own_ef5 (m : MethodId) (a : Addr) (sa : Addr) (da : Addr) (z : Int32) : entryFrame m #[(.ref a), (.ref sa), (.ref da), (.int z)] 4 = mkF m 0 #[.val (.ref a), .val (.ref sa), .val (.ref da), .val (.int z)] [] := by first | (simp [entryFrame, mkF, argsToLocals, Value.category]; done) | rfl
def own_Q5 (Z : State) (a : Addr) (sa : Addr) (da : Addr) (z : Int32) (h0 : Heap) (n0 : Nat) (v : Option Value) (h : Heap) (L : List Loc) : Prop := v = none ∧ Fr n0 L ∧ Keep h0 h [a] ∧ Exa Z h a "com/example/ordence/ordence/IntVariable"
set_option maxRecDepth 65536 in
set_option maxHeartbeats 40000000 in
theorem own_rm5 (l : Launch) (Z : State) (a0 : Array Value) (hw : ∀ d ∈ tables_1, d.before a0 Z = true) (ws : List Jvm.Cond) (a : Addr) (sa : Addr) (da : Addr) (z : Int32) (h0 : Heap) (n0 : Nat) (Zs : n0 ≤ h0.size) (F_a_name : Fld Z h0 a "com/example/ordence/ordence/IntVariable" "name" "Ljava/lang/String;" .null) (F_a_domain : Fld Z h0 a "com/example/ordence/ordence/IntVariable" "domain" "Lcom/example/ordence/ordence/Domain;" .null) (F_a_isBoolean : Fld Z h0 a "com/example/ordence/ordence/IntVariable" "isBoolean" "Z" (.int (0 : Int32))) (E_a : Exa Z h0 a "com/example/ordence/ordence/IntVariable") (g_a : n0 ≤ a) :
    MetFree l (⟨"com/example/ordence/ordence/IntVariable", "<init>", "(Ljava/lang/String;Lcom/example/ordence/ordence/Domain;Z)V"⟩ : MethodName) (head1 (Jvm.Cond.code (⟨"com/example/ordence/ordence/IntVariable", "<init>", "(Ljava/lang/String;Lcom/example/ordence/ordence/Domain;Z)V"⟩ : MethodName) prog_77_method_3_code 4 none :: ws) ({ frames := 1, cells := 0, slots := 0, locals := 12 } : Room)) (fun aA_ U => aA_ = #[(.ref a), (.ref sa), (.ref da), (.int z)] ∧ Z.Warmed39 U.vm ∧ U.heap = h0) (fun _ _ _ _ _ => True) (fun _ U o U' => ∃ v L, o = .returned v ∧ own_Q5 Z a sa da z h0 n0 v U'.heap L ∧ FrameEnd U o U' L ({ frames := 1, cells := 0, slots := 0, locals := 12 } : Room).cells ({ frames := 1, cells := 0, slots := 0, locals := 12 } : Room).slots) := by
  refine MetFree.of_bodySF (plainFor_of_name own_pn5) hisR ?_
  intro p e s m args below meth c s₁ Bd hml0 hP hK
  obtain ⟨rfl, hZ, hh⟩ := hP
  have hx := Bd.exec
  have hby := Bd.bytes
  have hml : c.maxLocals = 4 := hml0
  have hown : s.vm.findClass "com/example/ordence/ordence/IntVariable" = some m.cls := findClass_of_methodNamed Bd.named
  have hnm := (name_of_methodNamed Bd.named Bd.method).1
  have X0 : Stand p l e ({ frames := 1, cells := 0, slots := 0, locals := 12 } : Room) s m #[(.ref a), (.ref sa), (.ref da), (.int z)] below meth c s₁ [] 0 0 := Stand.of_body Bd
  have e0 : s₁.heap = h0 := by rw [← hh, Bd.state]; rfl
  have NF := Fr.nil n0
  rw [own_ef5 m a sa da z]
  show own_Dn p e below s (own_Q5 Z a sa da z h0 n0) 0 0 s₁ (mkF m 0 #[.val (.ref a), .val (.ref sa), .val (.ref da), .val (.int z)] [])
  have KP := Keep.refl h0 [a]
  refine own_go (T' := s₁) (g' := (mkF m 1 #[.val (.ref a), .val (.ref sa), .val (.ref da), .val (.int z)] [(.ref a)])) (fun _ k => XS.aloadN X0.here hx rfl (hb hby own_d5_0) rfl rfl k) ?_
  obtain ⟨T1, X1, e1, st1⟩ := initO X0 hx hZ hown (hw _ (List.mem_of_getElem? (i := 48) rfl)) (hw _ (List.mem_of_getElem? (i := 32) rfl)) (hw _ (List.mem_of_getElem? (i := 33) rfl)) e0 (g := (mkF m 1 #[.val (.ref a), .val (.ref sa), .val (.ref da), .val (.int z)] [(.ref a)])) rfl (by rw [hml]; rfl) rfl (hb hby own_d5_1) (by decide) (W := 0) (by show 2 * 0 + _ ≤ _; exact Nat.le_of_eq rfl) (by decide)
  refine own_go (T' := T1) (g' := (mkF m 4 #[.val (.ref a), .val (.ref sa), .val (.ref da), .val (.int z)] [])) (fun _ k => st1 _ k) ?_
  refine own_go (T' := T1) (g' := (mkF m 5 #[.val (.ref a), .val (.ref sa), .val (.ref da), .val (.int z)] [(.ref a)])) (fun _ k => XS.aloadN X1.here hx rfl (hb hby own_d5_4) rfl rfl k) ?_
  refine own_go (T' := T1) (g' := (mkF m 6 #[.val (.ref a), .val (.ref sa), .val (.ref da), .val (.int z)] [(.ref sa), (.ref a)])) (fun _ k => XS.aloadN X1.here hx rfl (hb hby own_d5_5) rfl rfl k) ?_
  obtain ⟨T2, h2, X2, e2, W2, st2⟩ := putF X1 hx hZ hown (host := "") (Or.inl (hw _ (List.mem_of_getElem? (i := 49) rfl))) Via.refl e1 F_a_name E_a (Or.inr ⟨(hw _ (List.mem_of_getElem? (i := 50) rfl)), rfl, hnm⟩) (hw _ (List.mem_of_getElem? (i := 7) rfl)) (ty := (.object "java/lang/String")) (by decide) rfl rfl (g := (mkF m 6 #[.val (.ref a), .val (.ref sa), .val (.ref da), .val (.int z)] [(.ref sa), (.ref a)])) rfl rfl (hb hby own_d5_6)
  have E_a := E_a.wr W2
  have F_a_domain := F_a_domain.other W2 (Or.inr (slot_ne (Or.inr (hw _ (List.mem_of_getElem? (i := 52) rfl))) (Or.inr (hw _ (List.mem_of_getElem? (i := 50) rfl))) (by decide) (t := (.object "com/example/ordence/ordence/Domain")) (t' := (.object "java/lang/String")) (by decide) (by decide)))
  have F_a_isBoolean := F_a_isBoolean.other W2 (Or.inr (slot_ne (Or.inr (hw _ (List.mem_of_getElem? (i := 54) rfl))) (Or.inr (hw _ (List.mem_of_getElem? (i := 50) rfl))) (by decide) (t := .boolean) (t' := (.object "java/lang/String")) (by decide) (by decide)))
  have Zs := Nat.le_trans Zs (Keep.of_wr W2).1
  have F_a_name := F_a_name.same W2
  have KP := KP.wr W2 (Or.inl (by simp))
  have NF := Fr.snoc X2 NF g_a
  refine own_go (T' := T2) (g' := (mkF m 9 #[.val (.ref a), .val (.ref sa), .val (.ref da), .val (.int z)] [])) (fun _ k => st2 _ k) ?_
  refine own_go (T' := T2) (g' := (mkF m 10 #[.val (.ref a), .val (.ref sa), .val (.ref da), .val (.int z)] [(.ref a)])) (fun _ k => XS.aloadN X2.here hx rfl (hb hby own_d5_9) rfl rfl k) ?_
  refine own_go (T' := T2) (g' := (mkF m 11 #[.val (.ref a), .val (.ref sa), .val (.ref da), .val (.int z)] [(.ref da), (.ref a)])) (fun _ k => XS.aloadN X2.here hx rfl (hb hby own_d5_10) rfl rfl k) ?_
  obtain ⟨T3, h3, X3, e3, W3, st3⟩ := putF X2 hx hZ hown (host := "") (Or.inl (hw _ (List.mem_of_getElem? (i := 51) rfl))) Via.refl e2 F_a_domain E_a (Or.inr ⟨(hw _ (List.mem_of_getElem? (i := 52) rfl)), rfl, hnm⟩) (hw _ (List.mem_of_getElem? (i := 7) rfl)) (ty := (.object "com/example/ordence/ordence/Domain")) (by decide) rfl rfl (g := (mkF m 11 #[.val (.ref a), .val (.ref sa), .val (.ref da), .val (.int z)] [(.ref da), (.ref a)])) rfl rfl (hb hby own_d5_11)
  have E_a := E_a.wr W3
  have F_a_isBoolean := F_a_isBoolean.other W3 (Or.inr (slot_ne (Or.inr (hw _ (List.mem_of_getElem? (i := 54) rfl))) (Or.inr (hw _ (List.mem_of_getElem? (i := 52) rfl))) (by decide) (t := .boolean) (t' := (.object "com/example/ordence/ordence/Domain")) (by decide) (by decide)))
  have F_a_name := F_a_name.other W3 (Or.inr (slot_ne (Or.inr (hw _ (List.mem_of_getElem? (i := 50) rfl))) (Or.inr (hw _ (List.mem_of_getElem? (i := 52) rfl))) (by decide) (t := (.object "java/lang/String")) (t' := (.object "com/example/ordence/ordence/Domain")) (by decide) (by decide)))
  have Zs := Nat.le_trans Zs (Keep.of_wr W3).1
  have F_a_domain := F_a_domain.same W3
  have KP := KP.wr W3 (Or.inl (by simp))
  have NF := Fr.snoc X3 NF g_a
  refine own_go (T' := T3) (g' := (mkF m 14 #[.val (.ref a), .val (.ref sa), .val (.ref da), .val (.int z)] [])) (fun _ k => st3 _ k) ?_
  refine own_go (T' := T3) (g' := (mkF m 15 #[.val (.ref a), .val (.ref sa), .val (.ref da), .val (.int z)] [(.ref a)])) (fun _ k => XS.aloadN X3.here hx rfl (hb hby own_d5_14) rfl rfl k) ?_
  refine own_go (T' := T3) (g' := (mkF m 16 #[.val (.ref a), .val (.ref sa), .val (.ref da), .val (.int z)] [(.int z), (.ref a)])) (fun _ k => XS.iloadN X3.here hx rfl (hb hby own_d5_15) rfl k) ?_
  obtain ⟨T4, h4, X4, e4, W4, st4⟩ := putFN X3 hx hZ hown (hw _ (List.mem_of_getElem? (i := 53) rfl)) Via.refl e3 F_a_isBoolean E_a (Or.inr ⟨(hw _ (List.mem_of_getElem? (i := 54) rfl)), rfl, hnm⟩) (hw _ (List.mem_of_getElem? (i := 7) rfl)) (ty := .boolean) (v' := (.int (nar .boolean z))) (by decide) rfl (fits_nar_bool _) (g := (mkF m 16 #[.val (.ref a), .val (.ref sa), .val (.ref da), .val (.int z)] [(.int z), (.ref a)])) rfl rfl (hb hby own_d5_16)
  have E_a := E_a.wr W4
  have F_a_name := F_a_name.other W4 (Or.inr (slot_ne (Or.inr (hw _ (List.mem_of_getElem? (i := 50) rfl))) (Or.inr (hw _ (List.mem_of_getElem? (i := 54) rfl))) (by decide) (t := (.object "java/lang/String")) (t' := .boolean) (by decide) (by decide)))
  have F_a_domain := F_a_domain.other W4 (Or.inr (slot_ne (Or.inr (hw _ (List.mem_of_getElem? (i := 52) rfl))) (Or.inr (hw _ (List.mem_of_getElem? (i := 54) rfl))) (by decide) (t := (.object "com/example/ordence/ordence/Domain")) (t' := .boolean) (by decide) (by decide)))
  have Zs := Nat.le_trans Zs (Keep.of_wr W4).1
  have F_a_isBoolean := F_a_isBoolean.same W4
  have KP := KP.wr W4 (Or.inl (by simp))
  have NF := Fr.snoc X4 NF g_a
  refine own_go (T' := T4) (g' := (mkF m 19 #[.val (.ref a), .val (.ref sa), .val (.ref da), .val (.int z)] [])) (fun _ k => st4 _ k) ?_
  refine own_ret X4 Bd.notSynchronized none (fun _ => rfl) (fun fs hr => X4.returnOut hx Bd.returns (hb hby own_d5_19) hr) ?_ (by decide) (by decide)
  show (own_Q5 Z a sa da z h0 n0) none T4.heap _
  rw [e4]
  exact ⟨rfl, NF, KP, E_a⟩
theorem own_d6_0 : decode prog_77_method_2_code 0 = .ok (.aload_n 0, 1) := by decide +kernel
theorem own_d6_1 : decode prog_77_method_2_code 1 = .ok (.aload_n 1, 1) := by decide +kernel
theorem own_d6_2 : decode prog_77_method_2_code 2 = .ok (.aload_n 2, 1) := by decide +kernel
theorem own_d6_3 : decode prog_77_method_2_code 3 = .ok (.iconst 0, 1) := by decide +kernel
theorem own_d6_4 : decode prog_77_method_2_code 4 = .ok (.invokespecial 13, 3) := by decide +kernel
theorem own_d6_7 : decode prog_77_method_2_code 7 = .ok (.return_, 1) := by decide +kernel
theorem own_pn6 : plainName "com/example/ordence/ordence/IntVariable" = true := by first | (simp [plainName, overriddenIn]; done) | decide +kernel
theorem own_pd6_0 : parseMethodDescriptor "(Ljava/lang/String;Lcom/example/ordence/ordence/Domain;Z)V" = some ⟨[(.object "java/lang/String"), (.object "com/example/ordence/ordence/Domain"), .boolean], none⟩ := by decide +kernel
theorem own_ef6 (m : MethodId) (a : Addr) (sa : Addr) (da : Addr) : entryFrame m #[(.ref a), (.ref sa), (.ref da)] 3 = mkF m 0 #[.val (.ref a), .val (.ref sa), .val (.ref da)] [] := by first | (simp [entryFrame, mkF, argsToLocals, Value.category]; done) | rfl
def own_Q6 (Z : State) (a : Addr) (sa : Addr) (da : Addr) (h0 : Heap) (n0 : Nat) (v : Option Value) (h : Heap) (L : List Loc) : Prop := v = none ∧ Fr n0 L ∧ Keep h0 h [a] ∧ Exa Z h a "com/example/ordence/ordence/IntVariable"
set_option maxRecDepth 65536 in
set_option maxHeartbeats 40000000 in
theorem own_rm6 (l : Launch) (Z : State) (a0 : Array Value) (hw : ∀ d ∈ tables_1, d.before a0 Z = true) (ws : List Jvm.Cond) (a : Addr) (sa : Addr) (da : Addr) (h0 : Heap) (n0 : Nat) (Zs : n0 ≤ h0.size) (F_a_name : Fld Z h0 a "com/example/ordence/ordence/IntVariable" "name" "Ljava/lang/String;" .null) (F_a_domain : Fld Z h0 a "com/example/ordence/ordence/IntVariable" "domain" "Lcom/example/ordence/ordence/Domain;" .null) (F_a_isBoolean : Fld Z h0 a "com/example/ordence/ordence/IntVariable" "isBoolean" "Z" (.int (0 : Int32))) (E_a : Exa Z h0 a "com/example/ordence/ordence/IntVariable") (g_a : n0 ≤ a) :
    MetFree l (⟨"com/example/ordence/ordence/IntVariable", "<init>", "(Ljava/lang/String;Lcom/example/ordence/ordence/Domain;)V"⟩ : MethodName) (head1 (Jvm.Cond.code (⟨"com/example/ordence/ordence/IntVariable", "<init>", "(Ljava/lang/String;Lcom/example/ordence/ordence/Domain;)V"⟩ : MethodName) prog_77_method_2_code 3 none :: ws) ({ frames := 2, cells := 0, slots := 0, locals := 27 } : Room)) (fun aA_ U => aA_ = #[(.ref a), (.ref sa), (.ref da)] ∧ Z.Warmed39 U.vm ∧ U.heap = h0) (fun _ _ _ _ _ => True) (fun _ U o U' => ∃ v L, o = .returned v ∧ own_Q6 Z a sa da h0 n0 v U'.heap L ∧ FrameEnd U o U' L ({ frames := 2, cells := 0, slots := 0, locals := 27 } : Room).cells ({ frames := 2, cells := 0, slots := 0, locals := 27 } : Room).slots) := by
  refine MetFree.of_bodySF (plainFor_of_name own_pn6) hisR ?_
  intro p e s m args below meth c s₁ Bd hml0 hP hK
  obtain ⟨rfl, hZ, hh⟩ := hP
  have hx := Bd.exec
  have hby := Bd.bytes
  have hml : c.maxLocals = 3 := hml0
  have hown : s.vm.findClass "com/example/ordence/ordence/IntVariable" = some m.cls := findClass_of_methodNamed Bd.named
  have hnm := (name_of_methodNamed Bd.named Bd.method).1
  have X0 : Stand p l e ({ frames := 2, cells := 0, slots := 0, locals := 27 } : Room) s m #[(.ref a), (.ref sa), (.ref da)] below meth c s₁ [] 0 0 := Stand.of_body Bd
  have e0 : s₁.heap = h0 := by rw [← hh, Bd.state]; rfl
  have NF := Fr.nil n0
  rw [own_ef6 m a sa da]
  show own_Dn p e below s (own_Q6 Z a sa da h0 n0) 0 0 s₁ (mkF m 0 #[.val (.ref a), .val (.ref sa), .val (.ref da)] [])
  have KP := Keep.refl h0 [a]
  refine own_go (T' := s₁) (g' := (mkF m 1 #[.val (.ref a), .val (.ref sa), .val (.ref da)] [(.ref a)])) (fun _ k => XS.aloadN X0.here hx rfl (hb hby own_d6_0) rfl rfl k) ?_
  refine own_go (T' := s₁) (g' := (mkF m 2 #[.val (.ref a), .val (.ref sa), .val (.ref da)] [(.ref sa), (.ref a)])) (fun _ k => XS.aloadN X0.here hx rfl (hb hby own_d6_1) rfl rfl k) ?_
  refine own_go (T' := s₁) (g' := (mkF m 3 #[.val (.ref a), .val (.ref sa), .val (.ref da)] [(.ref da), (.ref sa), (.ref a)])) (fun _ k => XS.aloadN X0.here hx rfl (hb hby own_d6_2) rfl rfl k) ?_
  refine own_go (T' := s₁) (g' := (mkF m 4 #[.val (.ref a), .val (.ref sa), .val (.ref da)] [(.int (0 : Int32)), (.ref da), (.ref sa), (.ref a)])) (fun _ k => XS.iconst X0.here hx rfl (hb hby own_d6_3) k) ?_
  obtain ⟨_, _, ⟨T1, L1, k1, n1⟩, -, X1, ⟨Lc1, hQ1, l1, y1, z1⟩, st1⟩ := X0.specialBack hx (y := (⟨"com/example/ordence/ordence/IntVariable", "<init>", "(Ljava/lang/String;Lcom/example/ordence/ordence/Domain;Z)V"⟩ : MethodName)) rfl hown (mvT hZ (hw _ (List.mem_of_getElem? (i := 45) rfl))) (mvT hZ (hw _ (List.mem_of_getElem? (i := 46) rfl))) (mvT hZ (hw _ (List.mem_of_getElem? (i := 47) rfl))) (by decide) (backOf (W := 0) (own_rm5 l Z a0 hw [] a sa da (0 : Int32) h0 n0 Zs F_a_name F_a_domain F_a_isBoolean E_a g_a) hZ (hw _ (List.mem_of_getElem? (i := 47) rfl)) (hw _ (List.mem_of_getElem? (i := 8) rfl)) (by decide) (by decide)) (g := (mkF m 4 #[.val (.ref a), .val (.ref sa), .val (.ref da)] [(.int (0 : Int32)), (.ref da), (.ref sa), (.ref a)])) rfl (by rw [hml]; rfl) (Steps.refl _) (a := a) (argsL := [(.ref sa), (.ref da), (.int (0 : Int32))]) (rest := []) (lenOf own_pd6_0 rfl) rfl (by show 2 * 0 + _ ≤ _; exact Nat.le_of_eq rfl) (hb hby own_d6_4) (fun _ _ => ⟨rfl, e0, (by decide : 0 + 0 ≤ _), (by decide : 0 + 0 ≤ _)⟩)
  dsimp only [Pt.U, Pt.locs, Pt.cells, Pt.slots] at X1 l1 y1 z1 st1 hQ1
  subst l1 y1 z1
  obtain ⟨rfl, NQ1, K1, E_a⟩ := hQ1
  have NF := Fr.app NF NQ1
  have Zs := Nat.le_trans Zs K1.1
  have KP := KP.trans K1 ((allS (Or.inl (by simp)) all0))
  refine own_go (T' := T1) (g' := (mkF m 7 #[.val (.ref a), .val (.ref sa), .val (.ref da)] [])) (fun _ k => st1.trans k) ?_
  refine own_ret X1 Bd.notSynchronized none (fun _ => rfl) (fun fs hr => X1.returnOut hx Bd.returns (hb hby own_d6_7) hr) ?_ (by decide) (by decide)
  show (own_Q6 Z a sa da h0 n0) none T1.heap _
  exact ⟨rfl, NF, KP, E_a⟩
theorem own_d7_0 : decode prog_77_method_1_code 0 = .ok (.aload_n 0, 1) := by decide +kernel
theorem own_d7_1 : decode prog_77_method_1_code 1 = .ok (.aload_n 1, 1) := by decide +kernel
theorem own_d7_2 : decode prog_77_method_1_code 2 = .ok (.iload_n 2, 1) := by decide +kernel
theorem own_d7_3 : decode prog_77_method_1_code 3 = .ok (.iload_n 3, 1) := by decide +kernel
theorem own_d7_4 : decode prog_77_method_1_code 4 = .ok (.invokestatic 1, 3) := by decide +kernel
theorem own_d7_7 : decode prog_77_method_1_code 7 = .ok (.invokespecial 7, 3) := by decide +kernel
theorem own_d7_10 : decode prog_77_method_1_code 10 = .ok (.return_, 1) := by decide +kernel
theorem own_pn7 : plainName "com/example/ordence/ordence/IntVariable" = true := by first | (simp [plainName, overriddenIn]; done) | decide +kernel
theorem own_pd7_0 : parseMethodDescriptor "(II)Lcom/example/ordence/ordence/Domain;" = some ⟨[.int, .int], some (.object "com/example/ordence/ordence/Domain")⟩ := by decide +kernel
theorem own_pd7_1 : parseMethodDescriptor "(Ljava/lang/String;Lcom/example/ordence/ordence/Domain;)V" = some ⟨[(.object "java/lang/String"), (.object "com/example/ordence/ordence/Domain")], none⟩ := by decide +kernel
theorem own_ef7 (m : MethodId) (a : Addr) (sa : Addr) (u : Int32) (t : Int32) : entryFrame m #[(.ref a), (.ref sa), (.int u), (.int t)] 4 = mkF m 0 #[.val (.ref a), .val (.ref sa), .val (.int u), .val (.int t)] [] := by first | (simp [entryFrame, mkF, argsToLocals, Value.category]; done) | rfl
def own_Q7 (Z : State) (a : Addr) (sa : Addr) (u : Int32) (t : Int32) (h0 : Heap) (n0 : Nat) (v : Option Value) (h : Heap) (L : List Loc) : Prop := v = none ∧ Fr n0 L ∧ Keep h0 h [a] ∧ Exa Z h a "com/example/ordence/ordence/IntVariable"
set_option maxRecDepth 65536 in
set_option maxHeartbeats 40000000 in
theorem own_rm7 (l : Launch) (Z : State) (a0 : Array Value) (hw : ∀ d ∈ tables_1, d.before a0 Z = true) (ws : List Jvm.Cond) (a : Addr) (sa : Addr) (u : Int32) (t : Int32) (h0 : Heap) (n0 : Nat) (Zs : n0 ≤ h0.size) (F_a_name : Fld Z h0 a "com/example/ordence/ordence/IntVariable" "name" "Ljava/lang/String;" .null) (F_a_domain : Fld Z h0 a "com/example/ordence/ordence/IntVariable" "domain" "Lcom/example/ordence/ordence/Domain;" .null) (F_a_isBoolean : Fld Z h0 a "com/example/ordence/ordence/IntVariable" "isBoolean" "Z" (.int (0 : Int32))) (E_a : Exa Z h0 a "com/example/ordence/ordence/IntVariable") (g_a : n0 ≤ a) (hc : ¬ (t < u)) :
    MetFree l (⟨"com/example/ordence/ordence/IntVariable", "<init>", "(Ljava/lang/String;II)V"⟩ : MethodName) (head1 (Jvm.Cond.code (⟨"com/example/ordence/ordence/IntVariable", "<init>", "(Ljava/lang/String;II)V"⟩ : MethodName) prog_77_method_1_code 4 none :: ws) ({ frames := 3, cells := 4, slots := 7, locals := 45 } : Room)) (fun aA_ U => aA_ = #[(.ref a), (.ref sa), (.int u), (.int t)] ∧ Z.Warmed39 U.vm ∧ U.heap = h0) (fun _ _ _ _ _ => True) (fun _ U o U' => ∃ v L, o = .returned v ∧ own_Q7 Z a sa u t h0 n0 v U'.heap L ∧ FrameEnd U o U' L ({ frames := 3, cells := 4, slots := 7, locals := 45 } : Room).cells ({ frames := 3, cells := 4, slots := 7, locals := 45 } : Room).slots) := by
  refine MetFree.of_bodySF (plainFor_of_name own_pn7) hisR ?_
  intro p e s m args below meth c s₁ Bd hml0 hP hK
  obtain ⟨rfl, hZ, hh⟩ := hP
  have hx := Bd.exec
  have hby := Bd.bytes
  have hml : c.maxLocals = 4 := hml0
  have hown : s.vm.findClass "com/example/ordence/ordence/IntVariable" = some m.cls := findClass_of_methodNamed Bd.named
  have hnm := (name_of_methodNamed Bd.named Bd.method).1
  have X0 : Stand p l e ({ frames := 3, cells := 4, slots := 7, locals := 45 } : Room) s m #[(.ref a), (.ref sa), (.int u), (.int t)] below meth c s₁ [] 0 0 := Stand.of_body Bd
  have e0 : s₁.heap = h0 := by rw [← hh, Bd.state]; rfl
  have NF := Fr.nil n0
  rw [own_ef7 m a sa u t]
  show own_Dn p e below s (own_Q7 Z a sa u t h0 n0) 4 7 s₁ (mkF m 0 #[.val (.ref a), .val (.ref sa), .val (.int u), .val (.int t)] [])
  have KP := Keep.refl h0 [a]
  refine own_go (T' := s₁) (g' := (mkF m 1 #[.val (.ref a), .val (.ref sa), .val (.int u), .val (.int t)] [(.ref a)])) (fun _ k => XS.aloadN X0.here hx rfl (hb hby own_d7_0) rfl rfl k) ?_
  refine own_go (T' := s₁) (g' := (mkF m 2 #[.val (.ref a), .val (.ref sa), .val (.int u), .val (.int t)] [(.ref sa), (.ref a)])) (fun _ k => XS.aloadN X0.here hx rfl (hb hby own_d7_1) rfl rfl k) ?_
  refine own_go (T' := s₁) (g' := (mkF m 3 #[.val (.ref a), .val (.ref sa), .val (.int u), .val (.int t)] [(.int u), (.ref sa), (.ref a)])) (fun _ k => XS.iloadN X0.here hx rfl (hb hby own_d7_2) rfl k) ?_
  refine own_go (T' := s₁) (g' := (mkF m 4 #[.val (.ref a), .val (.ref sa), .val (.int u), .val (.int t)] [(.int t), (.int u), (.ref sa), (.ref a)])) (fun _ k => XS.iloadN X0.here hx rfl (hb hby own_d7_3) rfl k) ?_
  obtain ⟨_, _, ⟨T1, L1, k1, n1⟩, -, X1, ⟨Lc1, hQ1, l1, y1, z1⟩, st1⟩ := Jvm.LawKit.callS X0 hx (y := (⟨"com/example/ordence/ordence/Domain", "interval", "(II)Lcom/example/ordence/ordence/Domain;"⟩ : MethodName)) hown (mvT hZ (hw _ (List.mem_of_getElem? (i := 20) rfl))) (mvT hZ (hw _ (List.mem_of_getElem? (i := 21) rfl))) (mvT hZ (hw _ (List.mem_of_getElem? (i := 22) rfl))) (mvT hZ (hw _ (List.mem_of_getElem? (i := 23) rfl))) (by decide) (backOf (W := 2) (own_rm4 l Z a0 hw [] u t h0 n0 Zs hc) hZ (hw _ (List.mem_of_getElem? (i := 23) rfl)) (hw _ (List.mem_of_getElem? (i := 22) rfl)) (by decide) (by decide)) (g := (mkF m 4 #[.val (.ref a), .val (.ref sa), .val (.int u), .val (.int t)] [(.int t), (.int u), (.ref sa), (.ref a)])) rfl (by rw [hml]; rfl) (argsL := [(.int u), (.int t)]) (rest := [(.ref sa), (.ref a)]) (lenOf own_pd7_0 rfl) rfl (by show 2 * 0 + _ ≤ _; exact Nat.le_of_eq rfl) (hb hby own_d7_4) (fun _ _ => ⟨rfl, e0, (by decide : 0 + 4 ≤ _), (by decide : 0 + 7 ≤ _)⟩)
  dsimp only [Pt.U, Pt.locs, Pt.cells, Pt.slots] at X1 l1 y1 z1 st1 hQ1
  subst l1 y1 z1
  obtain ⟨⟨d1, rfl⟩, NQ1, K1⟩ := hQ1
  have NF := Fr.app NF NQ1
  have E_a := E_a.keep K1
  have F_a_name := F_a_name.keep K1 nin0
  have F_a_domain := F_a_domain.keep K1 nin0
  have F_a_isBoolean := F_a_isBoolean.keep K1 nin0
  have Zs := Nat.le_trans Zs K1.1
  have KP := KP.trans K1 (all0)
  refine own_go (T' := T1) (g' := (mkF m 7 #[.val (.ref a), .val (.ref sa), .val (.int u), .val (.int t)] [(.ref d1), (.ref sa), (.ref a)])) (fun _ k => st1 _ k) ?_
  obtain ⟨_, _, ⟨T2, L2, k2, n2⟩, -, X2, ⟨Lc2, hQ2, l2, y2, z2⟩, st2⟩ := X1.specialBack hx (y := (⟨"com/example/ordence/ordence/IntVariable", "<init>", "(Ljava/lang/String;Lcom/example/ordence/ordence/Domain;)V"⟩ : MethodName)) rfl hown (mvT hZ (hw _ (List.mem_of_getElem? (i := 42) rfl))) (mvT hZ (hw _ (List.mem_of_getElem? (i := 43) rfl))) (mvT hZ (hw _ (List.mem_of_getElem? (i := 44) rfl))) (by decide) (backOf (W := 0) (own_rm6 l Z a0 hw [] a sa d1 T1.heap n0 Zs F_a_name F_a_domain F_a_isBoolean E_a g_a) hZ (hw _ (List.mem_of_getElem? (i := 44) rfl)) (hw _ (List.mem_of_getElem? (i := 8) rfl)) (by decide) (by decide)) (g := (mkF m 7 #[.val (.ref a), .val (.ref sa), .val (.int u), .val (.int t)] [(.ref d1), (.ref sa), (.ref a)])) rfl (by rw [hml]; rfl) (Steps.refl _) (a := a) (argsL := [(.ref sa), (.ref d1)]) (rest := []) (lenOf own_pd7_1 rfl) rfl (by show 2 * 0 + _ ≤ _; exact Nat.le_of_eq rfl) (hb hby own_d7_7) (fun _ _ => ⟨rfl, rfl, (by decide : 4 + 0 ≤ _), (by decide : 7 + 0 ≤ _)⟩)
  dsimp only [Pt.U, Pt.locs, Pt.cells, Pt.slots] at X2 l2 y2 z2 st2 hQ2
  subst l2 y2 z2
  obtain ⟨rfl, NQ2, K2, E_a⟩ := hQ2
  have NF := Fr.app NF NQ2
  have Zs := Nat.le_trans Zs K2.1
  have KP := KP.trans K2 ((allS (Or.inl (by simp)) all0))
  refine own_go (T' := T2) (g' := (mkF m 10 #[.val (.ref a), .val (.ref sa), .val (.int u), .val (.int t)] [])) (fun _ k => st2.trans k) ?_
  refine own_ret X2 Bd.notSynchronized none (fun _ => rfl) (fun fs hr => X2.returnOut hx Bd.returns (hb hby own_d7_10) hr) ?_ (by decide) (by decide)
  show (own_Q7 Z a sa u t h0 n0) none T2.heap _
  exact ⟨rfl, NF, KP, E_a⟩
theorem own_d8_0 : decode jdk_22_method_1_code 0 = .ok (.aload_n 0, 1) := by decide +kernel
theorem own_d8_1 : decode jdk_22_method_1_code 1 = .ok (.invokespecial 1, 3) := by decide +kernel
theorem own_d8_4 : decode jdk_22_method_1_code 4 = .ok (.return_, 1) := by decide +kernel
theorem own_pn8 : plainName "java/util/AbstractCollection" = true := by first | (simp [plainName, overriddenIn]; done) | decide +kernel
theorem own_ef8 (m : MethodId) (a : Addr) : entryFrame m #[(.ref a)] 1 = mkF m 0 #[.val (.ref a)] [] := by first | (simp [entryFrame, mkF, argsToLocals, Value.category]; done) | rfl
def own_Q8 (Z : State) (a : Addr) (h0 : Heap) (n0 : Nat) (v : Option Value) (h : Heap) (L : List Loc) : Prop := v = none ∧ Fr n0 L ∧ h = h0
set_option maxRecDepth 65536 in
set_option maxHeartbeats 40000000 in
theorem own_rm8 (l : Launch) (Z : State) (a0 : Array Value) (hw : ∀ d ∈ tables_1, d.before a0 Z = true) (ws : List Jvm.Cond) (a : Addr) (h0 : Heap) (n0 : Nat) (Zs : n0 ≤ h0.size)  :
    MetFree l (⟨"java/util/AbstractCollection", "<init>", "()V"⟩ : MethodName) (head1 (Jvm.Cond.code (⟨"java/util/AbstractCollection", "<init>", "()V"⟩ : MethodName) jdk_22_method_1_code 1 none :: ws) ({ frames := 1, cells := 0, slots := 0, locals := 12 } : Room)) (fun aA_ U => aA_ = #[(.ref a)] ∧ Z.Warmed39 U.vm ∧ U.heap = h0) (fun _ _ _ _ _ => True) (fun _ U o U' => ∃ v L, o = .returned v ∧ own_Q8 Z a h0 n0 v U'.heap L ∧ FrameEnd U o U' L ({ frames := 1, cells := 0, slots := 0, locals := 12 } : Room).cells ({ frames := 1, cells := 0, slots := 0, locals := 12 } : Room).slots) := by
  refine MetFree.of_bodySF (plainFor_of_name own_pn8) hisR ?_
  intro p e s m args below meth c s₁ Bd hml0 hP hK
  obtain ⟨rfl, hZ, hh⟩ := hP
  have hx := Bd.exec
  have hby := Bd.bytes
  have hml : c.maxLocals = 1 := hml0
  have hown : s.vm.findClass "java/util/AbstractCollection" = some m.cls := findClass_of_methodNamed Bd.named
  have hnm := (name_of_methodNamed Bd.named Bd.method).1
  have X0 : Stand p l e ({ frames := 1, cells := 0, slots := 0, locals := 12 } : Room) s m #[(.ref a)] below meth c s₁ [] 0 0 := Stand.of_body Bd
  have e0 : s₁.heap = h0 := by rw [← hh, Bd.state]; rfl
  have NF := Fr.nil n0
  rw [own_ef8 m a]
  show own_Dn p e below s (own_Q8 Z a h0 n0) 0 0 s₁ (mkF m 0 #[.val (.ref a)] [])
  refine own_go (T' := s₁) (g' := (mkF m 1 #[.val (.ref a)] [(.ref a)])) (fun _ k => XS.aloadN X0.here hx rfl (hb hby own_d8_0) rfl rfl k) ?_
  obtain ⟨T1, X1, e1, st1⟩ := initO X0 hx hZ hown (hw _ (List.mem_of_getElem? (i := 73) rfl)) (hw _ (List.mem_of_getElem? (i := 32) rfl)) (hw _ (List.mem_of_getElem? (i := 33) rfl)) e0 (g := (mkF m 1 #[.val (.ref a)] [(.ref a)])) rfl (by rw [hml]; rfl) rfl (hb hby own_d8_1) (by decide) (W := 0) (by show 2 * 0 + _ ≤ _; exact Nat.le_of_eq rfl) (by decide)
  refine own_go (T' := T1) (g' := (mkF m 4 #[.val (.ref a)] [])) (fun _ k => st1 _ k) ?_
  refine own_ret X1 Bd.notSynchronized none (fun _ => rfl) (fun fs hr => X1.returnOut hx Bd.returns (hb hby own_d8_4) hr) ?_ (by decide) (by decide)
  show (own_Q8 Z a h0 n0) none T1.heap _
  rw [e1]
  exact ⟨rfl, NF, rfl⟩
theorem own_d9_0 : decode jdk_39_method_1_code 0 = .ok (.aload_n 0, 1) := by decide +kernel
theorem own_d9_1 : decode jdk_39_method_1_code 1 = .ok (.invokespecial 1, 3) := by decide +kernel
theorem own_d9_4 : decode jdk_39_method_1_code 4 = .ok (.aload_n 0, 1) := by decide +kernel
theorem own_d9_5 : decode jdk_39_method_1_code 5 = .ok (.iconst 0, 1) := by decide +kernel
theorem own_d9_6 : decode jdk_39_method_1_code 6 = .ok (.putfield 7, 3) := by decide +kernel
theorem own_d9_9 : decode jdk_39_method_1_code 9 = .ok (.return_, 1) := by decide +kernel
theorem own_pn9 : plainName "java/util/AbstractList" = true := by first | (simp [plainName, overriddenIn]; done) | decide +kernel
theorem own_pd9_0 : parseMethodDescriptor "()V" = some ⟨[], none⟩ := by decide +kernel
theorem own_ef9 (m : MethodId) (a : Addr) : entryFrame m #[(.ref a)] 1 = mkF m 0 #[.val (.ref a)] [] := by first | (simp [entryFrame, mkF, argsToLocals, Value.category]; done) | rfl
def own_Q9 (Z : State) (a : Addr) (h0 : Heap) (n0 : Nat) (v : Option Value) (h : Heap) (L : List Loc) : Prop := v = none ∧ Fr n0 L ∧ Keep h0 h [a] ∧ Exa Z h a "java/util/ArrayList" ∧ Fld Z h a "java/util/ArrayList" "elementData" "[Ljava/lang/Object;" .null ∧ Fld Z h a "java/util/ArrayList" "size" "I" (.int (0 : Int32)) ∧ Fld Z h a "java/util/AbstractList" "modCount" "I" (.int (0 : Int32))
set_option maxRecDepth 65536 in
set_option maxHeartbeats 40000000 in
theorem own_rm9 (l : Launch) (Z : State) (a0 : Array Value) (hw : ∀ d ∈ tables_1, d.before a0 Z = true) (ws : List Jvm.Cond) (a : Addr) (h0 : Heap) (n0 : Nat) (Zs : n0 ≤ h0.size) (F_a_elementData : Fld Z h0 a "java/util/ArrayList" "elementData" "[Ljava/lang/Object;" .null) (F_a_size : Fld Z h0 a "java/util/ArrayList" "size" "I" (.int (0 : Int32))) (F_a_modCount : Fld Z h0 a "java/util/AbstractList" "modCount" "I" (.int (0 : Int32))) (E_a : Exa Z h0 a "java/util/ArrayList") (g_a : n0 ≤ a) :
    MetFree l (⟨"java/util/AbstractList", "<init>", "()V"⟩ : MethodName) (head1 (Jvm.Cond.code (⟨"java/util/AbstractList", "<init>", "()V"⟩ : MethodName) jdk_39_method_1_code 1 none :: ws) ({ frames := 2, cells := 0, slots := 0, locals := 24 } : Room)) (fun aA_ U => aA_ = #[(.ref a)] ∧ Z.Warmed39 U.vm ∧ U.heap = h0) (fun _ _ _ _ _ => True) (fun _ U o U' => ∃ v L, o = .returned v ∧ own_Q9 Z a h0 n0 v U'.heap L ∧ FrameEnd U o U' L ({ frames := 2, cells := 0, slots := 0, locals := 24 } : Room).cells ({ frames := 2, cells := 0, slots := 0, locals := 24 } : Room).slots) := by
  refine MetFree.of_bodySF (plainFor_of_name own_pn9) hisR ?_
  intro p e s m args below meth c s₁ Bd hml0 hP hK
  obtain ⟨rfl, hZ, hh⟩ := hP
  have hx := Bd.exec
  have hby := Bd.bytes
  have hml : c.maxLocals = 1 := hml0
  have hown : s.vm.findClass "java/util/AbstractList" = some m.cls := findClass_of_methodNamed Bd.named
  have hnm := (name_of_methodNamed Bd.named Bd.method).1
  have X0 : Stand p l e ({ frames := 2, cells := 0, slots := 0, locals := 24 } : Room) s m #[(.ref a)] below meth c s₁ [] 0 0 := Stand.of_body Bd
  have e0 : s₁.heap = h0 := by rw [← hh, Bd.state]; rfl
  have NF := Fr.nil n0
  rw [own_ef9 m a]
  show own_Dn p e below s (own_Q9 Z a h0 n0) 0 0 s₁ (mkF m 0 #[.val (.ref a)] [])
  have KP := Keep.refl h0 [a]
  refine own_go (T' := s₁) (g' := (mkF m 1 #[.val (.ref a)] [(.ref a)])) (fun _ k => XS.aloadN X0.here hx rfl (hb hby own_d9_0) rfl rfl k) ?_
  obtain ⟨_, _, ⟨T1, L1, k1, n1⟩, -, X1, ⟨Lc1, hQ1, l1, y1, z1⟩, st1⟩ := X0.specialBack hx (y := (⟨"java/util/AbstractCollection", "<init>", "()V"⟩ : MethodName)) rfl hown (mvT hZ (hw _ (List.mem_of_getElem? (i := 67) rfl))) (mvT hZ (hw _ (List.mem_of_getElem? (i := 68) rfl))) (mvT hZ (hw _ (List.mem_of_getElem? (i := 72) rfl))) (by decide) (backOf (W := 0) (own_rm8 l Z a0 hw [] a h0 n0 Zs) hZ (hw _ (List.mem_of_getElem? (i := 72) rfl)) (hw _ (List.mem_of_getElem? (i := 71) rfl)) (by decide) (by decide)) (g := (mkF m 1 #[.val (.ref a)] [(.ref a)])) rfl (by rw [hml]; rfl) (Steps.refl _) (a := a) (argsL := []) (rest := []) (lenOf own_pd9_0 rfl) rfl (by show 2 * 0 + _ ≤ _; exact Nat.le_of_eq rfl) (hb hby own_d9_1) (fun _ _ => ⟨rfl, e0, (by decide : 0 + 0 ≤ _), (by decide : 0 + 0 ≤ _)⟩)
  dsimp only [Pt.U, Pt.locs, Pt.cells, Pt.slots] at X1 l1 y1 z1 st1 hQ1
  subst l1 y1 z1
  obtain ⟨rfl, NQ1, eq1⟩ := hQ1
  have NF := Fr.app NF NQ1
  refine own_go (T' := T1) (g' := (mkF m 4 #[.val (.ref a)] [])) (fun _ k => st1.trans k) ?_
  refine own_go (T' := T1) (g' := (mkF m 5 #[.val (.ref a)] [(.ref a)])) (fun _ k => XS.aloadN X1.here hx rfl (hb hby own_d9_4) rfl rfl k) ?_
  refine own_go (T' := T1) (g' := (mkF m 6 #[.val (.ref a)] [(.int (0 : Int32)), (.ref a)])) (fun _ k => XS.iconst X1.here hx rfl (hb hby own_d9_5) k) ?_
  obtain ⟨T2, h2, X2, e2, W2, st2⟩ := putF X1 hx hZ hown (host := "") (Or.inl (hw _ (List.mem_of_getElem? (i := 74) rfl))) Via.refl eq1 F_a_modCount E_a (Or.inl (hw _ (List.mem_of_getElem? (i := 75) rfl))) (hw _ (List.mem_of_getElem? (i := 56) rfl)) (ty := .int) (by decide) rfl rfl (g := (mkF m 6 #[.val (.ref a)] [(.int (0 : Int32)), (.ref a)])) rfl rfl (hb hby own_d9_6)
  have E_a := E_a.wr W2
  have F_a_elementData := F_a_elementData.other W2 (Or.inr (slot_ne (Or.inl (hw _ (List.mem_of_getElem? (i := 78) rfl))) (Or.inl (hw _ (List.mem_of_getElem? (i := 75) rfl))) (by decide) (t := (.array (.object "java/lang/Object"))) (t' := .int) (by decide) (by decide)))
  have F_a_size := F_a_size.other W2 (Or.inr (slot_ne (Or.inl (hw _ (List.mem_of_getElem? (i := 91) rfl))) (Or.inl (hw _ (List.mem_of_getElem? (i := 75) rfl))) (by decide) (t := .int) (t' := .int) (by decide) (by decide)))
  have Zs := Nat.le_trans Zs (Keep.of_wr W2).1
  have F_a_modCount := F_a_modCount.same W2
  have KP := KP.wr W2 (Or.inl (by simp))
  have NF := Fr.snoc X2 NF g_a
  refine own_go (T' := T2) (g' := (mkF m 9 #[.val (.ref a)] [])) (fun _ k => st2 _ k) ?_
  refine own_ret X2 Bd.notSynchronized none (fun _ => rfl) (fun fs hr => X2.returnOut hx Bd.returns (hb hby own_d9_9) hr) ?_ (by decide) (by decide)
  show (own_Q9 Z a h0 n0) none T2.heap _
  rw [e2]
  exact ⟨rfl, NF, KP, E_a, F_a_elementData, F_a_size, F_a_modCount⟩
theorem own_d10_0 : decode jdk_38_method_2_code 0 = .ok (.aload_n 0, 1) := by decide +kernel
theorem own_d10_1 : decode jdk_38_method_2_code 1 = .ok (.invokespecial 1, 3) := by decide +kernel
theorem own_d10_4 : decode jdk_38_method_2_code 4 = .ok (.aload_n 0, 1) := by decide +kernel
theorem own_d10_5 : decode jdk_38_method_2_code 5 = .ok (.getstatic 39, 3) := by decide +kernel
theorem own_d10_8 : decode jdk_38_method_2_code 8 = .ok (.putfield 9, 3) := by decide +kernel
theorem own_d10_11 : decode jdk_38_method_2_code 11 = .ok (.return_, 1) := by decide +kernel
theorem own_pn10 : plainName "java/util/ArrayList" = true := by first | (simp [plainName, overriddenIn]; done) | decide +kernel
theorem own_pd10_0 : parseMethodDescriptor "()V" = some ⟨[], none⟩ := by decide +kernel
theorem own_ef10 (m : MethodId) (a : Addr) : entryFrame m #[(.ref a)] 1 = mkF m 0 #[.val (.ref a)] [] := by first | (simp [entryFrame, mkF, argsToLocals, Value.category]; done) | rfl
def own_Q10 (Z : State) (a : Addr) (de : Addr) (cde : Cell) (h0 : Heap) (n0 : Nat) (v : Option Value) (h : Heap) (L : List Loc) : Prop := v = none ∧ Fr n0 L ∧ Keep h0 h [a] ∧ Exa Z h a "java/util/ArrayList" ∧ Fld Z h a "java/util/ArrayList" "elementData" "[Ljava/lang/Object;" (.ref de) ∧ Fld Z h a "java/util/ArrayList" "size" "I" (.int (0 : Int32)) ∧ Fld Z h a "java/util/AbstractList" "modCount" "I" (.int (0 : Int32))
set_option maxRecDepth 65536 in
set_option maxHeartbeats 40000000 in
theorem own_rm10 (l : Launch) (Z : State) (a0 : Array Value) (hw : ∀ d ∈ tables_1, d.before a0 Z = true) (ws : List Jvm.Cond) (a : Addr) (de : Addr) (cde : Cell) (h0 : Heap) (n0 : Nat) (Zs : n0 ≤ h0.size) (F_a_elementData : Fld Z h0 a "java/util/ArrayList" "elementData" "[Ljava/lang/Object;" .null) (F_a_size : Fld Z h0 a "java/util/ArrayList" "size" "I" (.int (0 : Int32))) (F_a_modCount : Fld Z h0 a "java/util/AbstractList" "modCount" "I" (.int (0 : Int32))) (E_a : Exa Z h0 a "java/util/ArrayList") (g_a : n0 ≤ a) (OL : Old Z n0 h0) (S_de : Sta Z Z.heap "java/util/ArrayList" "DEFAULTCAPACITY_EMPTY_ELEMENTDATA" "[Ljava/lang/Object;" (.ref de)) (Ar_de : Arr Z Z.heap de cde (.object "java/lang/Object")) (Sz_de : cde.slots.size = 0) :
    MetFree l (⟨"java/util/ArrayList", "<init>", "()V"⟩ : MethodName) (head1 (Jvm.Cond.code (⟨"java/util/ArrayList", "<init>", "()V"⟩ : MethodName) jdk_38_method_2_code 1 none :: ws) ({ frames := 3, cells := 0, slots := 0, locals := 36 } : Room)) (fun aA_ U => aA_ = #[(.ref a)] ∧ Z.Warmed39 U.vm ∧ U.heap = h0) (fun _ _ _ _ _ => True) (fun _ U o U' => ∃ v L, o = .returned v ∧ own_Q10 Z a de cde h0 n0 v U'.heap L ∧ FrameEnd U o U' L ({ frames := 3, cells := 0, slots := 0, locals := 36 } : Room).cells ({ frames := 3, cells := 0, slots := 0, locals := 36 } : Room).slots) := by
  refine MetFree.of_bodySF (plainFor_of_name own_pn10) hisR ?_
  intro p e s m args below meth c s₁ Bd hml0 hP hK
  obtain ⟨rfl, hZ, hh⟩ := hP
  have hx := Bd.exec
  have hby := Bd.bytes
  have hml : c.maxLocals = 1 := hml0
  have hown : s.vm.findClass "java/util/ArrayList" = some m.cls := findClass_of_methodNamed Bd.named
  have hnm := (name_of_methodNamed Bd.named Bd.method).1
  have X0 : Stand p l e ({ frames := 3, cells := 0, slots := 0, locals := 36 } : Room) s m #[(.ref a)] below meth c s₁ [] 0 0 := Stand.of_body Bd
  have e0 : s₁.heap = h0 := by rw [← hh, Bd.state]; rfl
  have NF := Fr.nil n0
  rw [own_ef10 m a]
  show own_Dn p e below s (own_Q10 Z a de cde h0 n0) 0 0 s₁ (mkF m 0 #[.val (.ref a)] [])
  have KP := Keep.refl h0 [a]
  refine own_go (T' := s₁) (g' := (mkF m 1 #[.val (.ref a)] [(.ref a)])) (fun _ k => XS.aloadN X0.here hx rfl (hb hby own_d10_0) rfl rfl k) ?_
  obtain ⟨_, _, ⟨T1, L1, k1, n1⟩, -, X1, ⟨Lc1, hQ1, l1, y1, z1⟩, st1⟩ := X0.specialBack hx (y := (⟨"java/util/AbstractList", "<init>", "()V"⟩ : MethodName)) rfl hown (mvT hZ (hw _ (List.mem_of_getElem? (i := 61) rfl))) (mvT hZ (hw _ (List.mem_of_getElem? (i := 62) rfl))) (mvT hZ (hw _ (List.mem_of_getElem? (i := 66) rfl))) (by decide) (backOf (W := 0) (own_rm9 l Z a0 hw [] a h0 n0 Zs F_a_elementData F_a_size F_a_modCount E_a g_a) hZ (hw _ (List.mem_of_getElem? (i := 66) rfl)) (hw _ (List.mem_of_getElem? (i := 65) rfl)) (by decide) (by decide)) (g := (mkF m 1 #[.val (.ref a)] [(.ref a)])) rfl (by rw [hml]; rfl) (Steps.refl _) (a := a) (argsL := []) (rest := []) (lenOf own_pd10_0 rfl) rfl (by show 2 * 0 + _ ≤ _; exact Nat.le_of_eq rfl) (hb hby own_d10_1) (fun _ _ => ⟨rfl, e0, (by decide : 0 + 0 ≤ _), (by decide : 0 + 0 ≤ _)⟩)
  dsimp only [Pt.U, Pt.locs, Pt.cells, Pt.slots] at X1 l1 y1 z1 st1 hQ1
  subst l1 y1 z1
  obtain ⟨rfl, NQ1, K1, E_a, F_a_elementData, F_a_size, F_a_modCount⟩ := hQ1
  have NF := Fr.app NF NQ1
  have OL := OL.keep K1 (allS g_a all0)
  have Zs := Nat.le_trans Zs K1.1
  have KP := KP.trans K1 ((allS (Or.inl (by simp)) all0))
  refine own_go (T' := T1) (g' := (mkF m 4 #[.val (.ref a)] [])) (fun _ k => st1.trans k) ?_
  refine own_go (T' := T1) (g' := (mkF m 5 #[.val (.ref a)] [(.ref a)])) (fun _ k => XS.aloadN X1.here hx rfl (hb hby own_d10_4) rfl rfl k) ?_
  obtain ⟨T2, X2, e2, st2⟩ := getS2 X1 hx hZ hown (host := "") (Or.inl (hw _ (List.mem_of_getElem? (i := 76) rfl))) Via.refl rfl (S_de.ext OL.2) (g := (mkF m 5 #[.val (.ref a)] [(.ref a)])) rfl (hb hby own_d10_5)
  refine own_go (T' := T2) (g' := (mkF m 8 #[.val (.ref a)] [(.ref de), (.ref a)])) (fun _ k => st2 _ k) ?_
  obtain ⟨T3, h3, X3, e3, W3, st3⟩ := putF X2 hx hZ hown (host := "") (Or.inl (hw _ (List.mem_of_getElem? (i := 77) rfl))) Via.refl e2 F_a_elementData E_a (Or.inl (hw _ (List.mem_of_getElem? (i := 78) rfl))) (hw _ (List.mem_of_getElem? (i := 56) rfl)) (ty := (.array (.object "java/lang/Object"))) (by decide) rfl rfl (g := (mkF m 8 #[.val (.ref a)] [(.ref de), (.ref a)])) rfl rfl (hb hby own_d10_8)
  have E_a := E_a.wr W3
  have F_a_size := F_a_size.other W3 (Or.inr (slot_ne (Or.inl (hw _ (List.mem_of_getElem? (i := 91) rfl))) (Or.inl (hw _ (List.mem_of_getElem? (i := 78) rfl))) (by decide) (t := .int) (t' := (.array (.object "java/lang/Object"))) (by decide) (by decide)))
  have F_a_modCount := F_a_modCount.other W3 (Or.inr (slot_ne (Or.inl (hw _ (List.mem_of_getElem? (i := 75) rfl))) (Or.inl (hw _ (List.mem_of_getElem? (i := 78) rfl))) (by decide) (t := .int) (t' := (.array (.object "java/lang/Object"))) (by decide) (by decide)))
  have OL := OL.wr W3 g_a
  have Zs := Nat.le_trans Zs (Keep.of_wr W3).1
  have F_a_elementData := F_a_elementData.same W3
  have KP := KP.wr W3 (Or.inl (by simp))
  have NF := Fr.snoc X3 NF g_a
  refine own_go (T' := T3) (g' := (mkF m 11 #[.val (.ref a)] [])) (fun _ k => st3 _ k) ?_
  refine own_ret X3 Bd.notSynchronized none (fun _ => rfl) (fun fs hr => X3.returnOut hx Bd.returns (hb hby own_d10_11) hr) ?_ (by decide) (by decide)
  show (own_Q10 Z a de cde h0 n0) none T3.heap _
  rw [e3]
  exact ⟨rfl, NF, KP, E_a, F_a_elementData, F_a_size, F_a_modCount⟩
theorem own_d11_0 : decode jdk_38_method_6_code 0 = .ok (.aload_n 0, 1) := by decide +kernel
theorem own_d11_1 : decode jdk_38_method_6_code 1 = .ok (.getfield 9, 3) := by decide +kernel
theorem own_d11_4 : decode jdk_38_method_6_code 4 = .ok (.arraylength, 1) := by decide +kernel
theorem own_d11_5 : decode jdk_38_method_6_code 5 = .ok (.istore_n 2, 1) := by decide +kernel
theorem own_d11_6 : decode jdk_38_method_6_code 6 = .ok (.iload_n 2, 1) := by decide +kernel
theorem own_d11_7 : decode jdk_38_method_6_code 7 = .ok (.ifCond .gt 13, 3) := by decide +kernel
theorem own_d11_10 : decode jdk_38_method_6_code 10 = .ok (.aload_n 0, 1) := by decide +kernel
theorem own_d11_11 : decode jdk_38_method_6_code 11 = .ok (.getfield 9, 3) := by decide +kernel
theorem own_d11_14 : decode jdk_38_method_6_code 14 = .ok (.getstatic 39, 3) := by decide +kernel
theorem own_d11_17 : decode jdk_38_method_6_code 17 = .ok (.if_acmp .eq 28, 3) := by decide +kernel
theorem own_d11_45 : decode jdk_38_method_6_code 45 = .ok (.aload_n 0, 1) := by decide +kernel
theorem own_d11_46 : decode jdk_38_method_6_code 46 = .ok (.bipush 10, 2) := by decide +kernel
theorem own_d11_48 : decode jdk_38_method_6_code 48 = .ok (.iload_n 1, 1) := by decide +kernel
theorem own_d11_49 : decode jdk_38_method_6_code 49 = .ok (.invokestatic 79, 3) := by decide +kernel
theorem own_d11_52 : decode jdk_38_method_6_code 52 = .ok (.anewarray 7, 3) := by decide +kernel
theorem own_d11_55 : decode jdk_38_method_6_code 55 = .ok (.dup_x1, 1) := by decide +kernel
theorem own_d11_56 : decode jdk_38_method_6_code 56 = .ok (.putfield 9, 3) := by decide +kernel
theorem own_d11_59 : decode jdk_38_method_6_code 59 = .ok (.areturn, 1) := by decide +kernel
theorem own_pn11 : plainName "java/util/ArrayList" = true := by first | (simp [plainName, overriddenIn]; done) | decide +kernel
theorem own_pd11_0 : parseMethodDescriptor "(II)I" = some ⟨[.int, .int], some .int⟩ := by decide +kernel
theorem own_ef11 (m : MethodId) (a : Addr) (u : Int32) : entryFrame m #[(.ref a), (.int u)] 4 = mkF m 0 #[.val (.ref a), .val (.int u), .unset, .unset] [] := by first | (simp [entryFrame, mkF, argsToLocals, Value.category]; done) | rfl
def own_Q11 (Z : State) (a : Addr) (u : Int32) (de : Addr) (cde : Cell) (mc : Int32) (h0 : Heap) (n0 : Nat) (v : Option Value) (h : Heap) (L : List Loc) : Prop := Fr n0 L ∧ Keep h0 h [a] ∧ Exa Z h a "java/util/ArrayList" ∧ (∃ (b : Addr) (kb : ClassId), v = some (.ref b) ∧ h0.size ≤ b ∧ n0 ≤ b ∧ Exa Z h b "[Ljava/lang/Object;" ∧ Ovr Z kb "java/lang/Object" ∧ Arv Z h b kb (.object "java/lang/Object") (10 : Int32) [.null, .null, .null, .null, .null, .null, .null, .null, .null, .null] .null ∧ Fld Z h a "java/util/ArrayList" "elementData" "[Ljava/lang/Object;" (.ref b) ∧ Fld Z h a "java/util/ArrayList" "size" "I" (.int (0 : Int32)) ∧ Fld Z h a "java/util/AbstractList" "modCount" "I" (.int mc))
set_option maxRecDepth 65536 in
set_option maxHeartbeats 40000000 in
theorem own_rm11 (l : Launch) (Z : State) (a0 : Array Value) (hw : ∀ d ∈ tables_1, d.before a0 Z = true) (ws : List Jvm.Cond) (a : Addr) (u : Int32) (de : Addr) (cde : Cell) (mc : Int32) (h0 : Heap) (n0 : Nat) (Zs : n0 ≤ h0.size) (F_a_elementData : Fld Z h0 a "java/util/ArrayList" "elementData" "[Ljava/lang/Object;" (.ref de)) (F_a_size : Fld Z h0 a "java/util/ArrayList" "size" "I" (.int (0 : Int32))) (F_a_modCount : Fld Z h0 a "java/util/AbstractList" "modCount" "I" (.int mc)) (E_a : Exa Z h0 a "java/util/ArrayList") (g_a : n0 ≤ a) (OL : Old Z n0 h0) (S_de : Sta Z Z.heap "java/util/ArrayList" "DEFAULTCAPACITY_EMPTY_ELEMENTDATA" "[Ljava/lang/Object;" (.ref de)) (Ar_de : Arr Z Z.heap de cde (.object "java/lang/Object")) (Sz_de : cde.slots.size = 0) (hu : u.toInt ≤ 10) :
    MetFree l (⟨"java/util/ArrayList", "grow", "(I)[Ljava/lang/Object;"⟩ : MethodName) (head1 (Jvm.Cond.code (⟨"java/util/ArrayList", "grow", "(I)[Ljava/lang/Object;"⟩ : MethodName) jdk_38_method_6_code 4 (some (.array (.object "java/lang/Object"))) :: ws) ({ frames := 1, cells := 1, slots := 10, locals := 14 } : Room)) (fun aA_ U => aA_ = #[(.ref a), (.int u)] ∧ Z.Warmed39 U.vm ∧ U.heap = h0) (fun _ _ _ _ _ => True) (fun _ U o U' => ∃ v L, o = .returned v ∧ own_Q11 Z a u de cde mc h0 n0 v U'.heap L ∧ FrameEnd U o U' L ({ frames := 1, cells := 1, slots := 10, locals := 14 } : Room).cells ({ frames := 1, cells := 1, slots := 10, locals := 14 } : Room).slots) := by
  refine MetFree.of_bodySF (plainFor_of_name own_pn11) hisR ?_
  intro p e s m args below meth c s₁ Bd hml0 hP hK
  obtain ⟨rfl, hZ, hh⟩ := hP
  have hx := Bd.exec
  have hby := Bd.bytes
  have hml : c.maxLocals = 4 := hml0
  have hown : s.vm.findClass "java/util/ArrayList" = some m.cls := findClass_of_methodNamed Bd.named
  have hnm := (name_of_methodNamed Bd.named Bd.method).1
  have X0 : Stand p l e ({ frames := 1, cells := 1, slots := 10, locals := 14 } : Room) s m #[(.ref a), (.int u)] below meth c s₁ [] 0 0 := Stand.of_body Bd
  have e0 : s₁.heap = h0 := by rw [← hh, Bd.state]; rfl
  have NF := Fr.nil n0
  rw [own_ef11 m a u]
  show own_Dn p e below s (own_Q11 Z a u de cde mc h0 n0) 1 10 s₁ (mkF m 0 #[.val (.ref a), .val (.int u), .unset, .unset] [])
  have KP := Keep.refl h0 [a]
  refine own_go (T' := s₁) (g' := (mkF m 1 #[.val (.ref a), .val (.int u), .unset, .unset] [(.ref a)])) (fun _ k => XS.aloadN X0.here hx rfl (hb hby own_d11_0) rfl rfl k) ?_
  obtain ⟨T1, X1, e1, st1⟩ := getF X0 hx hZ hown (host := "") (Or.inl (hw _ (List.mem_of_getElem? (i := 77) rfl))) Via.refl e0 F_a_elementData (g := (mkF m 1 #[.val (.ref a), .val (.int u), .unset, .unset] [(.ref a)])) rfl rfl (hb hby own_d11_1)
  refine own_go (T' := T1) (g' := (mkF m 4 #[.val (.ref a), .val (.int u), .unset, .unset] [(.ref de)])) (fun _ k => st1 _ k) ?_
  have Ar := Ar_de.ext OL.2
  refine own_go (T' := T1) (g' := (mkF m 5 #[.val (.ref a), .val (.int u), .unset, .unset] [(.int (0 : Int32))])) (fun _ k => X1.arraylength hx (by rw [e1]; exact Ar.1) (State.isArrayOf_alike hZ.alike Ar.2.1) (g := (mkF m 4 #[.val (.ref a), .val (.int u), .unset, .unset] [(.ref de)])) rfl rfl (hb hby own_d11_4) _ (by rw [Sz_de]; exact k)) ?_
  refine own_go (T' := T1) (g' := (mkF m 6 #[.val (.ref a), .val (.int u), .val (.int (0 : Int32)), .unset] [])) (fun _ k => XS.istoreN X1.here hx rfl (hb hby own_d11_5) rfl (l' := #[.val (.ref a), .val (.int u), .val (.int (0 : Int32)), .unset]) rfl k) ?_
  refine own_go (T' := T1) (g' := (mkF m 7 #[.val (.ref a), .val (.int u), .val (.int (0 : Int32)), .unset] [(.int (0 : Int32))])) (fun _ k => XS.iloadN X1.here hx rfl (hb hby own_d11_6) rfl k) ?_
  refine own_go (T' := T1) (g' := (mkF m 10 #[.val (.ref a), .val (.int u), .val (.int (0 : Int32)), .unset] [])) (fun _ k => XS.ifNo X1.here hx rfl (hb hby own_d11_7) rfl (by decide) k) ?_
  refine own_go (T' := T1) (g' := (mkF m 11 #[.val (.ref a), .val (.int u), .val (.int (0 : Int32)), .unset] [(.ref a)])) (fun _ k => XS.aloadN X1.here hx rfl (hb hby own_d11_10) rfl rfl k) ?_
  obtain ⟨T2, X2, e2, st2⟩ := getF X1 hx hZ hown (host := "") (Or.inl (hw _ (List.mem_of_getElem? (i := 77) rfl))) Via.refl e1 F_a_elementData (g := (mkF m 11 #[.val (.ref a), .val (.int u), .val (.int (0 : Int32)), .unset] [(.ref a)])) rfl rfl (hb hby own_d11_11)
  refine own_go (T' := T2) (g' := (mkF m 14 #[.val (.ref a), .val (.int u), .val (.int (0 : Int32)), .unset] [(.ref de)])) (fun _ k => st2 _ k) ?_
  obtain ⟨T3, X3, e3, st3⟩ := getS2 X2 hx hZ hown (host := "") (Or.inl (hw _ (List.mem_of_getElem? (i := 76) rfl))) Via.refl e2 (S_de.ext OL.2) (g := (mkF m 14 #[.val (.ref a), .val (.int u), .val (.int (0 : Int32)), .unset] [(.ref de)])) rfl (hb hby own_d11_14)
  refine own_go (T' := T3) (g' := (mkF m 17 #[.val (.ref a), .val (.int u), .val (.int (0 : Int32)), .unset] [(.ref de), (.ref de)])) (fun _ k => st3 _ k) ?_
  refine own_go (T' := T3) (g' := (mkF m 45 #[.val (.ref a), .val (.int u), .val (.int (0 : Int32)), .unset] [])) (fun _ k => Jvm.RoadKit.acmp (g := (mkF m 17 #[.val (.ref a), .val (.int u), .val (.int (0 : Int32)), .unset] [(.ref de), (.ref de)])) X3 hx rfl rfl rfl (pc0 := 17) (pc' := 45) (same := true) rfl (hb hby own_d11_17) rfl (decide_eq_true rfl) (by decide) (by decide) k) ?_
  refine own_go (T' := T3) (g' := (mkF m 46 #[.val (.ref a), .val (.int u), .val (.int (0 : Int32)), .unset] [(.ref a)])) (fun _ k => XS.aloadN X3.here hx rfl (hb hby own_d11_45) rfl rfl k) ?_
  refine own_go (T' := T3) (g' := (mkF m 48 #[.val (.ref a), .val (.int u), .val (.int (0 : Int32)), .unset] [(.int (10 : Int32)), (.ref a)])) (fun _ k => XS.bipush X3.here hx rfl (hb hby own_d11_46) k) ?_
  refine own_go (T' := T3) (g' := (mkF m 49 #[.val (.ref a), .val (.int u), .val (.int (0 : Int32)), .unset] [(.int u), (.int (10 : Int32)), (.ref a)])) (fun _ k => XS.iloadN X3.here hx rfl (hb hby own_d11_48) rfl k) ?_
  obtain ⟨_, _, ⟨T5, L5, k5, n5⟩, -, X5, ⟨Lc5, hQ5, l5, y5, z5⟩, st5⟩ := Jvm.LawKit.callS X3 hx (y := (⟨"java/lang/Math", "max", "(II)I"⟩ : MethodName)) hown (mvT hZ (hw _ (List.mem_of_getElem? (i := 107) rfl))) (mvT hZ (hw _ (List.mem_of_getElem? (i := 108) rfl))) (mvT hZ (hw _ (List.mem_of_getElem? (i := 3) rfl))) (mvT hZ (hw _ (List.mem_of_getElem? (i := 109) rfl))) (by decide) (backOf (W := 1) (own_rm2 l Z a0 hw [] (10 : Int32) u h0 n0 Zs) hZ (hw _ (List.mem_of_getElem? (i := 109) rfl)) (hw _ (List.mem_of_getElem? (i := 3) rfl)) (by decide) (by decide)) (g := (mkF m 49 #[.val (.ref a), .val (.int u), .val (.int (0 : Int32)), .unset] [(.int u), (.int (10 : Int32)), (.ref a)])) rfl (by rw [hml]; rfl) (argsL := [(.int (10 : Int32)), (.int u)]) (rest := [(.ref a)]) (lenOf own_pd11_0 rfl) rfl (by show 2 * 0 + _ ≤ _; exact Nat.le_of_eq rfl) (hb hby own_d11_49) (fun _ _ => ⟨rfl, e3, (by decide : 0 + 0 ≤ _), (by decide : 0 + 0 ≤ _)⟩)
  dsimp only [Pt.U, Pt.locs, Pt.cells, Pt.slots] at X5 l5 y5 z5 st5 hQ5
  subst l5 y5 z5
  obtain ⟨zz5, rfl, NQ5, eq5, hz5⟩ := hQ5
  have NF := Fr.app NF NQ5
  simp only [own_l0, own_l1, own_l10, own_l128, own_l255, own_l2147483347, own_l2147483647, own_L0, own_L1] at hz5
  obtain rfl : zz5 = (10 : Int32) := Int32.toInt_inj.mp (by simp only [own_l0, own_l1, own_l10, own_l128, own_l255, own_l2147483347, own_l2147483647, own_L0, own_L1]; omega)
  refine own_go (T' := T5) (g' := (mkF m 52 #[.val (.ref a), .val (.int u), .val (.int (0 : Int32)), .unset] [(.int (10 : Int32)), (.ref a)])) (fun _ k => st5 _ k) ?_
  obtain ⟨T6, h6, k6, X6, e6, E6, A6, EA6, O6, st6⟩ := newRE X5 hx hZ hown (hw _ (List.mem_of_getElem? (i := 110) rfl)) (hw _ (List.mem_of_getElem? (i := 111) rfl)) eq5 (g := (mkF m 52 #[.val (.ref a), .val (.int u), .val (.int (0 : Int32)), .unset] [(.int (10 : Int32)), (.ref a)])) rfl (hb hby own_d11_52) rfl (by decide) (cap := 10) (by decide) (by decide) (by decide) (by decide) (ad := "[Ljava/lang/Object;") (by decide)
  obtain ⟨b6, g6⟩ : ∃ z, z = h0.size := ⟨_, rfl⟩
  rw [← g6] at A6 EA6 st6
  have ne_a_b6 : a ≠ b6 := Nat.ne_of_lt (Nat.lt_of_lt_of_le E_a.lt (Nat.le_of_eq g6.symm))
  have g_b6 : n0 ≤ b6 := Nat.le_trans Zs (Nat.le_of_eq g6.symm)
  have sz_b6 : h0.size ≤ b6 := Nat.le_trans KP.1 (Nat.le_of_eq g6.symm)
  have E_a := E_a.ext E6
  have F_a_elementData := F_a_elementData.ext E6
  have F_a_size := F_a_size.ext E6
  have F_a_modCount := F_a_modCount.ext E6
  have OL := OL.ext E6
  have KP := KP.ext E6
  have Zs := Nat.le_trans Zs E6.1
  have E_b6 := EA6
  have O_b6 := O6
  have V_b6 : Arv Z h6 b6 k6 (.object "java/lang/Object") (10 : Int32) [.null, .null, .null, .null, .null, .null, .null, .null, .null, .null] .null := (Arv.new A6 (by decide)).pad (pad_rep [] .null 10)
  refine own_go (T' := T6) (g' := (mkF m 55 #[.val (.ref a), .val (.int u), .val (.int (0 : Int32)), .unset] [(.ref b6), (.ref a)])) (fun _ k => st6 _ k) ?_
  refine own_go (T' := T6) (g' := (mkF m 56 #[.val (.ref a), .val (.int u), .val (.int (0 : Int32)), .unset] [(.ref b6), (.ref a), (.ref b6)])) (fun _ k => XS.dupX1 X6.here hx rfl (hb hby own_d11_55) rfl rfl rfl k) ?_
  obtain ⟨T7, h7, X7, e7, W7, st7⟩ := putF X6 hx hZ hown (host := "") (Or.inl (hw _ (List.mem_of_getElem? (i := 77) rfl))) Via.refl e6 F_a_elementData E_a (Or.inl (hw _ (List.mem_of_getElem? (i := 78) rfl))) (hw _ (List.mem_of_getElem? (i := 56) rfl)) (ty := (.array (.object "java/lang/Object"))) (by decide) rfl rfl (g := (mkF m 56 #[.val (.ref a), .val (.int u), .val (.int (0 : Int32)), .unset] [(.ref b6), (.ref a), (.ref b6)])) rfl rfl (hb hby own_d11_56)
  have E_a := E_a.wr W7
  have F_a_size := F_a_size.other W7 (Or.inr (slot_ne (Or.inl (hw _ (List.mem_of_getElem? (i := 91) rfl))) (Or.inl (hw _ (List.mem_of_getElem? (i := 78) rfl))) (by decide) (t := .int) (t' := (.array (.object "java/lang/Object"))) (by decide) (by decide)))
  have F_a_modCount := F_a_modCount.other W7 (Or.inr (slot_ne (Or.inl (hw _ (List.mem_of_getElem? (i := 75) rfl))) (Or.inl (hw _ (List.mem_of_getElem? (i := 78) rfl))) (by decide) (t := .int) (t' := (.array (.object "java/lang/Object"))) (by decide) (by decide)))
  have OL := OL.wr W7 g_a
  have E_b6 := E_b6.wr W7
  have V_b6 := V_b6.other W7 (Ne.symm ne_a_b6)
  have Zs := Nat.le_trans Zs (Keep.of_wr W7).1
  have F_a_elementData := F_a_elementData.same W7
  have KP := KP.wr W7 (Or.inl (by simp))
  have NF := Fr.snoc X7 NF g_a
  refine own_go (T' := T7) (g' := (mkF m 59 #[.val (.ref a), .val (.int u), .val (.int (0 : Int32)), .unset] [(.ref b6)])) (fun _ k => st7 _ k) ?_
  refine own_ret X7 Bd.notSynchronized (some (.ref b6)) (fun h => by rw [Bd.returns] at h; cases h) (fun fs hr => retOut X7 hx (t := (.array (.object "java/lang/Object"))) Bd.returns rfl (Or.inr (Or.inr (Or.inr (Or.inr ⟨rfl, rfl, rfl⟩)))) (hb hby own_d11_59) hr) ?_ (by decide) (by decide)
  show (own_Q11 Z a u de cde mc h0 n0) (some (.ref b6)) T7.heap _
  rw [e7]
  exact ⟨NF, KP, E_a, b6, k6, rfl, sz_b6, g_b6, E_b6, O_b6, V_b6, F_a_elementData, F_a_size, F_a_modCount⟩
theorem own_d12_0 : decode jdk_38_method_7_code 0 = .ok (.aload_n 0, 1) := by decide +kernel
theorem own_d12_1 : decode jdk_38_method_7_code 1 = .ok (.aload_n 0, 1) := by decide +kernel
theorem own_d12_2 : decode jdk_38_method_7_code 2 = .ok (.getfield 48, 3) := by decide +kernel
theorem own_d12_5 : decode jdk_38_method_7_code 5 = .ok (.iconst 1, 1) := by decide +kernel
theorem own_d12_6 : decode jdk_38_method_7_code 6 = .ok (.iadd, 1) := by decide +kernel
theorem own_d12_7 : decode jdk_38_method_7_code 7 = .ok (.invokevirtual 69, 3) := by decide +kernel
theorem own_d12_10 : decode jdk_38_method_7_code 10 = .ok (.areturn, 1) := by decide +kernel
theorem own_pn12 : plainName "java/util/ArrayList" = true := by first | (simp [plainName, overriddenIn]; done) | decide +kernel
theorem own_pd12_0 : parseMethodDescriptor "(I)[Ljava/lang/Object;" = some ⟨[.int], some (.array (.object "java/lang/Object"))⟩ := by decide +kernel
theorem own_ef12 (m : MethodId) (a : Addr) : entryFrame m #[(.ref a)] 1 = mkF m 0 #[.val (.ref a)] [] := by first | (simp [entryFrame, mkF, argsToLocals, Value.category]; done) | rfl
def own_Q12 (Z : State) (a : Addr) (de : Addr) (cde : Cell) (mc : Int32) (h0 : Heap) (n0 : Nat) (v : Option Value) (h : Heap) (L : List Loc) : Prop := Fr n0 L ∧ Keep h0 h [a] ∧ Exa Z h a "java/util/ArrayList" ∧ (∃ (b : Addr) (kb : ClassId), v = some (.ref b) ∧ h0.size ≤ b ∧ n0 ≤ b ∧ Exa Z h b "[Ljava/lang/Object;" ∧ Ovr Z kb "java/lang/Object" ∧ Arv Z h b kb (.object "java/lang/Object") (10 : Int32) [.null, .null, .null, .null, .null, .null, .null, .null, .null, .null] .null ∧ Fld Z h a "java/util/ArrayList" "elementData" "[Ljava/lang/Object;" (.ref b) ∧ Fld Z h a "java/util/ArrayList" "size" "I" (.int (0 : Int32)) ∧ Fld Z h a "java/util/AbstractList" "modCount" "I" (.int mc))
set_option maxRecDepth 65536 in
set_option maxHeartbeats 40000000 in
theorem own_rm12 (l : Launch) (Z : State) (a0 : Array Value) (hw : ∀ d ∈ tables_1, d.before a0 Z = true) (ws : List Jvm.Cond) (a : Addr) (de : Addr) (cde : Cell) (mc : Int32) (h0 : Heap) (n0 : Nat) (Zs : n0 ≤ h0.size) (F_a_elementData : Fld Z h0 a "java/util/ArrayList" "elementData" "[Ljava/lang/Object;" (.ref de)) (F_a_size : Fld Z h0 a "java/util/ArrayList" "size" "I" (.int (0 : Int32))) (F_a_modCount : Fld Z h0 a "java/util/AbstractList" "modCount" "I" (.int mc)) (E_a : Exa Z h0 a "java/util/ArrayList") (g_a : n0 ≤ a) (OL : Old Z n0 h0) (S_de : Sta Z Z.heap "java/util/ArrayList" "DEFAULTCAPACITY_EMPTY_ELEMENTDATA" "[Ljava/lang/Object;" (.ref de)) (Ar_de : Arr Z Z.heap de cde (.object "java/lang/Object")) (Sz_de : cde.slots.size = 0) :
    MetFree l (⟨"java/util/ArrayList", "grow", "()[Ljava/lang/Object;"⟩ : MethodName) (head1 (Jvm.Cond.code (⟨"java/util/ArrayList", "grow", "()[Ljava/lang/Object;"⟩ : MethodName) jdk_38_method_7_code 1 (some (.array (.object "java/lang/Object"))) :: ws) ({ frames := 2, cells := 1, slots := 10, locals := 29 } : Room)) (fun aA_ U => aA_ = #[(.ref a)] ∧ Z.Warmed39 U.vm ∧ U.heap = h0) (fun _ _ _ _ _ => True) (fun _ U o U' => ∃ v L, o = .returned v ∧ own_Q12 Z a de cde mc h0 n0 v U'.heap L ∧ FrameEnd U o U' L ({ frames := 2, cells := 1, slots := 10, locals := 29 } : Room).cells ({ frames := 2, cells := 1, slots := 10, locals := 29 } : Room).slots) := by
  refine MetFree.of_bodySF (plainFor_of_name own_pn12) hisR ?_
  intro p e s m args below meth c s₁ Bd hml0 hP hK
  obtain ⟨rfl, hZ, hh⟩ := hP
  have hx := Bd.exec
  have hby := Bd.bytes
  have hml : c.maxLocals = 1 := hml0
  have hown : s.vm.findClass "java/util/ArrayList" = some m.cls := findClass_of_methodNamed Bd.named
  have hnm := (name_of_methodNamed Bd.named Bd.method).1
  have X0 : Stand p l e ({ frames := 2, cells := 1, slots := 10, locals := 29 } : Room) s m #[(.ref a)] below meth c s₁ [] 0 0 := Stand.of_body Bd
  have e0 : s₁.heap = h0 := by rw [← hh, Bd.state]; rfl
  have NF := Fr.nil n0
  rw [own_ef12 m a]
  show own_Dn p e below s (own_Q12 Z a de cde mc h0 n0) 1 10 s₁ (mkF m 0 #[.val (.ref a)] [])
  have KP := Keep.refl h0 [a]
  refine own_go (T' := s₁) (g' := (mkF m 1 #[.val (.ref a)] [(.ref a)])) (fun _ k => XS.aloadN X0.here hx rfl (hb hby own_d12_0) rfl rfl k) ?_
  refine own_go (T' := s₁) (g' := (mkF m 2 #[.val (.ref a)] [(.ref a), (.ref a)])) (fun _ k => XS.aloadN X0.here hx rfl (hb hby own_d12_1) rfl rfl k) ?_
  obtain ⟨T1, X1, e1, st1⟩ := getF X0 hx hZ hown (host := "") (Or.inl (hw _ (List.mem_of_getElem? (i := 90) rfl))) Via.refl e0 F_a_size (g := (mkF m 2 #[.val (.ref a)] [(.ref a), (.ref a)])) rfl rfl (hb hby own_d12_2)
  refine own_go (T' := T1) (g' := (mkF m 5 #[.val (.ref a)] [(.int (0 : Int32)), (.ref a)])) (fun _ k => st1 _ k) ?_
  refine own_go (T' := T1) (g' := (mkF m 6 #[.val (.ref a)] [(.int (1 : Int32)), (.int (0 : Int32)), (.ref a)])) (fun _ k => XS.iconst X1.here hx rfl (hb hby own_d12_5) k) ?_
  refine own_go (T' := T1) (g' := (mkF m 7 #[.val (.ref a)] [(.int (1 : Int32)), (.ref a)])) (fun _ k => XS.iadd X1.here hx rfl (hb hby own_d12_6) rfl k) ?_
  have lt_a := E_a.lt
  have ZsO := Zs
  have KPo := KP
  obtain ⟨cq2, q2, q2'⟩ := E_a.cell
  obtain ⟨_, _, ⟨T2, L2, k2, n2⟩, -, X2, ⟨Lc2, hQ2, l2, y2, z2⟩, st2⟩ := X1.privateBack hx (y := (⟨"java/util/ArrayList", "grow", "(I)[Ljava/lang/Object;"⟩ : MethodName)) hown (mvT hZ (hw _ (List.mem_of_getElem? (i := 102) rfl))) (mvT hZ (hw _ (List.mem_of_getElem? (i := 103) rfl))) (mvT hZ (hw _ (List.mem_of_getElem? (i := 105) rfl))) (Cond.privateMethod_at (mvP hZ (hw _ (List.mem_of_getElem? (i := 104) rfl)) (args := #[]))) (mvT hZ (hw _ (List.mem_of_getElem? (i := 106) rfl))) (by decide) (backOf (W := 0) (own_rm11 l Z a0 hw [] a (1 : Int32) de cde mc h0 n0 Zs F_a_elementData F_a_size F_a_modCount E_a g_a OL S_de Ar_de Sz_de (by decide)) hZ (hw _ (List.mem_of_getElem? (i := 106) rfl)) (hw _ (List.mem_of_getElem? (i := 57) rfl)) (by decide) (by decide)) (g := (mkF m 7 #[.val (.ref a)] [(.int (1 : Int32)), (.ref a)])) rfl (by rw [hml]; rfl) (Steps.refl _) (a := a) (by rw [e1]; exact q2) q2' (argsL := [(.int (1 : Int32))]) (rest := []) (lenOf own_pd12_0 rfl) rfl (by show 2 * 0 + _ ≤ _; exact Nat.le_of_eq rfl) (hb hby own_d12_7) (fun _ _ => ⟨rfl, e1, (by decide : 0 + 1 ≤ _), (by decide : 0 + 10 ≤ _)⟩)
  dsimp only [Pt.U, Pt.locs, Pt.cells, Pt.slots] at X2 l2 y2 z2 st2 hQ2
  subst l2 y2 z2
  obtain ⟨NQ2, K2, E_a, nb, knb, rfl, ge_nb, g_nb, E_nb, O_nb, V_nb, F_a_elementData, F_a_size, F_a_modCount⟩ := hQ2
  have NF := Fr.app NF NQ2
  have OL := OL.keep K2 (allS g_a all0)
  have Zs := Nat.le_trans Zs K2.1
  have KP := KP.trans K2 ((allS (Or.inl (by simp)) all0))
  have ne_a_nb : a ≠ nb := Nat.ne_of_lt (Nat.lt_of_lt_of_le lt_a ge_nb)
  have sz_nb : h0.size ≤ nb := Nat.le_trans KPo.1 ge_nb
  refine own_go (T' := T2) (g' := (mkF m 10 #[.val (.ref a)] [(.ref nb)])) (fun _ k => st2.trans k) ?_
  refine own_ret X2 Bd.notSynchronized (some (.ref nb)) (fun h => by rw [Bd.returns] at h; cases h) (fun fs hr => retOut X2 hx (t := (.array (.object "java/lang/Object"))) Bd.returns rfl (Or.inr (Or.inr (Or.inr (Or.inr ⟨rfl, rfl, rfl⟩)))) (hb hby own_d12_10) hr) ?_ (by decide) (by decide)
  show (own_Q12 Z a de cde mc h0 n0) (some (.ref nb)) T2.heap _
  exact ⟨NF, KP, E_a, nb, knb, rfl, sz_nb, g_nb, E_nb, O_nb, V_nb, F_a_elementData, F_a_size, F_a_modCount⟩
theorem own_d13p_0 : decode jdk_38_method_24_code 0 = .ok (.iload_n 3, 1) := by decide +kernel
theorem own_d13p_1 : decode jdk_38_method_24_code 1 = .ok (.aload_n 2, 1) := by decide +kernel
theorem own_d13p_2 : decode jdk_38_method_24_code 2 = .ok (.arraylength, 1) := by decide +kernel
theorem own_d13p_3 : decode jdk_38_method_24_code 3 = .ok (.if_icmp .ne 8, 3) := by decide +kernel
theorem own_d13p_6 : decode jdk_38_method_24_code 6 = .ok (.aload_n 0, 1) := by decide +kernel
theorem own_d13p_7 : decode jdk_38_method_24_code 7 = .ok (.invokevirtual 129, 3) := by decide +kernel
theorem own_d13p_10 : decode jdk_38_method_24_code 10 = .ok (.astore_n 2, 1) := by decide +kernel
theorem own_d13p_11 : decode jdk_38_method_24_code 11 = .ok (.aload_n 2, 1) := by decide +kernel
theorem own_d13p_12 : decode jdk_38_method_24_code 12 = .ok (.iload_n 3, 1) := by decide +kernel
theorem own_d13p_13 : decode jdk_38_method_24_code 13 = .ok (.aload_n 1, 1) := by decide +kernel
theorem own_d13p_14 : decode jdk_38_method_24_code 14 = .ok (.aastore, 1) := by decide +kernel
theorem own_d13p_15 : decode jdk_38_method_24_code 15 = .ok (.aload_n 0, 1) := by decide +kernel
theorem own_d13p_16 : decode jdk_38_method_24_code 16 = .ok (.iload_n 3, 1) := by decide +kernel
theorem own_d13p_17 : decode jdk_38_method_24_code 17 = .ok (.iconst 1, 1) := by decide +kernel
theorem own_d13p_18 : decode jdk_38_method_24_code 18 = .ok (.iadd, 1) := by decide +kernel
theorem own_d13p_19 : decode jdk_38_method_24_code 19 = .ok (.putfield 48, 3) := by decide +kernel
theorem own_d13p_22 : decode jdk_38_method_24_code 22 = .ok (.return_, 1) := by decide +kernel
theorem own_pn13p : plainName "java/util/ArrayList" = true := by first | (simp [plainName, overriddenIn]; done) | decide +kernel
theorem own_pd13p_0 : parseMethodDescriptor "()[Ljava/lang/Object;" = some ⟨[], some (.array (.object "java/lang/Object"))⟩ := by decide +kernel
theorem own_ef13p (m : MethodId) (a : Addr) (x : Addr) (de : Addr) : entryFrame m #[(.ref a), (.ref x), (.ref de), (.int (0 : Int32))] 4 = mkF m 0 #[.val (.ref a), .val (.ref x), .val (.ref de), .val (.int (0 : Int32))] [] := by first | (simp [entryFrame, mkF, argsToLocals, Value.category]; done) | rfl
def own_Q13p (Z : State) (a : Addr) (x : Addr) (de : Addr) (cde : Cell) (mc : Int32) (h0 : Heap) (n0 : Nat) (v : Option Value) (h : Heap) (L : List Loc) : Prop := v = none ∧ Fr n0 L ∧ Keep h0 h [a] ∧ Exa Z h a "java/util/ArrayList" ∧ (∃ (b : Addr) (kb : ClassId), h0.size ≤ b ∧ n0 ≤ b ∧ Arv Z h b kb (.object "java/lang/Object") (10 : Int32) [.ref x, .null, .null, .null, .null, .null, .null, .null, .null, .null] .null ∧ Fld Z h a "java/util/ArrayList" "elementData" "[Ljava/lang/Object;" (.ref b) ∧ Fld Z h a "java/util/ArrayList" "size" "I" (.int (1 : Int32)) ∧ Fld Z h a "java/util/AbstractList" "modCount" "I" (.int mc))
set_option maxRecDepth 65536 in
set_option maxHeartbeats 40000000 in
theorem own_rm13p (l : Launch) (Z : State) (a0 : Array Value) (hw : ∀ d ∈ tables_1, d.before a0 Z = true) (ws : List Jvm.Cond) (a : Addr) (x : Addr) (de : Addr) (cde : Cell) (mc : Int32) (h0 : Heap) (n0 : Nat) (Zs : n0 ≤ h0.size) (F_a_elementData : Fld Z h0 a "java/util/ArrayList" "elementData" "[Ljava/lang/Object;" (.ref de)) (F_a_size : Fld Z h0 a "java/util/ArrayList" "size" "I" (.int (0 : Int32))) (F_a_modCount : Fld Z h0 a "java/util/AbstractList" "modCount" "I" (.int mc)) (E_a : Exa Z h0 a "java/util/ArrayList") (g_a : n0 ≤ a) (E_x : Exa Z h0 x "com/example/ordence/ordence/IntVariable") (OL : Old Z n0 h0) (S_de : Sta Z Z.heap "java/util/ArrayList" "DEFAULTCAPACITY_EMPTY_ELEMENTDATA" "[Ljava/lang/Object;" (.ref de)) (Ar_de : Arr Z Z.heap de cde (.object "java/lang/Object")) (Sz_de : cde.slots.size = 0) (ne_a_x : a ≠ x) :
    MetFree l (⟨"java/util/ArrayList", "add", "(Ljava/lang/Object;[Ljava/lang/Object;I)V"⟩ : MethodName) (head1 (Jvm.Cond.code (⟨"java/util/ArrayList", "add", "(Ljava/lang/Object;[Ljava/lang/Object;I)V"⟩ : MethodName) jdk_38_method_24_code 4 none :: ws) ({ frames := 3, cells := 1, slots := 10, locals := 41 } : Room)) (fun aA_ U => aA_ = #[(.ref a), (.ref x), (.ref de), (.int (0 : Int32))] ∧ Z.Warmed39 U.vm ∧ U.heap = h0) (fun _ _ _ _ _ => True) (fun _ U o U' => ∃ v L, o = .returned v ∧ own_Q13p Z a x de cde mc h0 n0 v U'.heap L ∧ FrameEnd U o U' L ({ frames := 3, cells := 1, slots := 10, locals := 41 } : Room).cells ({ frames := 3, cells := 1, slots := 10, locals := 41 } : Room).slots) := by
  refine MetFree.of_bodySF (plainFor_of_name own_pn13p) hisR ?_
  intro p e s m args below meth c s₁ Bd hml0 hP hK
  obtain ⟨rfl, hZ, hh⟩ := hP
  have hx := Bd.exec
  have hby := Bd.bytes
  have hml : c.maxLocals = 4 := hml0
  have hown : s.vm.findClass "java/util/ArrayList" = some m.cls := findClass_of_methodNamed Bd.named
  have hnm := (name_of_methodNamed Bd.named Bd.method).1
  have X0 : Stand p l e ({ frames := 3, cells := 1, slots := 10, locals := 41 } : Room) s m #[(.ref a), (.ref x), (.ref de), (.int (0 : Int32))] below meth c s₁ [] 0 0 := Stand.of_body Bd
  have e0 : s₁.heap = h0 := by rw [← hh, Bd.state]; rfl
  have NF := Fr.nil n0
  rw [own_ef13p m a x de]
  show own_Dn p e below s (own_Q13p Z a x de cde mc h0 n0) 1 10 s₁ (mkF m 0 #[.val (.ref a), .val (.ref x), .val (.ref de), .val (.int (0 : Int32))] [])
  have KP := Keep.refl h0 [a]
  refine own_go (T' := s₁) (g' := (mkF m 1 #[.val (.ref a), .val (.ref x), .val (.ref de), .val (.int (0 : Int32))] [(.int (0 : Int32))])) (fun _ k => XS.iloadN X0.here hx rfl (hb hby own_d13p_0) rfl k) ?_
  refine own_go (T' := s₁) (g' := (mkF m 2 #[.val (.ref a), .val (.ref x), .val (.ref de), .val (.int (0 : Int32))] [(.ref de), (.int (0 : Int32))])) (fun _ k => XS.aloadN X0.here hx rfl (hb hby own_d13p_1) rfl rfl k) ?_
  have Ar := Ar_de.ext OL.2
  refine own_go (T' := s₁) (g' := (mkF m 3 #[.val (.ref a), .val (.ref x), .val (.ref de), .val (.int (0 : Int32))] [(.int (0 : Int32)), (.int (0 : Int32))])) (fun _ k => X0.arraylength hx (by rw [e0]; exact Ar.1) (State.isArrayOf_alike hZ.alike Ar.2.1) (g := (mkF m 2 #[.val (.ref a), .val (.ref x), .val (.ref de), .val (.int (0 : Int32))] [(.ref de), (.int (0 : Int32))])) rfl rfl (hb hby own_d13p_2) _ (by rw [Sz_de]; exact k)) ?_
  refine own_go (T' := s₁) (g' := (mkF m 6 #[.val (.ref a), .val (.ref x), .val (.ref de), .val (.int (0 : Int32))] [])) (fun _ k => XS.icmpNo X0.here hx rfl (hb hby own_d13p_3) rfl (by decide) k) ?_
  refine own_go (T' := s₁) (g' := (mkF m 7 #[.val (.ref a), .val (.ref x), .val (.ref de), .val (.int (0 : Int32))] [(.ref a)])) (fun _ k => XS.aloadN X0.here hx rfl (hb hby own_d13p_6) rfl rfl k) ?_
  have lt_a := E_a.lt
  have lt_x := E_x.lt
  have ZsO := Zs
  have KPo := KP
  obtain ⟨cq1, q1, q1'⟩ := E_a.cell
  obtain ⟨_, _, ⟨T1, L1, k1, n1⟩, -, X1, ⟨Lc1, hQ1, l1, y1, z1⟩, st1⟩ := X0.privateBack hx (y := (⟨"java/util/ArrayList", "grow", "()[Ljava/lang/Object;"⟩ : MethodName)) hown (mvT hZ (hw _ (List.mem_of_getElem? (i := 97) rfl))) (mvT hZ (hw _ (List.mem_of_getElem? (i := 98) rfl))) (mvT hZ (hw _ (List.mem_of_getElem? (i := 100) rfl))) (Cond.privateMethod_at (mvP hZ (hw _ (List.mem_of_getElem? (i := 99) rfl)) (args := #[]))) (mvT hZ (hw _ (List.mem_of_getElem? (i := 101) rfl))) (by decide) (backOf (W := 0) (own_rm12 l Z a0 hw [] a de cde mc h0 n0 Zs F_a_elementData F_a_size F_a_modCount E_a g_a OL S_de Ar_de Sz_de) hZ (hw _ (List.mem_of_getElem? (i := 101) rfl)) (hw _ (List.mem_of_getElem? (i := 57) rfl)) (by decide) (by decide)) (g := (mkF m 7 #[.val (.ref a), .val (.ref x), .val (.ref de), .val (.int (0 : Int32))] [(.ref a)])) rfl (by rw [hml]; rfl) (Steps.refl _) (a := a) (by rw [e0]; exact q1) q1' (argsL := []) (rest := []) (lenOf own_pd13p_0 rfl) rfl (by show 2 * 0 + _ ≤ _; exact Nat.le_of_eq rfl) (hb hby own_d13p_7) (fun _ _ => ⟨rfl, e0, (by decide : 0 + 1 ≤ _), (by decide : 0 + 10 ≤ _)⟩)
  dsimp only [Pt.U, Pt.locs, Pt.cells, Pt.slots] at X1 l1 y1 z1 st1 hQ1
  subst l1 y1 z1
  obtain ⟨NQ1, K1, E_a, nb, knb, rfl, ge_nb, g_nb, E_nb, O_nb, V_nb, F_a_elementData, F_a_size, F_a_modCount⟩ := hQ1
  have NF := Fr.app NF NQ1
  have OL := OL.keep K1 (allS g_a all0)
  have E_x := E_x.keep K1
  have Zs := Nat.le_trans Zs K1.1
  have KP := KP.trans K1 ((allS (Or.inl (by simp)) all0))
  have ne_a_nb : a ≠ nb := Nat.ne_of_lt (Nat.lt_of_lt_of_le lt_a ge_nb)
  have ne_x_nb : x ≠ nb := Nat.ne_of_lt (Nat.lt_of_lt_of_le lt_x ge_nb)
  have sz_nb : h0.size ≤ nb := Nat.le_trans KPo.1 ge_nb
  refine own_go (T' := T1) (g' := (mkF m 10 #[.val (.ref a), .val (.ref x), .val (.ref de), .val (.int (0 : Int32))] [(.ref nb)])) (fun _ k => st1.trans k) ?_
  refine own_go (T' := T1) (g' := (mkF m 11 #[.val (.ref a), .val (.ref x), .val (.ref nb), .val (.int (0 : Int32))] [])) (fun _ k => XS.astoreN X1.here hx rfl (hb hby own_d13p_10) rfl rfl (l' := #[.val (.ref a), .val (.ref x), .val (.ref nb), .val (.int (0 : Int32))]) rfl k) ?_
  refine own_go (T' := T1) (g' := (mkF m 12 #[.val (.ref a), .val (.ref x), .val (.ref nb), .val (.int (0 : Int32))] [(.ref nb)])) (fun _ k => XS.aloadN X1.here hx rfl (hb hby own_d13p_11) rfl rfl k) ?_
  refine own_go (T' := T1) (g' := (mkF m 13 #[.val (.ref a), .val (.ref x), .val (.ref nb), .val (.int (0 : Int32))] [(.int (0 : Int32)), (.ref nb)])) (fun _ k => XS.iloadN X1.here hx rfl (hb hby own_d13p_12) rfl k) ?_
  refine own_go (T' := T1) (g' := (mkF m 14 #[.val (.ref a), .val (.ref x), .val (.ref nb), .val (.int (0 : Int32))] [(.ref x), (.int (0 : Int32)), (.ref nb)])) (fun _ k => XS.aloadN X1.here hx rfl (hb hby own_d13p_13) rfl rfl k) ?_
  obtain ⟨c_2, Ar_2, q_2, S_2, N_2, H_2, G_2⟩ := id V_nb
  have hin_2 : ¬ ((0 : Int32) < 0 ∨ c_2.slots.size ≤ ((0 : Int32)).toNatClampNeg) := inb_of S_2 ⟨by decide, by decide⟩
  obtain ⟨T2, h2, X2, e2, W2, st2⟩ := stR X1 hx hZ rfl Ar_2 (j := (0 : Int32)) hin_2 rfl (Sto.ofV Ar_2 q_2 O_nb (Ins.of_exa E_x (hw _ (List.mem_of_getElem? (i := 112) rfl)))) (g := (mkF m 14 #[.val (.ref a), .val (.ref x), .val (.ref nb), .val (.int (0 : Int32))] [(.ref x), (.int (0 : Int32)), (.ref nb)])) rfl rfl (hb hby own_d13p_14)
  have E_a := E_a.wr W2
  have F_a_elementData := F_a_elementData.other W2 (Or.inl ne_a_nb)
  have F_a_size := F_a_size.other W2 (Or.inl ne_a_nb)
  have F_a_modCount := F_a_modCount.other W2 (Or.inl ne_a_nb)
  have OL := OL.wr W2 g_nb
  have E_x := E_x.wr W2
  have E_nb := E_nb.wr W2
  have Zs := Nat.le_trans Zs (Keep.of_wr W2).1
  have V_nb := Arv.set Ar_2 q_2 S_2 N_2 H_2 G_2 rfl W2 0 rfl (Nat.le_of_ble_eq_true rfl)
  have KP := KP.wr W2 (Or.inr sz_nb)
  have NF := Fr.snoc X2 NF g_nb
  refine own_go (T' := T2) (g' := (mkF m 15 #[.val (.ref a), .val (.ref x), .val (.ref nb), .val (.int (0 : Int32))] [])) (fun _ k => st2 _ k) ?_
  refine own_go (T' := T2) (g' := (mkF m 16 #[.val (.ref a), .val (.ref x), .val (.ref nb), .val (.int (0 : Int32))] [(.ref a)])) (fun _ k => XS.aloadN X2.here hx rfl (hb hby own_d13p_15) rfl rfl k) ?_
  refine own_go (T' := T2) (g' := (mkF m 17 #[.val (.ref a), .val (.ref x), .val (.ref nb), .val (.int (0 : Int32))] [(.int (0 : Int32)), (.ref a)])) (fun _ k => XS.iloadN X2.here hx rfl (hb hby own_d13p_16) rfl k) ?_
  refine own_go (T' := T2) (g' := (mkF m 18 #[.val (.ref a), .val (.ref x), .val (.ref nb), .val (.int (0 : Int32))] [(.int (1 : Int32)), (.int (0 : Int32)), (.ref a)])) (fun _ k => XS.iconst X2.here hx rfl (hb hby own_d13p_17) k) ?_
  refine own_go (T' := T2) (g' := (mkF m 19 #[.val (.ref a), .val (.ref x), .val (.ref nb), .val (.int (0 : Int32))] [(.int (1 : Int32)), (.ref a)])) (fun _ k => XS.iadd X2.here hx rfl (hb hby own_d13p_18) rfl k) ?_
  obtain ⟨T3, h3, X3, e3, W3, st3⟩ := putF X2 hx hZ hown (host := "") (Or.inl (hw _ (List.mem_of_getElem? (i := 90) rfl))) Via.refl e2 F_a_size E_a (Or.inl (hw _ (List.mem_of_getElem? (i := 91) rfl))) (hw _ (List.mem_of_getElem? (i := 56) rfl)) (ty := .int) (by decide) rfl rfl (g := (mkF m 19 #[.val (.ref a), .val (.ref x), .val (.ref nb), .val (.int (0 : Int32))] [(.int (1 : Int32)), (.ref a)])) rfl rfl (hb hby own_d13p_19)
  have E_a := E_a.wr W3
  have F_a_elementData := F_a_elementData.other W3 (Or.inr (slot_ne (Or.inl (hw _ (List.mem_of_getElem? (i := 78) rfl))) (Or.inl (hw _ (List.mem_of_getElem? (i := 91) rfl))) (by decide) (t := (.array (.object "java/lang/Object"))) (t' := .int) (by decide) (by decide)))
  have F_a_modCount := F_a_modCount.other W3 (Or.inr (slot_ne (Or.inl (hw _ (List.mem_of_getElem? (i := 75) rfl))) (Or.inl (hw _ (List.mem_of_getElem? (i := 91) rfl))) (by decide) (t := .int) (t' := .int) (by decide) (by decide)))
  have OL := OL.wr W3 g_a
  have E_x := E_x.wr W3
  have E_nb := E_nb.wr W3
  have V_nb := V_nb.other W3 (Ne.symm ne_a_nb)
  have Zs := Nat.le_trans Zs (Keep.of_wr W3).1
  have F_a_size := F_a_size.same W3
  have KP := KP.wr W3 (Or.inl (by simp))
  have NF := Fr.snoc X3 NF g_a
  refine own_go (T' := T3) (g' := (mkF m 22 #[.val (.ref a), .val (.ref x), .val (.ref nb), .val (.int (0 : Int32))] [])) (fun _ k => st3 _ k) ?_
  refine own_ret X3 Bd.notSynchronized none (fun _ => rfl) (fun fs hr => X3.returnOut hx Bd.returns (hb hby own_d13p_22) hr) ?_ (by decide) (by decide)
  show (own_Q13p Z a x de cde mc h0 n0) none T3.heap _
  rw [e3]
  exact ⟨rfl, NF, KP, E_a, nb, knb, sz_nb, g_nb, V_nb, F_a_elementData, F_a_size, F_a_modCount⟩
theorem own_d13_0 : decode jdk_38_method_25_code 0 = .ok (.aload_n 0, 1) := by decide +kernel
theorem own_d13_1 : decode jdk_38_method_25_code 1 = .ok (.dup, 1) := by decide +kernel
theorem own_d13_2 : decode jdk_38_method_25_code 2 = .ok (.getfield 63, 3) := by decide +kernel
theorem own_d13_5 : decode jdk_38_method_25_code 5 = .ok (.iconst 1, 1) := by decide +kernel
theorem own_d13_6 : decode jdk_38_method_25_code 6 = .ok (.iadd, 1) := by decide +kernel
theorem own_d13_7 : decode jdk_38_method_25_code 7 = .ok (.putfield 63, 3) := by decide +kernel
theorem own_d13_10 : decode jdk_38_method_25_code 10 = .ok (.aload_n 0, 1) := by decide +kernel
theorem own_d13_11 : decode jdk_38_method_25_code 11 = .ok (.aload_n 1, 1) := by decide +kernel
theorem own_d13_12 : decode jdk_38_method_25_code 12 = .ok (.aload_n 0, 1) := by decide +kernel
theorem own_d13_13 : decode jdk_38_method_25_code 13 = .ok (.getfield 9, 3) := by decide +kernel
theorem own_d13_16 : decode jdk_38_method_25_code 16 = .ok (.aload_n 0, 1) := by decide +kernel
theorem own_d13_17 : decode jdk_38_method_25_code 17 = .ok (.getfield 48, 3) := by decide +kernel
theorem own_d13_20 : decode jdk_38_method_25_code 20 = .ok (.invokevirtual 131, 3) := by decide +kernel
theorem own_d13_23 : decode jdk_38_method_25_code 23 = .ok (.iconst 1, 1) := by decide +kernel
theorem own_d13_24 : decode jdk_38_method_25_code 24 = .ok (.ireturn, 1) := by decide +kernel
theorem own_pn13 : plainName "java/util/ArrayList" = true := by first | (simp [plainName, overriddenIn]; done) | decide +kernel
theorem own_pd13_0 : parseMethodDescriptor "(Ljava/lang/Object;[Ljava/lang/Object;I)V" = some ⟨[(.object "java/lang/Object"), (.array (.object "java/lang/Object")), .int], none⟩ := by decide +kernel
theorem own_ef13 (m : MethodId) (a : Addr) (x : Addr) : entryFrame m #[(.ref a), (.ref x)] 2 = mkF m 0 #[.val (.ref a), .val (.ref x)] [] := by first | (simp [entryFrame, mkF, argsToLocals, Value.category]; done) | rfl
def own_Q13 (Z : State) (a : Addr) (x : Addr) (de : Addr) (cde : Cell) (h0 : Heap) (n0 : Nat) (v : Option Value) (h : Heap) (L : List Loc) : Prop := v = some (.int 1) ∧ Fr n0 L ∧ Keep h0 h [a] ∧ Exa Z h a "java/util/ArrayList" ∧ (∃ (b : Addr) (kb : ClassId), h0.size ≤ b ∧ n0 ≤ b ∧ Arv Z h b kb (.object "java/lang/Object") (10 : Int32) [.ref x, .null, .null, .null, .null, .null, .null, .null, .null, .null] .null ∧ Fld Z h a "java/util/ArrayList" "elementData" "[Ljava/lang/Object;" (.ref b) ∧ Fld Z h a "java/util/ArrayList" "size" "I" (.int (1 : Int32)) ∧ Fld Z h a "java/util/AbstractList" "modCount" "I" (.int (1 : Int32)))
set_option maxRecDepth 65536 in
set_option maxHeartbeats 40000000 in
theorem own_rm13 (l : Launch) (Z : State) (a0 : Array Value) (hw : ∀ d ∈ tables_1, d.before a0 Z = true) (ws : List Jvm.Cond) (a : Addr) (x : Addr) (de : Addr) (cde : Cell) (h0 : Heap) (n0 : Nat) (Zs : n0 ≤ h0.size) (F_a_elementData : Fld Z h0 a "java/util/ArrayList" "elementData" "[Ljava/lang/Object;" (.ref de)) (F_a_size : Fld Z h0 a "java/util/ArrayList" "size" "I" (.int (0 : Int32))) (F_a_modCount : Fld Z h0 a "java/util/AbstractList" "modCount" "I" (.int (0 : Int32))) (E_a : Exa Z h0 a "java/util/ArrayList") (g_a : n0 ≤ a) (E_x : Exa Z h0 x "com/example/ordence/ordence/IntVariable") (OL : Old Z n0 h0) (S_de : Sta Z Z.heap "java/util/ArrayList" "DEFAULTCAPACITY_EMPTY_ELEMENTDATA" "[Ljava/lang/Object;" (.ref de)) (Ar_de : Arr Z Z.heap de cde (.object "java/lang/Object")) (Sz_de : cde.slots.size = 0) (ne_a_x : a ≠ x) :
    MetFree l (⟨"java/util/ArrayList", "add", "(Ljava/lang/Object;)Z"⟩ : MethodName) (head1 (Jvm.Cond.code (⟨"java/util/ArrayList", "add", "(Ljava/lang/Object;)Z"⟩ : MethodName) jdk_38_method_25_code 2 (some .boolean) :: ws) ({ frames := 4, cells := 1, slots := 10, locals := 56 } : Room)) (fun aA_ U => aA_ = #[(.ref a), (.ref x)] ∧ Z.Warmed39 U.vm ∧ U.heap = h0) (fun _ _ _ _ _ => True) (fun _ U o U' => ∃ v L, o = .returned v ∧ own_Q13 Z a x de cde h0 n0 v U'.heap L ∧ FrameEnd U o U' L ({ frames := 4, cells := 1, slots := 10, locals := 56 } : Room).cells ({ frames := 4, cells := 1, slots := 10, locals := 56 } : Room).slots) := by
  refine MetFree.of_bodySF (plainFor_of_name own_pn13) hisR ?_
  intro p e s m args below meth c s₁ Bd hml0 hP hK
  obtain ⟨rfl, hZ, hh⟩ := hP
  have hx := Bd.exec
  have hby := Bd.bytes
  have hml : c.maxLocals = 2 := hml0
  have hown : s.vm.findClass "java/util/ArrayList" = some m.cls := findClass_of_methodNamed Bd.named
  have hnm := (name_of_methodNamed Bd.named Bd.method).1
  have X0 : Stand p l e ({ frames := 4, cells := 1, slots := 10, locals := 56 } : Room) s m #[(.ref a), (.ref x)] below meth c s₁ [] 0 0 := Stand.of_body Bd
  have e0 : s₁.heap = h0 := by rw [← hh, Bd.state]; rfl
  have NF := Fr.nil n0
  rw [own_ef13 m a x]
  show own_Dn p e below s (own_Q13 Z a x de cde h0 n0) 1 10 s₁ (mkF m 0 #[.val (.ref a), .val (.ref x)] [])
  have KP := Keep.refl h0 [a]
  refine own_go (T' := s₁) (g' := (mkF m 1 #[.val (.ref a), .val (.ref x)] [(.ref a)])) (fun _ k => XS.aloadN X0.here hx rfl (hb hby own_d13_0) rfl rfl k) ?_
  refine own_go (T' := s₁) (g' := (mkF m 2 #[.val (.ref a), .val (.ref x)] [(.ref a), (.ref a)])) (fun _ k => XS.dup X0.here hx rfl (hb hby own_d13_1) rfl rfl k) ?_
  obtain ⟨T1, X1, e1, st1⟩ := getF X0 hx hZ hown (host := "") (Or.inl (hw _ (List.mem_of_getElem? (i := 88) rfl))) (Via.of (hw _ (List.mem_of_getElem? (i := 89) rfl))) e0 F_a_modCount (g := (mkF m 2 #[.val (.ref a), .val (.ref x)] [(.ref a), (.ref a)])) rfl rfl (hb hby own_d13_2)
  refine own_go (T' := T1) (g' := (mkF m 5 #[.val (.ref a), .val (.ref x)] [(.int (0 : Int32)), (.ref a)])) (fun _ k => st1 _ k) ?_
  refine own_go (T' := T1) (g' := (mkF m 6 #[.val (.ref a), .val (.ref x)] [(.int (1 : Int32)), (.int (0 : Int32)), (.ref a)])) (fun _ k => XS.iconst X1.here hx rfl (hb hby own_d13_5) k) ?_
  refine own_go (T' := T1) (g' := (mkF m 7 #[.val (.ref a), .val (.ref x)] [(.int (1 : Int32)), (.ref a)])) (fun _ k => XS.iadd X1.here hx rfl (hb hby own_d13_6) rfl k) ?_
  obtain ⟨T2, h2, X2, e2, W2, st2⟩ := putF X1 hx hZ hown (host := "") (Or.inl (hw _ (List.mem_of_getElem? (i := 88) rfl))) (Via.of (hw _ (List.mem_of_getElem? (i := 89) rfl))) e1 F_a_modCount E_a (Or.inl (hw _ (List.mem_of_getElem? (i := 75) rfl))) (hw _ (List.mem_of_getElem? (i := 56) rfl)) (ty := .int) (by decide) rfl rfl (g := (mkF m 7 #[.val (.ref a), .val (.ref x)] [(.int (1 : Int32)), (.ref a)])) rfl rfl (hb hby own_d13_7)
  have E_a := E_a.wr W2
  have F_a_elementData := F_a_elementData.other W2 (Or.inr (slot_ne (Or.inl (hw _ (List.mem_of_getElem? (i := 78) rfl))) (Or.inl (hw _ (List.mem_of_getElem? (i := 75) rfl))) (by decide) (t := (.array (.object "java/lang/Object"))) (t' := .int) (by decide) (by decide)))
  have F_a_size := F_a_size.other W2 (Or.inr (slot_ne (Or.inl (hw _ (List.mem_of_getElem? (i := 91) rfl))) (Or.inl (hw _ (List.mem_of_getElem? (i := 75) rfl))) (by decide) (t := .int) (t' := .int) (by decide) (by decide)))
  have OL := OL.wr W2 g_a
  have E_x := E_x.wr W2
  have Zs := Nat.le_trans Zs (Keep.of_wr W2).1
  have F_a_modCount := F_a_modCount.same W2
  have KP := KP.wr W2 (Or.inl (by simp))
  have NF := Fr.snoc X2 NF g_a
  refine own_go (T' := T2) (g' := (mkF m 10 #[.val (.ref a), .val (.ref x)] [])) (fun _ k => st2 _ k) ?_
  refine own_go (T' := T2) (g' := (mkF m 11 #[.val (.ref a), .val (.ref x)] [(.ref a)])) (fun _ k => XS.aloadN X2.here hx rfl (hb hby own_d13_10) rfl rfl k) ?_
  refine own_go (T' := T2) (g' := (mkF m 12 #[.val (.ref a), .val (.ref x)] [(.ref x), (.ref a)])) (fun _ k => XS.aloadN X2.here hx rfl (hb hby own_d13_11) rfl rfl k) ?_
  refine own_go (T' := T2) (g' := (mkF m 13 #[.val (.ref a), .val (.ref x)] [(.ref a), (.ref x), (.ref a)])) (fun _ k => XS.aloadN X2.here hx rfl (hb hby own_d13_12) rfl rfl k) ?_
  obtain ⟨T3, X3, e3, st3⟩ := getF X2 hx hZ hown (host := "") (Or.inl (hw _ (List.mem_of_getElem? (i := 77) rfl))) Via.refl e2 F_a_elementData (g := (mkF m 13 #[.val (.ref a), .val (.ref x)] [(.ref a), (.ref x), (.ref a)])) rfl rfl (hb hby own_d13_13)
  refine own_go (T' := T3) (g' := (mkF m 16 #[.val (.ref a), .val (.ref x)] [(.ref de), (.ref x), (.ref a)])) (fun _ k => st3 _ k) ?_
  refine own_go (T' := T3) (g' := (mkF m 17 #[.val (.ref a), .val (.ref x)] [(.ref a), (.ref de), (.ref x), (.ref a)])) (fun _ k => XS.aloadN X3.here hx rfl (hb hby own_d13_16) rfl rfl k) ?_
  obtain ⟨T4, X4, e4, st4⟩ := getF X3 hx hZ hown (host := "") (Or.inl (hw _ (List.mem_of_getElem? (i := 90) rfl))) Via.refl e3 F_a_size (g := (mkF m 17 #[.val (.ref a), .val (.ref x)] [(.ref a), (.ref de), (.ref x), (.ref a)])) rfl rfl (hb hby own_d13_17)
  refine own_go (T' := T4) (g' := (mkF m 20 #[.val (.ref a), .val (.ref x)] [(.int (0 : Int32)), (.ref de), (.ref x), (.ref a)])) (fun _ k => st4 _ k) ?_
  have lt_a := E_a.lt
  have lt_x := E_x.lt
  have KPo := KP
  obtain ⟨cq5, q5, q5'⟩ := E_a.cell
  obtain ⟨_, _, ⟨T5, L5, k5, n5⟩, -, X5, ⟨Lc5, hQ5, l5, y5, z5⟩, st5⟩ := X4.privateBack hx (y := (⟨"java/util/ArrayList", "add", "(Ljava/lang/Object;[Ljava/lang/Object;I)V"⟩ : MethodName)) hown (mvT hZ (hw _ (List.mem_of_getElem? (i := 92) rfl))) (mvT hZ (hw _ (List.mem_of_getElem? (i := 93) rfl))) (mvT hZ (hw _ (List.mem_of_getElem? (i := 95) rfl))) (Cond.privateMethod_at (mvP hZ (hw _ (List.mem_of_getElem? (i := 94) rfl)) (args := #[]))) (mvT hZ (hw _ (List.mem_of_getElem? (i := 96) rfl))) (by decide) (backOf (W := 0) (own_rm13p l Z a0 hw [] a x de cde (1 : Int32) h2 n0 Zs F_a_elementData F_a_size F_a_modCount E_a g_a E_x OL S_de Ar_de Sz_de ne_a_x) hZ (hw _ (List.mem_of_getElem? (i := 96) rfl)) (hw _ (List.mem_of_getElem? (i := 57) rfl)) (by decide) (by decide)) (g := (mkF m 20 #[.val (.ref a), .val (.ref x)] [(.int (0 : Int32)), (.ref de), (.ref x), (.ref a)])) rfl (by rw [hml]; rfl) (Steps.refl _) (a := a) (by rw [e4]; exact q5) q5' (argsL := [(.ref x), (.ref de), (.int (0 : Int32))]) (rest := []) (lenOf own_pd13_0 rfl) rfl (by show 2 * 0 + _ ≤ _; exact Nat.le_of_eq rfl) (hb hby own_d13_20) (fun _ _ => ⟨rfl, e4, (by decide : 0 + 1 ≤ _), (by decide : 0 + 10 ≤ _)⟩)
  dsimp only [Pt.U, Pt.locs, Pt.cells, Pt.slots] at X5 l5 y5 z5 st5 hQ5
  subst l5 y5 z5
  obtain ⟨rfl, NQ5, K5, E_a, nb, knb, ge_nb, g_nb, V_nb, F_a_elementData, F_a_size, F_a_modCount⟩ := hQ5
  have NF := Fr.app NF NQ5
  have OL := OL.keep K5 (allS g_a all0)
  have E_x := E_x.keep K5
  have Zs := Nat.le_trans Zs K5.1
  have KP := KP.trans K5 ((allS (Or.inl (by simp)) all0))
  have ne_a_nb : a ≠ nb := Nat.ne_of_lt (Nat.lt_of_lt_of_le lt_a ge_nb)
  have ne_x_nb : x ≠ nb := Nat.ne_of_lt (Nat.lt_of_lt_of_le lt_x ge_nb)
  have sz_nb : h0.size ≤ nb := Nat.le_trans KPo.1 ge_nb
  refine own_go (T' := T5) (g' := (mkF m 23 #[.val (.ref a), .val (.ref x)] [])) (fun _ k => st5.trans k) ?_
  refine own_go (T' := T5) (g' := (mkF m 24 #[.val (.ref a), .val (.ref x)] [(.int (1 : Int32))])) (fun _ k => XS.iconst X5.here hx rfl (hb hby own_d13_23) k) ?_
  refine own_ret X5 Bd.notSynchronized (some (.int (1 : Int32))) (fun h => by rw [Bd.returns] at h; cases h) (fun fs hr => retN X5 hx (t := .boolean) Bd.returns (by simp) (hb hby own_d13_24) hr) ?_ (by decide) (by decide)
  show (own_Q13 Z a x de cde h0 n0) (some (.int (1 : Int32))) T5.heap _
  exact ⟨rfl, NF, KP, E_a, nb, knb, sz_nb, g_nb, V_nb, F_a_elementData, F_a_size, F_a_modCount⟩
theorem own_d14p_0 : decode jdk_38_method_24_code 0 = .ok (.iload_n 3, 1) := by decide +kernel
theorem own_d14p_1 : decode jdk_38_method_24_code 1 = .ok (.aload_n 2, 1) := by decide +kernel
theorem own_d14p_2 : decode jdk_38_method_24_code 2 = .ok (.arraylength, 1) := by decide +kernel
theorem own_d14p_3 : decode jdk_38_method_24_code 3 = .ok (.if_icmp .ne 8, 3) := by decide +kernel
theorem own_d14p_6 : decode jdk_38_method_24_code 6 = .ok (.aload_n 0, 1) := by decide +kernel
theorem own_d14p_7 : decode jdk_38_method_24_code 7 = .ok (.invokevirtual 129, 3) := by decide +kernel
theorem own_d14p_10 : decode jdk_38_method_24_code 10 = .ok (.astore_n 2, 1) := by decide +kernel
theorem own_d14p_11 : decode jdk_38_method_24_code 11 = .ok (.aload_n 2, 1) := by decide +kernel
theorem own_d14p_12 : decode jdk_38_method_24_code 12 = .ok (.iload_n 3, 1) := by decide +kernel
theorem own_d14p_13 : decode jdk_38_method_24_code 13 = .ok (.aload_n 1, 1) := by decide +kernel
theorem own_d14p_14 : decode jdk_38_method_24_code 14 = .ok (.aastore, 1) := by decide +kernel
theorem own_d14p_15 : decode jdk_38_method_24_code 15 = .ok (.aload_n 0, 1) := by decide +kernel
theorem own_d14p_16 : decode jdk_38_method_24_code 16 = .ok (.iload_n 3, 1) := by decide +kernel
theorem own_d14p_17 : decode jdk_38_method_24_code 17 = .ok (.iconst 1, 1) := by decide +kernel
theorem own_d14p_18 : decode jdk_38_method_24_code 18 = .ok (.iadd, 1) := by decide +kernel
theorem own_d14p_19 : decode jdk_38_method_24_code 19 = .ok (.putfield 48, 3) := by decide +kernel
theorem own_d14p_22 : decode jdk_38_method_24_code 22 = .ok (.return_, 1) := by decide +kernel
theorem own_pn14p : plainName "java/util/ArrayList" = true := by first | (simp [plainName, overriddenIn]; done) | decide +kernel
theorem own_pd14p_0 : parseMethodDescriptor "()[Ljava/lang/Object;" = some ⟨[], some (.array (.object "java/lang/Object"))⟩ := by decide +kernel
theorem own_ef14p (m : MethodId) (a : Addr) (x : Addr) (de : Addr) : entryFrame m #[(.ref a), (.ref x), (.ref de), (.int (0 : Int32))] 4 = mkF m 0 #[.val (.ref a), .val (.ref x), .val (.ref de), .val (.int (0 : Int32))] [] := by first | (simp [entryFrame, mkF, argsToLocals, Value.category]; done) | rfl
def own_Q14p (Z : State) (a : Addr) (x : Addr) (de : Addr) (cde : Cell) (mc : Int32) (h0 : Heap) (n0 : Nat) (v : Option Value) (h : Heap) (L : List Loc) : Prop := v = none ∧ Fr n0 L ∧ Keep h0 h [a] ∧ Exa Z h a "java/util/ArrayList" ∧ (∃ (b : Addr) (kb : ClassId), h0.size ≤ b ∧ n0 ≤ b ∧ Arv Z h b kb (.object "java/lang/Object") (10 : Int32) [.ref x, .null, .null, .null, .null, .null, .null, .null, .null, .null] .null ∧ Fld Z h a "java/util/ArrayList" "elementData" "[Ljava/lang/Object;" (.ref b) ∧ Fld Z h a "java/util/ArrayList" "size" "I" (.int (1 : Int32)) ∧ Fld Z h a "java/util/AbstractList" "modCount" "I" (.int mc))
set_option maxRecDepth 65536 in
set_option maxHeartbeats 40000000 in
theorem own_rm14p (l : Launch) (Z : State) (a0 : Array Value) (hw : ∀ d ∈ tables_1, d.before a0 Z = true) (ws : List Jvm.Cond) (a : Addr) (x : Addr) (de : Addr) (cde : Cell) (mc : Int32) (h0 : Heap) (n0 : Nat) (Zs : n0 ≤ h0.size) (F_a_elementData : Fld Z h0 a "java/util/ArrayList" "elementData" "[Ljava/lang/Object;" (.ref de)) (F_a_size : Fld Z h0 a "java/util/ArrayList" "size" "I" (.int (0 : Int32))) (F_a_modCount : Fld Z h0 a "java/util/AbstractList" "modCount" "I" (.int mc)) (E_a : Exa Z h0 a "java/util/ArrayList") (g_a : n0 ≤ a) (E_x : Exa Z h0 x "[I") (OL : Old Z n0 h0) (S_de : Sta Z Z.heap "java/util/ArrayList" "DEFAULTCAPACITY_EMPTY_ELEMENTDATA" "[Ljava/lang/Object;" (.ref de)) (Ar_de : Arr Z Z.heap de cde (.object "java/lang/Object")) (Sz_de : cde.slots.size = 0) (ne_a_x : a ≠ x) :
    MetFree l (⟨"java/util/ArrayList", "add", "(Ljava/lang/Object;[Ljava/lang/Object;I)V"⟩ : MethodName) (head1 (Jvm.Cond.code (⟨"java/util/ArrayList", "add", "(Ljava/lang/Object;[Ljava/lang/Object;I)V"⟩ : MethodName) jdk_38_method_24_code 4 none :: ws) ({ frames := 3, cells := 1, slots := 10, locals := 41 } : Room)) (fun aA_ U => aA_ = #[(.ref a), (.ref x), (.ref de), (.int (0 : Int32))] ∧ Z.Warmed39 U.vm ∧ U.heap = h0) (fun _ _ _ _ _ => True) (fun _ U o U' => ∃ v L, o = .returned v ∧ own_Q14p Z a x de cde mc h0 n0 v U'.heap L ∧ FrameEnd U o U' L ({ frames := 3, cells := 1, slots := 10, locals := 41 } : Room).cells ({ frames := 3, cells := 1, slots := 10, locals := 41 } : Room).slots) := by
  refine MetFree.of_bodySF (plainFor_of_name own_pn14p) hisR ?_
  intro p e s m args below meth c s₁ Bd hml0 hP hK
  obtain ⟨rfl, hZ, hh⟩ := hP
  have hx := Bd.exec
  have hby := Bd.bytes
  have hml : c.maxLocals = 4 := hml0
  have hown : s.vm.findClass "java/util/ArrayList" = some m.cls := findClass_of_methodNamed Bd.named
  have hnm := (name_of_methodNamed Bd.named Bd.method).1
  have X0 : Stand p l e ({ frames := 3, cells := 1, slots := 10, locals := 41 } : Room) s m #[(.ref a), (.ref x), (.ref de), (.int (0 : Int32))] below meth c s₁ [] 0 0 := Stand.of_body Bd
  have e0 : s₁.heap = h0 := by rw [← hh, Bd.state]; rfl
  have NF := Fr.nil n0
  rw [own_ef14p m a x de]
  show own_Dn p e below s (own_Q14p Z a x de cde mc h0 n0) 1 10 s₁ (mkF m 0 #[.val (.ref a), .val (.ref x), .val (.ref de), .val (.int (0 : Int32))] [])
  have KP := Keep.refl h0 [a]
  refine own_go (T' := s₁) (g' := (mkF m 1 #[.val (.ref a), .val (.ref x), .val (.ref de), .val (.int (0 : Int32))] [(.int (0 : Int32))])) (fun _ k => XS.iloadN X0.here hx rfl (hb hby own_d14p_0) rfl k) ?_
  refine own_go (T' := s₁) (g' := (mkF m 2 #[.val (.ref a), .val (.ref x), .val (.ref de), .val (.int (0 : Int32))] [(.ref de), (.int (0 : Int32))])) (fun _ k => XS.aloadN X0.here hx rfl (hb hby own_d14p_1) rfl rfl k) ?_
  have Ar := Ar_de.ext OL.2
  refine own_go (T' := s₁) (g' := (mkF m 3 #[.val (.ref a), .val (.ref x), .val (.ref de), .val (.int (0 : Int32))] [(.int (0 : Int32)), (.int (0 : Int32))])) (fun _ k => X0.arraylength hx (by rw [e0]; exact Ar.1) (State.isArrayOf_alike hZ.alike Ar.2.1) (g := (mkF m 2 #[.val (.ref a), .val (.ref x), .val (.ref de), .val (.int (0 : Int32))] [(.ref de), (.int (0 : Int32))])) rfl rfl (hb hby own_d14p_2) _ (by rw [Sz_de]; exact k)) ?_
  refine own_go (T' := s₁) (g' := (mkF m 6 #[.val (.ref a), .val (.ref x), .val (.ref de), .val (.int (0 : Int32))] [])) (fun _ k => XS.icmpNo X0.here hx rfl (hb hby own_d14p_3) rfl (by decide) k) ?_
  refine own_go (T' := s₁) (g' := (mkF m 7 #[.val (.ref a), .val (.ref x), .val (.ref de), .val (.int (0 : Int32))] [(.ref a)])) (fun _ k => XS.aloadN X0.here hx rfl (hb hby own_d14p_6) rfl rfl k) ?_
  have lt_a := E_a.lt
  have lt_x := E_x.lt
  have ZsO := Zs
  have KPo := KP
  obtain ⟨cq1, q1, q1'⟩ := E_a.cell
  obtain ⟨_, _, ⟨T1, L1, k1, n1⟩, -, X1, ⟨Lc1, hQ1, l1, y1, z1⟩, st1⟩ := X0.privateBack hx (y := (⟨"java/util/ArrayList", "grow", "()[Ljava/lang/Object;"⟩ : MethodName)) hown (mvT hZ (hw _ (List.mem_of_getElem? (i := 97) rfl))) (mvT hZ (hw _ (List.mem_of_getElem? (i := 98) rfl))) (mvT hZ (hw _ (List.mem_of_getElem? (i := 100) rfl))) (Cond.privateMethod_at (mvP hZ (hw _ (List.mem_of_getElem? (i := 99) rfl)) (args := #[]))) (mvT hZ (hw _ (List.mem_of_getElem? (i := 101) rfl))) (by decide) (backOf (W := 0) (own_rm12 l Z a0 hw [] a de cde mc h0 n0 Zs F_a_elementData F_a_size F_a_modCount E_a g_a OL S_de Ar_de Sz_de) hZ (hw _ (List.mem_of_getElem? (i := 101) rfl)) (hw _ (List.mem_of_getElem? (i := 57) rfl)) (by decide) (by decide)) (g := (mkF m 7 #[.val (.ref a), .val (.ref x), .val (.ref de), .val (.int (0 : Int32))] [(.ref a)])) rfl (by rw [hml]; rfl) (Steps.refl _) (a := a) (by rw [e0]; exact q1) q1' (argsL := []) (rest := []) (lenOf own_pd14p_0 rfl) rfl (by show 2 * 0 + _ ≤ _; exact Nat.le_of_eq rfl) (hb hby own_d14p_7) (fun _ _ => ⟨rfl, e0, (by decide : 0 + 1 ≤ _), (by decide : 0 + 10 ≤ _)⟩)
  dsimp only [Pt.U, Pt.locs, Pt.cells, Pt.slots] at X1 l1 y1 z1 st1 hQ1
  subst l1 y1 z1
  obtain ⟨NQ1, K1, E_a, nb, knb, rfl, ge_nb, g_nb, E_nb, O_nb, V_nb, F_a_elementData, F_a_size, F_a_modCount⟩ := hQ1
  have NF := Fr.app NF NQ1
  have OL := OL.keep K1 (allS g_a all0)
  have E_x := E_x.keep K1
  have Zs := Nat.le_trans Zs K1.1
  have KP := KP.trans K1 ((allS (Or.inl (by simp)) all0))
  have ne_a_nb : a ≠ nb := Nat.ne_of_lt (Nat.lt_of_lt_of_le lt_a ge_nb)
  have ne_x_nb : x ≠ nb := Nat.ne_of_lt (Nat.lt_of_lt_of_le lt_x ge_nb)
  have sz_nb : h0.size ≤ nb := Nat.le_trans KPo.1 ge_nb
  refine own_go (T' := T1) (g' := (mkF m 10 #[.val (.ref a), .val (.ref x), .val (.ref de), .val (.int (0 : Int32))] [(.ref nb)])) (fun _ k => st1.trans k) ?_
  refine own_go (T' := T1) (g' := (mkF m 11 #[.val (.ref a), .val (.ref x), .val (.ref nb), .val (.int (0 : Int32))] [])) (fun _ k => XS.astoreN X1.here hx rfl (hb hby own_d14p_10) rfl rfl (l' := #[.val (.ref a), .val (.ref x), .val (.ref nb), .val (.int (0 : Int32))]) rfl k) ?_
  refine own_go (T' := T1) (g' := (mkF m 12 #[.val (.ref a), .val (.ref x), .val (.ref nb), .val (.int (0 : Int32))] [(.ref nb)])) (fun _ k => XS.aloadN X1.here hx rfl (hb hby own_d14p_11) rfl rfl k) ?_
  refine own_go (T' := T1) (g' := (mkF m 13 #[.val (.ref a), .val (.ref x), .val (.ref nb), .val (.int (0 : Int32))] [(.int (0 : Int32)), (.ref nb)])) (fun _ k => XS.iloadN X1.here hx rfl (hb hby own_d14p_12) rfl k) ?_
  refine own_go (T' := T1) (g' := (mkF m 14 #[.val (.ref a), .val (.ref x), .val (.ref nb), .val (.int (0 : Int32))] [(.ref x), (.int (0 : Int32)), (.ref nb)])) (fun _ k => XS.aloadN X1.here hx rfl (hb hby own_d14p_13) rfl rfl k) ?_
  obtain ⟨c_2, Ar_2, q_2, S_2, N_2, H_2, G_2⟩ := id V_nb
  have hin_2 : ¬ ((0 : Int32) < 0 ∨ c_2.slots.size ≤ ((0 : Int32)).toNatClampNeg) := inb_of S_2 ⟨by decide, by decide⟩
  obtain ⟨T2, h2, X2, e2, W2, st2⟩ := stR X1 hx hZ rfl Ar_2 (j := (0 : Int32)) hin_2 rfl (Sto.ofV Ar_2 q_2 O_nb (Ins.of_exa E_x (hw _ (List.mem_of_getElem? (i := 113) rfl)))) (g := (mkF m 14 #[.val (.ref a), .val (.ref x), .val (.ref nb), .val (.int (0 : Int32))] [(.ref x), (.int (0 : Int32)), (.ref nb)])) rfl rfl (hb hby own_d14p_14)
  have E_a := E_a.wr W2
  have F_a_elementData := F_a_elementData.other W2 (Or.inl ne_a_nb)
  have F_a_size := F_a_size.other W2 (Or.inl ne_a_nb)
  have F_a_modCount := F_a_modCount.other W2 (Or.inl ne_a_nb)
  have OL := OL.wr W2 g_nb
  have E_x := E_x.wr W2
  have E_nb := E_nb.wr W2
  have Zs := Nat.le_trans Zs (Keep.of_wr W2).1
  have V_nb := Arv.set Ar_2 q_2 S_2 N_2 H_2 G_2 rfl W2 0 rfl (Nat.le_of_ble_eq_true rfl)
  have KP := KP.wr W2 (Or.inr sz_nb)
  have NF := Fr.snoc X2 NF g_nb
  refine own_go (T' := T2) (g' := (mkF m 15 #[.val (.ref a), .val (.ref x), .val (.ref nb), .val (.int (0 : Int32))] [])) (fun _ k => st2 _ k) ?_
  refine own_go (T' := T2) (g' := (mkF m 16 #[.val (.ref a), .val (.ref x), .val (.ref nb), .val (.int (0 : Int32))] [(.ref a)])) (fun _ k => XS.aloadN X2.here hx rfl (hb hby own_d14p_15) rfl rfl k) ?_
  refine own_go (T' := T2) (g' := (mkF m 17 #[.val (.ref a), .val (.ref x), .val (.ref nb), .val (.int (0 : Int32))] [(.int (0 : Int32)), (.ref a)])) (fun _ k => XS.iloadN X2.here hx rfl (hb hby own_d14p_16) rfl k) ?_
  refine own_go (T' := T2) (g' := (mkF m 18 #[.val (.ref a), .val (.ref x), .val (.ref nb), .val (.int (0 : Int32))] [(.int (1 : Int32)), (.int (0 : Int32)), (.ref a)])) (fun _ k => XS.iconst X2.here hx rfl (hb hby own_d14p_17) k) ?_
  refine own_go (T' := T2) (g' := (mkF m 19 #[.val (.ref a), .val (.ref x), .val (.ref nb), .val (.int (0 : Int32))] [(.int (1 : Int32)), (.ref a)])) (fun _ k => XS.iadd X2.here hx rfl (hb hby own_d14p_18) rfl k) ?_
  obtain ⟨T3, h3, X3, e3, W3, st3⟩ := putF X2 hx hZ hown (host := "") (Or.inl (hw _ (List.mem_of_getElem? (i := 90) rfl))) Via.refl e2 F_a_size E_a (Or.inl (hw _ (List.mem_of_getElem? (i := 91) rfl))) (hw _ (List.mem_of_getElem? (i := 56) rfl)) (ty := .int) (by decide) rfl rfl (g := (mkF m 19 #[.val (.ref a), .val (.ref x), .val (.ref nb), .val (.int (0 : Int32))] [(.int (1 : Int32)), (.ref a)])) rfl rfl (hb hby own_d14p_19)
  have E_a := E_a.wr W3
  have F_a_elementData := F_a_elementData.other W3 (Or.inr (slot_ne (Or.inl (hw _ (List.mem_of_getElem? (i := 78) rfl))) (Or.inl (hw _ (List.mem_of_getElem? (i := 91) rfl))) (by decide) (t := (.array (.object "java/lang/Object"))) (t' := .int) (by decide) (by decide)))
  have F_a_modCount := F_a_modCount.other W3 (Or.inr (slot_ne (Or.inl (hw _ (List.mem_of_getElem? (i := 75) rfl))) (Or.inl (hw _ (List.mem_of_getElem? (i := 91) rfl))) (by decide) (t := .int) (t' := .int) (by decide) (by decide)))
  have OL := OL.wr W3 g_a
  have E_x := E_x.wr W3
  have E_nb := E_nb.wr W3
  have V_nb := V_nb.other W3 (Ne.symm ne_a_nb)
  have Zs := Nat.le_trans Zs (Keep.of_wr W3).1
  have F_a_size := F_a_size.same W3
  have KP := KP.wr W3 (Or.inl (by simp))
  have NF := Fr.snoc X3 NF g_a
  refine own_go (T' := T3) (g' := (mkF m 22 #[.val (.ref a), .val (.ref x), .val (.ref nb), .val (.int (0 : Int32))] [])) (fun _ k => st3 _ k) ?_
  refine own_ret X3 Bd.notSynchronized none (fun _ => rfl) (fun fs hr => X3.returnOut hx Bd.returns (hb hby own_d14p_22) hr) ?_ (by decide) (by decide)
  show (own_Q14p Z a x de cde mc h0 n0) none T3.heap _
  rw [e3]
  exact ⟨rfl, NF, KP, E_a, nb, knb, sz_nb, g_nb, V_nb, F_a_elementData, F_a_size, F_a_modCount⟩
theorem own_d14_0 : decode jdk_38_method_25_code 0 = .ok (.aload_n 0, 1) := by decide +kernel
theorem own_d14_1 : decode jdk_38_method_25_code 1 = .ok (.dup, 1) := by decide +kernel
theorem own_d14_2 : decode jdk_38_method_25_code 2 = .ok (.getfield 63, 3) := by decide +kernel
theorem own_d14_5 : decode jdk_38_method_25_code 5 = .ok (.iconst 1, 1) := by decide +kernel
theorem own_d14_6 : decode jdk_38_method_25_code 6 = .ok (.iadd, 1) := by decide +kernel
theorem own_d14_7 : decode jdk_38_method_25_code 7 = .ok (.putfield 63, 3) := by decide +kernel
theorem own_d14_10 : decode jdk_38_method_25_code 10 = .ok (.aload_n 0, 1) := by decide +kernel
theorem own_d14_11 : decode jdk_38_method_25_code 11 = .ok (.aload_n 1, 1) := by decide +kernel
theorem own_d14_12 : decode jdk_38_method_25_code 12 = .ok (.aload_n 0, 1) := by decide +kernel
theorem own_d14_13 : decode jdk_38_method_25_code 13 = .ok (.getfield 9, 3) := by decide +kernel
theorem own_d14_16 : decode jdk_38_method_25_code 16 = .ok (.aload_n 0, 1) := by decide +kernel
theorem own_d14_17 : decode jdk_38_method_25_code 17 = .ok (.getfield 48, 3) := by decide +kernel
theorem own_d14_20 : decode jdk_38_method_25_code 20 = .ok (.invokevirtual 131, 3) := by decide +kernel
theorem own_d14_23 : decode jdk_38_method_25_code 23 = .ok (.iconst 1, 1) := by decide +kernel
theorem own_d14_24 : decode jdk_38_method_25_code 24 = .ok (.ireturn, 1) := by decide +kernel
theorem own_pn14 : plainName "java/util/ArrayList" = true := by first | (simp [plainName, overriddenIn]; done) | decide +kernel
theorem own_pd14_0 : parseMethodDescriptor "(Ljava/lang/Object;[Ljava/lang/Object;I)V" = some ⟨[(.object "java/lang/Object"), (.array (.object "java/lang/Object")), .int], none⟩ := by decide +kernel
theorem own_ef14 (m : MethodId) (a : Addr) (x : Addr) : entryFrame m #[(.ref a), (.ref x)] 2 = mkF m 0 #[.val (.ref a), .val (.ref x)] [] := by first | (simp [entryFrame, mkF, argsToLocals, Value.category]; done) | rfl
def own_Q14 (Z : State) (a : Addr) (x : Addr) (de : Addr) (cde : Cell) (h0 : Heap) (n0 : Nat) (v : Option Value) (h : Heap) (L : List Loc) : Prop := v = some (.int 1) ∧ Fr n0 L ∧ Keep h0 h [a] ∧ Exa Z h a "java/util/ArrayList" ∧ (∃ (b : Addr) (kb : ClassId), h0.size ≤ b ∧ n0 ≤ b ∧ Arv Z h b kb (.object "java/lang/Object") (10 : Int32) [.ref x, .null, .null, .null, .null, .null, .null, .null, .null, .null] .null ∧ Fld Z h a "java/util/ArrayList" "elementData" "[Ljava/lang/Object;" (.ref b) ∧ Fld Z h a "java/util/ArrayList" "size" "I" (.int (1 : Int32)) ∧ Fld Z h a "java/util/AbstractList" "modCount" "I" (.int (1 : Int32)))
set_option maxRecDepth 65536 in
set_option maxHeartbeats 40000000 in
theorem own_rm14 (l : Launch) (Z : State) (a0 : Array Value) (hw : ∀ d ∈ tables_1, d.before a0 Z = true) (ws : List Jvm.Cond) (a : Addr) (x : Addr) (de : Addr) (cde : Cell) (h0 : Heap) (n0 : Nat) (Zs : n0 ≤ h0.size) (F_a_elementData : Fld Z h0 a "java/util/ArrayList" "elementData" "[Ljava/lang/Object;" (.ref de)) (F_a_size : Fld Z h0 a "java/util/ArrayList" "size" "I" (.int (0 : Int32))) (F_a_modCount : Fld Z h0 a "java/util/AbstractList" "modCount" "I" (.int (0 : Int32))) (E_a : Exa Z h0 a "java/util/ArrayList") (g_a : n0 ≤ a) (E_x : Exa Z h0 x "[I") (OL : Old Z n0 h0) (S_de : Sta Z Z.heap "java/util/ArrayList" "DEFAULTCAPACITY_EMPTY_ELEMENTDATA" "[Ljava/lang/Object;" (.ref de)) (Ar_de : Arr Z Z.heap de cde (.object "java/lang/Object")) (Sz_de : cde.slots.size = 0) (ne_a_x : a ≠ x) :
    MetFree l (⟨"java/util/ArrayList", "add", "(Ljava/lang/Object;)Z"⟩ : MethodName) (head1 (Jvm.Cond.code (⟨"java/util/ArrayList", "add", "(Ljava/lang/Object;)Z"⟩ : MethodName) jdk_38_method_25_code 2 (some .boolean) :: ws) ({ frames := 4, cells := 1, slots := 10, locals := 56 } : Room)) (fun aA_ U => aA_ = #[(.ref a), (.ref x)] ∧ Z.Warmed39 U.vm ∧ U.heap = h0) (fun _ _ _ _ _ => True) (fun _ U o U' => ∃ v L, o = .returned v ∧ own_Q14 Z a x de cde h0 n0 v U'.heap L ∧ FrameEnd U o U' L ({ frames := 4, cells := 1, slots := 10, locals := 56 } : Room).cells ({ frames := 4, cells := 1, slots := 10, locals := 56 } : Room).slots) := by
  refine MetFree.of_bodySF (plainFor_of_name own_pn14) hisR ?_
  intro p e s m args below meth c s₁ Bd hml0 hP hK
  obtain ⟨rfl, hZ, hh⟩ := hP
  have hx := Bd.exec
  have hby := Bd.bytes
  have hml : c.maxLocals = 2 := hml0
  have hown : s.vm.findClass "java/util/ArrayList" = some m.cls := findClass_of_methodNamed Bd.named
  have hnm := (name_of_methodNamed Bd.named Bd.method).1
  have X0 : Stand p l e ({ frames := 4, cells := 1, slots := 10, locals := 56 } : Room) s m #[(.ref a), (.ref x)] below meth c s₁ [] 0 0 := Stand.of_body Bd
  have e0 : s₁.heap = h0 := by rw [← hh, Bd.state]; rfl
  have NF := Fr.nil n0
  rw [own_ef14 m a x]
  show own_Dn p e below s (own_Q14 Z a x de cde h0 n0) 1 10 s₁ (mkF m 0 #[.val (.ref a), .val (.ref x)] [])
  have KP := Keep.refl h0 [a]
  refine own_go (T' := s₁) (g' := (mkF m 1 #[.val (.ref a), .val (.ref x)] [(.ref a)])) (fun _ k => XS.aloadN X0.here hx rfl (hb hby own_d14_0) rfl rfl k) ?_
  refine own_go (T' := s₁) (g' := (mkF m 2 #[.val (.ref a), .val (.ref x)] [(.ref a), (.ref a)])) (fun _ k => XS.dup X0.here hx rfl (hb hby own_d14_1) rfl rfl k) ?_
  obtain ⟨T1, X1, e1, st1⟩ := getF X0 hx hZ hown (host := "") (Or.inl (hw _ (List.mem_of_getElem? (i := 88) rfl))) (Via.of (hw _ (List.mem_of_getElem? (i := 89) rfl))) e0 F_a_modCount (g := (mkF m 2 #[.val (.ref a), .val (.ref x)] [(.ref a), (.ref a)])) rfl rfl (hb hby own_d14_2)
  refine own_go (T' := T1) (g' := (mkF m 5 #[.val (.ref a), .val (.ref x)] [(.int (0 : Int32)), (.ref a)])) (fun _ k => st1 _ k) ?_
  refine own_go (T' := T1) (g' := (mkF m 6 #[.val (.ref a), .val (.ref x)] [(.int (1 : Int32)), (.int (0 : Int32)), (.ref a)])) (fun _ k => XS.iconst X1.here hx rfl (hb hby own_d14_5) k) ?_
  refine own_go (T' := T1) (g' := (mkF m 7 #[.val (.ref a), .val (.ref x)] [(.int (1 : Int32)), (.ref a)])) (fun _ k => XS.iadd X1.here hx rfl (hb hby own_d14_6) rfl k) ?_
  obtain ⟨T2, h2, X2, e2, W2, st2⟩ := putF X1 hx hZ hown (host := "") (Or.inl (hw _ (List.mem_of_getElem? (i := 88) rfl))) (Via.of (hw _ (List.mem_of_getElem? (i := 89) rfl))) e1 F_a_modCount E_a (Or.inl (hw _ (List.mem_of_getElem? (i := 75) rfl))) (hw _ (List.mem_of_getElem? (i := 56) rfl)) (ty := .int) (by decide) rfl rfl (g := (mkF m 7 #[.val (.ref a), .val (.ref x)] [(.int (1 : Int32)), (.ref a)])) rfl rfl (hb hby own_d14_7)
  have E_a := E_a.wr W2
  have F_a_elementData := F_a_elementData.other W2 (Or.inr (slot_ne (Or.inl (hw _ (List.mem_of_getElem? (i := 78) rfl))) (Or.inl (hw _ (List.mem_of_getElem? (i := 75) rfl))) (by decide) (t := (.array (.object "java/lang/Object"))) (t' := .int) (by decide) (by decide)))
  have F_a_size := F_a_size.other W2 (Or.inr (slot_ne (Or.inl (hw _ (List.mem_of_getElem? (i := 91) rfl))) (Or.inl (hw _ (List.mem_of_getElem? (i := 75) rfl))) (by decide) (t := .int) (t' := .int) (by decide) (by decide)))
  have OL := OL.wr W2 g_a
  have E_x := E_x.wr W2
  have Zs := Nat.le_trans Zs (Keep.of_wr W2).1
  have F_a_modCount := F_a_modCount.same W2
  have KP := KP.wr W2 (Or.inl (by simp))
  have NF := Fr.snoc X2 NF g_a
  refine own_go (T' := T2) (g' := (mkF m 10 #[.val (.ref a), .val (.ref x)] [])) (fun _ k => st2 _ k) ?_
  refine own_go (T' := T2) (g' := (mkF m 11 #[.val (.ref a), .val (.ref x)] [(.ref a)])) (fun _ k => XS.aloadN X2.here hx rfl (hb hby own_d14_10) rfl rfl k) ?_
  refine own_go (T' := T2) (g' := (mkF m 12 #[.val (.ref a), .val (.ref x)] [(.ref x), (.ref a)])) (fun _ k => XS.aloadN X2.here hx rfl (hb hby own_d14_11) rfl rfl k) ?_
  refine own_go (T' := T2) (g' := (mkF m 13 #[.val (.ref a), .val (.ref x)] [(.ref a), (.ref x), (.ref a)])) (fun _ k => XS.aloadN X2.here hx rfl (hb hby own_d14_12) rfl rfl k) ?_
  obtain ⟨T3, X3, e3, st3⟩ := getF X2 hx hZ hown (host := "") (Or.inl (hw _ (List.mem_of_getElem? (i := 77) rfl))) Via.refl e2 F_a_elementData (g := (mkF m 13 #[.val (.ref a), .val (.ref x)] [(.ref a), (.ref x), (.ref a)])) rfl rfl (hb hby own_d14_13)
  refine own_go (T' := T3) (g' := (mkF m 16 #[.val (.ref a), .val (.ref x)] [(.ref de), (.ref x), (.ref a)])) (fun _ k => st3 _ k) ?_
  refine own_go (T' := T3) (g' := (mkF m 17 #[.val (.ref a), .val (.ref x)] [(.ref a), (.ref de), (.ref x), (.ref a)])) (fun _ k => XS.aloadN X3.here hx rfl (hb hby own_d14_16) rfl rfl k) ?_
  obtain ⟨T4, X4, e4, st4⟩ := getF X3 hx hZ hown (host := "") (Or.inl (hw _ (List.mem_of_getElem? (i := 90) rfl))) Via.refl e3 F_a_size (g := (mkF m 17 #[.val (.ref a), .val (.ref x)] [(.ref a), (.ref de), (.ref x), (.ref a)])) rfl rfl (hb hby own_d14_17)
  refine own_go (T' := T4) (g' := (mkF m 20 #[.val (.ref a), .val (.ref x)] [(.int (0 : Int32)), (.ref de), (.ref x), (.ref a)])) (fun _ k => st4 _ k) ?_
  have lt_a := E_a.lt
  have lt_x := E_x.lt
  have KPo := KP
  obtain ⟨cq5, q5, q5'⟩ := E_a.cell
  obtain ⟨_, _, ⟨T5, L5, k5, n5⟩, -, X5, ⟨Lc5, hQ5, l5, y5, z5⟩, st5⟩ := X4.privateBack hx (y := (⟨"java/util/ArrayList", "add", "(Ljava/lang/Object;[Ljava/lang/Object;I)V"⟩ : MethodName)) hown (mvT hZ (hw _ (List.mem_of_getElem? (i := 92) rfl))) (mvT hZ (hw _ (List.mem_of_getElem? (i := 93) rfl))) (mvT hZ (hw _ (List.mem_of_getElem? (i := 95) rfl))) (Cond.privateMethod_at (mvP hZ (hw _ (List.mem_of_getElem? (i := 94) rfl)) (args := #[]))) (mvT hZ (hw _ (List.mem_of_getElem? (i := 96) rfl))) (by decide) (backOf (W := 0) (own_rm14p l Z a0 hw [] a x de cde (1 : Int32) h2 n0 Zs F_a_elementData F_a_size F_a_modCount E_a g_a E_x OL S_de Ar_de Sz_de ne_a_x) hZ (hw _ (List.mem_of_getElem? (i := 96) rfl)) (hw _ (List.mem_of_getElem? (i := 57) rfl)) (by decide) (by decide)) (g := (mkF m 20 #[.val (.ref a), .val (.ref x)] [(.int (0 : Int32)), (.ref de), (.ref x), (.ref a)])) rfl (by rw [hml]; rfl) (Steps.refl _) (a := a) (by rw [e4]; exact q5) q5' (argsL := [(.ref x), (.ref de), (.int (0 : Int32))]) (rest := []) (lenOf own_pd14_0 rfl) rfl (by show 2 * 0 + _ ≤ _; exact Nat.le_of_eq rfl) (hb hby own_d14_20) (fun _ _ => ⟨rfl, e4, (by decide : 0 + 1 ≤ _), (by decide : 0 + 10 ≤ _)⟩)
  dsimp only [Pt.U, Pt.locs, Pt.cells, Pt.slots] at X5 l5 y5 z5 st5 hQ5
  subst l5 y5 z5
  obtain ⟨rfl, NQ5, K5, E_a, nb, knb, ge_nb, g_nb, V_nb, F_a_elementData, F_a_size, F_a_modCount⟩ := hQ5
  have NF := Fr.app NF NQ5
  have OL := OL.keep K5 (allS g_a all0)
  have E_x := E_x.keep K5
  have Zs := Nat.le_trans Zs K5.1
  have KP := KP.trans K5 ((allS (Or.inl (by simp)) all0))
  have ne_a_nb : a ≠ nb := Nat.ne_of_lt (Nat.lt_of_lt_of_le lt_a ge_nb)
  have ne_x_nb : x ≠ nb := Nat.ne_of_lt (Nat.lt_of_lt_of_le lt_x ge_nb)
  have sz_nb : h0.size ≤ nb := Nat.le_trans KPo.1 ge_nb
  refine own_go (T' := T5) (g' := (mkF m 23 #[.val (.ref a), .val (.ref x)] [])) (fun _ k => st5.trans k) ?_
  refine own_go (T' := T5) (g' := (mkF m 24 #[.val (.ref a), .val (.ref x)] [(.int (1 : Int32))])) (fun _ k => XS.iconst X5.here hx rfl (hb hby own_d14_23) k) ?_
  refine own_ret X5 Bd.notSynchronized (some (.int (1 : Int32))) (fun h => by rw [Bd.returns] at h; cases h) (fun fs hr => retN X5 hx (t := .boolean) Bd.returns (by simp) (hb hby own_d14_24) hr) ?_ (by decide) (by decide)
  show (own_Q14 Z a x de cde h0 n0) (some (.int (1 : Int32))) T5.heap _
  exact ⟨rfl, NF, KP, E_a, nb, knb, sz_nb, g_nb, V_nb, F_a_elementData, F_a_size, F_a_modCount⟩
theorem own_d15_0 : decode jdk_30_method_1_code 0 = .ok (.aload_n 0, 1) := by decide +kernel
theorem own_d15_1 : decode jdk_30_method_1_code 1 = .ok (.invokespecial 1, 3) := by decide +kernel
theorem own_d15_4 : decode jdk_30_method_1_code 4 = .ok (.return_, 1) := by decide +kernel
theorem own_pn15 : plainName "java/lang/Record" = true := by first | (simp [plainName, overriddenIn]; done) | decide +kernel
theorem own_ef15 (m : MethodId) (a : Addr) : entryFrame m #[(.ref a)] 1 = mkF m 0 #[.val (.ref a)] [] := by first | (simp [entryFrame, mkF, argsToLocals, Value.category]; done) | rfl
def own_Q15 (Z : State) (a : Addr) (h0 : Heap) (n0 : Nat) (v : Option Value) (h : Heap) (L : List Loc) : Prop := v = none ∧ Fr n0 L ∧ h = h0
set_option maxRecDepth 65536 in
set_option maxHeartbeats 40000000 in
theorem own_rm15 (l : Launch) (Z : State) (a0 : Array Value) (hw : ∀ d ∈ tables_1, d.before a0 Z = true) (ws : List Jvm.Cond) (a : Addr) (h0 : Heap) (n0 : Nat) (Zs : n0 ≤ h0.size)  :
    MetFree l (⟨"java/lang/Record", "<init>", "()V"⟩ : MethodName) (head1 (Jvm.Cond.code (⟨"java/lang/Record", "<init>", "()V"⟩ : MethodName) jdk_30_method_1_code 1 none :: ws) ({ frames := 1, cells := 0, slots := 0, locals := 12 } : Room)) (fun aA_ U => aA_ = #[(.ref a)] ∧ Z.Warmed39 U.vm ∧ U.heap = h0) (fun _ _ _ _ _ => True) (fun _ U o U' => ∃ v L, o = .returned v ∧ own_Q15 Z a h0 n0 v U'.heap L ∧ FrameEnd U o U' L ({ frames := 1, cells := 0, slots := 0, locals := 12 } : Room).cells ({ frames := 1, cells := 0, slots := 0, locals := 12 } : Room).slots) := by
  refine MetFree.of_bodySF (plainFor_of_name own_pn15) hisR ?_
  intro p e s m args below meth c s₁ Bd hml0 hP hK
  obtain ⟨rfl, hZ, hh⟩ := hP
  have hx := Bd.exec
  have hby := Bd.bytes
  have hml : c.maxLocals = 1 := hml0
  have hown : s.vm.findClass "java/lang/Record" = some m.cls := findClass_of_methodNamed Bd.named
  have hnm := (name_of_methodNamed Bd.named Bd.method).1
  have X0 : Stand p l e ({ frames := 1, cells := 0, slots := 0, locals := 12 } : Room) s m #[(.ref a)] below meth c s₁ [] 0 0 := Stand.of_body Bd
  have e0 : s₁.heap = h0 := by rw [← hh, Bd.state]; rfl
  have NF := Fr.nil n0
  rw [own_ef15 m a]
  show own_Dn p e below s (own_Q15 Z a h0 n0) 0 0 s₁ (mkF m 0 #[.val (.ref a)] [])
  refine own_go (T' := s₁) (g' := (mkF m 1 #[.val (.ref a)] [(.ref a)])) (fun _ k => XS.aloadN X0.here hx rfl (hb hby own_d15_0) rfl rfl k) ?_
  obtain ⟨T1, X1, e1, st1⟩ := initO X0 hx hZ hown (hw _ (List.mem_of_getElem? (i := 125) rfl)) (hw _ (List.mem_of_getElem? (i := 32) rfl)) (hw _ (List.mem_of_getElem? (i := 33) rfl)) e0 (g := (mkF m 1 #[.val (.ref a)] [(.ref a)])) rfl (by rw [hml]; rfl) rfl (hb hby own_d15_1) (by decide) (W := 0) (by show 2 * 0 + _ ≤ _; exact Nat.le_of_eq rfl) (by decide)
  refine own_go (T' := T1) (g' := (mkF m 4 #[.val (.ref a)] [])) (fun _ k => st1 _ k) ?_
  refine own_ret X1 Bd.notSynchronized none (fun _ => rfl) (fun fs hr => X1.returnOut hx Bd.returns (hb hby own_d15_4) hr) ?_ (by decide) (by decide)
  show (own_Q15 Z a h0 n0) none T1.heap _
  rw [e1]
  exact ⟨rfl, NF, rfl⟩
theorem own_d16_0_0 : decode prog_73_method_1_code 0 = .ok (.aload_n 0, 1) := by decide +kernel
theorem own_d16_0_1 : decode prog_73_method_1_code 1 = .ok (.invokespecial 1, 3) := by decide +kernel
theorem own_d16_0_4 : decode prog_73_method_1_code 4 = .ok (.aload_n 0, 1) := by decide +kernel
theorem own_d16_0_5 : decode prog_73_method_1_code 5 = .ok (.aload_n 1, 1) := by decide +kernel
theorem own_d16_0_6 : decode prog_73_method_1_code 6 = .ok (.putfield 7, 3) := by decide +kernel
theorem own_d16_0_9 : decode prog_73_method_1_code 9 = .ok (.aload_n 0, 1) := by decide +kernel
theorem own_d16_0_10 : decode prog_73_method_1_code 10 = .ok (.aload_n 2, 1) := by decide +kernel
theorem own_d16_0_11 : decode prog_73_method_1_code 11 = .ok (.putfield 13, 3) := by decide +kernel
theorem own_d16_0_14 : decode prog_73_method_1_code 14 = .ok (.aload_n 0, 1) := by decide +kernel
theorem own_d16_0_15 : decode prog_73_method_1_code 15 = .ok (.iload_n 3, 1) := by decide +kernel
theorem own_d16_0_16 : decode prog_73_method_1_code 16 = .ok (.putfield 16, 3) := by decide +kernel
theorem own_d16_0_19 : decode prog_73_method_1_code 19 = .ok (.return_, 1) := by decide +kernel
theorem own_pn16_0 : plainName "com/example/ordence/ordence/Formula$Table" = true := by first | (simp [plainName, overriddenIn]; done) | decide +kernel
theorem own_pd16_0_0 : parseMethodDescriptor "()V" = some ⟨[], none⟩ := by decide +kernel
theorem own_ef16_0 (m : MethodId) (a : Addr) (va : Addr) (ta : Addr) : entryFrame m #[(.ref a), (.ref va), (.ref ta), (.int (0 : Int32))] 4 = mkF m 0 #[.val (.ref a), .val (.ref va), .val (.ref ta), .val (.int (0 : Int32))] [] := by first | (simp [entryFrame, mkF, argsToLocals, Value.category]; done) | rfl
def own_Q16_0 (Z : State) (a : Addr) (va : Addr) (ta : Addr) (h0 : Heap) (n0 : Nat) (v : Option Value) (h : Heap) (L : List Loc) : Prop := v = none ∧ Fr n0 L ∧ Keep h0 h [a] ∧ Exa Z h a "com/example/ordence/ordence/Formula$Table" ∧ Fld Z h a "com/example/ordence/ordence/Formula$Table" "variables" "Ljava/util/List;" (.ref va) ∧ Fld Z h a "com/example/ordence/ordence/Formula$Table" "tuples" "Ljava/util/List;" (.ref ta) ∧ Fld Z h a "com/example/ordence/ordence/Formula$Table" "supports" "Z" (.int (0 : Int32))
set_option maxRecDepth 65536 in
set_option maxHeartbeats 40000000 in
theorem own_rm16_0 (l : Launch) (Z : State) (a0 : Array Value) (hw : ∀ d ∈ tables_1, d.before a0 Z = true) (ws : List Jvm.Cond) (a : Addr) (va : Addr) (ta : Addr) (h0 : Heap) (n0 : Nat) (Zs : n0 ≤ h0.size) (F_a_variables : Fld Z h0 a "com/example/ordence/ordence/Formula$Table" "variables" "Ljava/util/List;" .null) (F_a_tuples : Fld Z h0 a "com/example/ordence/ordence/Formula$Table" "tuples" "Ljava/util/List;" .null) (F_a_supports : Fld Z h0 a "com/example/ordence/ordence/Formula$Table" "supports" "Z" (.int (0 : Int32))) (E_a : Exa Z h0 a "com/example/ordence/ordence/Formula$Table") (g_a : n0 ≤ a) :
    MetFree l (⟨"com/example/ordence/ordence/Formula$Table", "<init>", "(Ljava/util/List;Ljava/util/List;Z)V"⟩ : MethodName) (head1 (Jvm.Cond.code (⟨"com/example/ordence/ordence/Formula$Table", "<init>", "(Ljava/util/List;Ljava/util/List;Z)V"⟩ : MethodName) prog_73_method_1_code 4 none :: ws) ({ frames := 2, cells := 0, slots := 0, locals := 24 } : Room)) (fun aA_ U => aA_ = #[(.ref a), (.ref va), (.ref ta), (.int (0 : Int32))] ∧ Z.Warmed39 U.vm ∧ U.heap = h0) (fun _ _ _ _ _ => True) (fun _ U o U' => ∃ v L, o = .returned v ∧ own_Q16_0 Z a va ta h0 n0 v U'.heap L ∧ FrameEnd U o U' L ({ frames := 2, cells := 0, slots := 0, locals := 24 } : Room).cells ({ frames := 2, cells := 0, slots := 0, locals := 24 } : Room).slots) := by
  refine MetFree.of_bodySF (plainFor_of_name own_pn16_0) hisR ?_
  intro p e s m args below meth c s₁ Bd hml0 hP hK
  obtain ⟨rfl, hZ, hh⟩ := hP
  have hx := Bd.exec
  have hby := Bd.bytes
  have hml : c.maxLocals = 4 := hml0
  have hown : s.vm.findClass "com/example/ordence/ordence/Formula$Table" = some m.cls := findClass_of_methodNamed Bd.named
  have hnm := (name_of_methodNamed Bd.named Bd.method).1
  have X0 : Stand p l e ({ frames := 2, cells := 0, slots := 0, locals := 24 } : Room) s m #[(.ref a), (.ref va), (.ref ta), (.int (0 : Int32))] below meth c s₁ [] 0 0 := Stand.of_body Bd
  have e0 : s₁.heap = h0 := by rw [← hh, Bd.state]; rfl
  have NF := Fr.nil n0
  rw [own_ef16_0 m a va ta]
  show own_Dn p e below s (own_Q16_0 Z a va ta h0 n0) 0 0 s₁ (mkF m 0 #[.val (.ref a), .val (.ref va), .val (.ref ta), .val (.int (0 : Int32))] [])
  have KP := Keep.refl h0 [a]
  refine own_go (T' := s₁) (g' := (mkF m 1 #[.val (.ref a), .val (.ref va), .val (.ref ta), .val (.int (0 : Int32))] [(.ref a)])) (fun _ k => XS.aloadN X0.here hx rfl (hb hby own_d16_0_0) rfl rfl k) ?_
  obtain ⟨_, _, ⟨T1, L1, k1, n1⟩, -, X1, ⟨Lc1, hQ1, l1, y1, z1⟩, st1⟩ := X0.specialBack hx (y := (⟨"java/lang/Record", "<init>", "()V"⟩ : MethodName)) rfl hown (mvT hZ (hw _ (List.mem_of_getElem? (i := 120) rfl))) (mvT hZ (hw _ (List.mem_of_getElem? (i := 121) rfl))) (mvT hZ (hw _ (List.mem_of_getElem? (i := 124) rfl))) (by decide) (backOf (W := 0) (own_rm15 l Z a0 hw [] a h0 n0 Zs) hZ (hw _ (List.mem_of_getElem? (i := 124) rfl)) (hw _ (List.mem_of_getElem? (i := 123) rfl)) (by decide) (by decide)) (g := (mkF m 1 #[.val (.ref a), .val (.ref va), .val (.ref ta), .val (.int (0 : Int32))] [(.ref a)])) rfl (by rw [hml]; rfl) (Steps.refl _) (a := a) (argsL := []) (rest := []) (lenOf own_pd16_0_0 rfl) rfl (by show 2 * 0 + _ ≤ _; exact Nat.le_of_eq rfl) (hb hby own_d16_0_1) (fun _ _ => ⟨rfl, e0, (by decide : 0 + 0 ≤ _), (by decide : 0 + 0 ≤ _)⟩)
  dsimp only [Pt.U, Pt.locs, Pt.cells, Pt.slots] at X1 l1 y1 z1 st1 hQ1
  subst l1 y1 z1
  obtain ⟨rfl, NQ1, eq1⟩ := hQ1
  have NF := Fr.app NF NQ1
  refine own_go (T' := T1) (g' := (mkF m 4 #[.val (.ref a), .val (.ref va), .val (.ref ta), .val (.int (0 : Int32))] [])) (fun _ k => st1.trans k) ?_
  refine own_go (T' := T1) (g' := (mkF m 5 #[.val (.ref a), .val (.ref va), .val (.ref ta), .val (.int (0 : Int32))] [(.ref a)])) (fun _ k => XS.aloadN X1.here hx rfl (hb hby own_d16_0_4) rfl rfl k) ?_
  refine own_go (T' := T1) (g' := (mkF m 6 #[.val (.ref a), .val (.ref va), .val (.ref ta), .val (.int (0 : Int32))] [(.ref va), (.ref a)])) (fun _ k => XS.aloadN X1.here hx rfl (hb hby own_d16_0_5) rfl rfl k) ?_
  obtain ⟨T2, h2, X2, e2, W2, st2⟩ := putF X1 hx hZ hown (host := "") (Or.inl (hw _ (List.mem_of_getElem? (i := 126) rfl))) Via.refl eq1 F_a_variables E_a (Or.inr ⟨(hw _ (List.mem_of_getElem? (i := 127) rfl)), rfl, hnm⟩) (hw _ (List.mem_of_getElem? (i := 115) rfl)) (ty := (.object "java/util/List")) (by decide) rfl rfl (g := (mkF m 6 #[.val (.ref a), .val (.ref va), .val (.ref ta), .val (.int (0 : Int32))] [(.ref va), (.ref a)])) rfl rfl (hb hby own_d16_0_6)
  have E_a := E_a.wr W2
  have F_a_tuples := F_a_tuples.other W2 (Or.inr (slot_ne (Or.inr (hw _ (List.mem_of_getElem? (i := 129) rfl))) (Or.inr (hw _ (List.mem_of_getElem? (i := 127) rfl))) (by decide) (t := (.object "java/util/List")) (t' := (.object "java/util/List")) (by decide) (by decide)))
  have F_a_supports := F_a_supports.other W2 (Or.inr (slot_ne (Or.inr (hw _ (List.mem_of_getElem? (i := 131) rfl))) (Or.inr (hw _ (List.mem_of_getElem? (i := 127) rfl))) (by decide) (t := .boolean) (t' := (.object "java/util/List")) (by decide) (by decide)))
  have Zs := Nat.le_trans Zs (Keep.of_wr W2).1
  have F_a_variables := F_a_variables.same W2
  have KP := KP.wr W2 (Or.inl (by simp))
  have NF := Fr.snoc X2 NF g_a
  refine own_go (T' := T2) (g' := (mkF m 9 #[.val (.ref a), .val (.ref va), .val (.ref ta), .val (.int (0 : Int32))] [])) (fun _ k => st2 _ k) ?_
  refine own_go (T' := T2) (g' := (mkF m 10 #[.val (.ref a), .val (.ref va), .val (.ref ta), .val (.int (0 : Int32))] [(.ref a)])) (fun _ k => XS.aloadN X2.here hx rfl (hb hby own_d16_0_9) rfl rfl k) ?_
  refine own_go (T' := T2) (g' := (mkF m 11 #[.val (.ref a), .val (.ref va), .val (.ref ta), .val (.int (0 : Int32))] [(.ref ta), (.ref a)])) (fun _ k => XS.aloadN X2.here hx rfl (hb hby own_d16_0_10) rfl rfl k) ?_
  obtain ⟨T3, h3, X3, e3, W3, st3⟩ := putF X2 hx hZ hown (host := "") (Or.inl (hw _ (List.mem_of_getElem? (i := 128) rfl))) Via.refl e2 F_a_tuples E_a (Or.inr ⟨(hw _ (List.mem_of_getElem? (i := 129) rfl)), rfl, hnm⟩) (hw _ (List.mem_of_getElem? (i := 115) rfl)) (ty := (.object "java/util/List")) (by decide) rfl rfl (g := (mkF m 11 #[.val (.ref a), .val (.ref va), .val (.ref ta), .val (.int (0 : Int32))] [(.ref ta), (.ref a)])) rfl rfl (hb hby own_d16_0_11)
  have E_a := E_a.wr W3
  have F_a_supports := F_a_supports.other W3 (Or.inr (slot_ne (Or.inr (hw _ (List.mem_of_getElem? (i := 131) rfl))) (Or.inr (hw _ (List.mem_of_getElem? (i := 129) rfl))) (by decide) (t := .boolean) (t' := (.object "java/util/List")) (by decide) (by decide)))
  have F_a_variables := F_a_variables.other W3 (Or.inr (slot_ne (Or.inr (hw _ (List.mem_of_getElem? (i := 127) rfl))) (Or.inr (hw _ (List.mem_of_getElem? (i := 129) rfl))) (by decide) (t := (.object "java/util/List")) (t' := (.object "java/util/List")) (by decide) (by decide)))
  have Zs := Nat.le_trans Zs (Keep.of_wr W3).1
  have F_a_tuples := F_a_tuples.same W3
  have KP := KP.wr W3 (Or.inl (by simp))
  have NF := Fr.snoc X3 NF g_a
  refine own_go (T' := T3) (g' := (mkF m 14 #[.val (.ref a), .val (.ref va), .val (.ref ta), .val (.int (0 : Int32))] [])) (fun _ k => st3 _ k) ?_
  refine own_go (T' := T3) (g' := (mkF m 15 #[.val (.ref a), .val (.ref va), .val (.ref ta), .val (.int (0 : Int32))] [(.ref a)])) (fun _ k => XS.aloadN X3.here hx rfl (hb hby own_d16_0_14) rfl rfl k) ?_
  refine own_go (T' := T3) (g' := (mkF m 16 #[.val (.ref a), .val (.ref va), .val (.ref ta), .val (.int (0 : Int32))] [(.int (0 : Int32)), (.ref a)])) (fun _ k => XS.iloadN X3.here hx rfl (hb hby own_d16_0_15) rfl k) ?_
  obtain ⟨T4, h4, X4, e4, W4, st4⟩ := putFN X3 hx hZ hown (hw _ (List.mem_of_getElem? (i := 130) rfl)) Via.refl e3 F_a_supports E_a (Or.inr ⟨(hw _ (List.mem_of_getElem? (i := 131) rfl)), rfl, hnm⟩) (hw _ (List.mem_of_getElem? (i := 115) rfl)) (ty := .boolean) (v' := (.int (0 : Int32))) (by decide) rfl (by decide) (g := (mkF m 16 #[.val (.ref a), .val (.ref va), .val (.ref ta), .val (.int (0 : Int32))] [(.int (0 : Int32)), (.ref a)])) rfl rfl (hb hby own_d16_0_16)
  have E_a := E_a.wr W4
  have F_a_variables := F_a_variables.other W4 (Or.inr (slot_ne (Or.inr (hw _ (List.mem_of_getElem? (i := 127) rfl))) (Or.inr (hw _ (List.mem_of_getElem? (i := 131) rfl))) (by decide) (t := (.object "java/util/List")) (t' := .boolean) (by decide) (by decide)))
  have F_a_tuples := F_a_tuples.other W4 (Or.inr (slot_ne (Or.inr (hw _ (List.mem_of_getElem? (i := 129) rfl))) (Or.inr (hw _ (List.mem_of_getElem? (i := 131) rfl))) (by decide) (t := (.object "java/util/List")) (t' := .boolean) (by decide) (by decide)))
  have Zs := Nat.le_trans Zs (Keep.of_wr W4).1
  have F_a_supports := F_a_supports.same W4
  have KP := KP.wr W4 (Or.inl (by simp))
  have NF := Fr.snoc X4 NF g_a
  refine own_go (T' := T4) (g' := (mkF m 19 #[.val (.ref a), .val (.ref va), .val (.ref ta), .val (.int (0 : Int32))] [])) (fun _ k => st4 _ k) ?_
  refine own_ret X4 Bd.notSynchronized none (fun _ => rfl) (fun fs hr => X4.returnOut hx Bd.returns (hb hby own_d16_0_19) hr) ?_ (by decide) (by decide)
  show (own_Q16_0 Z a va ta h0 n0) none T4.heap _
  rw [e4]
  exact ⟨rfl, NF, KP, E_a, F_a_variables, F_a_tuples, F_a_supports⟩
theorem own_d16_1_0 : decode prog_73_method_1_code 0 = .ok (.aload_n 0, 1) := by decide +kernel
theorem own_d16_1_1 : decode prog_73_method_1_code 1 = .ok (.invokespecial 1, 3) := by decide +kernel
theorem own_d16_1_4 : decode prog_73_method_1_code 4 = .ok (.aload_n 0, 1) := by decide +kernel
theorem own_d16_1_5 : decode prog_73_method_1_code 5 = .ok (.aload_n 1, 1) := by decide +kernel
theorem own_d16_1_6 : decode prog_73_method_1_code 6 = .ok (.putfield 7, 3) := by decide +kernel
theorem own_d16_1_9 : decode prog_73_method_1_code 9 = .ok (.aload_n 0, 1) := by decide +kernel
theorem own_d16_1_10 : decode prog_73_method_1_code 10 = .ok (.aload_n 2, 1) := by decide +kernel
theorem own_d16_1_11 : decode prog_73_method_1_code 11 = .ok (.putfield 13, 3) := by decide +kernel
theorem own_d16_1_14 : decode prog_73_method_1_code 14 = .ok (.aload_n 0, 1) := by decide +kernel
theorem own_d16_1_15 : decode prog_73_method_1_code 15 = .ok (.iload_n 3, 1) := by decide +kernel
theorem own_d16_1_16 : decode prog_73_method_1_code 16 = .ok (.putfield 16, 3) := by decide +kernel
theorem own_d16_1_19 : decode prog_73_method_1_code 19 = .ok (.return_, 1) := by decide +kernel
theorem own_pn16_1 : plainName "com/example/ordence/ordence/Formula$Table" = true := by first | (simp [plainName, overriddenIn]; done) | decide +kernel
theorem own_pd16_1_0 : parseMethodDescriptor "()V" = some ⟨[], none⟩ := by decide +kernel
theorem own_ef16_1 (m : MethodId) (a : Addr) (va : Addr) (ta : Addr) : entryFrame m #[(.ref a), (.ref va), (.ref ta), (.int (1 : Int32))] 4 = mkF m 0 #[.val (.ref a), .val (.ref va), .val (.ref ta), .val (.int (1 : Int32))] [] := by first | (simp [entryFrame, mkF, argsToLocals, Value.category]; done) | rfl
def own_Q16_1 (Z : State) (a : Addr) (va : Addr) (ta : Addr) (h0 : Heap) (n0 : Nat) (v : Option Value) (h : Heap) (L : List Loc) : Prop := v = none ∧ Fr n0 L ∧ Keep h0 h [a] ∧ Exa Z h a "com/example/ordence/ordence/Formula$Table" ∧ Fld Z h a "com/example/ordence/ordence/Formula$Table" "variables" "Ljava/util/List;" (.ref va) ∧ Fld Z h a "com/example/ordence/ordence/Formula$Table" "tuples" "Ljava/util/List;" (.ref ta) ∧ Fld Z h a "com/example/ordence/ordence/Formula$Table" "supports" "Z" (.int (1 : Int32))
set_option maxRecDepth 65536 in
set_option maxHeartbeats 40000000 in
theorem own_rm16_1 (l : Launch) (Z : State) (a0 : Array Value) (hw : ∀ d ∈ tables_1, d.before a0 Z = true) (ws : List Jvm.Cond) (a : Addr) (va : Addr) (ta : Addr) (h0 : Heap) (n0 : Nat) (Zs : n0 ≤ h0.size) (F_a_variables : Fld Z h0 a "com/example/ordence/ordence/Formula$Table" "variables" "Ljava/util/List;" .null) (F_a_tuples : Fld Z h0 a "com/example/ordence/ordence/Formula$Table" "tuples" "Ljava/util/List;" .null) (F_a_supports : Fld Z h0 a "com/example/ordence/ordence/Formula$Table" "supports" "Z" (.int (0 : Int32))) (E_a : Exa Z h0 a "com/example/ordence/ordence/Formula$Table") (g_a : n0 ≤ a) :
    MetFree l (⟨"com/example/ordence/ordence/Formula$Table", "<init>", "(Ljava/util/List;Ljava/util/List;Z)V"⟩ : MethodName) (head1 (Jvm.Cond.code (⟨"com/example/ordence/ordence/Formula$Table", "<init>", "(Ljava/util/List;Ljava/util/List;Z)V"⟩ : MethodName) prog_73_method_1_code 4 none :: ws) ({ frames := 2, cells := 0, slots := 0, locals := 24 } : Room)) (fun aA_ U => aA_ = #[(.ref a), (.ref va), (.ref ta), (.int (1 : Int32))] ∧ Z.Warmed39 U.vm ∧ U.heap = h0) (fun _ _ _ _ _ => True) (fun _ U o U' => ∃ v L, o = .returned v ∧ own_Q16_1 Z a va ta h0 n0 v U'.heap L ∧ FrameEnd U o U' L ({ frames := 2, cells := 0, slots := 0, locals := 24 } : Room).cells ({ frames := 2, cells := 0, slots := 0, locals := 24 } : Room).slots) := by
  refine MetFree.of_bodySF (plainFor_of_name own_pn16_1) hisR ?_
  intro p e s m args below meth c s₁ Bd hml0 hP hK
  obtain ⟨rfl, hZ, hh⟩ := hP
  have hx := Bd.exec
  have hby := Bd.bytes
  have hml : c.maxLocals = 4 := hml0
  have hown : s.vm.findClass "com/example/ordence/ordence/Formula$Table" = some m.cls := findClass_of_methodNamed Bd.named
  have hnm := (name_of_methodNamed Bd.named Bd.method).1
  have X0 : Stand p l e ({ frames := 2, cells := 0, slots := 0, locals := 24 } : Room) s m #[(.ref a), (.ref va), (.ref ta), (.int (1 : Int32))] below meth c s₁ [] 0 0 := Stand.of_body Bd
  have e0 : s₁.heap = h0 := by rw [← hh, Bd.state]; rfl
  have NF := Fr.nil n0
  rw [own_ef16_1 m a va ta]
  show own_Dn p e below s (own_Q16_1 Z a va ta h0 n0) 0 0 s₁ (mkF m 0 #[.val (.ref a), .val (.ref va), .val (.ref ta), .val (.int (1 : Int32))] [])
  have KP := Keep.refl h0 [a]
  refine own_go (T' := s₁) (g' := (mkF m 1 #[.val (.ref a), .val (.ref va), .val (.ref ta), .val (.int (1 : Int32))] [(.ref a)])) (fun _ k => XS.aloadN X0.here hx rfl (hb hby own_d16_1_0) rfl rfl k) ?_
  obtain ⟨_, _, ⟨T1, L1, k1, n1⟩, -, X1, ⟨Lc1, hQ1, l1, y1, z1⟩, st1⟩ := X0.specialBack hx (y := (⟨"java/lang/Record", "<init>", "()V"⟩ : MethodName)) rfl hown (mvT hZ (hw _ (List.mem_of_getElem? (i := 120) rfl))) (mvT hZ (hw _ (List.mem_of_getElem? (i := 121) rfl))) (mvT hZ (hw _ (List.mem_of_getElem? (i := 124) rfl))) (by decide) (backOf (W := 0) (own_rm15 l Z a0 hw [] a h0 n0 Zs) hZ (hw _ (List.mem_of_getElem? (i := 124) rfl)) (hw _ (List.mem_of_getElem? (i := 123) rfl)) (by decide) (by decide)) (g := (mkF m 1 #[.val (.ref a), .val (.ref va), .val (.ref ta), .val (.int (1 : Int32))] [(.ref a)])) rfl (by rw [hml]; rfl) (Steps.refl _) (a := a) (argsL := []) (rest := []) (lenOf own_pd16_1_0 rfl) rfl (by show 2 * 0 + _ ≤ _; exact Nat.le_of_eq rfl) (hb hby own_d16_1_1) (fun _ _ => ⟨rfl, e0, (by decide : 0 + 0 ≤ _), (by decide : 0 + 0 ≤ _)⟩)
  dsimp only [Pt.U, Pt.locs, Pt.cells, Pt.slots] at X1 l1 y1 z1 st1 hQ1
  subst l1 y1 z1
  obtain ⟨rfl, NQ1, eq1⟩ := hQ1
  have NF := Fr.app NF NQ1
  refine own_go (T' := T1) (g' := (mkF m 4 #[.val (.ref a), .val (.ref va), .val (.ref ta), .val (.int (1 : Int32))] [])) (fun _ k => st1.trans k) ?_
  refine own_go (T' := T1) (g' := (mkF m 5 #[.val (.ref a), .val (.ref va), .val (.ref ta), .val (.int (1 : Int32))] [(.ref a)])) (fun _ k => XS.aloadN X1.here hx rfl (hb hby own_d16_1_4) rfl rfl k) ?_
  refine own_go (T' := T1) (g' := (mkF m 6 #[.val (.ref a), .val (.ref va), .val (.ref ta), .val (.int (1 : Int32))] [(.ref va), (.ref a)])) (fun _ k => XS.aloadN X1.here hx rfl (hb hby own_d16_1_5) rfl rfl k) ?_
  obtain ⟨T2, h2, X2, e2, W2, st2⟩ := putF X1 hx hZ hown (host := "") (Or.inl (hw _ (List.mem_of_getElem? (i := 126) rfl))) Via.refl eq1 F_a_variables E_a (Or.inr ⟨(hw _ (List.mem_of_getElem? (i := 127) rfl)), rfl, hnm⟩) (hw _ (List.mem_of_getElem? (i := 115) rfl)) (ty := (.object "java/util/List")) (by decide) rfl rfl (g := (mkF m 6 #[.val (.ref a), .val (.ref va), .val (.ref ta), .val (.int (1 : Int32))] [(.ref va), (.ref a)])) rfl rfl (hb hby own_d16_1_6)
  have E_a := E_a.wr W2
  have F_a_tuples := F_a_tuples.other W2 (Or.inr (slot_ne (Or.inr (hw _ (List.mem_of_getElem? (i := 129) rfl))) (Or.inr (hw _ (List.mem_of_getElem? (i := 127) rfl))) (by decide) (t := (.object "java/util/List")) (t' := (.object "java/util/List")) (by decide) (by decide)))
  have F_a_supports := F_a_supports.other W2 (Or.inr (slot_ne (Or.inr (hw _ (List.mem_of_getElem? (i := 131) rfl))) (Or.inr (hw _ (List.mem_of_getElem? (i := 127) rfl))) (by decide) (t := .boolean) (t' := (.object "java/util/List")) (by decide) (by decide)))
  have Zs := Nat.le_trans Zs (Keep.of_wr W2).1
  have F_a_variables := F_a_variables.same W2
  have KP := KP.wr W2 (Or.inl (by simp))
  have NF := Fr.snoc X2 NF g_a
  refine own_go (T' := T2) (g' := (mkF m 9 #[.val (.ref a), .val (.ref va), .val (.ref ta), .val (.int (1 : Int32))] [])) (fun _ k => st2 _ k) ?_
  refine own_go (T' := T2) (g' := (mkF m 10 #[.val (.ref a), .val (.ref va), .val (.ref ta), .val (.int (1 : Int32))] [(.ref a)])) (fun _ k => XS.aloadN X2.here hx rfl (hb hby own_d16_1_9) rfl rfl k) ?_
  refine own_go (T' := T2) (g' := (mkF m 11 #[.val (.ref a), .val (.ref va), .val (.ref ta), .val (.int (1 : Int32))] [(.ref ta), (.ref a)])) (fun _ k => XS.aloadN X2.here hx rfl (hb hby own_d16_1_10) rfl rfl k) ?_
  obtain ⟨T3, h3, X3, e3, W3, st3⟩ := putF X2 hx hZ hown (host := "") (Or.inl (hw _ (List.mem_of_getElem? (i := 128) rfl))) Via.refl e2 F_a_tuples E_a (Or.inr ⟨(hw _ (List.mem_of_getElem? (i := 129) rfl)), rfl, hnm⟩) (hw _ (List.mem_of_getElem? (i := 115) rfl)) (ty := (.object "java/util/List")) (by decide) rfl rfl (g := (mkF m 11 #[.val (.ref a), .val (.ref va), .val (.ref ta), .val (.int (1 : Int32))] [(.ref ta), (.ref a)])) rfl rfl (hb hby own_d16_1_11)
  have E_a := E_a.wr W3
  have F_a_supports := F_a_supports.other W3 (Or.inr (slot_ne (Or.inr (hw _ (List.mem_of_getElem? (i := 131) rfl))) (Or.inr (hw _ (List.mem_of_getElem? (i := 129) rfl))) (by decide) (t := .boolean) (t' := (.object "java/util/List")) (by decide) (by decide)))
  have F_a_variables := F_a_variables.other W3 (Or.inr (slot_ne (Or.inr (hw _ (List.mem_of_getElem? (i := 127) rfl))) (Or.inr (hw _ (List.mem_of_getElem? (i := 129) rfl))) (by decide) (t := (.object "java/util/List")) (t' := (.object "java/util/List")) (by decide) (by decide)))
  have Zs := Nat.le_trans Zs (Keep.of_wr W3).1
  have F_a_tuples := F_a_tuples.same W3
  have KP := KP.wr W3 (Or.inl (by simp))
  have NF := Fr.snoc X3 NF g_a
  refine own_go (T' := T3) (g' := (mkF m 14 #[.val (.ref a), .val (.ref va), .val (.ref ta), .val (.int (1 : Int32))] [])) (fun _ k => st3 _ k) ?_
  refine own_go (T' := T3) (g' := (mkF m 15 #[.val (.ref a), .val (.ref va), .val (.ref ta), .val (.int (1 : Int32))] [(.ref a)])) (fun _ k => XS.aloadN X3.here hx rfl (hb hby own_d16_1_14) rfl rfl k) ?_
  refine own_go (T' := T3) (g' := (mkF m 16 #[.val (.ref a), .val (.ref va), .val (.ref ta), .val (.int (1 : Int32))] [(.int (1 : Int32)), (.ref a)])) (fun _ k => XS.iloadN X3.here hx rfl (hb hby own_d16_1_15) rfl k) ?_
  obtain ⟨T4, h4, X4, e4, W4, st4⟩ := putFN X3 hx hZ hown (hw _ (List.mem_of_getElem? (i := 130) rfl)) Via.refl e3 F_a_supports E_a (Or.inr ⟨(hw _ (List.mem_of_getElem? (i := 131) rfl)), rfl, hnm⟩) (hw _ (List.mem_of_getElem? (i := 115) rfl)) (ty := .boolean) (v' := (.int (1 : Int32))) (by decide) rfl (by decide) (g := (mkF m 16 #[.val (.ref a), .val (.ref va), .val (.ref ta), .val (.int (1 : Int32))] [(.int (1 : Int32)), (.ref a)])) rfl rfl (hb hby own_d16_1_16)
  have E_a := E_a.wr W4
  have F_a_variables := F_a_variables.other W4 (Or.inr (slot_ne (Or.inr (hw _ (List.mem_of_getElem? (i := 127) rfl))) (Or.inr (hw _ (List.mem_of_getElem? (i := 131) rfl))) (by decide) (t := (.object "java/util/List")) (t' := .boolean) (by decide) (by decide)))
  have F_a_tuples := F_a_tuples.other W4 (Or.inr (slot_ne (Or.inr (hw _ (List.mem_of_getElem? (i := 129) rfl))) (Or.inr (hw _ (List.mem_of_getElem? (i := 131) rfl))) (by decide) (t := (.object "java/util/List")) (t' := .boolean) (by decide) (by decide)))
  have Zs := Nat.le_trans Zs (Keep.of_wr W4).1
  have F_a_supports := F_a_supports.same W4
  have KP := KP.wr W4 (Or.inl (by simp))
  have NF := Fr.snoc X4 NF g_a
  refine own_go (T' := T4) (g' := (mkF m 19 #[.val (.ref a), .val (.ref va), .val (.ref ta), .val (.int (1 : Int32))] [])) (fun _ k => st4 _ k) ?_
  refine own_ret X4 Bd.notSynchronized none (fun _ => rfl) (fun fs hr => X4.returnOut hx Bd.returns (hb hby own_d16_1_19) hr) ?_ (by decide) (by decide)
  show (own_Q16_1 Z a va ta h0 n0) none T4.heap _
  rw [e4]
  exact ⟨rfl, NF, KP, E_a, F_a_variables, F_a_tuples, F_a_supports⟩
theorem own_d17_0_0 : decode prog_73_method_2_code 0 = .ok (.new 8, 3) := by decide +kernel
theorem own_d17_0_3 : decode prog_73_method_2_code 3 = .ok (.dup, 1) := by decide +kernel
theorem own_d17_0_4 : decode prog_73_method_2_code 4 = .ok (.aload_n 0, 1) := by decide +kernel
theorem own_d17_0_5 : decode prog_73_method_2_code 5 = .ok (.getfield 7, 3) := by decide +kernel
theorem own_d17_0_8 : decode prog_73_method_2_code 8 = .ok (.aload_n 0, 1) := by decide +kernel
theorem own_d17_0_9 : decode prog_73_method_2_code 9 = .ok (.getfield 13, 3) := by decide +kernel
theorem own_d17_0_12 : decode prog_73_method_2_code 12 = .ok (.aload_n 0, 1) := by decide +kernel
theorem own_d17_0_13 : decode prog_73_method_2_code 13 = .ok (.getfield 16, 3) := by decide +kernel
theorem own_d17_0_16 : decode prog_73_method_2_code 16 = .ok (.ifCond .ne 7, 3) := by decide +kernel
theorem own_d17_0_19 : decode prog_73_method_2_code 19 = .ok (.iconst 1, 1) := by decide +kernel
theorem own_d17_0_20 : decode prog_73_method_2_code 20 = .ok (.goto 4, 3) := by decide +kernel
theorem own_d17_0_24 : decode prog_73_method_2_code 24 = .ok (.invokespecial 20, 3) := by decide +kernel
theorem own_d17_0_27 : decode prog_73_method_2_code 27 = .ok (.areturn, 1) := by decide +kernel
theorem own_pn17_0 : plainName "com/example/ordence/ordence/Formula$Table" = true := by first | (simp [plainName, overriddenIn]; done) | decide +kernel
theorem own_pd17_0_0 : parseMethodDescriptor "(Ljava/util/List;Ljava/util/List;Z)V" = some ⟨[(.object "java/util/List"), (.object "java/util/List"), .boolean], none⟩ := by decide +kernel
theorem own_ef17_0 (m : MethodId) (a : Addr) : entryFrame m #[(.ref a)] 1 = mkF m 0 #[.val (.ref a)] [] := by first | (simp [entryFrame, mkF, argsToLocals, Value.category]; done) | rfl
def own_Q17_0 (Z : State) (a : Addr) (va : Addr) (ta : Addr) (h0 : Heap) (n0 : Nat) (v : Option Value) (h : Heap) (L : List Loc) : Prop := Fr n0 L ∧ Keep h0 h [] ∧ (∃ b : Addr, v = some (.ref b) ∧ h0.size ≤ b ∧ n0 ≤ b ∧ Exa Z h b "com/example/ordence/ordence/Formula$Table" ∧ Fld Z h b "com/example/ordence/ordence/Formula$Table" "variables" "Ljava/util/List;" (.ref va) ∧ Fld Z h b "com/example/ordence/ordence/Formula$Table" "tuples" "Ljava/util/List;" (.ref ta) ∧ Fld Z h b "com/example/ordence/ordence/Formula$Table" "supports" "Z" (.int (1 : Int32)))
set_option maxRecDepth 65536 in
set_option maxHeartbeats 40000000 in
theorem own_rm17_0 (l : Launch) (Z : State) (a0 : Array Value) (hw : ∀ d ∈ tables_1, d.before a0 Z = true) (ws : List Jvm.Cond) (a : Addr) (va : Addr) (ta : Addr) (h0 : Heap) (n0 : Nat) (Zs : n0 ≤ h0.size) (F_a_variables : Fld Z h0 a "com/example/ordence/ordence/Formula$Table" "variables" "Ljava/util/List;" (.ref va)) (F_a_tuples : Fld Z h0 a "com/example/ordence/ordence/Formula$Table" "tuples" "Ljava/util/List;" (.ref ta)) (F_a_supports : Fld Z h0 a "com/example/ordence/ordence/Formula$Table" "supports" "Z" (.int (0 : Int32))) :
    MetFree l (⟨"com/example/ordence/ordence/Formula$Table", "negate", "()Lcom/example/ordence/ordence/Formula;"⟩ : MethodName) (head1 (Jvm.Cond.code (⟨"com/example/ordence/ordence/Formula$Table", "negate", "()Lcom/example/ordence/ordence/Formula;"⟩ : MethodName) prog_73_method_2_code 1 (some (.object "com/example/ordence/ordence/Formula")) :: ws) ({ frames := 3, cells := 1, slots := 3, locals := 40 } : Room)) (fun aA_ U => aA_ = #[(.ref a)] ∧ Z.Warmed39 U.vm ∧ U.heap = h0) (fun _ _ _ _ _ => True) (fun _ U o U' => ∃ v L, o = .returned v ∧ own_Q17_0 Z a va ta h0 n0 v U'.heap L ∧ FrameEnd U o U' L ({ frames := 3, cells := 1, slots := 3, locals := 40 } : Room).cells ({ frames := 3, cells := 1, slots := 3, locals := 40 } : Room).slots) := by
  refine MetFree.of_bodySF (plainFor_of_name own_pn17_0) hisR ?_
  intro p e s m args below meth c s₁ Bd hml0 hP hK
  obtain ⟨rfl, hZ, hh⟩ := hP
  have hx := Bd.exec
  have hby := Bd.bytes
  have hml : c.maxLocals = 1 := hml0
  have hown : s.vm.findClass "com/example/ordence/ordence/Formula$Table" = some m.cls := findClass_of_methodNamed Bd.named
  have hnm := (name_of_methodNamed Bd.named Bd.method).1
  have X0 : Stand p l e ({ frames := 3, cells := 1, slots := 3, locals := 40 } : Room) s m #[(.ref a)] below meth c s₁ [] 0 0 := Stand.of_body Bd
  have e0 : s₁.heap = h0 := by rw [← hh, Bd.state]; rfl
  have NF := Fr.nil n0
  rw [own_ef17_0 m a]
  show own_Dn p e below s (own_Q17_0 Z a va ta h0 n0) 1 3 s₁ (mkF m 0 #[.val (.ref a)] [])
  have KP := Keep.refl h0 []
  obtain ⟨T1, h1, X1, e1, E1, A1, D1, -, st1⟩ := newO X0 hx hZ hown (hw _ (List.mem_of_getElem? (i := 137) rfl)) (hw _ (List.mem_of_getElem? (i := 115) rfl)) (hw _ (List.mem_of_getElem? (i := 116) rfl)) e0 (g := (mkF m 0 #[.val (.ref a)] [])) rfl (hb hby own_d17_0_0) (by decide) (by decide)
  obtain ⟨b1, g1⟩ : ∃ z, z = h0.size := ⟨_, rfl⟩
  rw [← g1] at A1 D1 st1
  have ne_a_b1 : a ≠ b1 := Nat.ne_of_lt (Nat.lt_of_lt_of_le F_a_variables.lt (Nat.le_of_eq g1.symm))
  have g_b1 : n0 ≤ b1 := Nat.le_trans Zs (Nat.le_of_eq g1.symm)
  have sz_b1 : h0.size ≤ b1 := Nat.le_trans KP.1 (Nat.le_of_eq g1.symm)
  have F_a_variables := F_a_variables.ext E1
  have F_a_tuples := F_a_tuples.ext E1
  have F_a_supports := F_a_supports.ext E1
  have KP := KP.ext E1
  have Zs := Nat.le_trans Zs E1.1
  have E_b1 := A1
  have F_b1_variables : Fld Z h1 b1 "com/example/ordence/ordence/Formula$Table" "variables" "Ljava/util/List;" .null := D1 (Or.inr (hw _ (List.mem_of_getElem? (i := 127) rfl))) (ty := (.object "java/util/List")) (by decide)
  have F_b1_tuples : Fld Z h1 b1 "com/example/ordence/ordence/Formula$Table" "tuples" "Ljava/util/List;" .null := D1 (Or.inr (hw _ (List.mem_of_getElem? (i := 129) rfl))) (ty := (.object "java/util/List")) (by decide)
  have F_b1_supports : Fld Z h1 b1 "com/example/ordence/ordence/Formula$Table" "supports" "Z" (.int (0 : Int32)) := D1 (Or.inr (hw _ (List.mem_of_getElem? (i := 131) rfl))) (ty := .boolean) (by decide)
  refine own_go (T' := T1) (g' := (mkF m 3 #[.val (.ref a)] [(.ref b1)])) (fun _ k => st1 _ k) ?_
  refine own_go (T' := T1) (g' := (mkF m 4 #[.val (.ref a)] [(.ref b1), (.ref b1)])) (fun _ k => XS.dup X1.here hx rfl (hb hby own_d17_0_3) rfl rfl k) ?_
  refine own_go (T' := T1) (g' := (mkF m 5 #[.val (.ref a)] [(.ref a), (.ref b1), (.ref b1)])) (fun _ k => XS.aloadN X1.here hx rfl (hb hby own_d17_0_4) rfl rfl k) ?_
  obtain ⟨T2, X2, e2, st2⟩ := getF X1 hx hZ hown (host := "") (Or.inl (hw _ (List.mem_of_getElem? (i := 126) rfl))) Via.refl e1 F_a_variables (g := (mkF m 5 #[.val (.ref a)] [(.ref a), (.ref b1), (.ref b1)])) rfl rfl (hb hby own_d17_0_5)
  refine own_go (T' := T2) (g' := (mkF m 8 #[.val (.ref a)] [(.ref va), (.ref b1), (.ref b1)])) (fun _ k => st2 _ k) ?_
  refine own_go (T' := T2) (g' := (mkF m 9 #[.val (.ref a)] [(.ref a), (.ref va), (.ref b1), (.ref b1)])) (fun _ k => XS.aloadN X2.here hx rfl (hb hby own_d17_0_8) rfl rfl k) ?_
  obtain ⟨T3, X3, e3, st3⟩ := getF X2 hx hZ hown (host := "") (Or.inl (hw _ (List.mem_of_getElem? (i := 128) rfl))) Via.refl e2 F_a_tuples (g := (mkF m 9 #[.val (.ref a)] [(.ref a), (.ref va), (.ref b1), (.ref b1)])) rfl rfl (hb hby own_d17_0_9)
  refine own_go (T' := T3) (g' := (mkF m 12 #[.val (.ref a)] [(.ref ta), (.ref va), (.ref b1), (.ref b1)])) (fun _ k => st3 _ k) ?_
  refine own_go (T' := T3) (g' := (mkF m 13 #[.val (.ref a)] [(.ref a), (.ref ta), (.ref va), (.ref b1), (.ref b1)])) (fun _ k => XS.aloadN X3.here hx rfl (hb hby own_d17_0_12) rfl rfl k) ?_
  obtain ⟨T4, X4, e4, st4⟩ := getF X3 hx hZ hown (host := "") (Or.inl (hw _ (List.mem_of_getElem? (i := 130) rfl))) Via.refl e3 F_a_supports (g := (mkF m 13 #[.val (.ref a)] [(.ref a), (.ref ta), (.ref va), (.ref b1), (.ref b1)])) rfl rfl (hb hby own_d17_0_13)
  refine own_go (T' := T4) (g' := (mkF m 16 #[.val (.ref a)] [(.int (0 : Int32)), (.ref ta), (.ref va), (.ref b1), (.ref b1)])) (fun _ k => st4 _ k) ?_
  refine own_go (T' := T4) (g' := (mkF m 19 #[.val (.ref a)] [(.ref ta), (.ref va), (.ref b1), (.ref b1)])) (fun _ k => XS.ifNo X4.here hx rfl (hb hby own_d17_0_16) rfl (by decide) k) ?_
  refine own_go (T' := T4) (g' := (mkF m 20 #[.val (.ref a)] [(.int (1 : Int32)), (.ref ta), (.ref va), (.ref b1), (.ref b1)])) (fun _ k => XS.iconst X4.here hx rfl (hb hby own_d17_0_19) k) ?_
  refine own_go (T' := T4) (g' := (mkF m 24 #[.val (.ref a)] [(.int (1 : Int32)), (.ref ta), (.ref va), (.ref b1), (.ref b1)])) (fun _ k => XS.goto X4.here hx rfl (pc0 := 20) (pc' := 24) rfl (hb hby own_d17_0_20) (by decide) (by decide) k) ?_
  obtain ⟨_, _, ⟨T5, L5, k5, n5⟩, -, X5, ⟨Lc5, hQ5, l5, y5, z5⟩, st5⟩ := X4.specialBack hx (y := (⟨"com/example/ordence/ordence/Formula$Table", "<init>", "(Ljava/util/List;Ljava/util/List;Z)V"⟩ : MethodName)) rfl hown (mvT hZ (hw _ (List.mem_of_getElem? (i := 138) rfl))) (mvT hZ (hw _ (List.mem_of_getElem? (i := 118) rfl))) (mvT hZ (hw _ (List.mem_of_getElem? (i := 119) rfl))) (by decide) (backOf (W := 1) (own_rm16_1 l Z a0 hw [] b1 va ta h1 n0 Zs F_b1_variables F_b1_tuples F_b1_supports E_b1 g_b1) hZ (hw _ (List.mem_of_getElem? (i := 119) rfl)) (hw _ (List.mem_of_getElem? (i := 116) rfl)) (by decide) (by decide)) (g := (mkF m 24 #[.val (.ref a)] [(.int (1 : Int32)), (.ref ta), (.ref va), (.ref b1), (.ref b1)])) rfl (by rw [hml]; rfl) (Steps.refl _) (a := b1) (argsL := [(.ref va), (.ref ta), (.int (1 : Int32))]) (rest := [(.ref b1)]) (lenOf own_pd17_0_0 rfl) rfl (by show 2 * 0 + _ ≤ _; exact Nat.le_of_eq rfl) (hb hby own_d17_0_24) (fun _ _ => ⟨rfl, e4, (by decide : 1 + 0 ≤ _), (by decide : 3 + 0 ≤ _)⟩)
  dsimp only [Pt.U, Pt.locs, Pt.cells, Pt.slots] at X5 l5 y5 z5 st5 hQ5
  subst l5 y5 z5
  obtain ⟨rfl, NQ5, K5, E_b1, F_b1_variables, F_b1_tuples, F_b1_supports⟩ := hQ5
  have NF := Fr.app NF NQ5
  have F_a_variables := F_a_variables.keep K5 (ninS ne_a_b1 nin0)
  have F_a_tuples := F_a_tuples.keep K5 (ninS ne_a_b1 nin0)
  have F_a_supports := F_a_supports.keep K5 (ninS ne_a_b1 nin0)
  have Zs := Nat.le_trans Zs K5.1
  have KP := KP.trans K5 ((allS (Or.inr sz_b1) all0))
  refine own_go (T' := T5) (g' := (mkF m 27 #[.val (.ref a)] [(.ref b1)])) (fun _ k => st5.trans k) ?_
  refine own_ret X5 Bd.notSynchronized (some (.ref b1)) (fun h => by rw [Bd.returns] at h; cases h) (fun fs hr => retOut X5 hx (t := (.object "com/example/ordence/ordence/Formula")) Bd.returns rfl (Or.inr (Or.inr (Or.inr (Or.inr ⟨rfl, rfl, rfl⟩)))) (hb hby own_d17_0_27) hr) ?_ (by decide) (by decide)
  show (own_Q17_0 Z a va ta h0 n0) (some (.ref b1)) T5.heap _
  exact ⟨NF, KP, b1, rfl, sz_b1, g_b1, E_b1, F_b1_variables, F_b1_tuples, F_b1_supports⟩
theorem own_d18_0_0 : decode prog_73_method_8_code 0 = .ok (.aload_n 0, 1) := by decide +kernel
theorem own_d18_0_1 : decode prog_73_method_8_code 1 = .ok (.getfield 16, 3) := by decide +kernel
theorem own_d18_0_4 : decode prog_73_method_8_code 4 = .ok (.ireturn, 1) := by decide +kernel
theorem own_pn18_0 : plainName "com/example/ordence/ordence/Formula$Table" = true := by first | (simp [plainName, overriddenIn]; done) | decide +kernel
theorem own_ef18_0 (m : MethodId) (a : Addr) : entryFrame m #[(.ref a)] 1 = mkF m 0 #[.val (.ref a)] [] := by first | (simp [entryFrame, mkF, argsToLocals, Value.category]; done) | rfl
def own_Q18_0 (Z : State) (a : Addr) (va : Addr) (ta : Addr) (h0 : Heap) (n0 : Nat) (v : Option Value) (h : Heap) (L : List Loc) : Prop := v = some (.int (0 : Int32)) ∧ Fr n0 L ∧ h = h0
set_option maxRecDepth 65536 in
set_option maxHeartbeats 40000000 in
theorem own_rm18_0 (l : Launch) (Z : State) (a0 : Array Value) (hw : ∀ d ∈ tables_1, d.before a0 Z = true) (ws : List Jvm.Cond) (a : Addr) (va : Addr) (ta : Addr) (h0 : Heap) (n0 : Nat) (Zs : n0 ≤ h0.size) (F_a_variables : Fld Z h0 a "com/example/ordence/ordence/Formula$Table" "variables" "Ljava/util/List;" (.ref va)) (F_a_tuples : Fld Z h0 a "com/example/ordence/ordence/Formula$Table" "tuples" "Ljava/util/List;" (.ref ta)) (F_a_supports : Fld Z h0 a "com/example/ordence/ordence/Formula$Table" "supports" "Z" (.int (0 : Int32))) :
    MetFree l (⟨"com/example/ordence/ordence/Formula$Table", "supports", "()Z"⟩ : MethodName) (head1 (Jvm.Cond.code (⟨"com/example/ordence/ordence/Formula$Table", "supports", "()Z"⟩ : MethodName) prog_73_method_8_code 1 (some .boolean) :: ws) ({ frames := 0, cells := 0, slots := 0, locals := 0 } : Room)) (fun aA_ U => aA_ = #[(.ref a)] ∧ Z.Warmed39 U.vm ∧ U.heap = h0) (fun _ _ _ _ _ => True) (fun _ U o U' => ∃ v L, o = .returned v ∧ own_Q18_0 Z a va ta h0 n0 v U'.heap L ∧ FrameEnd U o U' L ({ frames := 0, cells := 0, slots := 0, locals := 0 } : Room).cells ({ frames := 0, cells := 0, slots := 0, locals := 0 } : Room).slots) := by
  refine MetFree.of_bodySF (plainFor_of_name own_pn18_0) hisR ?_
  intro p e s m args below meth c s₁ Bd hml0 hP hK
  obtain ⟨rfl, hZ, hh⟩ := hP
  have hx := Bd.exec
  have hby := Bd.bytes
  have hml : c.maxLocals = 1 := hml0
  have hown : s.vm.findClass "com/example/ordence/ordence/Formula$Table" = some m.cls := findClass_of_methodNamed Bd.named
  have hnm := (name_of_methodNamed Bd.named Bd.method).1
  have X0 : Stand p l e ({ frames := 0, cells := 0, slots := 0, locals := 0 } : Room) s m #[(.ref a)] below meth c s₁ [] 0 0 := Stand.of_body Bd
  have e0 : s₁.heap = h0 := by rw [← hh, Bd.state]; rfl
  have NF := Fr.nil n0
  rw [own_ef18_0 m a]
  show own_Dn p e below s (own_Q18_0 Z a va ta h0 n0) 0 0 s₁ (mkF m 0 #[.val (.ref a)] [])
  refine own_go (T' := s₁) (g' := (mkF m 1 #[.val (.ref a)] [(.ref a)])) (fun _ k => XS.aloadN X0.here hx rfl (hb hby own_d18_0_0) rfl rfl k) ?_
  obtain ⟨T1, X1, e1, st1⟩ := getF X0 hx hZ hown (host := "") (Or.inl (hw _ (List.mem_of_getElem? (i := 130) rfl))) Via.refl e0 F_a_supports (g := (mkF m 1 #[.val (.ref a)] [(.ref a)])) rfl rfl (hb hby own_d18_0_1)
  refine own_go (T' := T1) (g' := (mkF m 4 #[.val (.ref a)] [(.int (0 : Int32))])) (fun _ k => st1 _ k) ?_
  refine own_ret X1 Bd.notSynchronized (some (.int (0 : Int32))) (fun h => by rw [Bd.returns] at h; cases h) (fun fs hr => retN X1 hx (t := .boolean) Bd.returns (by simp) (hb hby own_d18_0_4) hr) ?_ (by decide) (by decide)
  show (own_Q18_0 Z a va ta h0 n0) (some (.int (0 : Int32))) T1.heap _
  rw [e1]
  exact ⟨rfl, NF, rfl⟩
theorem own_d17_1_0 : decode prog_73_method_2_code 0 = .ok (.new 8, 3) := by decide +kernel
theorem own_d17_1_3 : decode prog_73_method_2_code 3 = .ok (.dup, 1) := by decide +kernel
theorem own_d17_1_4 : decode prog_73_method_2_code 4 = .ok (.aload_n 0, 1) := by decide +kernel
theorem own_d17_1_5 : decode prog_73_method_2_code 5 = .ok (.getfield 7, 3) := by decide +kernel
theorem own_d17_1_8 : decode prog_73_method_2_code 8 = .ok (.aload_n 0, 1) := by decide +kernel
theorem own_d17_1_9 : decode prog_73_method_2_code 9 = .ok (.getfield 13, 3) := by decide +kernel
theorem own_d17_1_12 : decode prog_73_method_2_code 12 = .ok (.aload_n 0, 1) := by decide +kernel
theorem own_d17_1_13 : decode prog_73_method_2_code 13 = .ok (.getfield 16, 3) := by decide +kernel
theorem own_d17_1_16 : decode prog_73_method_2_code 16 = .ok (.ifCond .ne 7, 3) := by decide +kernel
theorem own_d17_1_23 : decode prog_73_method_2_code 23 = .ok (.iconst 0, 1) := by decide +kernel
theorem own_d17_1_24 : decode prog_73_method_2_code 24 = .ok (.invokespecial 20, 3) := by decide +kernel
theorem own_d17_1_27 : decode prog_73_method_2_code 27 = .ok (.areturn, 1) := by decide +kernel
theorem own_pn17_1 : plainName "com/example/ordence/ordence/Formula$Table" = true := by first | (simp [plainName, overriddenIn]; done) | decide +kernel
theorem own_pd17_1_0 : parseMethodDescriptor "(Ljava/util/List;Ljava/util/List;Z)V" = some ⟨[(.object "java/util/List"), (.object "java/util/List"), .boolean], none⟩ := by decide +kernel
theorem own_ef17_1 (m : MethodId) (a : Addr) : entryFrame m #[(.ref a)] 1 = mkF m 0 #[.val (.ref a)] [] := by first | (simp [entryFrame, mkF, argsToLocals, Value.category]; done) | rfl
def own_Q17_1 (Z : State) (a : Addr) (va : Addr) (ta : Addr) (h0 : Heap) (n0 : Nat) (v : Option Value) (h : Heap) (L : List Loc) : Prop := Fr n0 L ∧ Keep h0 h [] ∧ (∃ b : Addr, v = some (.ref b) ∧ h0.size ≤ b ∧ n0 ≤ b ∧ Exa Z h b "com/example/ordence/ordence/Formula$Table" ∧ Fld Z h b "com/example/ordence/ordence/Formula$Table" "variables" "Ljava/util/List;" (.ref va) ∧ Fld Z h b "com/example/ordence/ordence/Formula$Table" "tuples" "Ljava/util/List;" (.ref ta) ∧ Fld Z h b "com/example/ordence/ordence/Formula$Table" "supports" "Z" (.int (0 : Int32)))
set_option maxRecDepth 65536 in
set_option maxHeartbeats 40000000 in
theorem own_rm17_1 (l : Launch) (Z : State) (a0 : Array Value) (hw : ∀ d ∈ tables_1, d.before a0 Z = true) (ws : List Jvm.Cond) (a : Addr) (va : Addr) (ta : Addr) (h0 : Heap) (n0 : Nat) (Zs : n0 ≤ h0.size) (F_a_variables : Fld Z h0 a "com/example/ordence/ordence/Formula$Table" "variables" "Ljava/util/List;" (.ref va)) (F_a_tuples : Fld Z h0 a "com/example/ordence/ordence/Formula$Table" "tuples" "Ljava/util/List;" (.ref ta)) (F_a_supports : Fld Z h0 a "com/example/ordence/ordence/Formula$Table" "supports" "Z" (.int (1 : Int32))) :
    MetFree l (⟨"com/example/ordence/ordence/Formula$Table", "negate", "()Lcom/example/ordence/ordence/Formula;"⟩ : MethodName) (head1 (Jvm.Cond.code (⟨"com/example/ordence/ordence/Formula$Table", "negate", "()Lcom/example/ordence/ordence/Formula;"⟩ : MethodName) prog_73_method_2_code 1 (some (.object "com/example/ordence/ordence/Formula")) :: ws) ({ frames := 3, cells := 1, slots := 3, locals := 40 } : Room)) (fun aA_ U => aA_ = #[(.ref a)] ∧ Z.Warmed39 U.vm ∧ U.heap = h0) (fun _ _ _ _ _ => True) (fun _ U o U' => ∃ v L, o = .returned v ∧ own_Q17_1 Z a va ta h0 n0 v U'.heap L ∧ FrameEnd U o U' L ({ frames := 3, cells := 1, slots := 3, locals := 40 } : Room).cells ({ frames := 3, cells := 1, slots := 3, locals := 40 } : Room).slots) := by
  refine MetFree.of_bodySF (plainFor_of_name own_pn17_1) hisR ?_
  intro p e s m args below meth c s₁ Bd hml0 hP hK
  obtain ⟨rfl, hZ, hh⟩ := hP
  have hx := Bd.exec
  have hby := Bd.bytes
  have hml : c.maxLocals = 1 := hml0
  have hown : s.vm.findClass "com/example/ordence/ordence/Formula$Table" = some m.cls := findClass_of_methodNamed Bd.named
  have hnm := (name_of_methodNamed Bd.named Bd.method).1
  have X0 : Stand p l e ({ frames := 3, cells := 1, slots := 3, locals := 40 } : Room) s m #[(.ref a)] below meth c s₁ [] 0 0 := Stand.of_body Bd
  have e0 : s₁.heap = h0 := by rw [← hh, Bd.state]; rfl
  have NF := Fr.nil n0
  rw [own_ef17_1 m a]
  show own_Dn p e below s (own_Q17_1 Z a va ta h0 n0) 1 3 s₁ (mkF m 0 #[.val (.ref a)] [])
  have KP := Keep.refl h0 []
  obtain ⟨T1, h1, X1, e1, E1, A1, D1, -, st1⟩ := newO X0 hx hZ hown (hw _ (List.mem_of_getElem? (i := 137) rfl)) (hw _ (List.mem_of_getElem? (i := 115) rfl)) (hw _ (List.mem_of_getElem? (i := 116) rfl)) e0 (g := (mkF m 0 #[.val (.ref a)] [])) rfl (hb hby own_d17_1_0) (by decide) (by decide)
  obtain ⟨b1, g1⟩ : ∃ z, z = h0.size := ⟨_, rfl⟩
  rw [← g1] at A1 D1 st1
  have ne_a_b1 : a ≠ b1 := Nat.ne_of_lt (Nat.lt_of_lt_of_le F_a_variables.lt (Nat.le_of_eq g1.symm))
  have g_b1 : n0 ≤ b1 := Nat.le_trans Zs (Nat.le_of_eq g1.symm)
  have sz_b1 : h0.size ≤ b1 := Nat.le_trans KP.1 (Nat.le_of_eq g1.symm)
  have F_a_variables := F_a_variables.ext E1
  have F_a_tuples := F_a_tuples.ext E1
  have F_a_supports := F_a_supports.ext E1
  have KP := KP.ext E1
  have Zs := Nat.le_trans Zs E1.1
  have E_b1 := A1
  have F_b1_variables : Fld Z h1 b1 "com/example/ordence/ordence/Formula$Table" "variables" "Ljava/util/List;" .null := D1 (Or.inr (hw _ (List.mem_of_getElem? (i := 127) rfl))) (ty := (.object "java/util/List")) (by decide)
  have F_b1_tuples : Fld Z h1 b1 "com/example/ordence/ordence/Formula$Table" "tuples" "Ljava/util/List;" .null := D1 (Or.inr (hw _ (List.mem_of_getElem? (i := 129) rfl))) (ty := (.object "java/util/List")) (by decide)
  have F_b1_supports : Fld Z h1 b1 "com/example/ordence/ordence/Formula$Table" "supports" "Z" (.int (0 : Int32)) := D1 (Or.inr (hw _ (List.mem_of_getElem? (i := 131) rfl))) (ty := .boolean) (by decide)
  refine own_go (T' := T1) (g' := (mkF m 3 #[.val (.ref a)] [(.ref b1)])) (fun _ k => st1 _ k) ?_
  refine own_go (T' := T1) (g' := (mkF m 4 #[.val (.ref a)] [(.ref b1), (.ref b1)])) (fun _ k => XS.dup X1.here hx rfl (hb hby own_d17_1_3) rfl rfl k) ?_
  refine own_go (T' := T1) (g' := (mkF m 5 #[.val (.ref a)] [(.ref a), (.ref b1), (.ref b1)])) (fun _ k => XS.aloadN X1.here hx rfl (hb hby own_d17_1_4) rfl rfl k) ?_
  obtain ⟨T2, X2, e2, st2⟩ := getF X1 hx hZ hown (host := "") (Or.inl (hw _ (List.mem_of_getElem? (i := 126) rfl))) Via.refl e1 F_a_variables (g := (mkF m 5 #[.val (.ref a)] [(.ref a), (.ref b1), (.ref b1)])) rfl rfl (hb hby own_d17_1_5)
  refine own_go (T' := T2) (g' := (mkF m 8 #[.val (.ref a)] [(.ref va), (.ref b1), (.ref b1)])) (fun _ k => st2 _ k) ?_
  refine own_go (T' := T2) (g' := (mkF m 9 #[.val (.ref a)] [(.ref a), (.ref va), (.ref b1), (.ref b1)])) (fun _ k => XS.aloadN X2.here hx rfl (hb hby own_d17_1_8) rfl rfl k) ?_
  obtain ⟨T3, X3, e3, st3⟩ := getF X2 hx hZ hown (host := "") (Or.inl (hw _ (List.mem_of_getElem? (i := 128) rfl))) Via.refl e2 F_a_tuples (g := (mkF m 9 #[.val (.ref a)] [(.ref a), (.ref va), (.ref b1), (.ref b1)])) rfl rfl (hb hby own_d17_1_9)
  refine own_go (T' := T3) (g' := (mkF m 12 #[.val (.ref a)] [(.ref ta), (.ref va), (.ref b1), (.ref b1)])) (fun _ k => st3 _ k) ?_
  refine own_go (T' := T3) (g' := (mkF m 13 #[.val (.ref a)] [(.ref a), (.ref ta), (.ref va), (.ref b1), (.ref b1)])) (fun _ k => XS.aloadN X3.here hx rfl (hb hby own_d17_1_12) rfl rfl k) ?_
  obtain ⟨T4, X4, e4, st4⟩ := getF X3 hx hZ hown (host := "") (Or.inl (hw _ (List.mem_of_getElem? (i := 130) rfl))) Via.refl e3 F_a_supports (g := (mkF m 13 #[.val (.ref a)] [(.ref a), (.ref ta), (.ref va), (.ref b1), (.ref b1)])) rfl rfl (hb hby own_d17_1_13)
  refine own_go (T' := T4) (g' := (mkF m 16 #[.val (.ref a)] [(.int (1 : Int32)), (.ref ta), (.ref va), (.ref b1), (.ref b1)])) (fun _ k => st4 _ k) ?_
  refine own_go (T' := T4) (g' := (mkF m 23 #[.val (.ref a)] [(.ref ta), (.ref va), (.ref b1), (.ref b1)])) (fun _ k => XS.ifYes X4.here hx rfl (pc0 := 16) (pc' := 23) rfl (hb hby own_d17_1_16) rfl (by decide) (by decide) (by decide) k) ?_
  refine own_go (T' := T4) (g' := (mkF m 24 #[.val (.ref a)] [(.int (0 : Int32)), (.ref ta), (.ref va), (.ref b1), (.ref b1)])) (fun _ k => XS.iconst X4.here hx rfl (hb hby own_d17_1_23) k) ?_
  obtain ⟨_, _, ⟨T5, L5, k5, n5⟩, -, X5, ⟨Lc5, hQ5, l5, y5, z5⟩, st5⟩ := X4.specialBack hx (y := (⟨"com/example/ordence/ordence/Formula$Table", "<init>", "(Ljava/util/List;Ljava/util/List;Z)V"⟩ : MethodName)) rfl hown (mvT hZ (hw _ (List.mem_of_getElem? (i := 138) rfl))) (mvT hZ (hw _ (List.mem_of_getElem? (i := 118) rfl))) (mvT hZ (hw _ (List.mem_of_getElem? (i := 119) rfl))) (by decide) (backOf (W := 1) (own_rm16_0 l Z a0 hw [] b1 va ta h1 n0 Zs F_b1_variables F_b1_tuples F_b1_supports E_b1 g_b1) hZ (hw _ (List.mem_of_getElem? (i := 119) rfl)) (hw _ (List.mem_of_getElem? (i := 116) rfl)) (by decide) (by decide)) (g := (mkF m 24 #[.val (.ref a)] [(.int (0 : Int32)), (.ref ta), (.ref va), (.ref b1), (.ref b1)])) rfl (by rw [hml]; rfl) (Steps.refl _) (a := b1) (argsL := [(.ref va), (.ref ta), (.int (0 : Int32))]) (rest := [(.ref b1)]) (lenOf own_pd17_1_0 rfl) rfl (by show 2 * 0 + _ ≤ _; exact Nat.le_of_eq rfl) (hb hby own_d17_1_24) (fun _ _ => ⟨rfl, e4, (by decide : 1 + 0 ≤ _), (by decide : 3 + 0 ≤ _)⟩)
  dsimp only [Pt.U, Pt.locs, Pt.cells, Pt.slots] at X5 l5 y5 z5 st5 hQ5
  subst l5 y5 z5
  obtain ⟨rfl, NQ5, K5, E_b1, F_b1_variables, F_b1_tuples, F_b1_supports⟩ := hQ5
  have NF := Fr.app NF NQ5
  have F_a_variables := F_a_variables.keep K5 (ninS ne_a_b1 nin0)
  have F_a_tuples := F_a_tuples.keep K5 (ninS ne_a_b1 nin0)
  have F_a_supports := F_a_supports.keep K5 (ninS ne_a_b1 nin0)
  have Zs := Nat.le_trans Zs K5.1
  have KP := KP.trans K5 ((allS (Or.inr sz_b1) all0))
  refine own_go (T' := T5) (g' := (mkF m 27 #[.val (.ref a)] [(.ref b1)])) (fun _ k => st5.trans k) ?_
  refine own_ret X5 Bd.notSynchronized (some (.ref b1)) (fun h => by rw [Bd.returns] at h; cases h) (fun fs hr => retOut X5 hx (t := (.object "com/example/ordence/ordence/Formula")) Bd.returns rfl (Or.inr (Or.inr (Or.inr (Or.inr ⟨rfl, rfl, rfl⟩)))) (hb hby own_d17_1_27) hr) ?_ (by decide) (by decide)
  show (own_Q17_1 Z a va ta h0 n0) (some (.ref b1)) T5.heap _
  exact ⟨NF, KP, b1, rfl, sz_b1, g_b1, E_b1, F_b1_variables, F_b1_tuples, F_b1_supports⟩
theorem own_d18_1_0 : decode prog_73_method_8_code 0 = .ok (.aload_n 0, 1) := by decide +kernel
theorem own_d18_1_1 : decode prog_73_method_8_code 1 = .ok (.getfield 16, 3) := by decide +kernel
theorem own_d18_1_4 : decode prog_73_method_8_code 4 = .ok (.ireturn, 1) := by decide +kernel
theorem own_pn18_1 : plainName "com/example/ordence/ordence/Formula$Table" = true := by first | (simp [plainName, overriddenIn]; done) | decide +kernel
theorem own_ef18_1 (m : MethodId) (a : Addr) : entryFrame m #[(.ref a)] 1 = mkF m 0 #[.val (.ref a)] [] := by first | (simp [entryFrame, mkF, argsToLocals, Value.category]; done) | rfl
def own_Q18_1 (Z : State) (a : Addr) (va : Addr) (ta : Addr) (h0 : Heap) (n0 : Nat) (v : Option Value) (h : Heap) (L : List Loc) : Prop := v = some (.int (1 : Int32)) ∧ Fr n0 L ∧ h = h0
set_option maxRecDepth 65536 in
set_option maxHeartbeats 40000000 in
theorem own_rm18_1 (l : Launch) (Z : State) (a0 : Array Value) (hw : ∀ d ∈ tables_1, d.before a0 Z = true) (ws : List Jvm.Cond) (a : Addr) (va : Addr) (ta : Addr) (h0 : Heap) (n0 : Nat) (Zs : n0 ≤ h0.size) (F_a_variables : Fld Z h0 a "com/example/ordence/ordence/Formula$Table" "variables" "Ljava/util/List;" (.ref va)) (F_a_tuples : Fld Z h0 a "com/example/ordence/ordence/Formula$Table" "tuples" "Ljava/util/List;" (.ref ta)) (F_a_supports : Fld Z h0 a "com/example/ordence/ordence/Formula$Table" "supports" "Z" (.int (1 : Int32))) :
    MetFree l (⟨"com/example/ordence/ordence/Formula$Table", "supports", "()Z"⟩ : MethodName) (head1 (Jvm.Cond.code (⟨"com/example/ordence/ordence/Formula$Table", "supports", "()Z"⟩ : MethodName) prog_73_method_8_code 1 (some .boolean) :: ws) ({ frames := 0, cells := 0, slots := 0, locals := 0 } : Room)) (fun aA_ U => aA_ = #[(.ref a)] ∧ Z.Warmed39 U.vm ∧ U.heap = h0) (fun _ _ _ _ _ => True) (fun _ U o U' => ∃ v L, o = .returned v ∧ own_Q18_1 Z a va ta h0 n0 v U'.heap L ∧ FrameEnd U o U' L ({ frames := 0, cells := 0, slots := 0, locals := 0 } : Room).cells ({ frames := 0, cells := 0, slots := 0, locals := 0 } : Room).slots) := by
  refine MetFree.of_bodySF (plainFor_of_name own_pn18_1) hisR ?_
  intro p e s m args below meth c s₁ Bd hml0 hP hK
  obtain ⟨rfl, hZ, hh⟩ := hP
  have hx := Bd.exec
  have hby := Bd.bytes
  have hml : c.maxLocals = 1 := hml0
  have hown : s.vm.findClass "com/example/ordence/ordence/Formula$Table" = some m.cls := findClass_of_methodNamed Bd.named
  have hnm := (name_of_methodNamed Bd.named Bd.method).1
  have X0 : Stand p l e ({ frames := 0, cells := 0, slots := 0, locals := 0 } : Room) s m #[(.ref a)] below meth c s₁ [] 0 0 := Stand.of_body Bd
  have e0 : s₁.heap = h0 := by rw [← hh, Bd.state]; rfl
  have NF := Fr.nil n0
  rw [own_ef18_1 m a]
  show own_Dn p e below s (own_Q18_1 Z a va ta h0 n0) 0 0 s₁ (mkF m 0 #[.val (.ref a)] [])
  refine own_go (T' := s₁) (g' := (mkF m 1 #[.val (.ref a)] [(.ref a)])) (fun _ k => XS.aloadN X0.here hx rfl (hb hby own_d18_1_0) rfl rfl k) ?_
  obtain ⟨T1, X1, e1, st1⟩ := getF X0 hx hZ hown (host := "") (Or.inl (hw _ (List.mem_of_getElem? (i := 130) rfl))) Via.refl e0 F_a_supports (g := (mkF m 1 #[.val (.ref a)] [(.ref a)])) rfl rfl (hb hby own_d18_1_1)
  refine own_go (T' := T1) (g' := (mkF m 4 #[.val (.ref a)] [(.int (1 : Int32))])) (fun _ k => st1 _ k) ?_
  refine own_ret X1 Bd.notSynchronized (some (.int (1 : Int32))) (fun h => by rw [Bd.returns] at h; cases h) (fun fs hr => retN X1 hx (t := .boolean) Bd.returns (by simp) (hb hby own_d18_1_4) hr) ?_ (by decide) (by decide)
  show (own_Q18_1 Z a va ta h0 n0) (some (.int (1 : Int32))) T1.heap _
  rw [e1]
  exact ⟨rfl, NF, rfl⟩
theorem own_d20_0 : decode prog_73_method_6_code 0 = .ok (.aload_n 0, 1) := by decide +kernel
theorem own_d20_1 : decode prog_73_method_6_code 1 = .ok (.getfield 7, 3) := by decide +kernel
theorem own_d20_4 : decode prog_73_method_6_code 4 = .ok (.areturn, 1) := by decide +kernel
theorem own_pn20 : plainName "com/example/ordence/ordence/Formula$Table" = true := by first | (simp [plainName, overriddenIn]; done) | decide +kernel
theorem own_ef20 (m : MethodId) (a : Addr) : entryFrame m #[(.ref a)] 1 = mkF m 0 #[.val (.ref a)] [] := by first | (simp [entryFrame, mkF, argsToLocals, Value.category]; done) | rfl
def own_Q20 (Z : State) (a : Addr) (va : Addr) (h0 : Heap) (n0 : Nat) (v : Option Value) (h : Heap) (L : List Loc) : Prop := v = some (.ref va) ∧ Fr n0 L ∧ h = h0
set_option maxRecDepth 65536 in
set_option maxHeartbeats 40000000 in
theorem own_rm20 (l : Launch) (Z : State) (a0 : Array Value) (hw : ∀ d ∈ tables_1, d.before a0 Z = true) (ws : List Jvm.Cond) (a : Addr) (va : Addr) (h0 : Heap) (n0 : Nat) (Zs : n0 ≤ h0.size) (F_a_variables : Fld Z h0 a "com/example/ordence/ordence/Formula$Table" "variables" "Ljava/util/List;" (.ref va)) :
    MetFree l (⟨"com/example/ordence/ordence/Formula$Table", "variables", "()Ljava/util/List;"⟩ : MethodName) (head1 (Jvm.Cond.code (⟨"com/example/ordence/ordence/Formula$Table", "variables", "()Ljava/util/List;"⟩ : MethodName) prog_73_method_6_code 1 (some (.object "java/util/List")) :: ws) ({ frames := 0, cells := 0, slots := 0, locals := 0 } : Room)) (fun aA_ U => aA_ = #[(.ref a)] ∧ Z.Warmed39 U.vm ∧ U.heap = h0) (fun _ _ _ _ _ => True) (fun _ U o U' => ∃ v L, o = .returned v ∧ own_Q20 Z a va h0 n0 v U'.heap L ∧ FrameEnd U o U' L ({ frames := 0, cells := 0, slots := 0, locals := 0 } : Room).cells ({ frames := 0, cells := 0, slots := 0, locals := 0 } : Room).slots) := by
  refine MetFree.of_bodySF (plainFor_of_name own_pn20) hisR ?_
  intro p e s m args below meth c s₁ Bd hml0 hP hK
  obtain ⟨rfl, hZ, hh⟩ := hP
  have hx := Bd.exec
  have hby := Bd.bytes
  have hml : c.maxLocals = 1 := hml0
  have hown : s.vm.findClass "com/example/ordence/ordence/Formula$Table" = some m.cls := findClass_of_methodNamed Bd.named
  have hnm := (name_of_methodNamed Bd.named Bd.method).1
  have X0 : Stand p l e ({ frames := 0, cells := 0, slots := 0, locals := 0 } : Room) s m #[(.ref a)] below meth c s₁ [] 0 0 := Stand.of_body Bd
  have e0 : s₁.heap = h0 := by rw [← hh, Bd.state]; rfl
  have NF := Fr.nil n0
  rw [own_ef20 m a]
  show own_Dn p e below s (own_Q20 Z a va h0 n0) 0 0 s₁ (mkF m 0 #[.val (.ref a)] [])
  refine own_go (T' := s₁) (g' := (mkF m 1 #[.val (.ref a)] [(.ref a)])) (fun _ k => XS.aloadN X0.here hx rfl (hb hby own_d20_0) rfl rfl k) ?_
  obtain ⟨T1, X1, e1, st1⟩ := getF X0 hx hZ hown (host := "") (Or.inl (hw _ (List.mem_of_getElem? (i := 126) rfl))) Via.refl e0 F_a_variables (g := (mkF m 1 #[.val (.ref a)] [(.ref a)])) rfl rfl (hb hby own_d20_1)
  refine own_go (T' := T1) (g' := (mkF m 4 #[.val (.ref a)] [(.ref va)])) (fun _ k => st1 _ k) ?_
  refine own_ret X1 Bd.notSynchronized (some (.ref va)) (fun h => by rw [Bd.returns] at h; cases h) (fun fs hr => retOut X1 hx (t := (.object "java/util/List")) Bd.returns rfl (Or.inr (Or.inr (Or.inr (Or.inr ⟨rfl, rfl, rfl⟩)))) (hb hby own_d20_4) hr) ?_ (by decide) (by decide)
  show (own_Q20 Z a va h0 n0) (some (.ref va)) T1.heap _
  rw [e1]
  exact ⟨rfl, NF, rfl⟩
theorem own_d26_0 : decode prog_73_method_7_code 0 = .ok (.aload_n 0, 1) := by decide +kernel
theorem own_d26_1 : decode prog_73_method_7_code 1 = .ok (.getfield 13, 3) := by decide +kernel
theorem own_d26_4 : decode prog_73_method_7_code 4 = .ok (.areturn, 1) := by decide +kernel
theorem own_pn26 : plainName "com/example/ordence/ordence/Formula$Table" = true := by first | (simp [plainName, overriddenIn]; done) | decide +kernel
theorem own_ef26 (m : MethodId) (a : Addr) : entryFrame m #[(.ref a)] 1 = mkF m 0 #[.val (.ref a)] [] := by first | (simp [entryFrame, mkF, argsToLocals, Value.category]; done) | rfl
def own_Q26 (Z : State) (a : Addr) (va : Addr) (h0 : Heap) (n0 : Nat) (v : Option Value) (h : Heap) (L : List Loc) : Prop := v = some (.ref va) ∧ Fr n0 L ∧ h = h0
set_option maxRecDepth 65536 in
set_option maxHeartbeats 40000000 in
theorem own_rm26 (l : Launch) (Z : State) (a0 : Array Value) (hw : ∀ d ∈ tables_1, d.before a0 Z = true) (ws : List Jvm.Cond) (a : Addr) (va : Addr) (h0 : Heap) (n0 : Nat) (Zs : n0 ≤ h0.size) (F_a_tuples : Fld Z h0 a "com/example/ordence/ordence/Formula$Table" "tuples" "Ljava/util/List;" (.ref va)) :
    MetFree l (⟨"com/example/ordence/ordence/Formula$Table", "tuples", "()Ljava/util/List;"⟩ : MethodName) (head1 (Jvm.Cond.code (⟨"com/example/ordence/ordence/Formula$Table", "tuples", "()Ljava/util/List;"⟩ : MethodName) prog_73_method_7_code 1 (some (.object "java/util/List")) :: ws) ({ frames := 0, cells := 0, slots := 0, locals := 0 } : Room)) (fun aA_ U => aA_ = #[(.ref a)] ∧ Z.Warmed39 U.vm ∧ U.heap = h0) (fun _ _ _ _ _ => True) (fun _ U o U' => ∃ v L, o = .returned v ∧ own_Q26 Z a va h0 n0 v U'.heap L ∧ FrameEnd U o U' L ({ frames := 0, cells := 0, slots := 0, locals := 0 } : Room).cells ({ frames := 0, cells := 0, slots := 0, locals := 0 } : Room).slots) := by
  refine MetFree.of_bodySF (plainFor_of_name own_pn26) hisR ?_
  intro p e s m args below meth c s₁ Bd hml0 hP hK
  obtain ⟨rfl, hZ, hh⟩ := hP
  have hx := Bd.exec
  have hby := Bd.bytes
  have hml : c.maxLocals = 1 := hml0
  have hown : s.vm.findClass "com/example/ordence/ordence/Formula$Table" = some m.cls := findClass_of_methodNamed Bd.named
  have hnm := (name_of_methodNamed Bd.named Bd.method).1
  have X0 : Stand p l e ({ frames := 0, cells := 0, slots := 0, locals := 0 } : Room) s m #[(.ref a)] below meth c s₁ [] 0 0 := Stand.of_body Bd
  have e0 : s₁.heap = h0 := by rw [← hh, Bd.state]; rfl
  have NF := Fr.nil n0
  rw [own_ef26 m a]
  show own_Dn p e below s (own_Q26 Z a va h0 n0) 0 0 s₁ (mkF m 0 #[.val (.ref a)] [])
  refine own_go (T' := s₁) (g' := (mkF m 1 #[.val (.ref a)] [(.ref a)])) (fun _ k => XS.aloadN X0.here hx rfl (hb hby own_d26_0) rfl rfl k) ?_
  obtain ⟨T1, X1, e1, st1⟩ := getF X0 hx hZ hown (host := "") (Or.inl (hw _ (List.mem_of_getElem? (i := 128) rfl))) Via.refl e0 F_a_tuples (g := (mkF m 1 #[.val (.ref a)] [(.ref a)])) rfl rfl (hb hby own_d26_1)
  refine own_go (T' := T1) (g' := (mkF m 4 #[.val (.ref a)] [(.ref va)])) (fun _ k => st1 _ k) ?_
  refine own_ret X1 Bd.notSynchronized (some (.ref va)) (fun h => by rw [Bd.returns] at h; cases h) (fun fs hr => retOut X1 hx (t := (.object "java/util/List")) Bd.returns rfl (Or.inr (Or.inr (Or.inr (Or.inr ⟨rfl, rfl, rfl⟩)))) (hb hby own_d26_4) hr) ?_ (by decide) (by decide)
  show (own_Q26 Z a va h0 n0) (some (.ref va)) T1.heap _
  rw [e1]
  exact ⟨rfl, NF, rfl⟩
theorem own_d21_0 : decode jdk_38_method_8_code 0 = .ok (.aload_n 0, 1) := by decide +kernel
theorem own_d21_1 : decode jdk_38_method_8_code 1 = .ok (.getfield 48, 3) := by decide +kernel
theorem own_d21_4 : decode jdk_38_method_8_code 4 = .ok (.ireturn, 1) := by decide +kernel
theorem own_pn21 : plainName "java/util/ArrayList" = true := by first | (simp [plainName, overriddenIn]; done) | decide +kernel
theorem own_ef21 (m : MethodId) (a : Addr) : entryFrame m #[(.ref a)] 1 = mkF m 0 #[.val (.ref a)] [] := by first | (simp [entryFrame, mkF, argsToLocals, Value.category]; done) | rfl
def own_Q21 (Z : State) (a : Addr) (sz : Int32) (h0 : Heap) (n0 : Nat) (v : Option Value) (h : Heap) (L : List Loc) : Prop := v = some (.int sz) ∧ Fr n0 L ∧ h = h0
set_option maxRecDepth 65536 in
set_option maxHeartbeats 40000000 in
theorem own_rm21 (l : Launch) (Z : State) (a0 : Array Value) (hw : ∀ d ∈ tables_1, d.before a0 Z = true) (ws : List Jvm.Cond) (a : Addr) (sz : Int32) (h0 : Heap) (n0 : Nat) (Zs : n0 ≤ h0.size) (F_a_size : Fld Z h0 a "java/util/ArrayList" "size" "I" (.int sz)) :
    MetFree l (⟨"java/util/ArrayList", "size", "()I"⟩ : MethodName) (head1 (Jvm.Cond.code (⟨"java/util/ArrayList", "size", "()I"⟩ : MethodName) jdk_38_method_8_code 1 (some .int) :: ws) ({ frames := 0, cells := 0, slots := 0, locals := 0 } : Room)) (fun aA_ U => aA_ = #[(.ref a)] ∧ Z.Warmed39 U.vm ∧ U.heap = h0) (fun _ _ _ _ _ => True) (fun _ U o U' => ∃ v L, o = .returned v ∧ own_Q21 Z a sz h0 n0 v U'.heap L ∧ FrameEnd U o U' L ({ frames := 0, cells := 0, slots := 0, locals := 0 } : Room).cells ({ frames := 0, cells := 0, slots := 0, locals := 0 } : Room).slots) := by
  refine MetFree.of_bodySF (plainFor_of_name own_pn21) hisR ?_
  intro p e s m args below meth c s₁ Bd hml0 hP hK
  obtain ⟨rfl, hZ, hh⟩ := hP
  have hx := Bd.exec
  have hby := Bd.bytes
  have hml : c.maxLocals = 1 := hml0
  have hown : s.vm.findClass "java/util/ArrayList" = some m.cls := findClass_of_methodNamed Bd.named
  have hnm := (name_of_methodNamed Bd.named Bd.method).1
  have X0 : Stand p l e ({ frames := 0, cells := 0, slots := 0, locals := 0 } : Room) s m #[(.ref a)] below meth c s₁ [] 0 0 := Stand.of_body Bd
  have e0 : s₁.heap = h0 := by rw [← hh, Bd.state]; rfl
  have NF := Fr.nil n0
  rw [own_ef21 m a]
  show own_Dn p e below s (own_Q21 Z a sz h0 n0) 0 0 s₁ (mkF m 0 #[.val (.ref a)] [])
  refine own_go (T' := s₁) (g' := (mkF m 1 #[.val (.ref a)] [(.ref a)])) (fun _ k => XS.aloadN X0.here hx rfl (hb hby own_d21_0) rfl rfl k) ?_
  obtain ⟨T1, X1, e1, st1⟩ := getF X0 hx hZ hown (host := "") (Or.inl (hw _ (List.mem_of_getElem? (i := 90) rfl))) Via.refl e0 F_a_size (g := (mkF m 1 #[.val (.ref a)] [(.ref a)])) rfl rfl (hb hby own_d21_1)
  refine own_go (T' := T1) (g' := (mkF m 4 #[.val (.ref a)] [(.int sz)])) (fun _ k => st1 _ k) ?_
  refine own_ret X1 Bd.notSynchronized (some (.int sz)) (fun h => by rw [Bd.returns] at h; cases h) (fun fs hr => retI X1 hx Bd.returns (hb hby own_d21_4) hr) ?_ (by decide) (by decide)
  show (own_Q21 Z a sz h0 n0) (some (.int sz)) T1.heap _
  rw [e1]
  exact ⟨rfl, NF, rfl⟩
theorem own_d24_0 : decode jdk_41_method_11_code 0 = .ok (.iload_n 0, 1) := by decide +kernel
theorem own_d24_1 : decode jdk_41_method_11_code 1 = .ok (.ifCond .lt 8, 3) := by decide +kernel
theorem own_d24_4 : decode jdk_41_method_11_code 4 = .ok (.iload_n 0, 1) := by decide +kernel
theorem own_d24_5 : decode jdk_41_method_11_code 5 = .ok (.iload_n 1, 1) := by decide +kernel
theorem own_d24_6 : decode jdk_41_method_11_code 6 = .ok (.if_icmp .lt 10, 3) := by decide +kernel
theorem own_d24_16 : decode jdk_41_method_11_code 16 = .ok (.iload_n 0, 1) := by decide +kernel
theorem own_d24_17 : decode jdk_41_method_11_code 17 = .ok (.ireturn, 1) := by decide +kernel
theorem own_pn24 : plainName "jdk/internal/util/Preconditions" = true := by first | (simp [plainName, overriddenIn]; done) | decide +kernel
theorem own_ef24 (m : MethodId) (u : Int32) (t : Int32) : entryFrame m #[(.int u), (.int t), .null] 3 = mkF m 0 #[.val (.int u), .val (.int t), .val .null] [] := by first | (simp [entryFrame, mkF, argsToLocals, Value.category]; done) | rfl
def own_Q24 (Z : State) (u : Int32) (t : Int32) (h0 : Heap) (n0 : Nat) (v : Option Value) (h : Heap) (L : List Loc) : Prop := v = some (.int u) ∧ Fr n0 L ∧ h = h0
set_option maxRecDepth 65536 in
set_option maxHeartbeats 40000000 in
theorem own_rm24 (l : Launch) (Z : State) (a0 : Array Value) (hw : ∀ d ∈ tables_1, d.before a0 Z = true) (ws : List Jvm.Cond) (u : Int32) (t : Int32) (h0 : Heap) (n0 : Nat) (Zs : n0 ≤ h0.size) (h1 : ¬ (u < (0 : Int32))) (h2 : u < t) :
    MetFree l (⟨"jdk/internal/util/Preconditions", "checkIndex", "(IILjava/util/function/BiFunction;)I"⟩ : MethodName) (head1 (Jvm.Cond.code (⟨"jdk/internal/util/Preconditions", "checkIndex", "(IILjava/util/function/BiFunction;)I"⟩ : MethodName) jdk_41_method_11_code 3 (some .int) :: ws) ({ frames := 0, cells := 0, slots := 0, locals := 0 } : Room)) (fun aA_ U => aA_ = #[(.int u), (.int t), .null] ∧ Z.Warmed39 U.vm ∧ U.heap = h0) (fun _ _ _ _ _ => True) (fun _ U o U' => ∃ v L, o = .returned v ∧ own_Q24 Z u t h0 n0 v U'.heap L ∧ FrameEnd U o U' L ({ frames := 0, cells := 0, slots := 0, locals := 0 } : Room).cells ({ frames := 0, cells := 0, slots := 0, locals := 0 } : Room).slots) := by
  refine MetFree.of_bodySF (plainFor_of_name own_pn24) hisR ?_
  intro p e s m args below meth c s₁ Bd hml0 hP hK
  obtain ⟨rfl, hZ, hh⟩ := hP
  have hx := Bd.exec
  have hby := Bd.bytes
  have hml : c.maxLocals = 3 := hml0
  have hown : s.vm.findClass "jdk/internal/util/Preconditions" = some m.cls := findClass_of_methodNamed Bd.named
  have hnm := (name_of_methodNamed Bd.named Bd.method).1
  have X0 : Stand p l e ({ frames := 0, cells := 0, slots := 0, locals := 0 } : Room) s m #[(.int u), (.int t), .null] below meth c s₁ [] 0 0 := Stand.of_body Bd
  have e0 : s₁.heap = h0 := by rw [← hh, Bd.state]; rfl
  have NF := Fr.nil n0
  rw [own_ef24 m u t]
  show own_Dn p e below s (own_Q24 Z u t h0 n0) 0 0 s₁ (mkF m 0 #[.val (.int u), .val (.int t), .val .null] [])
  refine own_go (T' := s₁) (g' := (mkF m 1 #[.val (.int u), .val (.int t), .val .null] [(.int u)])) (fun _ k => XS.iloadN X0.here hx rfl (hb hby own_d24_0) rfl k) ?_
  refine own_go (T' := s₁) (g' := (mkF m 4 #[.val (.int u), .val (.int t), .val .null] [])) (fun _ k => XS.ifNo X0.here hx rfl (hb hby own_d24_1) rfl ((if0 _ _).trans (flt h1).1) k) ?_
  refine own_go (T' := s₁) (g' := (mkF m 5 #[.val (.int u), .val (.int t), .val .null] [(.int u)])) (fun _ k => XS.iloadN X0.here hx rfl (hb hby own_d24_4) rfl k) ?_
  refine own_go (T' := s₁) (g' := (mkF m 6 #[.val (.int u), .val (.int t), .val .null] [(.int t), (.int u)])) (fun _ k => XS.iloadN X0.here hx rfl (hb hby own_d24_5) rfl k) ?_
  refine own_go (T' := s₁) (g' := (mkF m 16 #[.val (.int u), .val (.int t), .val .null] [])) (fun _ k => XS.icmpYes X0.here hx rfl (pc0 := 6) (pc' := 16) rfl (hb hby own_d24_6) rfl (tlt h2).1 (by decide) (by decide) k) ?_
  refine own_go (T' := s₁) (g' := (mkF m 17 #[.val (.int u), .val (.int t), .val .null] [(.int u)])) (fun _ k => XS.iloadN X0.here hx rfl (hb hby own_d24_16) rfl k) ?_
  refine own_ret X0 Bd.notSynchronized (some (.int u)) (fun h => by rw [Bd.returns] at h; cases h) (fun fs hr => retI X0 hx Bd.returns (hb hby own_d24_17) hr) ?_ (by decide) (by decide)
  show (own_Q24 Z u t h0 n0) (some (.int u)) s₁.heap _
  rw [e0]
  exact ⟨rfl, NF, rfl⟩
theorem own_d23_0 : decode jdk_31_method_17_code 0 = .ok (.iload_n 0, 1) := by decide +kernel
theorem own_d23_1 : decode jdk_31_method_17_code 1 = .ok (.iload_n 1, 1) := by decide +kernel
theorem own_d23_2 : decode jdk_31_method_17_code 2 = .ok (.aconst_null, 1) := by decide +kernel
theorem own_d23_3 : decode jdk_31_method_17_code 3 = .ok (.invokestatic 105, 3) := by decide +kernel
theorem own_d23_6 : decode jdk_31_method_17_code 6 = .ok (.ireturn, 1) := by decide +kernel
theorem own_pn23 : plainName "java/util/Objects" = true := by first | (simp [plainName, overriddenIn]; done) | decide +kernel
theorem own_pd23_0 : parseMethodDescriptor "(IILjava/util/function/BiFunction;)I" = some ⟨[.int, .int, (.object "java/util/function/BiFunction")], some .int⟩ := by decide +kernel
theorem own_ef23 (m : MethodId) (u : Int32) (t : Int32) : entryFrame m #[(.int u), (.int t)] 2 = mkF m 0 #[.val (.int u), .val (.int t)] [] := by first | (simp [entryFrame, mkF, argsToLocals, Value.category]; done) | rfl
def own_Q23 (Z : State) (u : Int32) (t : Int32) (h0 : Heap) (n0 : Nat) (v : Option Value) (h : Heap) (L : List Loc) : Prop := v = some (.int u) ∧ Fr n0 L ∧ h = h0
set_option maxRecDepth 65536 in
set_option maxHeartbeats 40000000 in
theorem own_rm23 (l : Launch) (Z : State) (a0 : Array Value) (hw : ∀ d ∈ tables_1, d.before a0 Z = true) (ws : List Jvm.Cond) (u : Int32) (t : Int32) (h0 : Heap) (n0 : Nat) (Zs : n0 ≤ h0.size) (h1 : ¬ (u < (0 : Int32))) (h2 : u < t) :
    MetFree l (⟨"java/util/Objects", "checkIndex", "(II)I"⟩ : MethodName) (head1 (Jvm.Cond.code (⟨"java/util/Objects", "checkIndex", "(II)I"⟩ : MethodName) jdk_31_method_17_code 2 (some .int) :: ws) ({ frames := 1, cells := 0, slots := 0, locals := 14 } : Room)) (fun aA_ U => aA_ = #[(.int u), (.int t)] ∧ Z.Warmed39 U.vm ∧ U.heap = h0) (fun _ _ _ _ _ => True) (fun _ U o U' => ∃ v L, o = .returned v ∧ own_Q23 Z u t h0 n0 v U'.heap L ∧ FrameEnd U o U' L ({ frames := 1, cells := 0, slots := 0, locals := 14 } : Room).cells ({ frames := 1, cells := 0, slots := 0, locals := 14 } : Room).slots) := by
  refine MetFree.of_bodySF (plainFor_of_name own_pn23) hisR ?_
  intro p e s m args below meth c s₁ Bd hml0 hP hK
  obtain ⟨rfl, hZ, hh⟩ := hP
  have hx := Bd.exec
  have hby := Bd.bytes
  have hml : c.maxLocals = 2 := hml0
  have hown : s.vm.findClass "java/util/Objects" = some m.cls := findClass_of_methodNamed Bd.named
  have hnm := (name_of_methodNamed Bd.named Bd.method).1
  have X0 : Stand p l e ({ frames := 1, cells := 0, slots := 0, locals := 14 } : Room) s m #[(.int u), (.int t)] below meth c s₁ [] 0 0 := Stand.of_body Bd
  have e0 : s₁.heap = h0 := by rw [← hh, Bd.state]; rfl
  have NF := Fr.nil n0
  rw [own_ef23 m u t]
  show own_Dn p e below s (own_Q23 Z u t h0 n0) 0 0 s₁ (mkF m 0 #[.val (.int u), .val (.int t)] [])
  refine own_go (T' := s₁) (g' := (mkF m 1 #[.val (.int u), .val (.int t)] [(.int u)])) (fun _ k => XS.iloadN X0.here hx rfl (hb hby own_d23_0) rfl k) ?_
  refine own_go (T' := s₁) (g' := (mkF m 2 #[.val (.int u), .val (.int t)] [(.int t), (.int u)])) (fun _ k => XS.iloadN X0.here hx rfl (hb hby own_d23_1) rfl k) ?_
  refine own_go (T' := s₁) (g' := (mkF m 3 #[.val (.int u), .val (.int t)] [.null, (.int t), (.int u)])) (fun _ k => XS.aconstNull X0.here hx rfl (hb hby own_d23_2) k) ?_
  obtain ⟨_, _, ⟨T1, L1, k1, n1⟩, -, X1, ⟨Lc1, hQ1, l1, y1, z1⟩, st1⟩ := Jvm.LawKit.callS X0 hx (y := (⟨"jdk/internal/util/Preconditions", "checkIndex", "(IILjava/util/function/BiFunction;)I"⟩ : MethodName)) hown (mvT hZ (hw _ (List.mem_of_getElem? (i := 170) rfl))) (mvT hZ (hw _ (List.mem_of_getElem? (i := 171) rfl))) (mvT hZ (hw _ (List.mem_of_getElem? (i := 172) rfl))) (mvT hZ (hw _ (List.mem_of_getElem? (i := 173) rfl))) (by decide) (backOf (W := 0) (own_rm24 l Z a0 hw [] u t h0 n0 Zs h1 h2) hZ (hw _ (List.mem_of_getElem? (i := 173) rfl)) (hw _ (List.mem_of_getElem? (i := 172) rfl)) (by decide) (by decide)) (g := (mkF m 3 #[.val (.int u), .val (.int t)] [.null, (.int t), (.int u)])) rfl (by rw [hml]; rfl) (argsL := [(.int u), (.int t), .null]) (rest := []) (lenOf own_pd23_0 rfl) rfl (by show 2 * 0 + _ ≤ _; exact Nat.le_of_eq rfl) (hb hby own_d23_3) (fun _ _ => ⟨rfl, e0, (by decide : 0 + 0 ≤ _), (by decide : 0 + 0 ≤ _)⟩)
  dsimp only [Pt.U, Pt.locs, Pt.cells, Pt.slots] at X1 l1 y1 z1 st1 hQ1
  subst l1 y1 z1
  obtain ⟨rfl, NQ1, eq1⟩ := hQ1
  have NF := Fr.app NF NQ1
  refine own_go (T' := T1) (g' := (mkF m 6 #[.val (.int u), .val (.int t)] [(.int u)])) (fun _ k => st1 _ k) ?_
  refine own_ret X1 Bd.notSynchronized (some (.int u)) (fun h => by rw [Bd.returns] at h; cases h) (fun fs hr => retI X1 hx Bd.returns (hb hby own_d23_6) hr) ?_ (by decide) (by decide)
  show (own_Q23 Z u t h0 n0) (some (.int u)) T1.heap _
  rw [eq1]
  exact ⟨rfl, NF, rfl⟩
theorem own_d25_0 : decode jdk_38_method_18_code 0 = .ok (.aload_n 0, 1) := by decide +kernel
theorem own_d25_1 : decode jdk_38_method_18_code 1 = .ok (.getfield 9, 3) := by decide +kernel
theorem own_d25_4 : decode jdk_38_method_18_code 4 = .ok (.iload_n 1, 1) := by decide +kernel
theorem own_d25_5 : decode jdk_38_method_18_code 5 = .ok (.aaload, 1) := by decide +kernel
theorem own_d25_6 : decode jdk_38_method_18_code 6 = .ok (.areturn, 1) := by decide +kernel
theorem own_pn25 : plainName "java/util/ArrayList" = true := by first | (simp [plainName, overriddenIn]; done) | decide +kernel
theorem own_ef25 (m : MethodId) (a : Addr) : entryFrame m #[(.ref a), (.int (0 : Int32))] 2 = mkF m 0 #[.val (.ref a), .val (.int (0 : Int32))] [] := by first | (simp [entryFrame, mkF, argsToLocals, Value.category]; done) | rfl
def own_Q25 (Z : State) (a : Addr) (ed : Addr) (ke : ClassId) (x : Addr) (h0 : Heap) (n0 : Nat) (v : Option Value) (h : Heap) (L : List Loc) : Prop := v = some (.ref x) ∧ Fr n0 L ∧ h = h0
set_option maxRecDepth 65536 in
set_option maxHeartbeats 40000000 in
theorem own_rm25 (l : Launch) (Z : State) (a0 : Array Value) (hw : ∀ d ∈ tables_1, d.before a0 Z = true) (ws : List Jvm.Cond) (a : Addr) (ed : Addr) (ke : ClassId) (x : Addr) (h0 : Heap) (n0 : Nat) (Zs : n0 ≤ h0.size) (F_a_elementData : Fld Z h0 a "java/util/ArrayList" "elementData" "[Ljava/lang/Object;" (.ref ed)) (V_ed : Arv Z h0 ed ke (.object "java/lang/Object") (10 : Int32) [.ref x, .null, .null, .null, .null, .null, .null, .null, .null, .null] .null) :
    MetFree l (⟨"java/util/ArrayList", "elementData", "(I)Ljava/lang/Object;"⟩ : MethodName) (head1 (Jvm.Cond.code (⟨"java/util/ArrayList", "elementData", "(I)Ljava/lang/Object;"⟩ : MethodName) jdk_38_method_18_code 2 (some (.object "java/lang/Object")) :: ws) ({ frames := 0, cells := 0, slots := 0, locals := 0 } : Room)) (fun aA_ U => aA_ = #[(.ref a), (.int (0 : Int32))] ∧ Z.Warmed39 U.vm ∧ U.heap = h0) (fun _ _ _ _ _ => True) (fun _ U o U' => ∃ v L, o = .returned v ∧ own_Q25 Z a ed ke x h0 n0 v U'.heap L ∧ FrameEnd U o U' L ({ frames := 0, cells := 0, slots := 0, locals := 0 } : Room).cells ({ frames := 0, cells := 0, slots := 0, locals := 0 } : Room).slots) := by
  refine MetFree.of_bodySF (plainFor_of_name own_pn25) hisR ?_
  intro p e s m args below meth c s₁ Bd hml0 hP hK
  obtain ⟨rfl, hZ, hh⟩ := hP
  have hx := Bd.exec
  have hby := Bd.bytes
  have hml : c.maxLocals = 2 := hml0
  have hown : s.vm.findClass "java/util/ArrayList" = some m.cls := findClass_of_methodNamed Bd.named
  have hnm := (name_of_methodNamed Bd.named Bd.method).1
  have X0 : Stand p l e ({ frames := 0, cells := 0, slots := 0, locals := 0 } : Room) s m #[(.ref a), (.int (0 : Int32))] below meth c s₁ [] 0 0 := Stand.of_body Bd
  have e0 : s₁.heap = h0 := by rw [← hh, Bd.state]; rfl
  have NF := Fr.nil n0
  rw [own_ef25 m a]
  show own_Dn p e below s (own_Q25 Z a ed ke x h0 n0) 0 0 s₁ (mkF m 0 #[.val (.ref a), .val (.int (0 : Int32))] [])
  refine own_go (T' := s₁) (g' := (mkF m 1 #[.val (.ref a), .val (.int (0 : Int32))] [(.ref a)])) (fun _ k => XS.aloadN X0.here hx rfl (hb hby own_d25_0) rfl rfl k) ?_
  obtain ⟨T1, X1, e1, st1⟩ := getF X0 hx hZ hown (host := "") (Or.inl (hw _ (List.mem_of_getElem? (i := 77) rfl))) Via.refl e0 F_a_elementData (g := (mkF m 1 #[.val (.ref a), .val (.int (0 : Int32))] [(.ref a)])) rfl rfl (hb hby own_d25_1)
  refine own_go (T' := T1) (g' := (mkF m 4 #[.val (.ref a), .val (.int (0 : Int32))] [(.ref ed)])) (fun _ k => st1 _ k) ?_
  refine own_go (T' := T1) (g' := (mkF m 5 #[.val (.ref a), .val (.int (0 : Int32))] [(.int (0 : Int32)), (.ref ed)])) (fun _ k => XS.iloadN X1.here hx rfl (hb hby own_d25_4) rfl k) ?_
  obtain ⟨c_2, Ar_2, q_2, S_2, N_2, H_2, G_2⟩ := id V_ed
  have hin_2 : ¬ ((0 : Int32) < 0 ∨ c_2.slots.size ≤ ((0 : Int32)).toNatClampNeg) := inb_of S_2 ⟨by decide, by decide⟩
  have hat_2 : c_2.slots[((0 : Int32)).toNatClampNeg]? = some (.ref x) := H_2.at hin_2 rfl
  refine own_go (T' := T1) (g' := (mkF m 6 #[.val (.ref a), .val (.int (0 : Int32))] [(.ref x)])) (fun _ k => X1.aaload hx (j := (0 : Int32)) (v := (.ref x)) (by rw [e1]; exact Ar_2.1) (State.isArrayOf_alike hZ.alike Ar_2.2.1) rfl Ar_2.2.2 hin_2 hat_2 (g := (mkF m 5 #[.val (.ref a), .val (.int (0 : Int32))] [(.int (0 : Int32)), (.ref ed)])) rfl rfl (hb hby own_d25_5) _ k) ?_
  refine own_ret X1 Bd.notSynchronized (some (.ref x)) (fun h => by rw [Bd.returns] at h; cases h) (fun fs hr => retOut X1 hx (t := (.object "java/lang/Object")) Bd.returns rfl (Or.inr (Or.inr (Or.inr (Or.inr ⟨rfl, rfl, rfl⟩)))) (hb hby own_d25_6) hr) ?_ (by decide) (by decide)
  show (own_Q25 Z a ed ke x h0 n0) (some (.ref x)) T1.heap _
  rw [e1]
  exact ⟨rfl, NF, rfl⟩
theorem own_d22_0 : decode jdk_38_method_20_code 0 = .ok (.iload_n 1, 1) := by decide +kernel
theorem own_d22_1 : decode jdk_38_method_20_code 1 = .ok (.aload_n 0, 1) := by decide +kernel
theorem own_d22_2 : decode jdk_38_method_20_code 2 = .ok (.getfield 48, 3) := by decide +kernel
theorem own_d22_5 : decode jdk_38_method_20_code 5 = .ok (.invokestatic 118, 3) := by decide +kernel
theorem own_d22_8 : decode jdk_38_method_20_code 8 = .ok (.pop, 1) := by decide +kernel
theorem own_d22_9 : decode jdk_38_method_20_code 9 = .ok (.aload_n 0, 1) := by decide +kernel
theorem own_d22_10 : decode jdk_38_method_20_code 10 = .ok (.iload_n 1, 1) := by decide +kernel
theorem own_d22_11 : decode jdk_38_method_20_code 11 = .ok (.invokevirtual 123, 3) := by decide +kernel
theorem own_d22_14 : decode jdk_38_method_20_code 14 = .ok (.areturn, 1) := by decide +kernel
theorem own_pn22 : plainName "java/util/ArrayList" = true := by first | (simp [plainName, overriddenIn]; done) | decide +kernel
theorem own_pd22_0 : parseMethodDescriptor "(II)I" = some ⟨[.int, .int], some .int⟩ := by decide +kernel
theorem own_pd22_1 : parseMethodDescriptor "(I)Ljava/lang/Object;" = some ⟨[.int], some (.object "java/lang/Object")⟩ := by decide +kernel
theorem own_ef22 (m : MethodId) (a : Addr) : entryFrame m #[(.ref a), (.int (0 : Int32))] 2 = mkF m 0 #[.val (.ref a), .val (.int (0 : Int32))] [] := by first | (simp [entryFrame, mkF, argsToLocals, Value.category]; done) | rfl
def own_Q22 (Z : State) (a : Addr) (ed : Addr) (ke : ClassId) (x : Addr) (h0 : Heap) (n0 : Nat) (v : Option Value) (h : Heap) (L : List Loc) : Prop := v = some (.ref x) ∧ Fr n0 L ∧ h = h0
set_option maxRecDepth 65536 in
set_option maxHeartbeats 40000000 in
theorem own_rm22 (l : Launch) (Z : State) (a0 : Array Value) (hw : ∀ d ∈ tables_1, d.before a0 Z = true) (ws : List Jvm.Cond) (a : Addr) (ed : Addr) (ke : ClassId) (x : Addr) (h0 : Heap) (n0 : Nat) (Zs : n0 ≤ h0.size) (F_a_elementData : Fld Z h0 a "java/util/ArrayList" "elementData" "[Ljava/lang/Object;" (.ref ed)) (V_ed : Arv Z h0 ed ke (.object "java/lang/Object") (10 : Int32) [.ref x, .null, .null, .null, .null, .null, .null, .null, .null, .null] .null) (F_a_size : Fld Z h0 a "java/util/ArrayList" "size" "I" (.int (1 : Int32))) (E_a : Exa Z h0 a "java/util/ArrayList") :
    MetFree l (⟨"java/util/ArrayList", "get", "(I)Ljava/lang/Object;"⟩ : MethodName) (head1 (Jvm.Cond.code (⟨"java/util/ArrayList", "get", "(I)Ljava/lang/Object;"⟩ : MethodName) jdk_38_method_20_code 2 (some (.object "java/lang/Object")) :: ws) ({ frames := 2, cells := 0, slots := 0, locals := 27 } : Room)) (fun aA_ U => aA_ = #[(.ref a), (.int (0 : Int32))] ∧ Z.Warmed39 U.vm ∧ U.heap = h0) (fun _ _ _ _ _ => True) (fun _ U o U' => ∃ v L, o = .returned v ∧ own_Q22 Z a ed ke x h0 n0 v U'.heap L ∧ FrameEnd U o U' L ({ frames := 2, cells := 0, slots := 0, locals := 27 } : Room).cells ({ frames := 2, cells := 0, slots := 0, locals := 27 } : Room).slots) := by
  refine MetFree.of_bodySF (plainFor_of_name own_pn22) hisR ?_
  intro p e s m args below meth c s₁ Bd hml0 hP hK
  obtain ⟨rfl, hZ, hh⟩ := hP
  have hx := Bd.exec
  have hby := Bd.bytes
  have hml : c.maxLocals = 2 := hml0
  have hown : s.vm.findClass "java/util/ArrayList" = some m.cls := findClass_of_methodNamed Bd.named
  have hnm := (name_of_methodNamed Bd.named Bd.method).1
  have X0 : Stand p l e ({ frames := 2, cells := 0, slots := 0, locals := 27 } : Room) s m #[(.ref a), (.int (0 : Int32))] below meth c s₁ [] 0 0 := Stand.of_body Bd
  have e0 : s₁.heap = h0 := by rw [← hh, Bd.state]; rfl
  have NF := Fr.nil n0
  rw [own_ef22 m a]
  show own_Dn p e below s (own_Q22 Z a ed ke x h0 n0) 0 0 s₁ (mkF m 0 #[.val (.ref a), .val (.int (0 : Int32))] [])
  refine own_go (T' := s₁) (g' := (mkF m 1 #[.val (.ref a), .val (.int (0 : Int32))] [(.int (0 : Int32))])) (fun _ k => XS.iloadN X0.here hx rfl (hb hby own_d22_0) rfl k) ?_
  refine own_go (T' := s₁) (g' := (mkF m 2 #[.val (.ref a), .val (.int (0 : Int32))] [(.ref a), (.int (0 : Int32))])) (fun _ k => XS.aloadN X0.here hx rfl (hb hby own_d22_1) rfl rfl k) ?_
  obtain ⟨T1, X1, e1, st1⟩ := getF X0 hx hZ hown (host := "") (Or.inl (hw _ (List.mem_of_getElem? (i := 90) rfl))) Via.refl e0 F_a_size (g := (mkF m 2 #[.val (.ref a), .val (.int (0 : Int32))] [(.ref a), (.int (0 : Int32))])) rfl rfl (hb hby own_d22_2)
  refine own_go (T' := T1) (g' := (mkF m 5 #[.val (.ref a), .val (.int (0 : Int32))] [(.int (1 : Int32)), (.int (0 : Int32))])) (fun _ k => st1 _ k) ?_
  obtain ⟨_, _, ⟨T2, L2, k2, n2⟩, -, X2, ⟨Lc2, hQ2, l2, y2, z2⟩, st2⟩ := Jvm.LawKit.callS X1 hx (y := (⟨"java/util/Objects", "checkIndex", "(II)I"⟩ : MethodName)) hown (mvT hZ (hw _ (List.mem_of_getElem? (i := 166) rfl))) (mvT hZ (hw _ (List.mem_of_getElem? (i := 167) rfl))) (mvT hZ (hw _ (List.mem_of_getElem? (i := 168) rfl))) (mvT hZ (hw _ (List.mem_of_getElem? (i := 169) rfl))) (by decide) (backOf (W := 0) (own_rm23 l Z a0 hw [] (0 : Int32) (1 : Int32) h0 n0 Zs (by decide) (by decide)) hZ (hw _ (List.mem_of_getElem? (i := 169) rfl)) (hw _ (List.mem_of_getElem? (i := 168) rfl)) (by decide) (by decide)) (g := (mkF m 5 #[.val (.ref a), .val (.int (0 : Int32))] [(.int (1 : Int32)), (.int (0 : Int32))])) rfl (by rw [hml]; rfl) (argsL := [(.int (0 : Int32)), (.int (1 : Int32))]) (rest := []) (lenOf own_pd22_0 rfl) rfl (by show 2 * 0 + _ ≤ _; exact Nat.le_of_eq rfl) (hb hby own_d22_5) (fun _ _ => ⟨rfl, e1, (by decide : 0 + 0 ≤ _), (by decide : 0 + 0 ≤ _)⟩)
  dsimp only [Pt.U, Pt.locs, Pt.cells, Pt.slots] at X2 l2 y2 z2 st2 hQ2
  subst l2 y2 z2
  obtain ⟨rfl, NQ2, eq2⟩ := hQ2
  have NF := Fr.app NF NQ2
  refine own_go (T' := T2) (g' := (mkF m 8 #[.val (.ref a), .val (.int (0 : Int32))] [(.int (0 : Int32))])) (fun _ k => st2 _ k) ?_
  refine own_go (T' := T2) (g' := (mkF m 9 #[.val (.ref a), .val (.int (0 : Int32))] [])) (fun _ k => XS.pop X2.here hx rfl (hb hby own_d22_8) rfl rfl k) ?_
  refine own_go (T' := T2) (g' := (mkF m 10 #[.val (.ref a), .val (.int (0 : Int32))] [(.ref a)])) (fun _ k => XS.aloadN X2.here hx rfl (hb hby own_d22_9) rfl rfl k) ?_
  refine own_go (T' := T2) (g' := (mkF m 11 #[.val (.ref a), .val (.int (0 : Int32))] [(.int (0 : Int32)), (.ref a)])) (fun _ k => XS.iloadN X2.here hx rfl (hb hby own_d22_10) rfl k) ?_
  obtain ⟨cq3, kq3, q3a, q3b, q3c⟩ := isOf hZ eq2 E_a
  obtain ⟨_, _, ⟨T3, L3, k3, n3⟩, -, X3, ⟨Lc3, hQ3, l3, y3, z3⟩, st3⟩ := X2.virtualBack hx (y := (⟨"java/util/ArrayList", "elementData", "(I)Ljava/lang/Object;"⟩ : MethodName)) (z := (⟨"java/util/ArrayList", "elementData", "(I)Ljava/lang/Object;"⟩ : MethodName)) hown (mvT hZ (hw _ (List.mem_of_getElem? (i := 174) rfl))) (mvT hZ (hw _ (List.mem_of_getElem? (i := 175) rfl))) (notFace_of_selects (args := #[]) (mvT hZ (hw _ (List.mem_of_getElem? (i := 177) rfl)))) (mvT hZ (hw _ (List.mem_of_getElem? (i := 177) rfl))) (mvT hZ (hw _ (List.mem_of_getElem? (i := 176) rfl))) (by decide) (backOf (W := 0) (own_rm25 l Z a0 hw [] a ed ke x h0 n0 Zs F_a_elementData V_ed) hZ (hw _ (List.mem_of_getElem? (i := 178) rfl)) (hw _ (List.mem_of_getElem? (i := 57) rfl)) (by decide) (by decide)) q3a q3c (g := (mkF m 11 #[.val (.ref a), .val (.int (0 : Int32))] [(.int (0 : Int32)), (.ref a)])) rfl (by rw [hml]; rfl) (Steps.refl _) (argsL := [(.int (0 : Int32))]) (rest := []) (lenOf own_pd22_1 rfl) rfl (by show 2 * 0 + _ ≤ _; exact Nat.le_of_eq rfl) (hb hby own_d22_11) (fun _ _ => ⟨rfl, eq2, (by decide : 0 + 0 ≤ _), (by decide : 0 + 0 ≤ _)⟩)
  dsimp only [Pt.U, Pt.locs, Pt.cells, Pt.slots] at X3 l3 y3 z3 st3 hQ3
  subst l3 y3 z3
  obtain ⟨rfl, NQ3, eq3⟩ := hQ3
  have NF := Fr.app NF NQ3
  refine own_go (T' := T3) (g' := (mkF m 14 #[.val (.ref a), .val (.int (0 : Int32))] [(.ref x)])) (fun _ k => st3.trans k) ?_
  refine own_ret X3 Bd.notSynchronized (some (.ref x)) (fun h => by rw [Bd.returns] at h; cases h) (fun fs hr => retOut X3 hx (t := (.object "java/lang/Object")) Bd.returns rfl (Or.inr (Or.inr (Or.inr (Or.inr ⟨rfl, rfl, rfl⟩)))) (hb hby own_d22_14) hr) ?_ (by decide) (by decide)
  show (own_Q22 Z a ed ke x h0 n0) (some (.ref x)) T3.heap _
  rw [eq3]
  exact ⟨rfl, NF, rfl⟩
theorem own_strAtoms (Z : State) (a0 : Array Value) (hw : ∀ d ∈ tables_1, d.before a0 Z = true) : ∀ d ∈ Bundle.stringAtoms, d.before a0 Z = true := by
  intro d hd
  simp only [Bundle.stringAtoms, List.mem_cons, List.not_mem_nil, or_false] at hd
  rcases hd with rfl | rfl | rfl | rfl | rfl | rfl | rfl
  · exact (hw _ (List.mem_of_getElem? (i := 10) rfl))
  · exact (hw _ (List.mem_of_getElem? (i := 11) rfl))
  · exact (hw _ (List.mem_of_getElem? (i := 12) rfl))
  · exact (hw _ (List.mem_of_getElem? (i := 13) rfl))
  · exact (hw _ (List.mem_of_getElem? (i := 14) rfl))
  · exact (hw _ (List.mem_of_getElem? (i := 15) rfl))
  · exact (hw _ (List.mem_of_getElem? (i := 16) rfl))
theorem own_pn0 : plainName "com/example/ordence/ordence/TableNegatePinLaw" = true := by first | (simp [plainName, overriddenIn]; done) | decide +kernel
theorem own_pd0_0 : parseMethodDescriptor "(II)I" = some ⟨[.int, .int], some .int⟩ := by decide +kernel
theorem own_pd0_1 : parseMethodDescriptor "(Ljava/lang/String;II)V" = some ⟨[(.object "java/lang/String"), .int, .int], none⟩ := by decide +kernel
theorem own_pd0_2 : parseMethodDescriptor "()V" = some ⟨[], none⟩ := by decide +kernel
theorem own_pd0_3 : parseMethodDescriptor "(Ljava/lang/Object;)Z" = some ⟨[(.object "java/lang/Object")], some .boolean⟩ := by decide +kernel
theorem own_pd0_4 : parseMethodDescriptor "(Ljava/util/List;Ljava/util/List;Z)V" = some ⟨[(.object "java/util/List"), (.object "java/util/List"), .boolean], none⟩ := by decide +kernel
theorem own_pd0_5 : parseMethodDescriptor "()Lcom/example/ordence/ordence/Formula;" = some ⟨[], some (.object "com/example/ordence/ordence/Formula")⟩ := by decide +kernel
theorem own_pd0_6 : parseMethodDescriptor "()Z" = some ⟨[], some .boolean⟩ := by decide +kernel
theorem own_pd0_7 : parseMethodDescriptor "()Ljava/util/List;" = some ⟨[], some (.object "java/util/List")⟩ := by decide +kernel
theorem own_pd0_8 : parseMethodDescriptor "()I" = some ⟨[], some .int⟩ := by decide +kernel
theorem own_pd0_9 : parseMethodDescriptor "(I)Ljava/lang/Object;" = some ⟨[.int], some (.object "java/lang/Object")⟩ := by decide +kernel
theorem own_ef0 (m : MethodId) (i0 : Int32) (i1 : Int32) (i2 : Int32) (i3 : Int32) : entryFrame m #[(.int i0), (.int i1), (.int i2), (.int i3)] maxLocals = mkF m 0 #[.val (.int i0), .val (.int i1), .val (.int i2), .val (.int i3), .unset, .unset, .unset, .unset, .unset, .unset, .unset, .unset, .unset, .unset, .unset, .unset, .unset, .unset] [] := by first | (simp [entryFrame, mkF, argsToLocals, Value.category, maxLocals]; done) | rfl
def own_Q0 (Z : State) (i0 : Int32) (i1 : Int32) (i2 : Int32) (i3 : Int32) (de : Addr) (cde : Cell) (h0 : Heap) (n0 : Nat) (v : Option Value) (h : Heap) (L : List Loc) : Prop := v = some (.int 1) ∧ Fr n0 L
set_option maxRecDepth 65536 in
set_option maxHeartbeats 40000000 in
theorem own_rm0 (l : Launch) (Z : State) (a0 : Array Value) (hw : ∀ d ∈ tables_1, d.before a0 Z = true) (ws : List Jvm.Cond) (i0 : Int32) (i1 : Int32) (i2 : Int32) (i3 : Int32) (de : Addr) (cde : Cell) (h0 : Heap) (n0 : Nat) (Zs : n0 ≤ h0.size) (OL : Old Z n0 h0) (S_de : Sta Z Z.heap "java/util/ArrayList" "DEFAULTCAPACITY_EMPTY_ELEMENTDATA" "[Ljava/lang/Object;" (.ref de)) (Ar_de : Arr Z Z.heap de cde (.object "java/lang/Object")) (Sz_de : cde.slots.size = 0) :
    MetFree l x (head1 (Jvm.Cond.code x code maxLocals ret :: ws) room_1) (fun aA_ U => aA_ = #[(.int i0), (.int i1), (.int i2), (.int i3)] ∧ Z.Warmed39 U.vm ∧ U.heap = h0) (fun _ _ _ _ _ => True) (fun _ U o U' => ∃ v L, o = .returned v ∧ own_Q0 Z i0 i1 i2 i3 de cde h0 n0 v U'.heap L ∧ ReturnedEndW U o U' L room_1.cells room_1.slots) := by
  refine MetFree.of_bodySF (plainFor_of_name own_pn0) hisR ?_
  intro p e s m args below meth c s₁ Bd hml0 hP hK
  obtain ⟨rfl, hZ, hh⟩ := hP
  have hx := Bd.exec
  have hby := Bd.bytes
  have hml : c.maxLocals = 18 := hml0
  have hown : s.vm.findClass "com/example/ordence/ordence/TableNegatePinLaw" = some m.cls := findClass_of_methodNamed Bd.named
  have hnm := (name_of_methodNamed Bd.named Bd.method).1
  replace X0 : Stand p l e room_1 s m #[(.int i0), (.int i1), (.int i2), (.int i3)] below meth c s₁ [] 0 0 := Stand.of_body Bd
  replace e0 : s₁.heap = h0 := by rw [← hh, Bd.state]; rfl
  replace NF := Fr.nil n0
  rw [own_ef0 m i0 i1 i2 i3]
  show own_DnW p e below s (own_Q0 Z i0 i1 i2 i3 de cde h0 n0) room_1.cells room_1.slots s₁ (mkF m 0 #[.val (.int i0), .val (.int i1), .val (.int i2), .val (.int i3), .unset, .unset, .unset, .unset, .unset, .unset, .unset, .unset, .unset, .unset, .unset, .unset, .unset, .unset] [])
  replace hSi : s.Since s.vm 0 := (State.WarmedH.refl s).since 0
  replace hKi : 0 ≤ h0.size := Nat.zero_le _
  refine own_goW (T' := s₁) (g' := (mkF m 1 #[.val (.int i0), .val (.int i1), .val (.int i2), .val (.int i3), .unset, .unset, .unset, .unset, .unset, .unset, .unset, .unset, .unset, .unset, .unset, .unset, .unset, .unset] [(.int i0)])) (fun _ k => XS.iloadN X0.here hx rfl (hb hby at_0) rfl k) ?_
  refine own_goW (T' := s₁) (g' := (mkF m 3 #[.val (.int i0), .val (.int i1), .val (.int i2), .val (.int i3), .unset, .unset, .unset, .unset, .unset, .unset, .unset, .unset, .unset, .unset, .unset, .unset, .unset, .unset] [(.int (2147483347 : Int32)), (.int i0)])) (fun _ k => X0.ldcInt hx hown (mvT hZ (hw _ (List.mem_of_getElem? (i := 0) rfl))) (g := (mkF m 1 #[.val (.int i0), .val (.int i1), .val (.int i2), .val (.int i3), .unset, .unset, .unset, .unset, .unset, .unset, .unset, .unset, .unset, .unset, .unset, .unset, .unset, .unset] [(.int i0)])) rfl (hb hby at_1) _ k) ?_
  obtain ⟨_, _, ⟨T1, L1, k1, n1⟩, -, X1, ⟨Lc1, hQ1, l1, y1, z1⟩, st1⟩ := Jvm.LawKit.callS X0 hx (y := (⟨"java/lang/Math", "min", "(II)I"⟩ : MethodName)) hown (mvT hZ (hw _ (List.mem_of_getElem? (i := 1) rfl))) (mvT hZ (hw _ (List.mem_of_getElem? (i := 2) rfl))) (mvT hZ (hw _ (List.mem_of_getElem? (i := 3) rfl))) (mvT hZ (hw _ (List.mem_of_getElem? (i := 4) rfl))) (by decide) (backOf (W := 0) (own_rm1 l Z a0 hw [] i0 (2147483347 : Int32) h0 n0 Zs) hZ (hw _ (List.mem_of_getElem? (i := 4) rfl)) (hw _ (List.mem_of_getElem? (i := 3) rfl)) (by decide) (by decide)) (g := (mkF m 3 #[.val (.int i0), .val (.int i1), .val (.int i2), .val (.int i3), .unset, .unset, .unset, .unset, .unset, .unset, .unset, .unset, .unset, .unset, .unset, .unset, .unset, .unset] [(.int (2147483347 : Int32)), (.int i0)])) rfl (by rw [hml]; rfl) (argsL := [(.int i0), (.int (2147483347 : Int32))]) (rest := []) (lenOf own_pd0_0 rfl) rfl (by show 2 * 0 + _ ≤ _; exact Nat.le_of_eq rfl) (hb hby at_3) (fun _ _ => ⟨rfl, e0, (by decide : 0 + 0 ≤ _), (by decide : 0 + 0 ≤ _)⟩)
  dsimp only [Pt.U, Pt.locs, Pt.cells, Pt.slots] at X1 l1 y1 z1 st1 hQ1
  subst l1 y1 z1
  clear X0 e0
  obtain ⟨zz1, rfl, NQ1, eq1, hz1⟩ := hQ1
  replace NF := Fr.app NF NQ1
  clear NQ1
  obtain ⟨lc1, Y1, NG1⟩ := own_lo X1 NF
  clear X1
  replace NF := NG1
  clear NG1
  try simp only [own_l0, own_l1, own_l10, own_l128, own_l255, own_l2147483347, own_l2147483647, own_L0, own_L1] at hz1
  refine own_goW (T' := T1) (g' := (mkF m 6 #[.val (.int i0), .val (.int i1), .val (.int i2), .val (.int i3), .unset, .unset, .unset, .unset, .unset, .unset, .unset, .unset, .unset, .unset, .unset, .unset, .unset, .unset] [(.int zz1)])) (fun _ k => st1 _ k) ?_
  clear st1
  refine own_goW (T' := T1) (g' := (mkF m 8 #[.val (.int i0), .val (.int i1), .val (.int i2), .val (.int i3), .val (.int zz1), .unset, .unset, .unset, .unset, .unset, .unset, .unset, .unset, .unset, .unset, .unset, .unset, .unset] [])) (fun _ k => XS.istore Y1.here hx rfl (hb hby at_6) rfl (l' := #[.val (.int i0), .val (.int i1), .val (.int i2), .val (.int i3), .val (.int zz1), .unset, .unset, .unset, .unset, .unset, .unset, .unset, .unset, .unset, .unset, .unset, .unset, .unset]) rfl k) ?_
  refine own_goW (T' := T1) (g' := (mkF m 10 #[.val (.int i0), .val (.int i1), .val (.int i2), .val (.int i3), .val (.int zz1), .unset, .unset, .unset, .unset, .unset, .unset, .unset, .unset, .unset, .unset, .unset, .unset, .unset] [(.int zz1)])) (fun _ k => XS.iload Y1.here hx rfl (hb hby at_8) rfl k) ?_
  refine own_goW (T' := T1) (g' := (mkF m 11 #[.val (.int i0), .val (.int i1), .val (.int i2), .val (.int i3), .val (.int zz1), .unset, .unset, .unset, .unset, .unset, .unset, .unset, .unset, .unset, .unset, .unset, .unset, .unset] [(.int (1 : Int32)), (.int zz1)])) (fun _ k => XS.iconst Y1.here hx rfl (hb hby at_10) k) ?_
  refine own_goW (T' := T1) (g' := (mkF m 12 #[.val (.int i0), .val (.int i1), .val (.int i2), .val (.int i3), .val (.int zz1), .unset, .unset, .unset, .unset, .unset, .unset, .unset, .unset, .unset, .unset, .unset, .unset, .unset] [(.int (zz1 + (1 : Int32)))])) (fun _ k => XS.iadd Y1.here hx rfl (hb hby at_11) rfl k) ?_
  refine own_goW (T' := T1) (g' := (mkF m 13 #[.val (.int i0), .val (.int i1), .val (.int i2), .val (.int i3), .val (.int zz1), .unset, .unset, .unset, .unset, .unset, .unset, .unset, .unset, .unset, .unset, .unset, .unset, .unset] [(.int i1), (.int (zz1 + (1 : Int32)))])) (fun _ k => XS.iloadN Y1.here hx rfl (hb hby at_12) rfl k) ?_
  refine own_goW (T' := T1) (g' := (mkF m 16 #[.val (.int i0), .val (.int i1), .val (.int i2), .val (.int i3), .val (.int zz1), .unset, .unset, .unset, .unset, .unset, .unset, .unset, .unset, .unset, .unset, .unset, .unset, .unset] [(.int (255 : Int32)), (.int i1), (.int (zz1 + (1 : Int32)))])) (fun _ k => XS.sipush Y1.here hx rfl (hb hby at_13) k) ?_
  refine own_goW (T' := T1) (g' := (mkF m 17 #[.val (.int i0), .val (.int i1), .val (.int i2), .val (.int i3), .val (.int zz1), .unset, .unset, .unset, .unset, .unset, .unset, .unset, .unset, .unset, .unset, .unset, .unset, .unset] [(.int (i1 &&& (255 : Int32))), (.int (zz1 + (1 : Int32)))])) (fun _ k => XS.iand Y1.here hx rfl (hb hby at_16) rfl k) ?_
  refine own_goW (T' := T1) (g' := (mkF m 18 #[.val (.int i0), .val (.int i1), .val (.int i2), .val (.int i3), .val (.int zz1), .unset, .unset, .unset, .unset, .unset, .unset, .unset, .unset, .unset, .unset, .unset, .unset, .unset] [(.int ((zz1 + (1 : Int32)) + (i1 &&& (255 : Int32))))])) (fun _ k => XS.iadd Y1.here hx rfl (hb hby at_17) rfl k) ?_
  refine own_goW (T' := T1) (g' := (mkF m 20 #[.val (.int i0), .val (.int i1), .val (.int i2), .val (.int i3), .val (.int zz1), .val (.int ((zz1 + (1 : Int32)) + (i1 &&& (255 : Int32)))), .unset, .unset, .unset, .unset, .unset, .unset, .unset, .unset, .unset, .unset, .unset, .unset] [])) (fun _ k => XS.istore Y1.here hx rfl (hb hby at_18) rfl (l' := #[.val (.int i0), .val (.int i1), .val (.int i2), .val (.int i3), .val (.int zz1), .val (.int ((zz1 + (1 : Int32)) + (i1 &&& (255 : Int32)))), .unset, .unset, .unset, .unset, .unset, .unset, .unset, .unset, .unset, .unset, .unset, .unset]) rfl k) ?_
  have hlo : zz1.toInt ≤ 2147483347 := by omega
  clear hz1
  have rlo := rng32 zz1
  have s1 := c_and i1 (255 : Int32) (by decide)
  have s2 := c_iadd zz1 (1 : Int32)
  have s3 := rng32 (zz1 + (1 : Int32))
  have s4 := c_iadd (zz1 + (1 : Int32)) (i1 &&& (255 : Int32))
  have s5 := rng32 ((zz1 + (1 : Int32)) + (i1 &&& (255 : Int32)))
  simp only [own_l0, own_l1, own_l10, own_l128, own_l255, own_l2147483347, own_l2147483647, own_L0, own_L1] at s1 s2
  have hc : ¬ (((zz1 + (1 : Int32)) + (i1 &&& (255 : Int32))) < zz1) := by (try simp only [own_l0, own_l1, own_l10, own_l128, own_l255, own_l2147483347, own_l2147483647, own_L0, own_L1, Int32.lt_iff_toInt_lt, ← Int32.toInt_inj, Int64.lt_iff_toInt_lt, ← Int64.toInt_inj, and_true, true_and, and_false, false_and, or_true, true_or, or_false, false_or, not_true_eq_false, not_false_eq_true, ne_eq, true_implies, false_implies, implies_true] at  ⊢) <;> omega
  have hr1 : 1 ≤ (((zz1 + (1 : Int32)) + (i1 &&& (255 : Int32)))).toInt - zz1.toInt ∧ (((zz1 + (1 : Int32)) + (i1 &&& (255 : Int32)))).toInt - zz1.toInt ≤ 256 := by omega
  clear s1 s2 s3 s4 s5
  generalize ((zz1 + (1 : Int32)) + (i1 &&& (255 : Int32))) = hi at *
  refine own_goW (T' := T1) (g' := (mkF m 22 #[.val (.int i0), .val (.int i1), .val (.int i2), .val (.int i3), .val (.int zz1), .val (.int hi), .unset, .unset, .unset, .unset, .unset, .unset, .unset, .unset, .unset, .unset, .unset, .unset] [(.int zz1)])) (fun _ k => XS.iload Y1.here hx rfl (hb hby at_20) rfl k) ?_
  refine own_goW (T' := T1) (g' := (mkF m 23 #[.val (.int i0), .val (.int i1), .val (.int i2), .val (.int i3), .val (.int zz1), .val (.int hi), .unset, .unset, .unset, .unset, .unset, .unset, .unset, .unset, .unset, .unset, .unset, .unset] [(.int i2), (.int zz1)])) (fun _ k => XS.iloadN Y1.here hx rfl (hb hby at_22) rfl k) ?_
  refine own_goW (T' := T1) (g' := (mkF m 25 #[.val (.int i0), .val (.int i1), .val (.int i2), .val (.int i3), .val (.int zz1), .val (.int hi), .unset, .unset, .unset, .unset, .unset, .unset, .unset, .unset, .unset, .unset, .unset, .unset] [(.int (2147483647 : Int32)), (.int i2), (.int zz1)])) (fun _ k => Y1.ldcInt hx hown (mvT hZ (hw _ (List.mem_of_getElem? (i := 5) rfl))) (g := (mkF m 23 #[.val (.int i0), .val (.int i1), .val (.int i2), .val (.int i3), .val (.int zz1), .val (.int hi), .unset, .unset, .unset, .unset, .unset, .unset, .unset, .unset, .unset, .unset, .unset, .unset] [(.int i2), (.int zz1)])) rfl (hb hby at_23) _ k) ?_
  refine own_goW (T' := T1) (g' := (mkF m 26 #[.val (.int i0), .val (.int i1), .val (.int i2), .val (.int i3), .val (.int zz1), .val (.int hi), .unset, .unset, .unset, .unset, .unset, .unset, .unset, .unset, .unset, .unset, .unset, .unset] [(.int (i2 &&& (2147483647 : Int32))), (.int zz1)])) (fun _ k => XS.iand Y1.here hx rfl (hb hby at_25) rfl k) ?_
  refine own_goW (T' := T1) (g' := (mkF m 28 #[.val (.int i0), .val (.int i1), .val (.int i2), .val (.int i3), .val (.int zz1), .val (.int hi), .unset, .unset, .unset, .unset, .unset, .unset, .unset, .unset, .unset, .unset, .unset, .unset] [(.int hi), (.int (i2 &&& (2147483647 : Int32))), (.int zz1)])) (fun _ k => XS.iload Y1.here hx rfl (hb hby at_26) rfl k) ?_
  refine own_goW (T' := T1) (g' := (mkF m 30 #[.val (.int i0), .val (.int i1), .val (.int i2), .val (.int i3), .val (.int zz1), .val (.int hi), .unset, .unset, .unset, .unset, .unset, .unset, .unset, .unset, .unset, .unset, .unset, .unset] [(.int zz1), (.int hi), (.int (i2 &&& (2147483647 : Int32))), (.int zz1)])) (fun _ k => XS.iload Y1.here hx rfl (hb hby at_28) rfl k) ?_
  refine own_goW (T' := T1) (g' := (mkF m 31 #[.val (.int i0), .val (.int i1), .val (.int i2), .val (.int i3), .val (.int zz1), .val (.int hi), .unset, .unset, .unset, .unset, .unset, .unset, .unset, .unset, .unset, .unset, .unset, .unset] [(.int (hi - zz1)), (.int (i2 &&& (2147483647 : Int32))), (.int zz1)])) (fun _ k => XS.isub Y1.here hx rfl (hb hby at_30) rfl k) ?_
  refine own_goW (T' := T1) (g' := (mkF m 32 #[.val (.int i0), .val (.int i1), .val (.int i2), .val (.int i3), .val (.int zz1), .val (.int hi), .unset, .unset, .unset, .unset, .unset, .unset, .unset, .unset, .unset, .unset, .unset, .unset] [(.int (1 : Int32)), (.int (hi - zz1)), (.int (i2 &&& (2147483647 : Int32))), (.int zz1)])) (fun _ k => XS.iconst Y1.here hx rfl (hb hby at_31) k) ?_
  refine own_goW (T' := T1) (g' := (mkF m 33 #[.val (.int i0), .val (.int i1), .val (.int i2), .val (.int i3), .val (.int zz1), .val (.int hi), .unset, .unset, .unset, .unset, .unset, .unset, .unset, .unset, .unset, .unset, .unset, .unset] [(.int ((hi - zz1) + (1 : Int32))), (.int (i2 &&& (2147483647 : Int32))), (.int zz1)])) (fun _ k => XS.iadd Y1.here hx rfl (hb hby at_32) rfl k) ?_
  have t1 := c_isub hi zz1
  have t2 := rng32 (hi - zz1)
  have t3 := c_iadd (hi - zz1) (1 : Int32)
  have t4 := rng32 ((hi - zz1) + (1 : Int32))
  simp only [own_l0, own_l1, own_l10, own_l128, own_l255, own_l2147483347, own_l2147483647, own_L0, own_L1] at t3
  have hnz : ((hi - zz1) + (1 : Int32)) ≠ 0 := fun q => by
    clear Y1 eq1
    have q2 := congrArg Int32.toInt q
    rw [show (0 : Int32).toInt = 0 from rfl] at q2
    omega
  refine own_goW (T' := T1) (g' := (mkF m 34 #[.val (.int i0), .val (.int i1), .val (.int i2), .val (.int i3), .val (.int zz1), .val (.int hi), .unset, .unset, .unset, .unset, .unset, .unset, .unset, .unset, .unset, .unset, .unset, .unset] [(.int ((i2 &&& (2147483647 : Int32)) % ((hi - zz1) + (1 : Int32)))), (.int zz1)])) (fun _ k => iremM Y1 hx rfl (hb hby at_33) rfl hnz k) ?_
  refine own_goW (T' := T1) (g' := (mkF m 35 #[.val (.int i0), .val (.int i1), .val (.int i2), .val (.int i3), .val (.int zz1), .val (.int hi), .unset, .unset, .unset, .unset, .unset, .unset, .unset, .unset, .unset, .unset, .unset, .unset] [(.int (zz1 + ((i2 &&& (2147483647 : Int32)) % ((hi - zz1) + (1 : Int32)))))])) (fun _ k => XS.iadd Y1.here hx rfl (hb hby at_34) rfl k) ?_
  refine own_goW (T' := T1) (g' := (mkF m 37 #[.val (.int i0), .val (.int i1), .val (.int i2), .val (.int i3), .val (.int zz1), .val (.int hi), .val (.int (zz1 + ((i2 &&& (2147483647 : Int32)) % ((hi - zz1) + (1 : Int32))))), .unset, .unset, .unset, .unset, .unset, .unset, .unset, .unset, .unset, .unset, .unset] [])) (fun _ k => XS.istore Y1.here hx rfl (hb hby at_35) rfl (l' := #[.val (.int i0), .val (.int i1), .val (.int i2), .val (.int i3), .val (.int zz1), .val (.int hi), .val (.int (zz1 + ((i2 &&& (2147483647 : Int32)) % ((hi - zz1) + (1 : Int32))))), .unset, .unset, .unset, .unset, .unset, .unset, .unset, .unset, .unset, .unset, .unset]) rfl k) ?_
  generalize (zz1 + ((i2 &&& (2147483647 : Int32)) % ((hi - zz1) + (1 : Int32)))) = vv at *
  refine own_goW (T' := T1) (g' := (mkF m 38 #[.val (.int i0), .val (.int i1), .val (.int i2), .val (.int i3), .val (.int zz1), .val (.int hi), .val (.int vv), .unset, .unset, .unset, .unset, .unset, .unset, .unset, .unset, .unset, .unset, .unset] [(.int i3)])) (fun _ k => XS.iloadN Y1.here hx rfl (hb hby at_37) rfl k) ?_
  refine own_goW (T' := T1) (g' := (mkF m 39 #[.val (.int i0), .val (.int i1), .val (.int i2), .val (.int i3), .val (.int zz1), .val (.int hi), .val (.int vv), .unset, .unset, .unset, .unset, .unset, .unset, .unset, .unset, .unset, .unset, .unset] [(.int (1 : Int32)), (.int i3)])) (fun _ k => XS.iconst Y1.here hx rfl (hb hby at_38) k) ?_
  refine own_goW (T' := T1) (g' := (mkF m 40 #[.val (.int i0), .val (.int i1), .val (.int i2), .val (.int i3), .val (.int zz1), .val (.int hi), .val (.int vv), .unset, .unset, .unset, .unset, .unset, .unset, .unset, .unset, .unset, .unset, .unset] [(.int (i3 &&& (1 : Int32)))])) (fun _ k => XS.iand Y1.here hx rfl (hb hby at_39) rfl k) ?_
  by_cases c2 : (i3 &&& (1 : Int32)) = (0 : Int32)
  · refine own_goW (T' := T1) (g' := (mkF m 47 #[.val (.int i0), .val (.int i1), .val (.int i2), .val (.int i3), .val (.int zz1), .val (.int hi), .val (.int vv), .unset, .unset, .unset, .unset, .unset, .unset, .unset, .unset, .unset, .unset, .unset] [])) (fun _ k => XS.ifYes Y1.here hx rfl (pc0 := 40) (pc' := 47) rfl (hb hby at_40) rfl ((if0 _ _).trans (teq c2).1) (by decide) (by decide) k) ?_
    refine own_goW (T' := T1) (g' := (mkF m 48 #[.val (.int i0), .val (.int i1), .val (.int i2), .val (.int i3), .val (.int zz1), .val (.int hi), .val (.int vv), .unset, .unset, .unset, .unset, .unset, .unset, .unset, .unset, .unset, .unset, .unset] [(.int (0 : Int32))])) (fun _ k => XS.iconst Y1.here hx rfl (hb hby at_47) k) ?_
    refine own_goW (T' := T1) (g' := (mkF m 50 #[.val (.int i0), .val (.int i1), .val (.int i2), .val (.int i3), .val (.int zz1), .val (.int hi), .val (.int vv), .val (.int (0 : Int32)), .unset, .unset, .unset, .unset, .unset, .unset, .unset, .unset, .unset, .unset] [])) (fun _ k => XS.istore Y1.here hx rfl (hb hby at_48) rfl (l' := #[.val (.int i0), .val (.int i1), .val (.int i2), .val (.int i3), .val (.int zz1), .val (.int hi), .val (.int vv), .val (.int (0 : Int32)), .unset, .unset, .unset, .unset, .unset, .unset, .unset, .unset, .unset, .unset]) rfl k) ?_
    obtain ⟨T3, h3, X3, e3, E3, A3, D3, -, st3⟩ := newO Y1 hx hZ hown (hw _ (List.mem_of_getElem? (i := 6) rfl)) (hw _ (List.mem_of_getElem? (i := 7) rfl)) (hw _ (List.mem_of_getElem? (i := 8) rfl)) eq1 (g := (mkF m 50 #[.val (.int i0), .val (.int i1), .val (.int i2), .val (.int i3), .val (.int zz1), .val (.int hi), .val (.int vv), .val (.int (0 : Int32)), .unset, .unset, .unset, .unset, .unset, .unset, .unset, .unset, .unset, .unset] [])) rfl (hb hby at_50) (by decide) (by decide)
    clear Y1 eq1
    obtain ⟨b3, g3⟩ : ∃ z, z = h0.size := ⟨_, rfl⟩
    rw [← g3] at A3 D3 st3
    replace g_b3 : n0 ≤ b3 := Nat.le_trans Zs (Nat.le_of_eq g3.symm)
    replace OL := OL.ext E3
    replace hKi := Nat.le_trans hKi E3.1
    replace Zs := Nat.le_trans Zs E3.1
    clear E3
    replace E_b3 := A3
    clear A3
    replace F_b3_name : Fld Z h3 b3 "com/example/ordence/ordence/IntVariable" "name" "Ljava/lang/String;" .null := D3 (Or.inr (hw _ (List.mem_of_getElem? (i := 50) rfl))) (ty := (.object "java/lang/String")) (by decide)
    replace F_b3_domain : Fld Z h3 b3 "com/example/ordence/ordence/IntVariable" "domain" "Lcom/example/ordence/ordence/Domain;" .null := D3 (Or.inr (hw _ (List.mem_of_getElem? (i := 52) rfl))) (ty := (.object "com/example/ordence/ordence/Domain")) (by decide)
    replace F_b3_isBoolean : Fld Z h3 b3 "com/example/ordence/ordence/IntVariable" "isBoolean" "Z" (.int (0 : Int32)) := D3 (Or.inr (hw _ (List.mem_of_getElem? (i := 54) rfl))) (ty := .boolean) (by decide)
    clear D3
    refine own_goW (T' := T3) (g' := (mkF m 53 #[.val (.int i0), .val (.int i1), .val (.int i2), .val (.int i3), .val (.int zz1), .val (.int hi), .val (.int vv), .val (.int (0 : Int32)), .unset, .unset, .unset, .unset, .unset, .unset, .unset, .unset, .unset, .unset] [(.ref b3)])) (fun _ k => st3 _ k) ?_
    clear st3
    refine own_goW (T' := T3) (g' := (mkF m 54 #[.val (.int i0), .val (.int i1), .val (.int i2), .val (.int i3), .val (.int zz1), .val (.int hi), .val (.int vv), .val (.int (0 : Int32)), .unset, .unset, .unset, .unset, .unset, .unset, .unset, .unset, .unset, .unset] [(.ref b3), (.ref b3)])) (fun _ k => XS.dup X3.here hx rfl (hb hby at_53) rfl rfl k) ?_
    obtain ⟨b4, T4, h4, k4, X4, e4, E4, hSi, hKj4, hZ, hown, st4⟩ := ldcS (s := s) (vm0 := s.vm) X3 hx hZ hown (hw _ (List.mem_of_getElem? (i := 9) rfl)) (own_strAtoms Z a0 hw) e3 hSi hKi (g := (mkF m 54 #[.val (.int i0), .val (.int i1), .val (.int i2), .val (.int i3), .val (.int zz1), .val (.int hi), .val (.int vv), .val (.int (0 : Int32)), .unset, .unset, .unset, .unset, .unset, .unset, .unset, .unset, .unset, .unset] [(.ref b3), (.ref b3)])) rfl (hb hby at_54) (n := 4) (by decide) (by decide) (by decide) (by decide)
    clear X3 e3
    replace OL := OL.ext E4
    replace E_b3 := E_b3.ext E4
    replace F_b3_name := F_b3_name.ext E4
    replace F_b3_domain := F_b3_domain.ext E4
    replace F_b3_isBoolean := F_b3_isBoolean.ext E4
    replace hKi := Nat.le_trans hKi E4.1
    replace Zs := Nat.le_trans Zs E4.1
    clear E4
    replace hKi : k4 ≤ h4.size := hKj4
    refine own_goW (T' := T4) (g' := (mkF m 56 #[.val (.int i0), .val (.int i1), .val (.int i2), .val (.int i3), .val (.int zz1), .val (.int hi), .val (.int vv), .val (.int (0 : Int32)), .unset, .unset, .unset, .unset, .unset, .unset, .unset, .unset, .unset, .unset] [(.ref b4), (.ref b3), (.ref b3)])) (fun _ k => st4 _ k) ?_
    clear st4
    refine own_goW (T' := T4) (g' := (mkF m 58 #[.val (.int i0), .val (.int i1), .val (.int i2), .val (.int i3), .val (.int zz1), .val (.int hi), .val (.int vv), .val (.int (0 : Int32)), .unset, .unset, .unset, .unset, .unset, .unset, .unset, .unset, .unset, .unset] [(.int zz1), (.ref b4), (.ref b3), (.ref b3)])) (fun _ k => XS.iload X4.here hx rfl (hb hby at_56) rfl k) ?_
    refine own_goW (T' := T4) (g' := (mkF m 60 #[.val (.int i0), .val (.int i1), .val (.int i2), .val (.int i3), .val (.int zz1), .val (.int hi), .val (.int vv), .val (.int (0 : Int32)), .unset, .unset, .unset, .unset, .unset, .unset, .unset, .unset, .unset, .unset] [(.int hi), (.int zz1), (.ref b4), (.ref b3), (.ref b3)])) (fun _ k => XS.iload X4.here hx rfl (hb hby at_58) rfl k) ?_
    obtain ⟨_, _, ⟨T5, L5, k5, n5⟩, -, X5, ⟨Lc5, hQ5, l5, y5, z5⟩, st5⟩ := X4.specialBack hx (y := (⟨"com/example/ordence/ordence/IntVariable", "<init>", "(Ljava/lang/String;II)V"⟩ : MethodName)) rfl hown (mvT hZ (hw _ (List.mem_of_getElem? (i := 17) rfl))) (mvT hZ (hw _ (List.mem_of_getElem? (i := 18) rfl))) (mvT hZ (hw _ (List.mem_of_getElem? (i := 19) rfl))) (by decide) (backOf (W := 1) (own_rm7 l Z a0 hw [] b3 b4 zz1 hi h4 n0 Zs F_b3_name F_b3_domain F_b3_isBoolean E_b3 g_b3 hc) hZ (hw _ (List.mem_of_getElem? (i := 19) rfl)) (hw _ (List.mem_of_getElem? (i := 8) rfl)) (by decide) (by decide)) (g := (mkF m 60 #[.val (.int i0), .val (.int i1), .val (.int i2), .val (.int i3), .val (.int zz1), .val (.int hi), .val (.int vv), .val (.int (0 : Int32)), .unset, .unset, .unset, .unset, .unset, .unset, .unset, .unset, .unset, .unset] [(.int hi), (.int zz1), (.ref b4), (.ref b3), (.ref b3)])) rfl (by rw [hml]; rfl) (Steps.refl _) (a := b3) (argsL := [(.ref b4), (.int zz1), (.int hi)]) (rest := [(.ref b3)]) (lenOf own_pd0_1 rfl) rfl (by show 2 * 0 + _ ≤ _; exact Nat.le_of_eq rfl) (hb hby at_60) (fun _ _ => ⟨rfl, e4, (by decide : 3 + 4 ≤ _), (by decide : 11 + 7 ≤ _)⟩)
    dsimp only [Pt.U, Pt.locs, Pt.cells, Pt.slots] at X5 l5 y5 z5 st5 hQ5
    subst l5 y5 z5
    clear F_b3_domain F_b3_isBoolean F_b3_name X4 e4
    clear E_b3
    obtain ⟨rfl, NQ5, K5, E_b3⟩ := hQ5
    replace NF := Fr.app NF NQ5
    clear NQ5
    obtain ⟨lc5, Y5, NG5⟩ := own_lo X5 NF
    clear X5
    replace NF := NG5
    clear NG5
    replace OL := OL.keep K5 (allS g_b3 all0)
    clear g_b3
    replace hKi := Nat.le_trans hKi K5.1
    replace Zs := Nat.le_trans Zs K5.1
    clear K5
    refine own_goW (T' := T5) (g' := (mkF m 63 #[.val (.int i0), .val (.int i1), .val (.int i2), .val (.int i3), .val (.int zz1), .val (.int hi), .val (.int vv), .val (.int (0 : Int32)), .unset, .unset, .unset, .unset, .unset, .unset, .unset, .unset, .unset, .unset] [(.ref b3)])) (fun _ k => st5.trans k) ?_
    clear st5
    refine own_goW (T' := T5) (g' := (mkF m 65 #[.val (.int i0), .val (.int i1), .val (.int i2), .val (.int i3), .val (.int zz1), .val (.int hi), .val (.int vv), .val (.int (0 : Int32)), .val (.ref b3), .unset, .unset, .unset, .unset, .unset, .unset, .unset, .unset, .unset] [])) (fun _ k => XS.astore Y5.here hx rfl (hb hby at_63) rfl rfl (l' := #[.val (.int i0), .val (.int i1), .val (.int i2), .val (.int i3), .val (.int zz1), .val (.int hi), .val (.int vv), .val (.int (0 : Int32)), .val (.ref b3), .unset, .unset, .unset, .unset, .unset, .unset, .unset, .unset, .unset]) rfl k) ?_
    obtain ⟨T6, h6, X6, e6, E6, A6, D6, -, st6⟩ := newO Y5 hx hZ hown (hw _ (List.mem_of_getElem? (i := 55) rfl)) (hw _ (List.mem_of_getElem? (i := 56) rfl)) (hw _ (List.mem_of_getElem? (i := 57) rfl)) rfl (g := (mkF m 65 #[.val (.int i0), .val (.int i1), .val (.int i2), .val (.int i3), .val (.int zz1), .val (.int hi), .val (.int vv), .val (.int (0 : Int32)), .val (.ref b3), .unset, .unset, .unset, .unset, .unset, .unset, .unset, .unset, .unset] [])) rfl (hb hby at_65) (by decide) (by decide)
    clear Y5
    obtain ⟨b6, g6⟩ : ∃ z, z = T5.heap.size := ⟨_, rfl⟩
    rw [← g6] at A6 D6 st6
    replace ne_b3_b6 : b3 ≠ b6 := Nat.ne_of_lt (Nat.lt_of_lt_of_le E_b3.lt (Nat.le_of_eq g6.symm))
    replace g_b6 : n0 ≤ b6 := Nat.le_trans Zs (Nat.le_of_eq g6.symm)
    replace OL := OL.ext E6
    replace E_b3 := E_b3.ext E6
    replace hKi := Nat.le_trans hKi E6.1
    replace Zs := Nat.le_trans Zs E6.1
    clear E6
    replace E_b6 := A6
    clear A6
    replace F_b6_modCount : Fld Z h6 b6 "java/util/AbstractList" "modCount" "I" (.int (0 : Int32)) := D6 (Or.inl (hw _ (List.mem_of_getElem? (i := 75) rfl))) (ty := .int) (by decide)
    replace F_b6_elementData : Fld Z h6 b6 "java/util/ArrayList" "elementData" "[Ljava/lang/Object;" .null := D6 (Or.inl (hw _ (List.mem_of_getElem? (i := 78) rfl))) (ty := (.array (.object "java/lang/Object"))) (by decide)
    replace F_b6_size : Fld Z h6 b6 "java/util/ArrayList" "size" "I" (.int (0 : Int32)) := D6 (Or.inl (hw _ (List.mem_of_getElem? (i := 91) rfl))) (ty := .int) (by decide)
    clear D6
    refine own_goW (T' := T6) (g' := (mkF m 68 #[.val (.int i0), .val (.int i1), .val (.int i2), .val (.int i3), .val (.int zz1), .val (.int hi), .val (.int vv), .val (.int (0 : Int32)), .val (.ref b3), .unset, .unset, .unset, .unset, .unset, .unset, .unset, .unset, .unset] [(.ref b6)])) (fun _ k => st6 _ k) ?_
    clear st6
    refine own_goW (T' := T6) (g' := (mkF m 69 #[.val (.int i0), .val (.int i1), .val (.int i2), .val (.int i3), .val (.int zz1), .val (.int hi), .val (.int vv), .val (.int (0 : Int32)), .val (.ref b3), .unset, .unset, .unset, .unset, .unset, .unset, .unset, .unset, .unset] [(.ref b6), (.ref b6)])) (fun _ k => XS.dup X6.here hx rfl (hb hby at_68) rfl rfl k) ?_
    obtain ⟨_, _, ⟨T7, L7, k7, n7⟩, -, X7, ⟨Lc7, hQ7, l7, y7, z7⟩, st7⟩ := X6.specialBack hx (y := (⟨"java/util/ArrayList", "<init>", "()V"⟩ : MethodName)) rfl hown (mvT hZ (hw _ (List.mem_of_getElem? (i := 58) rfl))) (mvT hZ (hw _ (List.mem_of_getElem? (i := 59) rfl))) (mvT hZ (hw _ (List.mem_of_getElem? (i := 60) rfl))) (by decide) (backOf (W := 1) (own_rm10 l Z a0 hw [] b6 de cde h6 n0 Zs F_b6_elementData F_b6_size F_b6_modCount E_b6 g_b6 OL S_de Ar_de Sz_de) hZ (hw _ (List.mem_of_getElem? (i := 60) rfl)) (hw _ (List.mem_of_getElem? (i := 57) rfl)) (by decide) (by decide)) (g := (mkF m 69 #[.val (.int i0), .val (.int i1), .val (.int i2), .val (.int i3), .val (.int zz1), .val (.int hi), .val (.int vv), .val (.int (0 : Int32)), .val (.ref b3), .unset, .unset, .unset, .unset, .unset, .unset, .unset, .unset, .unset] [(.ref b6), (.ref b6)])) rfl (by rw [hml]; rfl) (Steps.refl _) (a := b6) (argsL := []) (rest := [(.ref b6)]) (lenOf own_pd0_2 rfl) rfl (by show 2 * 0 + _ ≤ _; exact Nat.le_of_eq rfl) (hb hby at_69) (fun _ _ => ⟨rfl, e6, (by decide : 8 + 0 ≤ _), (by decide : 21 + 0 ≤ _)⟩)
    dsimp only [Pt.U, Pt.locs, Pt.cells, Pt.slots] at X7 l7 y7 z7 st7 hQ7
    subst l7 y7 z7
    clear X6 e6
    clear E_b6 F_b6_elementData F_b6_modCount F_b6_size
    obtain ⟨rfl, NQ7, K7, E_b6, F_b6_elementData, F_b6_size, F_b6_modCount⟩ := hQ7
    replace NF := Fr.app NF NQ7
    clear NQ7
    obtain ⟨lc7, Y7, NG7⟩ := own_lo X7 NF
    clear X7
    replace NF := NG7
    clear NG7
    replace OL := OL.keep K7 (allS g_b6 all0)
    replace E_b3 := E_b3.keep K7
    replace hKi := Nat.le_trans hKi K7.1
    replace Zs := Nat.le_trans Zs K7.1
    clear K7
    refine own_goW (T' := T7) (g' := (mkF m 72 #[.val (.int i0), .val (.int i1), .val (.int i2), .val (.int i3), .val (.int zz1), .val (.int hi), .val (.int vv), .val (.int (0 : Int32)), .val (.ref b3), .unset, .unset, .unset, .unset, .unset, .unset, .unset, .unset, .unset] [(.ref b6)])) (fun _ k => st7.trans k) ?_
    clear st7
    refine own_goW (T' := T7) (g' := (mkF m 74 #[.val (.int i0), .val (.int i1), .val (.int i2), .val (.int i3), .val (.int zz1), .val (.int hi), .val (.int vv), .val (.int (0 : Int32)), .val (.ref b3), .val (.ref b6), .unset, .unset, .unset, .unset, .unset, .unset, .unset, .unset] [])) (fun _ k => XS.astore Y7.here hx rfl (hb hby at_72) rfl rfl (l' := #[.val (.int i0), .val (.int i1), .val (.int i2), .val (.int i3), .val (.int zz1), .val (.int hi), .val (.int vv), .val (.int (0 : Int32)), .val (.ref b3), .val (.ref b6), .unset, .unset, .unset, .unset, .unset, .unset, .unset, .unset]) rfl k) ?_
    refine own_goW (T' := T7) (g' := (mkF m 76 #[.val (.int i0), .val (.int i1), .val (.int i2), .val (.int i3), .val (.int zz1), .val (.int hi), .val (.int vv), .val (.int (0 : Int32)), .val (.ref b3), .val (.ref b6), .unset, .unset, .unset, .unset, .unset, .unset, .unset, .unset] [(.ref b6)])) (fun _ k => XS.aload Y7.here hx rfl (hb hby at_74) rfl rfl k) ?_
    refine own_goW (T' := T7) (g' := (mkF m 78 #[.val (.int i0), .val (.int i1), .val (.int i2), .val (.int i3), .val (.int zz1), .val (.int hi), .val (.int vv), .val (.int (0 : Int32)), .val (.ref b3), .val (.ref b6), .unset, .unset, .unset, .unset, .unset, .unset, .unset, .unset] [(.ref b3), (.ref b6)])) (fun _ k => XS.aload Y7.here hx rfl (hb hby at_76) rfl rfl k) ?_
    replace lt_b3 := E_b3.lt
    replace lt_b6 := E_b6.lt
    obtain ⟨cq8, kq8, q8a, q8b, q8c⟩ := isOf hZ rfl E_b6
    obtain ⟨_, _, ⟨T8, L8, k8, n8⟩, -, X8, ⟨Lc8, hQ8, l8, y8, z8⟩, st8⟩ := Y7.interfaceBack hx (xi := (⟨"java/util/List", "add", "(Ljava/lang/Object;)Z"⟩ : MethodName)) (y := (⟨"java/util/ArrayList", "add", "(Ljava/lang/Object;)Z"⟩ : MethodName)) hown (mvT hZ (hw _ (List.mem_of_getElem? (i := 79) rfl))) (mvT hZ (hw _ (List.mem_of_getElem? (i := 80) rfl))) (mvT hZ (hw _ (List.mem_of_getElem? (i := 81) rfl))) (mvT hZ (hw _ (List.mem_of_getElem? (i := 82) rfl))) (mvT hZ (hw _ (List.mem_of_getElem? (i := 83) rfl))) (mvT hZ (hw _ (List.mem_of_getElem? (i := 84) rfl))) (mvT hZ (hw _ (List.mem_of_getElem? (i := 85) rfl))) (mvT hZ (hw _ (List.mem_of_getElem? (i := 86) rfl))) (by decide) (backOf (W := 0) (own_rm13 l Z a0 hw [] b6 b3 de cde T7.heap n0 Zs F_b6_elementData F_b6_size F_b6_modCount E_b6 g_b6 E_b3 OL S_de Ar_de Sz_de (Ne.symm ne_b3_b6)) hZ (hw _ (List.mem_of_getElem? (i := 87) rfl)) (hw _ (List.mem_of_getElem? (i := 57) rfl)) (by decide) (by decide)) q8a q8b q8c (g := (mkF m 78 #[.val (.int i0), .val (.int i1), .val (.int i2), .val (.int i3), .val (.int zz1), .val (.int hi), .val (.int vv), .val (.int (0 : Int32)), .val (.ref b3), .val (.ref b6), .unset, .unset, .unset, .unset, .unset, .unset, .unset, .unset] [(.ref b3), (.ref b6)])) rfl (by rw [hml]; rfl) (Steps.refl _) (argsL := [(.ref b3)]) (rest := []) (lenOf own_pd0_3 rfl) rfl (by show 2 * 0 + _ ≤ _; exact Nat.le_of_eq rfl) (hb hby at_78) (fun _ _ => ⟨rfl, rfl, (by decide : 8 + 1 ≤ _), (by decide : 21 + 10 ≤ _)⟩)
    dsimp only [Pt.U, Pt.locs, Pt.cells, Pt.slots] at X8 l8 y8 z8 st8 hQ8
    subst l8 y8 z8
    clear Y7 ne_b3_b6 q8a q8b q8c
    clear E_b6 F_b6_elementData F_b6_modCount F_b6_size
    obtain ⟨rfl, NQ8, K8, E_b6, nb8, knb8, ge_nb8, g_nb8, V_nb8, F_b6_elementData, F_b6_size, F_b6_modCount⟩ := hQ8
    clear g_nb8
    replace NF := Fr.app NF NQ8
    clear NQ8
    obtain ⟨lc8, Y8, NG8⟩ := own_lo X8 NF
    clear X8
    replace NF := NG8
    clear NG8
    replace OL := OL.keep K8 (allS g_b6 all0)
    clear g_b6
    replace E_b3 := E_b3.keep K8
    replace hKi := Nat.le_trans hKi K8.1
    replace Zs := Nat.le_trans Zs K8.1
    clear K8
    replace ne_b3_nb8 : b3 ≠ nb8 := Nat.ne_of_lt (Nat.lt_of_lt_of_le lt_b3 ge_nb8)
    clear ne_b3_nb8
    replace ne_b6_nb8 : b6 ≠ nb8 := Nat.ne_of_lt (Nat.lt_of_lt_of_le lt_b6 ge_nb8)
    clear ge_nb8 ne_b6_nb8
    refine own_goW (T' := T8) (g' := (mkF m 83 #[.val (.int i0), .val (.int i1), .val (.int i2), .val (.int i3), .val (.int zz1), .val (.int hi), .val (.int vv), .val (.int (0 : Int32)), .val (.ref b3), .val (.ref b6), .unset, .unset, .unset, .unset, .unset, .unset, .unset, .unset] [(.int (1 : Int32))])) (fun _ k => st8.trans k) ?_
    clear st8
    refine own_goW (T' := T8) (g' := (mkF m 84 #[.val (.int i0), .val (.int i1), .val (.int i2), .val (.int i3), .val (.int zz1), .val (.int hi), .val (.int vv), .val (.int (0 : Int32)), .val (.ref b3), .val (.ref b6), .unset, .unset, .unset, .unset, .unset, .unset, .unset, .unset] [])) (fun _ k => XS.pop Y8.here hx rfl (hb hby at_83) rfl rfl k) ?_
    refine own_goW (T' := T8) (g' := (mkF m 85 #[.val (.int i0), .val (.int i1), .val (.int i2), .val (.int i3), .val (.int zz1), .val (.int hi), .val (.int vv), .val (.int (0 : Int32)), .val (.ref b3), .val (.ref b6), .unset, .unset, .unset, .unset, .unset, .unset, .unset, .unset] [(.int (1 : Int32))])) (fun _ k => XS.iconst Y8.here hx rfl (hb hby at_84) k) ?_
    obtain ⟨T9, h9, k9, X9, e9, E9, A9, EA9, st9⟩ := newPE Y8 hx hZ (hw _ (List.mem_of_getElem? (i := 27) rfl)) rfl (g := (mkF m 85 #[.val (.int i0), .val (.int i1), .val (.int i2), .val (.int i3), .val (.int zz1), .val (.int hi), .val (.int vv), .val (.int (0 : Int32)), .val (.ref b3), .val (.ref b6), .unset, .unset, .unset, .unset, .unset, .unset, .unset, .unset] [(.int (1 : Int32))])) rfl (hb hby at_85) rfl (by decide) (cap := 1) (by decide) (by decide) (by decide) (by decide) (ad := "[I") (by decide)
    clear Y8
    obtain ⟨b9, g9⟩ : ∃ z, z = T8.heap.size := ⟨_, rfl⟩
    rw [← g9] at A9 EA9 st9
    replace ne_b3_b9 : b3 ≠ b9 := Nat.ne_of_lt (Nat.lt_of_lt_of_le E_b3.lt (Nat.le_of_eq g9.symm))
    clear ne_b3_b9
    replace ne_b6_b9 : b6 ≠ b9 := Nat.ne_of_lt (Nat.lt_of_lt_of_le E_b6.lt (Nat.le_of_eq g9.symm))
    replace ne_nb8_b9 : nb8 ≠ b9 := Nat.ne_of_lt (Nat.lt_of_lt_of_le V_nb8.lt (Nat.le_of_eq g9.symm))
    replace g_b9 : n0 ≤ b9 := Nat.le_trans Zs (Nat.le_of_eq g9.symm)
    replace OL := OL.ext E9
    replace E_b3 := E_b3.ext E9
    replace E_b6 := E_b6.ext E9
    replace F_b6_modCount := F_b6_modCount.ext E9
    replace F_b6_elementData := F_b6_elementData.ext E9
    replace F_b6_size := F_b6_size.ext E9
    replace V_nb8 := V_nb8.ext E9
    replace hKi := Nat.le_trans hKi E9.1
    replace Zs := Nat.le_trans Zs E9.1
    clear E9
    replace E_b9 := EA9
    clear EA9
    replace V_b9 : Arv Z h9 b9 k9 .int (1 : Int32) [(.int (0 : Int32))] (.int (0 : Int32)) := (Arv.new A9 (by decide)).pad (pad_rep [] (.int (0 : Int32)) 1)
    clear A9
    refine own_goW (T' := T9) (g' := (mkF m 87 #[.val (.int i0), .val (.int i1), .val (.int i2), .val (.int i3), .val (.int zz1), .val (.int hi), .val (.int vv), .val (.int (0 : Int32)), .val (.ref b3), .val (.ref b6), .unset, .unset, .unset, .unset, .unset, .unset, .unset, .unset] [(.ref b9)])) (fun _ k => st9 _ k) ?_
    clear st9
    refine own_goW (T' := T9) (g' := (mkF m 88 #[.val (.int i0), .val (.int i1), .val (.int i2), .val (.int i3), .val (.int zz1), .val (.int hi), .val (.int vv), .val (.int (0 : Int32)), .val (.ref b3), .val (.ref b6), .unset, .unset, .unset, .unset, .unset, .unset, .unset, .unset] [(.ref b9), (.ref b9)])) (fun _ k => XS.dup X9.here hx rfl (hb hby at_87) rfl rfl k) ?_
    refine own_goW (T' := T9) (g' := (mkF m 89 #[.val (.int i0), .val (.int i1), .val (.int i2), .val (.int i3), .val (.int zz1), .val (.int hi), .val (.int vv), .val (.int (0 : Int32)), .val (.ref b3), .val (.ref b6), .unset, .unset, .unset, .unset, .unset, .unset, .unset, .unset] [(.int (0 : Int32)), (.ref b9), (.ref b9)])) (fun _ k => XS.iconst X9.here hx rfl (hb hby at_88) k) ?_
    refine own_goW (T' := T9) (g' := (mkF m 91 #[.val (.int i0), .val (.int i1), .val (.int i2), .val (.int i3), .val (.int zz1), .val (.int hi), .val (.int vv), .val (.int (0 : Int32)), .val (.ref b3), .val (.ref b6), .unset, .unset, .unset, .unset, .unset, .unset, .unset, .unset] [(.int vv), (.int (0 : Int32)), (.ref b9), (.ref b9)])) (fun _ k => XS.iload X9.here hx rfl (hb hby at_89) rfl k) ?_
    obtain ⟨c_10, Ar_10, q_10, S_10, N_10, H_10, G_10⟩ := id V_b9
    replace hin_10 : ¬ ((0 : Int32) < 0 ∨ c_10.slots.size ≤ ((0 : Int32)).toNatClampNeg) := inb_of S_10 ⟨by decide, by decide⟩
    obtain ⟨T10, h10, X10, e10, W10, st10⟩ := stI X9 hx hZ e9 Ar_10 (j := (0 : Int32)) hin_10 (g := (mkF m 91 #[.val (.int i0), .val (.int i1), .val (.int i2), .val (.int i3), .val (.int zz1), .val (.int hi), .val (.int vv), .val (.int (0 : Int32)), .val (.ref b3), .val (.ref b6), .unset, .unset, .unset, .unset, .unset, .unset, .unset, .unset] [(.int vv), (.int (0 : Int32)), (.ref b9), (.ref b9)])) rfl rfl (hb hby at_91)
    clear X9 e9 hin_10
    replace OL := OL.wr W10 g_b9
    replace E_b3 := E_b3.wr W10
    replace E_b6 := E_b6.wr W10
    replace F_b6_modCount := F_b6_modCount.other W10 (Or.inl ne_b6_b9)
    replace F_b6_elementData := F_b6_elementData.other W10 (Or.inl ne_b6_b9)
    replace F_b6_size := F_b6_size.other W10 (Or.inl ne_b6_b9)
    clear ne_b6_b9
    replace V_nb8 := V_nb8.other W10 ne_nb8_b9
    clear ne_nb8_b9
    replace E_b9 := E_b9.wr W10
    replace hKi := Nat.le_trans hKi (Keep.of_wr W10).1
    replace Zs := Nat.le_trans Zs (Keep.of_wr W10).1
    replace V_b9 := Arv.set Ar_10 q_10 S_10 N_10 H_10 G_10 rfl W10 0 rfl (Nat.le_of_ble_eq_true rfl)
    clear Ar_10 G_10 H_10 N_10 S_10 W10 q_10
    replace NF := Fr.snoc X10 NF g_b9
    clear g_b9
    obtain ⟨lc10, Y10, NG10⟩ := own_lo X10 NF
    clear X10
    replace NF := NG10
    clear NG10
    refine own_goW (T' := T10) (g' := (mkF m 92 #[.val (.int i0), .val (.int i1), .val (.int i2), .val (.int i3), .val (.int zz1), .val (.int hi), .val (.int vv), .val (.int (0 : Int32)), .val (.ref b3), .val (.ref b6), .unset, .unset, .unset, .unset, .unset, .unset, .unset, .unset] [(.ref b9)])) (fun _ k => st10 _ k) ?_
    clear st10
    refine own_goW (T' := T10) (g' := (mkF m 94 #[.val (.int i0), .val (.int i1), .val (.int i2), .val (.int i3), .val (.int zz1), .val (.int hi), .val (.int vv), .val (.int (0 : Int32)), .val (.ref b3), .val (.ref b6), .val (.ref b9), .unset, .unset, .unset, .unset, .unset, .unset, .unset] [])) (fun _ k => XS.astore Y10.here hx rfl (hb hby at_92) rfl rfl (l' := #[.val (.int i0), .val (.int i1), .val (.int i2), .val (.int i3), .val (.int zz1), .val (.int hi), .val (.int vv), .val (.int (0 : Int32)), .val (.ref b3), .val (.ref b6), .val (.ref b9), .unset, .unset, .unset, .unset, .unset, .unset, .unset]) rfl k) ?_
    obtain ⟨T11, h11, X11, e11, E11, A11, D11, -, st11⟩ := newO Y10 hx hZ hown (hw _ (List.mem_of_getElem? (i := 55) rfl)) (hw _ (List.mem_of_getElem? (i := 56) rfl)) (hw _ (List.mem_of_getElem? (i := 57) rfl)) e10 (g := (mkF m 94 #[.val (.int i0), .val (.int i1), .val (.int i2), .val (.int i3), .val (.int zz1), .val (.int hi), .val (.int vv), .val (.int (0 : Int32)), .val (.ref b3), .val (.ref b6), .val (.ref b9), .unset, .unset, .unset, .unset, .unset, .unset, .unset] [])) rfl (hb hby at_94) (by decide) (by decide)
    clear Y10 e10
    obtain ⟨b11, g11⟩ : ∃ z, z = h10.size := ⟨_, rfl⟩
    rw [← g11] at A11 D11 st11
    replace ne_b3_b11 : b3 ≠ b11 := Nat.ne_of_lt (Nat.lt_of_lt_of_le E_b3.lt (Nat.le_of_eq g11.symm))
    clear ne_b3_b11
    replace ne_b6_b11 : b6 ≠ b11 := Nat.ne_of_lt (Nat.lt_of_lt_of_le E_b6.lt (Nat.le_of_eq g11.symm))
    replace ne_b9_b11 : b9 ≠ b11 := Nat.ne_of_lt (Nat.lt_of_lt_of_le E_b9.lt (Nat.le_of_eq g11.symm))
    replace ne_nb8_b11 : nb8 ≠ b11 := Nat.ne_of_lt (Nat.lt_of_lt_of_le V_nb8.lt (Nat.le_of_eq g11.symm))
    replace g_b11 : n0 ≤ b11 := Nat.le_trans Zs (Nat.le_of_eq g11.symm)
    replace OL := OL.ext E11
    replace E_b3 := E_b3.ext E11
    replace E_b6 := E_b6.ext E11
    replace F_b6_modCount := F_b6_modCount.ext E11
    replace F_b6_elementData := F_b6_elementData.ext E11
    replace F_b6_size := F_b6_size.ext E11
    replace V_nb8 := V_nb8.ext E11
    replace E_b9 := E_b9.ext E11
    replace V_b9 := V_b9.ext E11
    replace hKi := Nat.le_trans hKi E11.1
    replace Zs := Nat.le_trans Zs E11.1
    clear E11
    replace E_b11 := A11
    clear A11
    replace F_b11_modCount : Fld Z h11 b11 "java/util/AbstractList" "modCount" "I" (.int (0 : Int32)) := D11 (Or.inl (hw _ (List.mem_of_getElem? (i := 75) rfl))) (ty := .int) (by decide)
    replace F_b11_elementData : Fld Z h11 b11 "java/util/ArrayList" "elementData" "[Ljava/lang/Object;" .null := D11 (Or.inl (hw _ (List.mem_of_getElem? (i := 78) rfl))) (ty := (.array (.object "java/lang/Object"))) (by decide)
    replace F_b11_size : Fld Z h11 b11 "java/util/ArrayList" "size" "I" (.int (0 : Int32)) := D11 (Or.inl (hw _ (List.mem_of_getElem? (i := 91) rfl))) (ty := .int) (by decide)
    clear D11
    refine own_goW (T' := T11) (g' := (mkF m 97 #[.val (.int i0), .val (.int i1), .val (.int i2), .val (.int i3), .val (.int zz1), .val (.int hi), .val (.int vv), .val (.int (0 : Int32)), .val (.ref b3), .val (.ref b6), .val (.ref b9), .unset, .unset, .unset, .unset, .unset, .unset, .unset] [(.ref b11)])) (fun _ k => st11 _ k) ?_
    clear st11
    refine own_goW (T' := T11) (g' := (mkF m 98 #[.val (.int i0), .val (.int i1), .val (.int i2), .val (.int i3), .val (.int zz1), .val (.int hi), .val (.int vv), .val (.int (0 : Int32)), .val (.ref b3), .val (.ref b6), .val (.ref b9), .unset, .unset, .unset, .unset, .unset, .unset, .unset] [(.ref b11), (.ref b11)])) (fun _ k => XS.dup X11.here hx rfl (hb hby at_97) rfl rfl k) ?_
    obtain ⟨_, _, ⟨T12, L12, k12, n12⟩, -, X12, ⟨Lc12, hQ12, l12, y12, z12⟩, st12⟩ := X11.specialBack hx (y := (⟨"java/util/ArrayList", "<init>", "()V"⟩ : MethodName)) rfl hown (mvT hZ (hw _ (List.mem_of_getElem? (i := 58) rfl))) (mvT hZ (hw _ (List.mem_of_getElem? (i := 59) rfl))) (mvT hZ (hw _ (List.mem_of_getElem? (i := 60) rfl))) (by decide) (backOf (W := 1) (own_rm10 l Z a0 hw [] b11 de cde h11 n0 Zs F_b11_elementData F_b11_size F_b11_modCount E_b11 g_b11 OL S_de Ar_de Sz_de) hZ (hw _ (List.mem_of_getElem? (i := 60) rfl)) (hw _ (List.mem_of_getElem? (i := 57) rfl)) (by decide) (by decide)) (g := (mkF m 98 #[.val (.int i0), .val (.int i1), .val (.int i2), .val (.int i3), .val (.int zz1), .val (.int hi), .val (.int vv), .val (.int (0 : Int32)), .val (.ref b3), .val (.ref b6), .val (.ref b9), .unset, .unset, .unset, .unset, .unset, .unset, .unset] [(.ref b11), (.ref b11)])) rfl (by rw [hml]; rfl) (Steps.refl _) (a := b11) (argsL := []) (rest := [(.ref b11)]) (lenOf own_pd0_2 rfl) rfl (by show 2 * 0 + _ ≤ _; exact Nat.le_of_eq rfl) (hb hby at_98) (fun _ _ => ⟨rfl, e11, (by decide : 11 + 0 ≤ _), (by decide : 35 + 0 ≤ _)⟩)
    dsimp only [Pt.U, Pt.locs, Pt.cells, Pt.slots] at X12 l12 y12 z12 st12 hQ12
    subst l12 y12 z12
    clear X11 e11
    clear E_b11 F_b11_elementData F_b11_modCount F_b11_size
    obtain ⟨rfl, NQ12, K12, E_b11, F_b11_elementData, F_b11_size, F_b11_modCount⟩ := hQ12
    replace NF := Fr.app NF NQ12
    clear NQ12
    obtain ⟨lc12, Y12, NG12⟩ := own_lo X12 NF
    clear X12
    replace NF := NG12
    clear NG12
    replace OL := OL.keep K12 (allS g_b11 all0)
    replace E_b3 := E_b3.keep K12
    replace E_b6 := E_b6.keep K12
    replace F_b6_modCount := F_b6_modCount.keep K12 (ninS ne_b6_b11 nin0)
    replace F_b6_elementData := F_b6_elementData.keep K12 (ninS ne_b6_b11 nin0)
    replace F_b6_size := F_b6_size.keep K12 (ninS ne_b6_b11 nin0)
    replace V_nb8 := V_nb8.keep K12 (ninS ne_nb8_b11 nin0)
    replace E_b9 := E_b9.keep K12
    replace V_b9 := V_b9.keep K12 (ninS ne_b9_b11 nin0)
    replace hKi := Nat.le_trans hKi K12.1
    replace Zs := Nat.le_trans Zs K12.1
    clear K12
    refine own_goW (T' := T12) (g' := (mkF m 101 #[.val (.int i0), .val (.int i1), .val (.int i2), .val (.int i3), .val (.int zz1), .val (.int hi), .val (.int vv), .val (.int (0 : Int32)), .val (.ref b3), .val (.ref b6), .val (.ref b9), .unset, .unset, .unset, .unset, .unset, .unset, .unset] [(.ref b11)])) (fun _ k => st12.trans k) ?_
    clear st12
    refine own_goW (T' := T12) (g' := (mkF m 103 #[.val (.int i0), .val (.int i1), .val (.int i2), .val (.int i3), .val (.int zz1), .val (.int hi), .val (.int vv), .val (.int (0 : Int32)), .val (.ref b3), .val (.ref b6), .val (.ref b9), .val (.ref b11), .unset, .unset, .unset, .unset, .unset, .unset] [])) (fun _ k => XS.astore Y12.here hx rfl (hb hby at_101) rfl rfl (l' := #[.val (.int i0), .val (.int i1), .val (.int i2), .val (.int i3), .val (.int zz1), .val (.int hi), .val (.int vv), .val (.int (0 : Int32)), .val (.ref b3), .val (.ref b6), .val (.ref b9), .val (.ref b11), .unset, .unset, .unset, .unset, .unset, .unset]) rfl k) ?_
    refine own_goW (T' := T12) (g' := (mkF m 105 #[.val (.int i0), .val (.int i1), .val (.int i2), .val (.int i3), .val (.int zz1), .val (.int hi), .val (.int vv), .val (.int (0 : Int32)), .val (.ref b3), .val (.ref b6), .val (.ref b9), .val (.ref b11), .unset, .unset, .unset, .unset, .unset, .unset] [(.ref b11)])) (fun _ k => XS.aload Y12.here hx rfl (hb hby at_103) rfl rfl k) ?_
    refine own_goW (T' := T12) (g' := (mkF m 107 #[.val (.int i0), .val (.int i1), .val (.int i2), .val (.int i3), .val (.int zz1), .val (.int hi), .val (.int vv), .val (.int (0 : Int32)), .val (.ref b3), .val (.ref b6), .val (.ref b9), .val (.ref b11), .unset, .unset, .unset, .unset, .unset, .unset] [(.ref b9), (.ref b11)])) (fun _ k => XS.aload Y12.here hx rfl (hb hby at_105) rfl rfl k) ?_
    replace lt_b11 := E_b11.lt
    replace lt_b3 := E_b3.lt
    replace lt_b6 := E_b6.lt
    replace lt_b9 := E_b9.lt
    replace lt_nb8 := V_nb8.lt
    obtain ⟨cq13, kq13, q13a, q13b, q13c⟩ := isOf hZ rfl E_b11
    obtain ⟨_, _, ⟨T13, L13, k13, n13⟩, -, X13, ⟨Lc13, hQ13, l13, y13, z13⟩, st13⟩ := Y12.interfaceBack hx (xi := (⟨"java/util/List", "add", "(Ljava/lang/Object;)Z"⟩ : MethodName)) (y := (⟨"java/util/ArrayList", "add", "(Ljava/lang/Object;)Z"⟩ : MethodName)) hown (mvT hZ (hw _ (List.mem_of_getElem? (i := 79) rfl))) (mvT hZ (hw _ (List.mem_of_getElem? (i := 80) rfl))) (mvT hZ (hw _ (List.mem_of_getElem? (i := 81) rfl))) (mvT hZ (hw _ (List.mem_of_getElem? (i := 82) rfl))) (mvT hZ (hw _ (List.mem_of_getElem? (i := 83) rfl))) (mvT hZ (hw _ (List.mem_of_getElem? (i := 84) rfl))) (mvT hZ (hw _ (List.mem_of_getElem? (i := 85) rfl))) (mvT hZ (hw _ (List.mem_of_getElem? (i := 86) rfl))) (by decide) (backOf (W := 0) (own_rm14 l Z a0 hw [] b11 b9 de cde T12.heap n0 Zs F_b11_elementData F_b11_size F_b11_modCount E_b11 g_b11 E_b9 OL S_de Ar_de Sz_de (Ne.symm ne_b9_b11)) hZ (hw _ (List.mem_of_getElem? (i := 87) rfl)) (hw _ (List.mem_of_getElem? (i := 57) rfl)) (by decide) (by decide)) q13a q13b q13c (g := (mkF m 107 #[.val (.int i0), .val (.int i1), .val (.int i2), .val (.int i3), .val (.int zz1), .val (.int hi), .val (.int vv), .val (.int (0 : Int32)), .val (.ref b3), .val (.ref b6), .val (.ref b9), .val (.ref b11), .unset, .unset, .unset, .unset, .unset, .unset] [(.ref b9), (.ref b11)])) rfl (by rw [hml]; rfl) (Steps.refl _) (argsL := [(.ref b9)]) (rest := []) (lenOf own_pd0_3 rfl) rfl (by show 2 * 0 + _ ≤ _; exact Nat.le_of_eq rfl) (hb hby at_107) (fun _ _ => ⟨rfl, rfl, (by decide : 11 + 1 ≤ _), (by decide : 35 + 10 ≤ _)⟩)
    dsimp only [Pt.U, Pt.locs, Pt.cells, Pt.slots] at X13 l13 y13 z13 st13 hQ13
    subst l13 y13 z13
    clear Y12 q13a q13b q13c
    clear E_b11 F_b11_elementData F_b11_modCount F_b11_size
    obtain ⟨rfl, NQ13, K13, E_b11, nb13, knb13, ge_nb13, g_nb13, V_nb13, F_b11_elementData, F_b11_size, F_b11_modCount⟩ := hQ13
    clear g_nb13
    replace NF := Fr.app NF NQ13
    clear NQ13
    obtain ⟨lc13, Y13, NG13⟩ := own_lo X13 NF
    clear X13
    replace NF := NG13
    clear NG13
    replace OL := OL.keep K13 (allS g_b11 all0)
    clear g_b11
    replace E_b3 := E_b3.keep K13
    replace E_b6 := E_b6.keep K13
    replace F_b6_modCount := F_b6_modCount.keep K13 (ninS ne_b6_b11 nin0)
    replace F_b6_elementData := F_b6_elementData.keep K13 (ninS ne_b6_b11 nin0)
    replace F_b6_size := F_b6_size.keep K13 (ninS ne_b6_b11 nin0)
    clear ne_b6_b11
    replace V_nb8 := V_nb8.keep K13 (ninS ne_nb8_b11 nin0)
    clear ne_nb8_b11
    replace E_b9 := E_b9.keep K13
    replace V_b9 := V_b9.keep K13 (ninS ne_b9_b11 nin0)
    clear ne_b9_b11
    replace hKi := Nat.le_trans hKi K13.1
    replace Zs := Nat.le_trans Zs K13.1
    clear K13
    replace ne_b11_nb13 : b11 ≠ nb13 := Nat.ne_of_lt (Nat.lt_of_lt_of_le lt_b11 ge_nb13)
    clear ne_b11_nb13
    replace ne_b3_nb13 : b3 ≠ nb13 := Nat.ne_of_lt (Nat.lt_of_lt_of_le lt_b3 ge_nb13)
    clear ne_b3_nb13
    replace ne_b6_nb13 : b6 ≠ nb13 := Nat.ne_of_lt (Nat.lt_of_lt_of_le lt_b6 ge_nb13)
    clear ne_b6_nb13
    replace ne_b9_nb13 : b9 ≠ nb13 := Nat.ne_of_lt (Nat.lt_of_lt_of_le lt_b9 ge_nb13)
    clear ne_b9_nb13
    replace ne_nb8_nb13 : nb8 ≠ nb13 := Nat.ne_of_lt (Nat.lt_of_lt_of_le lt_nb8 ge_nb13)
    clear ge_nb13 ne_nb8_nb13
    refine own_goW (T' := T13) (g' := (mkF m 112 #[.val (.int i0), .val (.int i1), .val (.int i2), .val (.int i3), .val (.int zz1), .val (.int hi), .val (.int vv), .val (.int (0 : Int32)), .val (.ref b3), .val (.ref b6), .val (.ref b9), .val (.ref b11), .unset, .unset, .unset, .unset, .unset, .unset] [(.int (1 : Int32))])) (fun _ k => st13.trans k) ?_
    clear st13
    refine own_goW (T' := T13) (g' := (mkF m 113 #[.val (.int i0), .val (.int i1), .val (.int i2), .val (.int i3), .val (.int zz1), .val (.int hi), .val (.int vv), .val (.int (0 : Int32)), .val (.ref b3), .val (.ref b6), .val (.ref b9), .val (.ref b11), .unset, .unset, .unset, .unset, .unset, .unset] [])) (fun _ k => XS.pop Y13.here hx rfl (hb hby at_112) rfl rfl k) ?_
    obtain ⟨T14, h14, X14, e14, E14, A14, D14, -, st14⟩ := newO Y13 hx hZ hown (hw _ (List.mem_of_getElem? (i := 114) rfl)) (hw _ (List.mem_of_getElem? (i := 115) rfl)) (hw _ (List.mem_of_getElem? (i := 116) rfl)) rfl (g := (mkF m 113 #[.val (.int i0), .val (.int i1), .val (.int i2), .val (.int i3), .val (.int zz1), .val (.int hi), .val (.int vv), .val (.int (0 : Int32)), .val (.ref b3), .val (.ref b6), .val (.ref b9), .val (.ref b11), .unset, .unset, .unset, .unset, .unset, .unset] [])) rfl (hb hby at_113) (by decide) (by decide)
    clear Y13
    obtain ⟨b14, g14⟩ : ∃ z, z = T13.heap.size := ⟨_, rfl⟩
    rw [← g14] at A14 D14 st14
    replace ne_b11_b14 : b11 ≠ b14 := Nat.ne_of_lt (Nat.lt_of_lt_of_le E_b11.lt (Nat.le_of_eq g14.symm))
    replace ne_b3_b14 : b3 ≠ b14 := Nat.ne_of_lt (Nat.lt_of_lt_of_le E_b3.lt (Nat.le_of_eq g14.symm))
    clear ne_b3_b14
    replace ne_b6_b14 : b6 ≠ b14 := Nat.ne_of_lt (Nat.lt_of_lt_of_le E_b6.lt (Nat.le_of_eq g14.symm))
    replace ne_b9_b14 : b9 ≠ b14 := Nat.ne_of_lt (Nat.lt_of_lt_of_le E_b9.lt (Nat.le_of_eq g14.symm))
    replace ne_nb13_b14 : nb13 ≠ b14 := Nat.ne_of_lt (Nat.lt_of_lt_of_le V_nb13.lt (Nat.le_of_eq g14.symm))
    replace ne_nb8_b14 : nb8 ≠ b14 := Nat.ne_of_lt (Nat.lt_of_lt_of_le V_nb8.lt (Nat.le_of_eq g14.symm))
    replace g_b14 : n0 ≤ b14 := Nat.le_trans Zs (Nat.le_of_eq g14.symm)
    replace OL := OL.ext E14
    replace E_b3 := E_b3.ext E14
    replace E_b6 := E_b6.ext E14
    replace F_b6_modCount := F_b6_modCount.ext E14
    replace F_b6_elementData := F_b6_elementData.ext E14
    replace F_b6_size := F_b6_size.ext E14
    replace V_nb8 := V_nb8.ext E14
    replace E_b9 := E_b9.ext E14
    replace V_b9 := V_b9.ext E14
    replace E_b11 := E_b11.ext E14
    replace F_b11_modCount := F_b11_modCount.ext E14
    replace F_b11_elementData := F_b11_elementData.ext E14
    replace F_b11_size := F_b11_size.ext E14
    replace V_nb13 := V_nb13.ext E14
    replace hKi := Nat.le_trans hKi E14.1
    replace Zs := Nat.le_trans Zs E14.1
    clear E14
    replace E_b14 := A14
    clear A14
    replace F_b14_variables : Fld Z h14 b14 "com/example/ordence/ordence/Formula$Table" "variables" "Ljava/util/List;" .null := D14 (Or.inr (hw _ (List.mem_of_getElem? (i := 127) rfl))) (ty := (.object "java/util/List")) (by decide)
    replace F_b14_tuples : Fld Z h14 b14 "com/example/ordence/ordence/Formula$Table" "tuples" "Ljava/util/List;" .null := D14 (Or.inr (hw _ (List.mem_of_getElem? (i := 129) rfl))) (ty := (.object "java/util/List")) (by decide)
    replace F_b14_supports : Fld Z h14 b14 "com/example/ordence/ordence/Formula$Table" "supports" "Z" (.int (0 : Int32)) := D14 (Or.inr (hw _ (List.mem_of_getElem? (i := 131) rfl))) (ty := .boolean) (by decide)
    clear D14
    refine own_goW (T' := T14) (g' := (mkF m 116 #[.val (.int i0), .val (.int i1), .val (.int i2), .val (.int i3), .val (.int zz1), .val (.int hi), .val (.int vv), .val (.int (0 : Int32)), .val (.ref b3), .val (.ref b6), .val (.ref b9), .val (.ref b11), .unset, .unset, .unset, .unset, .unset, .unset] [(.ref b14)])) (fun _ k => st14 _ k) ?_
    clear st14
    refine own_goW (T' := T14) (g' := (mkF m 117 #[.val (.int i0), .val (.int i1), .val (.int i2), .val (.int i3), .val (.int zz1), .val (.int hi), .val (.int vv), .val (.int (0 : Int32)), .val (.ref b3), .val (.ref b6), .val (.ref b9), .val (.ref b11), .unset, .unset, .unset, .unset, .unset, .unset] [(.ref b14), (.ref b14)])) (fun _ k => XS.dup X14.here hx rfl (hb hby at_116) rfl rfl k) ?_
    refine own_goW (T' := T14) (g' := (mkF m 119 #[.val (.int i0), .val (.int i1), .val (.int i2), .val (.int i3), .val (.int zz1), .val (.int hi), .val (.int vv), .val (.int (0 : Int32)), .val (.ref b3), .val (.ref b6), .val (.ref b9), .val (.ref b11), .unset, .unset, .unset, .unset, .unset, .unset] [(.ref b6), (.ref b14), (.ref b14)])) (fun _ k => XS.aload X14.here hx rfl (hb hby at_117) rfl rfl k) ?_
    refine own_goW (T' := T14) (g' := (mkF m 121 #[.val (.int i0), .val (.int i1), .val (.int i2), .val (.int i3), .val (.int zz1), .val (.int hi), .val (.int vv), .val (.int (0 : Int32)), .val (.ref b3), .val (.ref b6), .val (.ref b9), .val (.ref b11), .unset, .unset, .unset, .unset, .unset, .unset] [(.ref b11), (.ref b6), (.ref b14), (.ref b14)])) (fun _ k => XS.aload X14.here hx rfl (hb hby at_119) rfl rfl k) ?_
    refine own_goW (T' := T14) (g' := (mkF m 123 #[.val (.int i0), .val (.int i1), .val (.int i2), .val (.int i3), .val (.int zz1), .val (.int hi), .val (.int vv), .val (.int (0 : Int32)), .val (.ref b3), .val (.ref b6), .val (.ref b9), .val (.ref b11), .unset, .unset, .unset, .unset, .unset, .unset] [(.int (0 : Int32)), (.ref b11), (.ref b6), (.ref b14), (.ref b14)])) (fun _ k => XS.iload X14.here hx rfl (hb hby at_121) rfl k) ?_
    obtain ⟨_, _, ⟨T15, L15, k15, n15⟩, -, X15, ⟨Lc15, hQ15, l15, y15, z15⟩, st15⟩ := X14.specialBack hx (y := (⟨"com/example/ordence/ordence/Formula$Table", "<init>", "(Ljava/util/List;Ljava/util/List;Z)V"⟩ : MethodName)) rfl hown (mvT hZ (hw _ (List.mem_of_getElem? (i := 117) rfl))) (mvT hZ (hw _ (List.mem_of_getElem? (i := 118) rfl))) (mvT hZ (hw _ (List.mem_of_getElem? (i := 119) rfl))) (by decide) (backOf (W := 1) (own_rm16_0 l Z a0 hw [] b14 b6 b11 h14 n0 Zs F_b14_variables F_b14_tuples F_b14_supports E_b14 g_b14) hZ (hw _ (List.mem_of_getElem? (i := 119) rfl)) (hw _ (List.mem_of_getElem? (i := 116) rfl)) (by decide) (by decide)) (g := (mkF m 123 #[.val (.int i0), .val (.int i1), .val (.int i2), .val (.int i3), .val (.int zz1), .val (.int hi), .val (.int vv), .val (.int (0 : Int32)), .val (.ref b3), .val (.ref b6), .val (.ref b9), .val (.ref b11), .unset, .unset, .unset, .unset, .unset, .unset] [(.int (0 : Int32)), (.ref b11), (.ref b6), (.ref b14), (.ref b14)])) rfl (by rw [hml]; rfl) (Steps.refl _) (a := b14) (argsL := [(.ref b6), (.ref b11), (.int (0 : Int32))]) (rest := [(.ref b14)]) (lenOf own_pd0_4 rfl) rfl (by show 2 * 0 + _ ≤ _; exact Nat.le_of_eq rfl) (hb hby at_123) (fun _ _ => ⟨rfl, e14, (by decide : 13 + 0 ≤ _), (by decide : 48 + 0 ≤ _)⟩)
    dsimp only [Pt.U, Pt.locs, Pt.cells, Pt.slots] at X15 l15 y15 z15 st15 hQ15
    subst l15 y15 z15
    clear X14 e14
    clear E_b14 F_b14_supports F_b14_tuples F_b14_variables
    obtain ⟨rfl, NQ15, K15, E_b14, F_b14_variables, F_b14_tuples, F_b14_supports⟩ := hQ15
    replace NF := Fr.app NF NQ15
    clear NQ15
    obtain ⟨lc15, Y15, NG15⟩ := own_lo X15 NF
    clear X15
    replace NF := NG15
    clear NG15
    replace OL := OL.keep K15 (allS g_b14 all0)
    clear g_b14
    replace E_b3 := E_b3.keep K15
    replace E_b6 := E_b6.keep K15
    replace F_b6_modCount := F_b6_modCount.keep K15 (ninS ne_b6_b14 nin0)
    replace F_b6_elementData := F_b6_elementData.keep K15 (ninS ne_b6_b14 nin0)
    replace F_b6_size := F_b6_size.keep K15 (ninS ne_b6_b14 nin0)
    clear ne_b6_b14
    replace V_nb8 := V_nb8.keep K15 (ninS ne_nb8_b14 nin0)
    clear ne_nb8_b14
    replace E_b9 := E_b9.keep K15
    replace V_b9 := V_b9.keep K15 (ninS ne_b9_b14 nin0)
    clear ne_b9_b14
    replace E_b11 := E_b11.keep K15
    replace F_b11_modCount := F_b11_modCount.keep K15 (ninS ne_b11_b14 nin0)
    replace F_b11_elementData := F_b11_elementData.keep K15 (ninS ne_b11_b14 nin0)
    replace F_b11_size := F_b11_size.keep K15 (ninS ne_b11_b14 nin0)
    clear ne_b11_b14
    replace V_nb13 := V_nb13.keep K15 (ninS ne_nb13_b14 nin0)
    clear ne_nb13_b14
    replace hKi := Nat.le_trans hKi K15.1
    replace Zs := Nat.le_trans Zs K15.1
    clear K15
    refine own_goW (T' := T15) (g' := (mkF m 126 #[.val (.int i0), .val (.int i1), .val (.int i2), .val (.int i3), .val (.int zz1), .val (.int hi), .val (.int vv), .val (.int (0 : Int32)), .val (.ref b3), .val (.ref b6), .val (.ref b9), .val (.ref b11), .unset, .unset, .unset, .unset, .unset, .unset] [(.ref b14)])) (fun _ k => st15.trans k) ?_
    clear st15
    refine own_goW (T' := T15) (g' := (mkF m 128 #[.val (.int i0), .val (.int i1), .val (.int i2), .val (.int i3), .val (.int zz1), .val (.int hi), .val (.int vv), .val (.int (0 : Int32)), .val (.ref b3), .val (.ref b6), .val (.ref b9), .val (.ref b11), .val (.ref b14), .unset, .unset, .unset, .unset, .unset] [])) (fun _ k => XS.astore Y15.here hx rfl (hb hby at_126) rfl rfl (l' := #[.val (.int i0), .val (.int i1), .val (.int i2), .val (.int i3), .val (.int zz1), .val (.int hi), .val (.int vv), .val (.int (0 : Int32)), .val (.ref b3), .val (.ref b6), .val (.ref b9), .val (.ref b11), .val (.ref b14), .unset, .unset, .unset, .unset, .unset]) rfl k) ?_
    refine own_goW (T' := T15) (g' := (mkF m 130 #[.val (.int i0), .val (.int i1), .val (.int i2), .val (.int i3), .val (.int zz1), .val (.int hi), .val (.int vv), .val (.int (0 : Int32)), .val (.ref b3), .val (.ref b6), .val (.ref b9), .val (.ref b11), .val (.ref b14), .unset, .unset, .unset, .unset, .unset] [(.ref b14)])) (fun _ k => XS.aload Y15.here hx rfl (hb hby at_128) rfl rfl k) ?_
    replace lt_b11 := E_b11.lt
    replace lt_b14 := E_b14.lt
    replace lt_b3 := E_b3.lt
    replace lt_b6 := E_b6.lt
    replace lt_b9 := E_b9.lt
    replace lt_nb13 := V_nb13.lt
    replace lt_nb8 := V_nb8.lt
    obtain ⟨cq16, kq16, q16a, q16b, q16c⟩ := isOf hZ rfl E_b14
    clear q16b
    obtain ⟨_, _, ⟨T16, L16, k16, n16⟩, -, X16, ⟨Lc16, hQ16, l16, y16, z16⟩, st16⟩ := Y15.virtualBack hx (y := (⟨"com/example/ordence/ordence/Formula$Table", "negate", "()Lcom/example/ordence/ordence/Formula;"⟩ : MethodName)) (z := (⟨"com/example/ordence/ordence/Formula$Table", "negate", "()Lcom/example/ordence/ordence/Formula;"⟩ : MethodName)) hown (mvT hZ (hw _ (List.mem_of_getElem? (i := 132) rfl))) (mvT hZ (hw _ (List.mem_of_getElem? (i := 133) rfl))) (notFace_of_selects (args := #[]) (mvT hZ (hw _ (List.mem_of_getElem? (i := 135) rfl)))) (mvT hZ (hw _ (List.mem_of_getElem? (i := 135) rfl))) (mvT hZ (hw _ (List.mem_of_getElem? (i := 134) rfl))) (by decide) (backOf (W := 0) (own_rm17_0 l Z a0 hw [] b14 b6 b11 T15.heap n0 Zs F_b14_variables F_b14_tuples F_b14_supports) hZ (hw _ (List.mem_of_getElem? (i := 136) rfl)) (hw _ (List.mem_of_getElem? (i := 116) rfl)) (by decide) (by decide)) q16a q16c (g := (mkF m 130 #[.val (.int i0), .val (.int i1), .val (.int i2), .val (.int i3), .val (.int zz1), .val (.int hi), .val (.int vv), .val (.int (0 : Int32)), .val (.ref b3), .val (.ref b6), .val (.ref b9), .val (.ref b11), .val (.ref b14), .unset, .unset, .unset, .unset, .unset] [(.ref b14)])) rfl (by rw [hml]; rfl) (Steps.refl _) (argsL := []) (rest := []) (lenOf own_pd0_5 rfl) rfl (by show 2 * 0 + _ ≤ _; exact Nat.le_of_eq rfl) (hb hby at_130) (fun _ _ => ⟨rfl, rfl, (by decide : 13 + 1 ≤ _), (by decide : 48 + 3 ≤ _)⟩)
    dsimp only [Pt.U, Pt.locs, Pt.cells, Pt.slots] at X16 l16 y16 z16 st16 hQ16
    subst l16 y16 z16
    clear Y15 q16a q16c
    obtain ⟨NQ16, K16, tn16, rfl, ge_tn16, g_tn16, E_tn16, F_tn16_variables, F_tn16_tuples, F_tn16_supports⟩ := hQ16
    clear g_tn16
    replace NF := Fr.app NF NQ16
    clear NQ16
    obtain ⟨lc16, Y16, NG16⟩ := own_lo X16 NF
    clear X16
    replace NF := NG16
    clear NG16
    replace OL := OL.keep K16 all0
    replace E_b3 := E_b3.keep K16
    replace E_b6 := E_b6.keep K16
    replace F_b6_modCount := F_b6_modCount.keep K16 nin0
    replace F_b6_elementData := F_b6_elementData.keep K16 nin0
    replace F_b6_size := F_b6_size.keep K16 nin0
    replace V_nb8 := V_nb8.keep K16 nin0
    replace E_b9 := E_b9.keep K16
    replace V_b9 := V_b9.keep K16 nin0
    replace E_b11 := E_b11.keep K16
    replace F_b11_modCount := F_b11_modCount.keep K16 nin0
    replace F_b11_elementData := F_b11_elementData.keep K16 nin0
    replace F_b11_size := F_b11_size.keep K16 nin0
    replace V_nb13 := V_nb13.keep K16 nin0
    replace E_b14 := E_b14.keep K16
    replace F_b14_variables := F_b14_variables.keep K16 nin0
    replace F_b14_tuples := F_b14_tuples.keep K16 nin0
    replace F_b14_supports := F_b14_supports.keep K16 nin0
    replace hKi := Nat.le_trans hKi K16.1
    replace Zs := Nat.le_trans Zs K16.1
    clear K16
    replace ne_b11_tn16 : b11 ≠ tn16 := Nat.ne_of_lt (Nat.lt_of_lt_of_le lt_b11 ge_tn16)
    clear ne_b11_tn16
    replace ne_b14_tn16 : b14 ≠ tn16 := Nat.ne_of_lt (Nat.lt_of_lt_of_le lt_b14 ge_tn16)
    clear ne_b14_tn16
    replace ne_b3_tn16 : b3 ≠ tn16 := Nat.ne_of_lt (Nat.lt_of_lt_of_le lt_b3 ge_tn16)
    clear ne_b3_tn16
    replace ne_b6_tn16 : b6 ≠ tn16 := Nat.ne_of_lt (Nat.lt_of_lt_of_le lt_b6 ge_tn16)
    clear ne_b6_tn16
    replace ne_b9_tn16 : b9 ≠ tn16 := Nat.ne_of_lt (Nat.lt_of_lt_of_le lt_b9 ge_tn16)
    clear ne_b9_tn16
    replace ne_nb13_tn16 : nb13 ≠ tn16 := Nat.ne_of_lt (Nat.lt_of_lt_of_le lt_nb13 ge_tn16)
    clear ne_nb13_tn16
    replace ne_nb8_tn16 : nb8 ≠ tn16 := Nat.ne_of_lt (Nat.lt_of_lt_of_le lt_nb8 ge_tn16)
    clear ge_tn16 ne_nb8_tn16
    refine own_goW (T' := T16) (g' := (mkF m 133 #[.val (.int i0), .val (.int i1), .val (.int i2), .val (.int i3), .val (.int zz1), .val (.int hi), .val (.int vv), .val (.int (0 : Int32)), .val (.ref b3), .val (.ref b6), .val (.ref b9), .val (.ref b11), .val (.ref b14), .unset, .unset, .unset, .unset, .unset] [(.ref tn16)])) (fun _ k => st16.trans k) ?_
    clear st16
    refine own_goW (T' := T16) (g' := (mkF m 135 #[.val (.int i0), .val (.int i1), .val (.int i2), .val (.int i3), .val (.int zz1), .val (.int hi), .val (.int vv), .val (.int (0 : Int32)), .val (.ref b3), .val (.ref b6), .val (.ref b9), .val (.ref b11), .val (.ref b14), .val (.ref tn16), .unset, .unset, .unset, .unset] [])) (fun _ k => XS.astore Y16.here hx rfl (hb hby at_133) rfl rfl (l' := #[.val (.int i0), .val (.int i1), .val (.int i2), .val (.int i3), .val (.int zz1), .val (.int hi), .val (.int vv), .val (.int (0 : Int32)), .val (.ref b3), .val (.ref b6), .val (.ref b9), .val (.ref b11), .val (.ref b14), .val (.ref tn16), .unset, .unset, .unset, .unset]) rfl k) ?_
    refine own_goW (T' := T16) (g' := (mkF m 137 #[.val (.int i0), .val (.int i1), .val (.int i2), .val (.int i3), .val (.int zz1), .val (.int hi), .val (.int vv), .val (.int (0 : Int32)), .val (.ref b3), .val (.ref b6), .val (.ref b9), .val (.ref b11), .val (.ref b14), .val (.ref tn16), .unset, .unset, .unset, .unset] [(.ref tn16)])) (fun _ k => XS.aload Y16.here hx rfl (hb hby at_135) rfl rfl k) ?_
    obtain ⟨T17, X17, e17, st17⟩ := instY Y16 hx hZ hown (hw _ (List.mem_of_getElem? (i := 114) rfl)) rfl (Ins.self E_tn16) (g := (mkF m 137 #[.val (.int i0), .val (.int i1), .val (.int i2), .val (.int i3), .val (.int zz1), .val (.int hi), .val (.int vv), .val (.int (0 : Int32)), .val (.ref b3), .val (.ref b6), .val (.ref b9), .val (.ref b11), .val (.ref b14), .val (.ref tn16), .unset, .unset, .unset, .unset] [(.ref tn16)])) rfl rfl (hb hby at_137)
    clear Y16
    refine own_goW (T' := T17) (g' := (mkF m 140 #[.val (.int i0), .val (.int i1), .val (.int i2), .val (.int i3), .val (.int zz1), .val (.int hi), .val (.int vv), .val (.int (0 : Int32)), .val (.ref b3), .val (.ref b6), .val (.ref b9), .val (.ref b11), .val (.ref b14), .val (.ref tn16), .unset, .unset, .unset, .unset] [(.int (1 : Int32))])) (fun _ k => st17 _ k) ?_
    clear st17
    refine own_goW (T' := T17) (g' := (mkF m 145 #[.val (.int i0), .val (.int i1), .val (.int i2), .val (.int i3), .val (.int zz1), .val (.int hi), .val (.int vv), .val (.int (0 : Int32)), .val (.ref b3), .val (.ref b6), .val (.ref b9), .val (.ref b11), .val (.ref b14), .val (.ref tn16), .unset, .unset, .unset, .unset] [])) (fun _ k => XS.ifYes X17.here hx rfl (pc0 := 140) (pc' := 145) rfl (hb hby at_140) rfl (by decide) (by decide) (by decide) k) ?_
    refine own_goW (T' := T17) (g' := (mkF m 147 #[.val (.int i0), .val (.int i1), .val (.int i2), .val (.int i3), .val (.int zz1), .val (.int hi), .val (.int vv), .val (.int (0 : Int32)), .val (.ref b3), .val (.ref b6), .val (.ref b9), .val (.ref b11), .val (.ref b14), .val (.ref tn16), .unset, .unset, .unset, .unset] [(.ref tn16)])) (fun _ k => XS.aload X17.here hx rfl (hb hby at_145) rfl rfl k) ?_
    obtain ⟨T18, X18, e18, st18⟩ := castY X17 hx hZ hown (hw _ (List.mem_of_getElem? (i := 114) rfl)) e17 (Ins.self E_tn16) (g := (mkF m 147 #[.val (.int i0), .val (.int i1), .val (.int i2), .val (.int i3), .val (.int zz1), .val (.int hi), .val (.int vv), .val (.int (0 : Int32)), .val (.ref b3), .val (.ref b6), .val (.ref b9), .val (.ref b11), .val (.ref b14), .val (.ref tn16), .unset, .unset, .unset, .unset] [(.ref tn16)])) rfl rfl (hb hby at_147)
    clear X17 e17
    refine own_goW (T' := T18) (g' := (mkF m 150 #[.val (.int i0), .val (.int i1), .val (.int i2), .val (.int i3), .val (.int zz1), .val (.int hi), .val (.int vv), .val (.int (0 : Int32)), .val (.ref b3), .val (.ref b6), .val (.ref b9), .val (.ref b11), .val (.ref b14), .val (.ref tn16), .unset, .unset, .unset, .unset] [(.ref tn16)])) (fun _ k => st18 _ k) ?_
    clear st18
    refine own_goW (T' := T18) (g' := (mkF m 152 #[.val (.int i0), .val (.int i1), .val (.int i2), .val (.int i3), .val (.int zz1), .val (.int hi), .val (.int vv), .val (.int (0 : Int32)), .val (.ref b3), .val (.ref b6), .val (.ref b9), .val (.ref b11), .val (.ref b14), .val (.ref tn16), .val (.ref tn16), .unset, .unset, .unset] [])) (fun _ k => XS.astore X18.here hx rfl (hb hby at_150) rfl rfl (l' := #[.val (.int i0), .val (.int i1), .val (.int i2), .val (.int i3), .val (.int zz1), .val (.int hi), .val (.int vv), .val (.int (0 : Int32)), .val (.ref b3), .val (.ref b6), .val (.ref b9), .val (.ref b11), .val (.ref b14), .val (.ref tn16), .val (.ref tn16), .unset, .unset, .unset]) rfl k) ?_
    refine own_goW (T' := T18) (g' := (mkF m 154 #[.val (.int i0), .val (.int i1), .val (.int i2), .val (.int i3), .val (.int zz1), .val (.int hi), .val (.int vv), .val (.int (0 : Int32)), .val (.ref b3), .val (.ref b6), .val (.ref b9), .val (.ref b11), .val (.ref b14), .val (.ref tn16), .val (.ref tn16), .unset, .unset, .unset] [(.ref tn16)])) (fun _ k => XS.aload X18.here hx rfl (hb hby at_152) rfl rfl k) ?_
    obtain ⟨cq19, kq19, q19a, q19b, q19c⟩ := isOf hZ e18 E_tn16
    clear q19b
    obtain ⟨_, _, ⟨T19, L19, k19, n19⟩, -, X19, ⟨Lc19, hQ19, l19, y19, z19⟩, st19⟩ := X18.virtualBack hx (y := (⟨"com/example/ordence/ordence/Formula$Table", "supports", "()Z"⟩ : MethodName)) (z := (⟨"com/example/ordence/ordence/Formula$Table", "supports", "()Z"⟩ : MethodName)) hown (mvT hZ (hw _ (List.mem_of_getElem? (i := 140) rfl))) (mvT hZ (hw _ (List.mem_of_getElem? (i := 141) rfl))) (notFace_of_selects (args := #[]) (mvT hZ (hw _ (List.mem_of_getElem? (i := 143) rfl)))) (mvT hZ (hw _ (List.mem_of_getElem? (i := 143) rfl))) (mvT hZ (hw _ (List.mem_of_getElem? (i := 142) rfl))) (by decide) (backOf (W := 0) (own_rm18_1 l Z a0 hw [] tn16 b6 b11 T16.heap n0 Zs F_tn16_variables F_tn16_tuples F_tn16_supports) hZ (hw _ (List.mem_of_getElem? (i := 144) rfl)) (hw _ (List.mem_of_getElem? (i := 116) rfl)) (by decide) (by decide)) q19a q19c (g := (mkF m 154 #[.val (.int i0), .val (.int i1), .val (.int i2), .val (.int i3), .val (.int zz1), .val (.int hi), .val (.int vv), .val (.int (0 : Int32)), .val (.ref b3), .val (.ref b6), .val (.ref b9), .val (.ref b11), .val (.ref b14), .val (.ref tn16), .val (.ref tn16), .unset, .unset, .unset] [(.ref tn16)])) rfl (by rw [hml]; rfl) (Steps.refl _) (argsL := []) (rest := []) (lenOf own_pd0_6 rfl) rfl (by show 2 * 0 + _ ≤ _; exact Nat.le_of_eq rfl) (hb hby at_154) (fun _ _ => ⟨rfl, e18, (by decide : 14 + 0 ≤ _), (by decide : 51 + 0 ≤ _)⟩)
    dsimp only [Pt.U, Pt.locs, Pt.cells, Pt.slots] at X19 l19 y19 z19 st19 hQ19
    subst l19 y19 z19
    clear X18 e18 q19a q19c
    obtain ⟨rfl, NQ19, eq19⟩ := hQ19
    replace NF := Fr.app NF NQ19
    clear NQ19
    obtain ⟨lc19, Y19, NG19⟩ := own_lo X19 NF
    clear X19
    replace NF := NG19
    clear NG19
    refine own_goW (T' := T19) (g' := (mkF m 157 #[.val (.int i0), .val (.int i1), .val (.int i2), .val (.int i3), .val (.int zz1), .val (.int hi), .val (.int vv), .val (.int (0 : Int32)), .val (.ref b3), .val (.ref b6), .val (.ref b9), .val (.ref b11), .val (.ref b14), .val (.ref tn16), .val (.ref tn16), .unset, .unset, .unset] [(.int (1 : Int32))])) (fun _ k => st19.trans k) ?_
    clear st19
    refine own_goW (T' := T19) (g' := (mkF m 159 #[.val (.int i0), .val (.int i1), .val (.int i2), .val (.int i3), .val (.int zz1), .val (.int hi), .val (.int vv), .val (.int (0 : Int32)), .val (.ref b3), .val (.ref b6), .val (.ref b9), .val (.ref b11), .val (.ref b14), .val (.ref tn16), .val (.ref tn16), .unset, .unset, .unset] [(.int (0 : Int32)), (.int (1 : Int32))])) (fun _ k => XS.iload Y19.here hx rfl (hb hby at_157) rfl k) ?_
    refine own_goW (T' := T19) (g' := (mkF m 162 #[.val (.int i0), .val (.int i1), .val (.int i2), .val (.int i3), .val (.int zz1), .val (.int hi), .val (.int vv), .val (.int (0 : Int32)), .val (.ref b3), .val (.ref b6), .val (.ref b9), .val (.ref b11), .val (.ref b14), .val (.ref tn16), .val (.ref tn16), .unset, .unset, .unset] [(.int (1 : Int32))])) (fun _ k => XS.ifNo Y19.here hx rfl (hb hby at_159) rfl (by decide) k) ?_
    refine own_goW (T' := T19) (g' := (mkF m 163 #[.val (.int i0), .val (.int i1), .val (.int i2), .val (.int i3), .val (.int zz1), .val (.int hi), .val (.int vv), .val (.int (0 : Int32)), .val (.ref b3), .val (.ref b6), .val (.ref b9), .val (.ref b11), .val (.ref b14), .val (.ref tn16), .val (.ref tn16), .unset, .unset, .unset] [(.int (1 : Int32)), (.int (1 : Int32))])) (fun _ k => XS.iconst Y19.here hx rfl (hb hby at_162) k) ?_
    refine own_goW (T' := T19) (g' := (mkF m 167 #[.val (.int i0), .val (.int i1), .val (.int i2), .val (.int i3), .val (.int zz1), .val (.int hi), .val (.int vv), .val (.int (0 : Int32)), .val (.ref b3), .val (.ref b6), .val (.ref b9), .val (.ref b11), .val (.ref b14), .val (.ref tn16), .val (.ref tn16), .unset, .unset, .unset] [(.int (1 : Int32)), (.int (1 : Int32))])) (fun _ k => XS.goto Y19.here hx rfl (pc0 := 163) (pc' := 167) rfl (hb hby at_163) (by decide) (by decide) k) ?_
    refine own_goW (T' := T19) (g' := (mkF m 170 #[.val (.int i0), .val (.int i1), .val (.int i2), .val (.int i3), .val (.int zz1), .val (.int hi), .val (.int vv), .val (.int (0 : Int32)), .val (.ref b3), .val (.ref b6), .val (.ref b9), .val (.ref b11), .val (.ref b14), .val (.ref tn16), .val (.ref tn16), .unset, .unset, .unset] [])) (fun _ k => XS.icmpNo Y19.here hx rfl (hb hby at_167) rfl (by decide) k) ?_
    refine own_goW (T' := T19) (g' := (mkF m 172 #[.val (.int i0), .val (.int i1), .val (.int i2), .val (.int i3), .val (.int zz1), .val (.int hi), .val (.int vv), .val (.int (0 : Int32)), .val (.ref b3), .val (.ref b6), .val (.ref b9), .val (.ref b11), .val (.ref b14), .val (.ref tn16), .val (.ref tn16), .unset, .unset, .unset] [(.ref tn16)])) (fun _ k => XS.aload Y19.here hx rfl (hb hby at_170) rfl rfl k) ?_
    obtain ⟨cq20, kq20, q20a, q20b, q20c⟩ := isOf hZ eq19 E_tn16
    clear q20b
    obtain ⟨_, _, ⟨T20, L20, k20, n20⟩, -, X20, ⟨Lc20, hQ20, l20, y20, z20⟩, st20⟩ := Y19.virtualBack hx (y := (⟨"com/example/ordence/ordence/Formula$Table", "variables", "()Ljava/util/List;"⟩ : MethodName)) (z := (⟨"com/example/ordence/ordence/Formula$Table", "variables", "()Ljava/util/List;"⟩ : MethodName)) hown (mvT hZ (hw _ (List.mem_of_getElem? (i := 145) rfl))) (mvT hZ (hw _ (List.mem_of_getElem? (i := 146) rfl))) (notFace_of_selects (args := #[]) (mvT hZ (hw _ (List.mem_of_getElem? (i := 148) rfl)))) (mvT hZ (hw _ (List.mem_of_getElem? (i := 148) rfl))) (mvT hZ (hw _ (List.mem_of_getElem? (i := 147) rfl))) (by decide) (backOf (W := 0) (own_rm20 l Z a0 hw [] tn16 b6 T16.heap n0 Zs F_tn16_variables) hZ (hw _ (List.mem_of_getElem? (i := 149) rfl)) (hw _ (List.mem_of_getElem? (i := 116) rfl)) (by decide) (by decide)) q20a q20c (g := (mkF m 172 #[.val (.int i0), .val (.int i1), .val (.int i2), .val (.int i3), .val (.int zz1), .val (.int hi), .val (.int vv), .val (.int (0 : Int32)), .val (.ref b3), .val (.ref b6), .val (.ref b9), .val (.ref b11), .val (.ref b14), .val (.ref tn16), .val (.ref tn16), .unset, .unset, .unset] [(.ref tn16)])) rfl (by rw [hml]; rfl) (Steps.refl _) (argsL := []) (rest := []) (lenOf own_pd0_7 rfl) rfl (by show 2 * 0 + _ ≤ _; exact Nat.le_of_eq rfl) (hb hby at_172) (fun _ _ => ⟨rfl, eq19, (by decide : 14 + 0 ≤ _), (by decide : 51 + 0 ≤ _)⟩)
    dsimp only [Pt.U, Pt.locs, Pt.cells, Pt.slots] at X20 l20 y20 z20 st20 hQ20
    subst l20 y20 z20
    clear Y19 eq19 q20a q20c
    obtain ⟨rfl, NQ20, eq20⟩ := hQ20
    replace NF := Fr.app NF NQ20
    clear NQ20
    obtain ⟨lc20, Y20, NG20⟩ := own_lo X20 NF
    clear X20
    replace NF := NG20
    clear NG20
    refine own_goW (T' := T20) (g' := (mkF m 175 #[.val (.int i0), .val (.int i1), .val (.int i2), .val (.int i3), .val (.int zz1), .val (.int hi), .val (.int vv), .val (.int (0 : Int32)), .val (.ref b3), .val (.ref b6), .val (.ref b9), .val (.ref b11), .val (.ref b14), .val (.ref tn16), .val (.ref tn16), .unset, .unset, .unset] [(.ref b6)])) (fun _ k => st20.trans k) ?_
    clear st20
    obtain ⟨cq21, kq21, q21a, q21b, q21c⟩ := isOf hZ eq20 E_b6
    obtain ⟨_, _, ⟨T21, L21, k21, n21⟩, -, X21, ⟨Lc21, hQ21, l21, y21, z21⟩, st21⟩ := Y20.interfaceBack hx (xi := (⟨"java/util/List", "size", "()I"⟩ : MethodName)) (y := (⟨"java/util/ArrayList", "size", "()I"⟩ : MethodName)) hown (mvT hZ (hw _ (List.mem_of_getElem? (i := 150) rfl))) (mvT hZ (hw _ (List.mem_of_getElem? (i := 151) rfl))) (mvT hZ (hw _ (List.mem_of_getElem? (i := 152) rfl))) (mvT hZ (hw _ (List.mem_of_getElem? (i := 153) rfl))) (mvT hZ (hw _ (List.mem_of_getElem? (i := 154) rfl))) (mvT hZ (hw _ (List.mem_of_getElem? (i := 155) rfl))) (mvT hZ (hw _ (List.mem_of_getElem? (i := 156) rfl))) (mvT hZ (hw _ (List.mem_of_getElem? (i := 86) rfl))) (by decide) (backOf (W := 0) (own_rm21 l Z a0 hw [] b6 (1 : Int32) T16.heap n0 Zs F_b6_size) hZ (hw _ (List.mem_of_getElem? (i := 157) rfl)) (hw _ (List.mem_of_getElem? (i := 57) rfl)) (by decide) (by decide)) q21a q21b q21c (g := (mkF m 175 #[.val (.int i0), .val (.int i1), .val (.int i2), .val (.int i3), .val (.int zz1), .val (.int hi), .val (.int vv), .val (.int (0 : Int32)), .val (.ref b3), .val (.ref b6), .val (.ref b9), .val (.ref b11), .val (.ref b14), .val (.ref tn16), .val (.ref tn16), .unset, .unset, .unset] [(.ref b6)])) rfl (by rw [hml]; rfl) (Steps.refl _) (argsL := []) (rest := []) (lenOf own_pd0_8 rfl) rfl (by show 2 * 0 + _ ≤ _; exact Nat.le_of_eq rfl) (hb hby at_175) (fun _ _ => ⟨rfl, eq20, (by decide : 14 + 0 ≤ _), (by decide : 51 + 0 ≤ _)⟩)
    dsimp only [Pt.U, Pt.locs, Pt.cells, Pt.slots] at X21 l21 y21 z21 st21 hQ21
    subst l21 y21 z21
    clear Y20 eq20 q21a q21b q21c
    obtain ⟨rfl, NQ21, eq21⟩ := hQ21
    replace NF := Fr.app NF NQ21
    clear NQ21
    obtain ⟨lc21, Y21, NG21⟩ := own_lo X21 NF
    clear X21
    replace NF := NG21
    clear NG21
    refine own_goW (T' := T21) (g' := (mkF m 180 #[.val (.int i0), .val (.int i1), .val (.int i2), .val (.int i3), .val (.int zz1), .val (.int hi), .val (.int vv), .val (.int (0 : Int32)), .val (.ref b3), .val (.ref b6), .val (.ref b9), .val (.ref b11), .val (.ref b14), .val (.ref tn16), .val (.ref tn16), .unset, .unset, .unset] [(.int (1 : Int32))])) (fun _ k => st21.trans k) ?_
    clear st21
    refine own_goW (T' := T21) (g' := (mkF m 181 #[.val (.int i0), .val (.int i1), .val (.int i2), .val (.int i3), .val (.int zz1), .val (.int hi), .val (.int vv), .val (.int (0 : Int32)), .val (.ref b3), .val (.ref b6), .val (.ref b9), .val (.ref b11), .val (.ref b14), .val (.ref tn16), .val (.ref tn16), .unset, .unset, .unset] [(.int (1 : Int32)), (.int (1 : Int32))])) (fun _ k => XS.iconst Y21.here hx rfl (hb hby at_180) k) ?_
    refine own_goW (T' := T21) (g' := (mkF m 184 #[.val (.int i0), .val (.int i1), .val (.int i2), .val (.int i3), .val (.int zz1), .val (.int hi), .val (.int vv), .val (.int (0 : Int32)), .val (.ref b3), .val (.ref b6), .val (.ref b9), .val (.ref b11), .val (.ref b14), .val (.ref tn16), .val (.ref tn16), .unset, .unset, .unset] [])) (fun _ k => XS.icmpNo Y21.here hx rfl (hb hby at_181) rfl (by decide) k) ?_
    refine own_goW (T' := T21) (g' := (mkF m 186 #[.val (.int i0), .val (.int i1), .val (.int i2), .val (.int i3), .val (.int zz1), .val (.int hi), .val (.int vv), .val (.int (0 : Int32)), .val (.ref b3), .val (.ref b6), .val (.ref b9), .val (.ref b11), .val (.ref b14), .val (.ref tn16), .val (.ref tn16), .unset, .unset, .unset] [(.ref tn16)])) (fun _ k => XS.aload Y21.here hx rfl (hb hby at_184) rfl rfl k) ?_
    obtain ⟨cq22, kq22, q22a, q22b, q22c⟩ := isOf hZ eq21 E_tn16
    clear q22b
    obtain ⟨_, _, ⟨T22, L22, k22, n22⟩, -, X22, ⟨Lc22, hQ22, l22, y22, z22⟩, st22⟩ := Y21.virtualBack hx (y := (⟨"com/example/ordence/ordence/Formula$Table", "variables", "()Ljava/util/List;"⟩ : MethodName)) (z := (⟨"com/example/ordence/ordence/Formula$Table", "variables", "()Ljava/util/List;"⟩ : MethodName)) hown (mvT hZ (hw _ (List.mem_of_getElem? (i := 145) rfl))) (mvT hZ (hw _ (List.mem_of_getElem? (i := 146) rfl))) (notFace_of_selects (args := #[]) (mvT hZ (hw _ (List.mem_of_getElem? (i := 148) rfl)))) (mvT hZ (hw _ (List.mem_of_getElem? (i := 148) rfl))) (mvT hZ (hw _ (List.mem_of_getElem? (i := 147) rfl))) (by decide) (backOf (W := 0) (own_rm20 l Z a0 hw [] tn16 b6 T16.heap n0 Zs F_tn16_variables) hZ (hw _ (List.mem_of_getElem? (i := 149) rfl)) (hw _ (List.mem_of_getElem? (i := 116) rfl)) (by decide) (by decide)) q22a q22c (g := (mkF m 186 #[.val (.int i0), .val (.int i1), .val (.int i2), .val (.int i3), .val (.int zz1), .val (.int hi), .val (.int vv), .val (.int (0 : Int32)), .val (.ref b3), .val (.ref b6), .val (.ref b9), .val (.ref b11), .val (.ref b14), .val (.ref tn16), .val (.ref tn16), .unset, .unset, .unset] [(.ref tn16)])) rfl (by rw [hml]; rfl) (Steps.refl _) (argsL := []) (rest := []) (lenOf own_pd0_7 rfl) rfl (by show 2 * 0 + _ ≤ _; exact Nat.le_of_eq rfl) (hb hby at_186) (fun _ _ => ⟨rfl, eq21, (by decide : 14 + 0 ≤ _), (by decide : 51 + 0 ≤ _)⟩)
    dsimp only [Pt.U, Pt.locs, Pt.cells, Pt.slots] at X22 l22 y22 z22 st22 hQ22
    subst l22 y22 z22
    clear Y21 eq21 q22a q22c
    obtain ⟨rfl, NQ22, eq22⟩ := hQ22
    replace NF := Fr.app NF NQ22
    clear NQ22
    obtain ⟨lc22, Y22, NG22⟩ := own_lo X22 NF
    clear X22
    replace NF := NG22
    clear NG22
    refine own_goW (T' := T22) (g' := (mkF m 189 #[.val (.int i0), .val (.int i1), .val (.int i2), .val (.int i3), .val (.int zz1), .val (.int hi), .val (.int vv), .val (.int (0 : Int32)), .val (.ref b3), .val (.ref b6), .val (.ref b9), .val (.ref b11), .val (.ref b14), .val (.ref tn16), .val (.ref tn16), .unset, .unset, .unset] [(.ref b6)])) (fun _ k => st22.trans k) ?_
    clear st22
    refine own_goW (T' := T22) (g' := (mkF m 190 #[.val (.int i0), .val (.int i1), .val (.int i2), .val (.int i3), .val (.int zz1), .val (.int hi), .val (.int vv), .val (.int (0 : Int32)), .val (.ref b3), .val (.ref b6), .val (.ref b9), .val (.ref b11), .val (.ref b14), .val (.ref tn16), .val (.ref tn16), .unset, .unset, .unset] [(.int (0 : Int32)), (.ref b6)])) (fun _ k => XS.iconst Y22.here hx rfl (hb hby at_189) k) ?_
    obtain ⟨cq23, kq23, q23a, q23b, q23c⟩ := isOf hZ eq22 E_b6
    obtain ⟨_, _, ⟨T23, L23, k23, n23⟩, -, X23, ⟨Lc23, hQ23, l23, y23, z23⟩, st23⟩ := Y22.interfaceBack hx (xi := (⟨"java/util/List", "get", "(I)Ljava/lang/Object;"⟩ : MethodName)) (y := (⟨"java/util/ArrayList", "get", "(I)Ljava/lang/Object;"⟩ : MethodName)) hown (mvT hZ (hw _ (List.mem_of_getElem? (i := 158) rfl))) (mvT hZ (hw _ (List.mem_of_getElem? (i := 159) rfl))) (mvT hZ (hw _ (List.mem_of_getElem? (i := 160) rfl))) (mvT hZ (hw _ (List.mem_of_getElem? (i := 161) rfl))) (mvT hZ (hw _ (List.mem_of_getElem? (i := 162) rfl))) (mvT hZ (hw _ (List.mem_of_getElem? (i := 163) rfl))) (mvT hZ (hw _ (List.mem_of_getElem? (i := 164) rfl))) (mvT hZ (hw _ (List.mem_of_getElem? (i := 86) rfl))) (by decide) (backOf (W := 0) (own_rm22 l Z a0 hw [] b6 nb8 knb8 b3 T16.heap n0 Zs F_b6_elementData V_nb8 F_b6_size E_b6) hZ (hw _ (List.mem_of_getElem? (i := 165) rfl)) (hw _ (List.mem_of_getElem? (i := 57) rfl)) (by decide) (by decide)) q23a q23b q23c (g := (mkF m 190 #[.val (.int i0), .val (.int i1), .val (.int i2), .val (.int i3), .val (.int zz1), .val (.int hi), .val (.int vv), .val (.int (0 : Int32)), .val (.ref b3), .val (.ref b6), .val (.ref b9), .val (.ref b11), .val (.ref b14), .val (.ref tn16), .val (.ref tn16), .unset, .unset, .unset] [(.int (0 : Int32)), (.ref b6)])) rfl (by rw [hml]; rfl) (Steps.refl _) (argsL := [(.int (0 : Int32))]) (rest := []) (lenOf own_pd0_9 rfl) rfl (by show 2 * 0 + _ ≤ _; exact Nat.le_of_eq rfl) (hb hby at_190) (fun _ _ => ⟨rfl, eq22, (by decide : 14 + 0 ≤ _), (by decide : 51 + 0 ≤ _)⟩)
    dsimp only [Pt.U, Pt.locs, Pt.cells, Pt.slots] at X23 l23 y23 z23 st23 hQ23
    subst l23 y23 z23
    clear Y22 eq22 q23a q23b q23c
    obtain ⟨rfl, NQ23, eq23⟩ := hQ23
    replace NF := Fr.app NF NQ23
    clear NQ23
    obtain ⟨lc23, Y23, NG23⟩ := own_lo X23 NF
    clear X23
    replace NF := NG23
    clear NG23
    refine own_goW (T' := T23) (g' := (mkF m 195 #[.val (.int i0), .val (.int i1), .val (.int i2), .val (.int i3), .val (.int zz1), .val (.int hi), .val (.int vv), .val (.int (0 : Int32)), .val (.ref b3), .val (.ref b6), .val (.ref b9), .val (.ref b11), .val (.ref b14), .val (.ref tn16), .val (.ref tn16), .unset, .unset, .unset] [(.ref b3)])) (fun _ k => st23.trans k) ?_
    clear st23
    refine own_goW (T' := T23) (g' := (mkF m 197 #[.val (.int i0), .val (.int i1), .val (.int i2), .val (.int i3), .val (.int zz1), .val (.int hi), .val (.int vv), .val (.int (0 : Int32)), .val (.ref b3), .val (.ref b6), .val (.ref b9), .val (.ref b11), .val (.ref b14), .val (.ref tn16), .val (.ref tn16), .unset, .unset, .unset] [(.ref b3), (.ref b3)])) (fun _ k => XS.aload Y23.here hx rfl (hb hby at_195) rfl rfl k) ?_
    refine own_goW (T' := T23) (g' := (mkF m 200 #[.val (.int i0), .val (.int i1), .val (.int i2), .val (.int i3), .val (.int zz1), .val (.int hi), .val (.int vv), .val (.int (0 : Int32)), .val (.ref b3), .val (.ref b6), .val (.ref b9), .val (.ref b11), .val (.ref b14), .val (.ref tn16), .val (.ref tn16), .unset, .unset, .unset] [])) (fun _ k => Jvm.RoadKit.acmp (g := (mkF m 197 #[.val (.int i0), .val (.int i1), .val (.int i2), .val (.int i3), .val (.int zz1), .val (.int hi), .val (.int vv), .val (.int (0 : Int32)), .val (.ref b3), .val (.ref b6), .val (.ref b9), .val (.ref b11), .val (.ref b14), .val (.ref tn16), .val (.ref tn16), .unset, .unset, .unset] [(.ref b3), (.ref b3)])) Y23 hx rfl rfl rfl (pc0 := 197) (pc' := 200) (same := true) rfl (hb hby at_197) rfl (decide_eq_true rfl) (by decide) (by decide) k) ?_
    refine own_goW (T' := T23) (g' := (mkF m 202 #[.val (.int i0), .val (.int i1), .val (.int i2), .val (.int i3), .val (.int zz1), .val (.int hi), .val (.int vv), .val (.int (0 : Int32)), .val (.ref b3), .val (.ref b6), .val (.ref b9), .val (.ref b11), .val (.ref b14), .val (.ref tn16), .val (.ref tn16), .unset, .unset, .unset] [(.ref tn16)])) (fun _ k => XS.aload Y23.here hx rfl (hb hby at_200) rfl rfl k) ?_
    obtain ⟨cq25, kq25, q25a, q25b, q25c⟩ := isOf hZ eq23 E_tn16
    clear q25b
    obtain ⟨_, _, ⟨T25, L25, k25, n25⟩, -, X25, ⟨Lc25, hQ25, l25, y25, z25⟩, st25⟩ := Y23.virtualBack hx (y := (⟨"com/example/ordence/ordence/Formula$Table", "tuples", "()Ljava/util/List;"⟩ : MethodName)) (z := (⟨"com/example/ordence/ordence/Formula$Table", "tuples", "()Ljava/util/List;"⟩ : MethodName)) hown (mvT hZ (hw _ (List.mem_of_getElem? (i := 179) rfl))) (mvT hZ (hw _ (List.mem_of_getElem? (i := 180) rfl))) (notFace_of_selects (args := #[]) (mvT hZ (hw _ (List.mem_of_getElem? (i := 182) rfl)))) (mvT hZ (hw _ (List.mem_of_getElem? (i := 182) rfl))) (mvT hZ (hw _ (List.mem_of_getElem? (i := 181) rfl))) (by decide) (backOf (W := 0) (own_rm26 l Z a0 hw [] tn16 b11 T16.heap n0 Zs F_tn16_tuples) hZ (hw _ (List.mem_of_getElem? (i := 183) rfl)) (hw _ (List.mem_of_getElem? (i := 116) rfl)) (by decide) (by decide)) q25a q25c (g := (mkF m 202 #[.val (.int i0), .val (.int i1), .val (.int i2), .val (.int i3), .val (.int zz1), .val (.int hi), .val (.int vv), .val (.int (0 : Int32)), .val (.ref b3), .val (.ref b6), .val (.ref b9), .val (.ref b11), .val (.ref b14), .val (.ref tn16), .val (.ref tn16), .unset, .unset, .unset] [(.ref tn16)])) rfl (by rw [hml]; rfl) (Steps.refl _) (argsL := []) (rest := []) (lenOf own_pd0_7 rfl) rfl (by show 2 * 0 + _ ≤ _; exact Nat.le_of_eq rfl) (hb hby at_202) (fun _ _ => ⟨rfl, eq23, (by decide : 14 + 0 ≤ _), (by decide : 51 + 0 ≤ _)⟩)
    dsimp only [Pt.U, Pt.locs, Pt.cells, Pt.slots] at X25 l25 y25 z25 st25 hQ25
    subst l25 y25 z25
    clear Y23 eq23 q25a q25c
    obtain ⟨rfl, NQ25, eq25⟩ := hQ25
    replace NF := Fr.app NF NQ25
    clear NQ25
    obtain ⟨lc25, Y25, NG25⟩ := own_lo X25 NF
    clear X25
    replace NF := NG25
    clear NG25
    refine own_goW (T' := T25) (g' := (mkF m 205 #[.val (.int i0), .val (.int i1), .val (.int i2), .val (.int i3), .val (.int zz1), .val (.int hi), .val (.int vv), .val (.int (0 : Int32)), .val (.ref b3), .val (.ref b6), .val (.ref b9), .val (.ref b11), .val (.ref b14), .val (.ref tn16), .val (.ref tn16), .unset, .unset, .unset] [(.ref b11)])) (fun _ k => st25.trans k) ?_
    clear st25
    obtain ⟨cq26, kq26, q26a, q26b, q26c⟩ := isOf hZ eq25 E_b11
    obtain ⟨_, _, ⟨T26, L26, k26, n26⟩, -, X26, ⟨Lc26, hQ26, l26, y26, z26⟩, st26⟩ := Y25.interfaceBack hx (xi := (⟨"java/util/List", "size", "()I"⟩ : MethodName)) (y := (⟨"java/util/ArrayList", "size", "()I"⟩ : MethodName)) hown (mvT hZ (hw _ (List.mem_of_getElem? (i := 150) rfl))) (mvT hZ (hw _ (List.mem_of_getElem? (i := 151) rfl))) (mvT hZ (hw _ (List.mem_of_getElem? (i := 152) rfl))) (mvT hZ (hw _ (List.mem_of_getElem? (i := 153) rfl))) (mvT hZ (hw _ (List.mem_of_getElem? (i := 154) rfl))) (mvT hZ (hw _ (List.mem_of_getElem? (i := 155) rfl))) (mvT hZ (hw _ (List.mem_of_getElem? (i := 156) rfl))) (mvT hZ (hw _ (List.mem_of_getElem? (i := 86) rfl))) (by decide) (backOf (W := 0) (own_rm21 l Z a0 hw [] b11 (1 : Int32) T16.heap n0 Zs F_b11_size) hZ (hw _ (List.mem_of_getElem? (i := 157) rfl)) (hw _ (List.mem_of_getElem? (i := 57) rfl)) (by decide) (by decide)) q26a q26b q26c (g := (mkF m 205 #[.val (.int i0), .val (.int i1), .val (.int i2), .val (.int i3), .val (.int zz1), .val (.int hi), .val (.int vv), .val (.int (0 : Int32)), .val (.ref b3), .val (.ref b6), .val (.ref b9), .val (.ref b11), .val (.ref b14), .val (.ref tn16), .val (.ref tn16), .unset, .unset, .unset] [(.ref b11)])) rfl (by rw [hml]; rfl) (Steps.refl _) (argsL := []) (rest := []) (lenOf own_pd0_8 rfl) rfl (by show 2 * 0 + _ ≤ _; exact Nat.le_of_eq rfl) (hb hby at_205) (fun _ _ => ⟨rfl, eq25, (by decide : 14 + 0 ≤ _), (by decide : 51 + 0 ≤ _)⟩)
    dsimp only [Pt.U, Pt.locs, Pt.cells, Pt.slots] at X26 l26 y26 z26 st26 hQ26
    subst l26 y26 z26
    clear Y25 eq25 q26a q26b q26c
    obtain ⟨rfl, NQ26, eq26⟩ := hQ26
    replace NF := Fr.app NF NQ26
    clear NQ26
    obtain ⟨lc26, Y26, NG26⟩ := own_lo X26 NF
    clear X26
    replace NF := NG26
    clear NG26
    refine own_goW (T' := T26) (g' := (mkF m 210 #[.val (.int i0), .val (.int i1), .val (.int i2), .val (.int i3), .val (.int zz1), .val (.int hi), .val (.int vv), .val (.int (0 : Int32)), .val (.ref b3), .val (.ref b6), .val (.ref b9), .val (.ref b11), .val (.ref b14), .val (.ref tn16), .val (.ref tn16), .unset, .unset, .unset] [(.int (1 : Int32))])) (fun _ k => st26.trans k) ?_
    clear st26
    refine own_goW (T' := T26) (g' := (mkF m 211 #[.val (.int i0), .val (.int i1), .val (.int i2), .val (.int i3), .val (.int zz1), .val (.int hi), .val (.int vv), .val (.int (0 : Int32)), .val (.ref b3), .val (.ref b6), .val (.ref b9), .val (.ref b11), .val (.ref b14), .val (.ref tn16), .val (.ref tn16), .unset, .unset, .unset] [(.int (1 : Int32)), (.int (1 : Int32))])) (fun _ k => XS.iconst Y26.here hx rfl (hb hby at_210) k) ?_
    refine own_goW (T' := T26) (g' := (mkF m 214 #[.val (.int i0), .val (.int i1), .val (.int i2), .val (.int i3), .val (.int zz1), .val (.int hi), .val (.int vv), .val (.int (0 : Int32)), .val (.ref b3), .val (.ref b6), .val (.ref b9), .val (.ref b11), .val (.ref b14), .val (.ref tn16), .val (.ref tn16), .unset, .unset, .unset] [])) (fun _ k => XS.icmpNo Y26.here hx rfl (hb hby at_211) rfl (by decide) k) ?_
    refine own_goW (T' := T26) (g' := (mkF m 216 #[.val (.int i0), .val (.int i1), .val (.int i2), .val (.int i3), .val (.int zz1), .val (.int hi), .val (.int vv), .val (.int (0 : Int32)), .val (.ref b3), .val (.ref b6), .val (.ref b9), .val (.ref b11), .val (.ref b14), .val (.ref tn16), .val (.ref tn16), .unset, .unset, .unset] [(.ref tn16)])) (fun _ k => XS.aload Y26.here hx rfl (hb hby at_214) rfl rfl k) ?_
    obtain ⟨cq27, kq27, q27a, q27b, q27c⟩ := isOf hZ eq26 E_tn16
    clear q27b
    obtain ⟨_, _, ⟨T27, L27, k27, n27⟩, -, X27, ⟨Lc27, hQ27, l27, y27, z27⟩, st27⟩ := Y26.virtualBack hx (y := (⟨"com/example/ordence/ordence/Formula$Table", "tuples", "()Ljava/util/List;"⟩ : MethodName)) (z := (⟨"com/example/ordence/ordence/Formula$Table", "tuples", "()Ljava/util/List;"⟩ : MethodName)) hown (mvT hZ (hw _ (List.mem_of_getElem? (i := 179) rfl))) (mvT hZ (hw _ (List.mem_of_getElem? (i := 180) rfl))) (notFace_of_selects (args := #[]) (mvT hZ (hw _ (List.mem_of_getElem? (i := 182) rfl)))) (mvT hZ (hw _ (List.mem_of_getElem? (i := 182) rfl))) (mvT hZ (hw _ (List.mem_of_getElem? (i := 181) rfl))) (by decide) (backOf (W := 0) (own_rm26 l Z a0 hw [] tn16 b11 T16.heap n0 Zs F_tn16_tuples) hZ (hw _ (List.mem_of_getElem? (i := 183) rfl)) (hw _ (List.mem_of_getElem? (i := 116) rfl)) (by decide) (by decide)) q27a q27c (g := (mkF m 216 #[.val (.int i0), .val (.int i1), .val (.int i2), .val (.int i3), .val (.int zz1), .val (.int hi), .val (.int vv), .val (.int (0 : Int32)), .val (.ref b3), .val (.ref b6), .val (.ref b9), .val (.ref b11), .val (.ref b14), .val (.ref tn16), .val (.ref tn16), .unset, .unset, .unset] [(.ref tn16)])) rfl (by rw [hml]; rfl) (Steps.refl _) (argsL := []) (rest := []) (lenOf own_pd0_7 rfl) rfl (by show 2 * 0 + _ ≤ _; exact Nat.le_of_eq rfl) (hb hby at_216) (fun _ _ => ⟨rfl, eq26, (by decide : 14 + 0 ≤ _), (by decide : 51 + 0 ≤ _)⟩)
    dsimp only [Pt.U, Pt.locs, Pt.cells, Pt.slots] at X27 l27 y27 z27 st27 hQ27
    subst l27 y27 z27
    clear Y26 eq26 q27a q27c
    obtain ⟨rfl, NQ27, eq27⟩ := hQ27
    replace NF := Fr.app NF NQ27
    clear NQ27
    obtain ⟨lc27, Y27, NG27⟩ := own_lo X27 NF
    clear X27
    replace NF := NG27
    clear NG27
    refine own_goW (T' := T27) (g' := (mkF m 219 #[.val (.int i0), .val (.int i1), .val (.int i2), .val (.int i3), .val (.int zz1), .val (.int hi), .val (.int vv), .val (.int (0 : Int32)), .val (.ref b3), .val (.ref b6), .val (.ref b9), .val (.ref b11), .val (.ref b14), .val (.ref tn16), .val (.ref tn16), .unset, .unset, .unset] [(.ref b11)])) (fun _ k => st27.trans k) ?_
    clear st27
    refine own_goW (T' := T27) (g' := (mkF m 220 #[.val (.int i0), .val (.int i1), .val (.int i2), .val (.int i3), .val (.int zz1), .val (.int hi), .val (.int vv), .val (.int (0 : Int32)), .val (.ref b3), .val (.ref b6), .val (.ref b9), .val (.ref b11), .val (.ref b14), .val (.ref tn16), .val (.ref tn16), .unset, .unset, .unset] [(.int (0 : Int32)), (.ref b11)])) (fun _ k => XS.iconst Y27.here hx rfl (hb hby at_219) k) ?_
    obtain ⟨cq28, kq28, q28a, q28b, q28c⟩ := isOf hZ eq27 E_b11
    obtain ⟨_, _, ⟨T28, L28, k28, n28⟩, -, X28, ⟨Lc28, hQ28, l28, y28, z28⟩, st28⟩ := Y27.interfaceBack hx (xi := (⟨"java/util/List", "get", "(I)Ljava/lang/Object;"⟩ : MethodName)) (y := (⟨"java/util/ArrayList", "get", "(I)Ljava/lang/Object;"⟩ : MethodName)) hown (mvT hZ (hw _ (List.mem_of_getElem? (i := 158) rfl))) (mvT hZ (hw _ (List.mem_of_getElem? (i := 159) rfl))) (mvT hZ (hw _ (List.mem_of_getElem? (i := 160) rfl))) (mvT hZ (hw _ (List.mem_of_getElem? (i := 161) rfl))) (mvT hZ (hw _ (List.mem_of_getElem? (i := 162) rfl))) (mvT hZ (hw _ (List.mem_of_getElem? (i := 163) rfl))) (mvT hZ (hw _ (List.mem_of_getElem? (i := 164) rfl))) (mvT hZ (hw _ (List.mem_of_getElem? (i := 86) rfl))) (by decide) (backOf (W := 0) (own_rm22 l Z a0 hw [] b11 nb13 knb13 b9 T16.heap n0 Zs F_b11_elementData V_nb13 F_b11_size E_b11) hZ (hw _ (List.mem_of_getElem? (i := 165) rfl)) (hw _ (List.mem_of_getElem? (i := 57) rfl)) (by decide) (by decide)) q28a q28b q28c (g := (mkF m 220 #[.val (.int i0), .val (.int i1), .val (.int i2), .val (.int i3), .val (.int zz1), .val (.int hi), .val (.int vv), .val (.int (0 : Int32)), .val (.ref b3), .val (.ref b6), .val (.ref b9), .val (.ref b11), .val (.ref b14), .val (.ref tn16), .val (.ref tn16), .unset, .unset, .unset] [(.int (0 : Int32)), (.ref b11)])) rfl (by rw [hml]; rfl) (Steps.refl _) (argsL := [(.int (0 : Int32))]) (rest := []) (lenOf own_pd0_9 rfl) rfl (by show 2 * 0 + _ ≤ _; exact Nat.le_of_eq rfl) (hb hby at_220) (fun _ _ => ⟨rfl, eq27, (by decide : 14 + 0 ≤ _), (by decide : 51 + 0 ≤ _)⟩)
    dsimp only [Pt.U, Pt.locs, Pt.cells, Pt.slots] at X28 l28 y28 z28 st28 hQ28
    subst l28 y28 z28
    clear Y27 eq27 q28a q28b q28c
    obtain ⟨rfl, NQ28, eq28⟩ := hQ28
    replace NF := Fr.app NF NQ28
    clear NQ28
    obtain ⟨lc28, Y28, NG28⟩ := own_lo X28 NF
    clear X28
    replace NF := NG28
    clear NG28
    refine own_goW (T' := T28) (g' := (mkF m 225 #[.val (.int i0), .val (.int i1), .val (.int i2), .val (.int i3), .val (.int zz1), .val (.int hi), .val (.int vv), .val (.int (0 : Int32)), .val (.ref b3), .val (.ref b6), .val (.ref b9), .val (.ref b11), .val (.ref b14), .val (.ref tn16), .val (.ref tn16), .unset, .unset, .unset] [(.ref b9)])) (fun _ k => st28.trans k) ?_
    clear st28
    obtain ⟨T29, X29, e29, st29⟩ := castY Y28 hx hZ hown (hw _ (List.mem_of_getElem? (i := 184) rfl)) eq28 (Ins.self E_b9) (g := (mkF m 225 #[.val (.int i0), .val (.int i1), .val (.int i2), .val (.int i3), .val (.int zz1), .val (.int hi), .val (.int vv), .val (.int (0 : Int32)), .val (.ref b3), .val (.ref b6), .val (.ref b9), .val (.ref b11), .val (.ref b14), .val (.ref tn16), .val (.ref tn16), .unset, .unset, .unset] [(.ref b9)])) rfl rfl (hb hby at_225)
    clear Y28 eq28
    refine own_goW (T' := T29) (g' := (mkF m 228 #[.val (.int i0), .val (.int i1), .val (.int i2), .val (.int i3), .val (.int zz1), .val (.int hi), .val (.int vv), .val (.int (0 : Int32)), .val (.ref b3), .val (.ref b6), .val (.ref b9), .val (.ref b11), .val (.ref b14), .val (.ref tn16), .val (.ref tn16), .unset, .unset, .unset] [(.ref b9)])) (fun _ k => st29 _ k) ?_
    clear st29
    obtain ⟨c_30, Ar_30, q_30, S_30, N_30, H_30, G_30⟩ := id V_b9
    clear G_30 H_30 q_30
    refine own_goW (T' := T29) (g' := (mkF m 229 #[.val (.int i0), .val (.int i1), .val (.int i2), .val (.int i3), .val (.int zz1), .val (.int hi), .val (.int vv), .val (.int (0 : Int32)), .val (.ref b3), .val (.ref b6), .val (.ref b9), .val (.ref b11), .val (.ref b14), .val (.ref tn16), .val (.ref tn16), .unset, .unset, .unset] [(.int (1 : Int32))])) (fun _ k => X29.arraylength hx (by rw [e29]; exact Ar_30.1) (State.isArrayOf_alike hZ.alike Ar_30.2.1) (g := (mkF m 228 #[.val (.int i0), .val (.int i1), .val (.int i2), .val (.int i3), .val (.int zz1), .val (.int hi), .val (.int vv), .val (.int (0 : Int32)), .val (.ref b3), .val (.ref b6), .val (.ref b9), .val (.ref b11), .val (.ref b14), .val (.ref tn16), .val (.ref tn16), .unset, .unset, .unset] [(.ref b9)])) rfl rfl (hb hby at_228) _ (by rw [len_of S_30 N_30]; exact k)) ?_
    clear Ar_30 N_30 S_30
    refine own_goW (T' := T29) (g' := (mkF m 230 #[.val (.int i0), .val (.int i1), .val (.int i2), .val (.int i3), .val (.int zz1), .val (.int hi), .val (.int vv), .val (.int (0 : Int32)), .val (.ref b3), .val (.ref b6), .val (.ref b9), .val (.ref b11), .val (.ref b14), .val (.ref tn16), .val (.ref tn16), .unset, .unset, .unset] [(.int (1 : Int32)), (.int (1 : Int32))])) (fun _ k => XS.iconst X29.here hx rfl (hb hby at_229) k) ?_
    refine own_goW (T' := T29) (g' := (mkF m 233 #[.val (.int i0), .val (.int i1), .val (.int i2), .val (.int i3), .val (.int zz1), .val (.int hi), .val (.int vv), .val (.int (0 : Int32)), .val (.ref b3), .val (.ref b6), .val (.ref b9), .val (.ref b11), .val (.ref b14), .val (.ref tn16), .val (.ref tn16), .unset, .unset, .unset] [])) (fun _ k => XS.icmpNo X29.here hx rfl (hb hby at_230) rfl (by decide) k) ?_
    refine own_goW (T' := T29) (g' := (mkF m 235 #[.val (.int i0), .val (.int i1), .val (.int i2), .val (.int i3), .val (.int zz1), .val (.int hi), .val (.int vv), .val (.int (0 : Int32)), .val (.ref b3), .val (.ref b6), .val (.ref b9), .val (.ref b11), .val (.ref b14), .val (.ref tn16), .val (.ref tn16), .unset, .unset, .unset] [(.ref tn16)])) (fun _ k => XS.aload X29.here hx rfl (hb hby at_233) rfl rfl k) ?_
    obtain ⟨cq31, kq31, q31a, q31b, q31c⟩ := isOf hZ e29 E_tn16
    clear q31b
    obtain ⟨_, _, ⟨T31, L31, k31, n31⟩, -, X31, ⟨Lc31, hQ31, l31, y31, z31⟩, st31⟩ := X29.virtualBack hx (y := (⟨"com/example/ordence/ordence/Formula$Table", "tuples", "()Ljava/util/List;"⟩ : MethodName)) (z := (⟨"com/example/ordence/ordence/Formula$Table", "tuples", "()Ljava/util/List;"⟩ : MethodName)) hown (mvT hZ (hw _ (List.mem_of_getElem? (i := 179) rfl))) (mvT hZ (hw _ (List.mem_of_getElem? (i := 180) rfl))) (notFace_of_selects (args := #[]) (mvT hZ (hw _ (List.mem_of_getElem? (i := 182) rfl)))) (mvT hZ (hw _ (List.mem_of_getElem? (i := 182) rfl))) (mvT hZ (hw _ (List.mem_of_getElem? (i := 181) rfl))) (by decide) (backOf (W := 0) (own_rm26 l Z a0 hw [] tn16 b11 T16.heap n0 Zs F_tn16_tuples) hZ (hw _ (List.mem_of_getElem? (i := 183) rfl)) (hw _ (List.mem_of_getElem? (i := 116) rfl)) (by decide) (by decide)) q31a q31c (g := (mkF m 235 #[.val (.int i0), .val (.int i1), .val (.int i2), .val (.int i3), .val (.int zz1), .val (.int hi), .val (.int vv), .val (.int (0 : Int32)), .val (.ref b3), .val (.ref b6), .val (.ref b9), .val (.ref b11), .val (.ref b14), .val (.ref tn16), .val (.ref tn16), .unset, .unset, .unset] [(.ref tn16)])) rfl (by rw [hml]; rfl) (Steps.refl _) (argsL := []) (rest := []) (lenOf own_pd0_7 rfl) rfl (by show 2 * 0 + _ ≤ _; exact Nat.le_of_eq rfl) (hb hby at_235) (fun _ _ => ⟨rfl, e29, (by decide : 14 + 0 ≤ _), (by decide : 51 + 0 ≤ _)⟩)
    dsimp only [Pt.U, Pt.locs, Pt.cells, Pt.slots] at X31 l31 y31 z31 st31 hQ31
    subst l31 y31 z31
    clear X29 e29 q31a q31c
    obtain ⟨rfl, NQ31, eq31⟩ := hQ31
    replace NF := Fr.app NF NQ31
    clear NQ31
    obtain ⟨lc31, Y31, NG31⟩ := own_lo X31 NF
    clear X31
    replace NF := NG31
    clear NG31
    refine own_goW (T' := T31) (g' := (mkF m 238 #[.val (.int i0), .val (.int i1), .val (.int i2), .val (.int i3), .val (.int zz1), .val (.int hi), .val (.int vv), .val (.int (0 : Int32)), .val (.ref b3), .val (.ref b6), .val (.ref b9), .val (.ref b11), .val (.ref b14), .val (.ref tn16), .val (.ref tn16), .unset, .unset, .unset] [(.ref b11)])) (fun _ k => st31.trans k) ?_
    clear st31
    refine own_goW (T' := T31) (g' := (mkF m 239 #[.val (.int i0), .val (.int i1), .val (.int i2), .val (.int i3), .val (.int zz1), .val (.int hi), .val (.int vv), .val (.int (0 : Int32)), .val (.ref b3), .val (.ref b6), .val (.ref b9), .val (.ref b11), .val (.ref b14), .val (.ref tn16), .val (.ref tn16), .unset, .unset, .unset] [(.int (0 : Int32)), (.ref b11)])) (fun _ k => XS.iconst Y31.here hx rfl (hb hby at_238) k) ?_
    obtain ⟨cq32, kq32, q32a, q32b, q32c⟩ := isOf hZ eq31 E_b11
    obtain ⟨_, _, ⟨T32, L32, k32, n32⟩, -, X32, ⟨Lc32, hQ32, l32, y32, z32⟩, st32⟩ := Y31.interfaceBack hx (xi := (⟨"java/util/List", "get", "(I)Ljava/lang/Object;"⟩ : MethodName)) (y := (⟨"java/util/ArrayList", "get", "(I)Ljava/lang/Object;"⟩ : MethodName)) hown (mvT hZ (hw _ (List.mem_of_getElem? (i := 158) rfl))) (mvT hZ (hw _ (List.mem_of_getElem? (i := 159) rfl))) (mvT hZ (hw _ (List.mem_of_getElem? (i := 160) rfl))) (mvT hZ (hw _ (List.mem_of_getElem? (i := 161) rfl))) (mvT hZ (hw _ (List.mem_of_getElem? (i := 162) rfl))) (mvT hZ (hw _ (List.mem_of_getElem? (i := 163) rfl))) (mvT hZ (hw _ (List.mem_of_getElem? (i := 164) rfl))) (mvT hZ (hw _ (List.mem_of_getElem? (i := 86) rfl))) (by decide) (backOf (W := 0) (own_rm22 l Z a0 hw [] b11 nb13 knb13 b9 T16.heap n0 Zs F_b11_elementData V_nb13 F_b11_size E_b11) hZ (hw _ (List.mem_of_getElem? (i := 165) rfl)) (hw _ (List.mem_of_getElem? (i := 57) rfl)) (by decide) (by decide)) q32a q32b q32c (g := (mkF m 239 #[.val (.int i0), .val (.int i1), .val (.int i2), .val (.int i3), .val (.int zz1), .val (.int hi), .val (.int vv), .val (.int (0 : Int32)), .val (.ref b3), .val (.ref b6), .val (.ref b9), .val (.ref b11), .val (.ref b14), .val (.ref tn16), .val (.ref tn16), .unset, .unset, .unset] [(.int (0 : Int32)), (.ref b11)])) rfl (by rw [hml]; rfl) (Steps.refl _) (argsL := [(.int (0 : Int32))]) (rest := []) (lenOf own_pd0_9 rfl) rfl (by show 2 * 0 + _ ≤ _; exact Nat.le_of_eq rfl) (hb hby at_239) (fun _ _ => ⟨rfl, eq31, (by decide : 14 + 0 ≤ _), (by decide : 51 + 0 ≤ _)⟩)
    dsimp only [Pt.U, Pt.locs, Pt.cells, Pt.slots] at X32 l32 y32 z32 st32 hQ32
    subst l32 y32 z32
    clear Y31 eq31 q32a q32b q32c
    obtain ⟨rfl, NQ32, eq32⟩ := hQ32
    replace NF := Fr.app NF NQ32
    clear NQ32
    obtain ⟨lc32, Y32, NG32⟩ := own_lo X32 NF
    clear X32
    replace NF := NG32
    clear NG32
    refine own_goW (T' := T32) (g' := (mkF m 244 #[.val (.int i0), .val (.int i1), .val (.int i2), .val (.int i3), .val (.int zz1), .val (.int hi), .val (.int vv), .val (.int (0 : Int32)), .val (.ref b3), .val (.ref b6), .val (.ref b9), .val (.ref b11), .val (.ref b14), .val (.ref tn16), .val (.ref tn16), .unset, .unset, .unset] [(.ref b9)])) (fun _ k => st32.trans k) ?_
    clear st32
    obtain ⟨T33, X33, e33, st33⟩ := castY Y32 hx hZ hown (hw _ (List.mem_of_getElem? (i := 184) rfl)) eq32 (Ins.self E_b9) (g := (mkF m 244 #[.val (.int i0), .val (.int i1), .val (.int i2), .val (.int i3), .val (.int zz1), .val (.int hi), .val (.int vv), .val (.int (0 : Int32)), .val (.ref b3), .val (.ref b6), .val (.ref b9), .val (.ref b11), .val (.ref b14), .val (.ref tn16), .val (.ref tn16), .unset, .unset, .unset] [(.ref b9)])) rfl rfl (hb hby at_244)
    clear Y32 eq32
    refine own_goW (T' := T33) (g' := (mkF m 247 #[.val (.int i0), .val (.int i1), .val (.int i2), .val (.int i3), .val (.int zz1), .val (.int hi), .val (.int vv), .val (.int (0 : Int32)), .val (.ref b3), .val (.ref b6), .val (.ref b9), .val (.ref b11), .val (.ref b14), .val (.ref tn16), .val (.ref tn16), .unset, .unset, .unset] [(.ref b9)])) (fun _ k => st33 _ k) ?_
    clear st33
    refine own_goW (T' := T33) (g' := (mkF m 248 #[.val (.int i0), .val (.int i1), .val (.int i2), .val (.int i3), .val (.int zz1), .val (.int hi), .val (.int vv), .val (.int (0 : Int32)), .val (.ref b3), .val (.ref b6), .val (.ref b9), .val (.ref b11), .val (.ref b14), .val (.ref tn16), .val (.ref tn16), .unset, .unset, .unset] [(.int (0 : Int32)), (.ref b9)])) (fun _ k => XS.iconst X33.here hx rfl (hb hby at_247) k) ?_
    obtain ⟨c_34, Ar_34, q_34, S_34, N_34, H_34, G_34⟩ := id V_b9
    clear G_34 N_34 q_34
    replace hin_34 : ¬ ((0 : Int32) < 0 ∨ c_34.slots.size ≤ ((0 : Int32)).toNatClampNeg) := inb_of S_34 ⟨by decide, by decide⟩
    clear S_34
    replace hat_34 : c_34.slots[((0 : Int32)).toNatClampNeg]? = some (.int vv) := H_34.at hin_34 rfl
    clear H_34
    refine own_goW (T' := T33) (g' := (mkF m 249 #[.val (.int i0), .val (.int i1), .val (.int i2), .val (.int i3), .val (.int zz1), .val (.int hi), .val (.int vv), .val (.int (0 : Int32)), .val (.ref b3), .val (.ref b6), .val (.ref b9), .val (.ref b11), .val (.ref b14), .val (.ref tn16), .val (.ref tn16), .unset, .unset, .unset] [(.int vv)])) (fun _ k => X33.iaload hx (j := (0 : Int32)) (v := (.int vv)) (by rw [e33]; exact Ar_34.1) (State.isArrayOf_alike hZ.alike Ar_34.2.1) Ar_34.2.2 hin_34 hat_34 (g := (mkF m 248 #[.val (.int i0), .val (.int i1), .val (.int i2), .val (.int i3), .val (.int zz1), .val (.int hi), .val (.int vv), .val (.int (0 : Int32)), .val (.ref b3), .val (.ref b6), .val (.ref b9), .val (.ref b11), .val (.ref b14), .val (.ref tn16), .val (.ref tn16), .unset, .unset, .unset] [(.int (0 : Int32)), (.ref b9)])) rfl rfl (hb hby at_248) _ k) ?_
    clear Ar_34 hat_34 hin_34
    refine own_goW (T' := T33) (g' := (mkF m 251 #[.val (.int i0), .val (.int i1), .val (.int i2), .val (.int i3), .val (.int zz1), .val (.int hi), .val (.int vv), .val (.int (0 : Int32)), .val (.ref b3), .val (.ref b6), .val (.ref b9), .val (.ref b11), .val (.ref b14), .val (.ref tn16), .val (.ref tn16), .unset, .unset, .unset] [(.int vv), (.int vv)])) (fun _ k => XS.iload X33.here hx rfl (hb hby at_249) rfl k) ?_
    refine own_goW (T' := T33) (g' := (mkF m 254 #[.val (.int i0), .val (.int i1), .val (.int i2), .val (.int i3), .val (.int zz1), .val (.int hi), .val (.int vv), .val (.int (0 : Int32)), .val (.ref b3), .val (.ref b6), .val (.ref b9), .val (.ref b11), .val (.ref b14), .val (.ref tn16), .val (.ref tn16), .unset, .unset, .unset] [])) (fun _ k => XS.icmpNo X33.here hx rfl (hb hby at_251) rfl (teq (rfl : vv = vv)).2 k) ?_
    refine own_goW (T' := T33) (g' := (mkF m 256 #[.val (.int i0), .val (.int i1), .val (.int i2), .val (.int i3), .val (.int zz1), .val (.int hi), .val (.int vv), .val (.int (0 : Int32)), .val (.ref b3), .val (.ref b6), .val (.ref b9), .val (.ref b11), .val (.ref b14), .val (.ref tn16), .val (.ref tn16), .unset, .unset, .unset] [(.ref b14)])) (fun _ k => XS.aload X33.here hx rfl (hb hby at_254) rfl rfl k) ?_
    obtain ⟨cq35, kq35, q35a, q35b, q35c⟩ := isOf hZ e33 E_b14
    clear q35b
    obtain ⟨_, _, ⟨T35, L35, k35, n35⟩, -, X35, ⟨Lc35, hQ35, l35, y35, z35⟩, st35⟩ := X33.virtualBack hx (y := (⟨"com/example/ordence/ordence/Formula$Table", "supports", "()Z"⟩ : MethodName)) (z := (⟨"com/example/ordence/ordence/Formula$Table", "supports", "()Z"⟩ : MethodName)) hown (mvT hZ (hw _ (List.mem_of_getElem? (i := 140) rfl))) (mvT hZ (hw _ (List.mem_of_getElem? (i := 141) rfl))) (notFace_of_selects (args := #[]) (mvT hZ (hw _ (List.mem_of_getElem? (i := 143) rfl)))) (mvT hZ (hw _ (List.mem_of_getElem? (i := 143) rfl))) (mvT hZ (hw _ (List.mem_of_getElem? (i := 142) rfl))) (by decide) (backOf (W := 0) (own_rm18_0 l Z a0 hw [] b14 b6 b11 T16.heap n0 Zs F_b14_variables F_b14_tuples F_b14_supports) hZ (hw _ (List.mem_of_getElem? (i := 144) rfl)) (hw _ (List.mem_of_getElem? (i := 116) rfl)) (by decide) (by decide)) q35a q35c (g := (mkF m 256 #[.val (.int i0), .val (.int i1), .val (.int i2), .val (.int i3), .val (.int zz1), .val (.int hi), .val (.int vv), .val (.int (0 : Int32)), .val (.ref b3), .val (.ref b6), .val (.ref b9), .val (.ref b11), .val (.ref b14), .val (.ref tn16), .val (.ref tn16), .unset, .unset, .unset] [(.ref b14)])) rfl (by rw [hml]; rfl) (Steps.refl _) (argsL := []) (rest := []) (lenOf own_pd0_6 rfl) rfl (by show 2 * 0 + _ ≤ _; exact Nat.le_of_eq rfl) (hb hby at_256) (fun _ _ => ⟨rfl, e33, (by decide : 14 + 0 ≤ _), (by decide : 51 + 0 ≤ _)⟩)
    dsimp only [Pt.U, Pt.locs, Pt.cells, Pt.slots] at X35 l35 y35 z35 st35 hQ35
    subst l35 y35 z35
    clear X33 e33 q35a q35c
    obtain ⟨rfl, NQ35, eq35⟩ := hQ35
    replace NF := Fr.app NF NQ35
    clear NQ35
    obtain ⟨lc35, Y35, NG35⟩ := own_lo X35 NF
    clear X35
    replace NF := NG35
    clear NG35
    refine own_goW (T' := T35) (g' := (mkF m 259 #[.val (.int i0), .val (.int i1), .val (.int i2), .val (.int i3), .val (.int zz1), .val (.int hi), .val (.int vv), .val (.int (0 : Int32)), .val (.ref b3), .val (.ref b6), .val (.ref b9), .val (.ref b11), .val (.ref b14), .val (.ref tn16), .val (.ref tn16), .unset, .unset, .unset] [(.int (0 : Int32))])) (fun _ k => st35.trans k) ?_
    clear st35
    refine own_goW (T' := T35) (g' := (mkF m 261 #[.val (.int i0), .val (.int i1), .val (.int i2), .val (.int i3), .val (.int zz1), .val (.int hi), .val (.int vv), .val (.int (0 : Int32)), .val (.ref b3), .val (.ref b6), .val (.ref b9), .val (.ref b11), .val (.ref b14), .val (.ref tn16), .val (.ref tn16), .unset, .unset, .unset] [(.int (0 : Int32)), (.int (0 : Int32))])) (fun _ k => XS.iload Y35.here hx rfl (hb hby at_259) rfl k) ?_
    refine own_goW (T' := T35) (g' := (mkF m 264 #[.val (.int i0), .val (.int i1), .val (.int i2), .val (.int i3), .val (.int zz1), .val (.int hi), .val (.int vv), .val (.int (0 : Int32)), .val (.ref b3), .val (.ref b6), .val (.ref b9), .val (.ref b11), .val (.ref b14), .val (.ref tn16), .val (.ref tn16), .unset, .unset, .unset] [])) (fun _ k => XS.icmpNo Y35.here hx rfl (hb hby at_261) rfl (by decide) k) ?_
    refine own_goW (T' := T35) (g' := (mkF m 265 #[.val (.int i0), .val (.int i1), .val (.int i2), .val (.int i3), .val (.int zz1), .val (.int hi), .val (.int vv), .val (.int (0 : Int32)), .val (.ref b3), .val (.ref b6), .val (.ref b9), .val (.ref b11), .val (.ref b14), .val (.ref tn16), .val (.ref tn16), .unset, .unset, .unset] [(.int (1 : Int32))])) (fun _ k => XS.iconst Y35.here hx rfl (hb hby at_264) k) ?_
    refine own_goW (T' := T35) (g' := (mkF m 269 #[.val (.int i0), .val (.int i1), .val (.int i2), .val (.int i3), .val (.int zz1), .val (.int hi), .val (.int vv), .val (.int (0 : Int32)), .val (.ref b3), .val (.ref b6), .val (.ref b9), .val (.ref b11), .val (.ref b14), .val (.ref tn16), .val (.ref tn16), .unset, .unset, .unset] [(.int (1 : Int32))])) (fun _ k => XS.goto Y35.here hx rfl (pc0 := 265) (pc' := 269) rfl (hb hby at_265) (by decide) (by decide) k) ?_
    refine own_goW (T' := T35) (g' := (mkF m 271 #[.val (.int i0), .val (.int i1), .val (.int i2), .val (.int i3), .val (.int zz1), .val (.int hi), .val (.int vv), .val (.int (0 : Int32)), .val (.ref b3), .val (.ref b6), .val (.ref b9), .val (.ref b11), .val (.ref b14), .val (.ref tn16), .val (.ref tn16), .val (.int (1 : Int32)), .unset, .unset] [])) (fun _ k => XS.istore Y35.here hx rfl (hb hby at_269) rfl (l' := #[.val (.int i0), .val (.int i1), .val (.int i2), .val (.int i3), .val (.int zz1), .val (.int hi), .val (.int vv), .val (.int (0 : Int32)), .val (.ref b3), .val (.ref b6), .val (.ref b9), .val (.ref b11), .val (.ref b14), .val (.ref tn16), .val (.ref tn16), .val (.int (1 : Int32)), .unset, .unset]) rfl k) ?_
    refine own_goW (T' := T35) (g' := (mkF m 273 #[.val (.int i0), .val (.int i1), .val (.int i2), .val (.int i3), .val (.int zz1), .val (.int hi), .val (.int vv), .val (.int (0 : Int32)), .val (.ref b3), .val (.ref b6), .val (.ref b9), .val (.ref b11), .val (.ref b14), .val (.ref tn16), .val (.ref tn16), .val (.int (1 : Int32)), .unset, .unset] [(.int (1 : Int32))])) (fun _ k => XS.iload Y35.here hx rfl (hb hby at_271) rfl k) ?_
    refine own_goW (T' := T35) (g' := (mkF m 278 #[.val (.int i0), .val (.int i1), .val (.int i2), .val (.int i3), .val (.int zz1), .val (.int hi), .val (.int vv), .val (.int (0 : Int32)), .val (.ref b3), .val (.ref b6), .val (.ref b9), .val (.ref b11), .val (.ref b14), .val (.ref tn16), .val (.ref tn16), .val (.int (1 : Int32)), .unset, .unset] [])) (fun _ k => XS.ifYes Y35.here hx rfl (pc0 := 273) (pc' := 278) rfl (hb hby at_273) rfl (by decide) (by decide) (by decide) k) ?_
    refine own_goW (T' := T35) (g' := (mkF m 280 #[.val (.int i0), .val (.int i1), .val (.int i2), .val (.int i3), .val (.int zz1), .val (.int hi), .val (.int vv), .val (.int (0 : Int32)), .val (.ref b3), .val (.ref b6), .val (.ref b9), .val (.ref b11), .val (.ref b14), .val (.ref tn16), .val (.ref tn16), .val (.int (1 : Int32)), .unset, .unset] [(.ref tn16)])) (fun _ k => XS.aload Y35.here hx rfl (hb hby at_278) rfl rfl k) ?_
    replace lt_b11 := E_b11.lt
    replace lt_b14 := E_b14.lt
    replace lt_b3 := E_b3.lt
    replace lt_b6 := E_b6.lt
    replace lt_b9 := E_b9.lt
    replace lt_nb13 := V_nb13.lt
    replace lt_nb8 := V_nb8.lt
    replace lt_tn16 := E_tn16.lt
    obtain ⟨cq36, kq36, q36a, q36b, q36c⟩ := isOf hZ eq35 E_tn16
    clear q36b
    obtain ⟨_, _, ⟨T36, L36, k36, n36⟩, -, X36, ⟨Lc36, hQ36, l36, y36, z36⟩, st36⟩ := Y35.virtualBack hx (y := (⟨"com/example/ordence/ordence/Formula$Table", "negate", "()Lcom/example/ordence/ordence/Formula;"⟩ : MethodName)) (z := (⟨"com/example/ordence/ordence/Formula$Table", "negate", "()Lcom/example/ordence/ordence/Formula;"⟩ : MethodName)) hown (mvT hZ (hw _ (List.mem_of_getElem? (i := 132) rfl))) (mvT hZ (hw _ (List.mem_of_getElem? (i := 133) rfl))) (notFace_of_selects (args := #[]) (mvT hZ (hw _ (List.mem_of_getElem? (i := 135) rfl)))) (mvT hZ (hw _ (List.mem_of_getElem? (i := 135) rfl))) (mvT hZ (hw _ (List.mem_of_getElem? (i := 134) rfl))) (by decide) (backOf (W := 0) (own_rm17_1 l Z a0 hw [] tn16 b6 b11 T16.heap n0 Zs F_tn16_variables F_tn16_tuples F_tn16_supports) hZ (hw _ (List.mem_of_getElem? (i := 136) rfl)) (hw _ (List.mem_of_getElem? (i := 116) rfl)) (by decide) (by decide)) q36a q36c (g := (mkF m 280 #[.val (.int i0), .val (.int i1), .val (.int i2), .val (.int i3), .val (.int zz1), .val (.int hi), .val (.int vv), .val (.int (0 : Int32)), .val (.ref b3), .val (.ref b6), .val (.ref b9), .val (.ref b11), .val (.ref b14), .val (.ref tn16), .val (.ref tn16), .val (.int (1 : Int32)), .unset, .unset] [(.ref tn16)])) rfl (by rw [hml]; rfl) (Steps.refl _) (argsL := []) (rest := []) (lenOf own_pd0_5 rfl) rfl (by show 2 * 0 + _ ≤ _; exact Nat.le_of_eq rfl) (hb hby at_280) (fun _ _ => ⟨rfl, eq35, (by decide : 14 + 1 ≤ _), (by decide : 51 + 3 ≤ _)⟩)
    dsimp only [Pt.U, Pt.locs, Pt.cells, Pt.slots] at X36 l36 y36 z36 st36 hQ36
    subst l36 y36 z36
    clear Y35 eq35 q36a q36c
    obtain ⟨NQ36, K36, tn36, rfl, ge_tn36, g_tn36, E_tn36, F_tn36_variables, F_tn36_tuples, F_tn36_supports⟩ := hQ36
    clear g_tn36
    replace NF := Fr.app NF NQ36
    clear NQ36
    obtain ⟨lc36, Y36, NG36⟩ := own_lo X36 NF
    clear X36
    replace NF := NG36
    clear NG36
    replace OL := OL.keep K36 all0
    replace E_b3 := E_b3.keep K36
    clear E_b3
    replace E_b6 := E_b6.keep K36
    replace F_b6_modCount := F_b6_modCount.keep K36 nin0
    clear F_b6_modCount
    replace F_b6_elementData := F_b6_elementData.keep K36 nin0
    replace F_b6_size := F_b6_size.keep K36 nin0
    replace V_nb8 := V_nb8.keep K36 nin0
    replace E_b9 := E_b9.keep K36
    replace V_b9 := V_b9.keep K36 nin0
    replace E_b11 := E_b11.keep K36
    replace F_b11_modCount := F_b11_modCount.keep K36 nin0
    clear F_b11_modCount
    replace F_b11_elementData := F_b11_elementData.keep K36 nin0
    replace F_b11_size := F_b11_size.keep K36 nin0
    replace V_nb13 := V_nb13.keep K36 nin0
    replace E_b14 := E_b14.keep K36
    clear E_b14
    replace F_b14_variables := F_b14_variables.keep K36 nin0
    clear F_b14_variables
    replace F_b14_tuples := F_b14_tuples.keep K36 nin0
    clear F_b14_tuples
    replace F_b14_supports := F_b14_supports.keep K36 nin0
    clear F_b14_supports
    replace E_tn16 := E_tn16.keep K36
    clear E_tn16
    replace F_tn16_variables := F_tn16_variables.keep K36 nin0
    clear F_tn16_variables
    replace F_tn16_tuples := F_tn16_tuples.keep K36 nin0
    clear F_tn16_tuples
    replace F_tn16_supports := F_tn16_supports.keep K36 nin0
    clear F_tn16_supports
    replace hKi := Nat.le_trans hKi K36.1
    replace Zs := Nat.le_trans Zs K36.1
    clear K36
    replace ne_b11_tn36 : b11 ≠ tn36 := Nat.ne_of_lt (Nat.lt_of_lt_of_le lt_b11 ge_tn36)
    clear lt_b11 ne_b11_tn36
    replace ne_b14_tn36 : b14 ≠ tn36 := Nat.ne_of_lt (Nat.lt_of_lt_of_le lt_b14 ge_tn36)
    clear lt_b14 ne_b14_tn36
    replace ne_b3_tn36 : b3 ≠ tn36 := Nat.ne_of_lt (Nat.lt_of_lt_of_le lt_b3 ge_tn36)
    clear lt_b3 ne_b3_tn36
    replace ne_b6_tn36 : b6 ≠ tn36 := Nat.ne_of_lt (Nat.lt_of_lt_of_le lt_b6 ge_tn36)
    clear lt_b6 ne_b6_tn36
    replace ne_b9_tn36 : b9 ≠ tn36 := Nat.ne_of_lt (Nat.lt_of_lt_of_le lt_b9 ge_tn36)
    clear lt_b9 ne_b9_tn36
    replace ne_nb13_tn36 : nb13 ≠ tn36 := Nat.ne_of_lt (Nat.lt_of_lt_of_le lt_nb13 ge_tn36)
    clear lt_nb13 ne_nb13_tn36
    replace ne_nb8_tn36 : nb8 ≠ tn36 := Nat.ne_of_lt (Nat.lt_of_lt_of_le lt_nb8 ge_tn36)
    clear lt_nb8 ne_nb8_tn36
    replace ne_tn16_tn36 : tn16 ≠ tn36 := Nat.ne_of_lt (Nat.lt_of_lt_of_le lt_tn16 ge_tn36)
    clear ge_tn36 lt_tn16 ne_tn16_tn36
    refine own_goW (T' := T36) (g' := (mkF m 283 #[.val (.int i0), .val (.int i1), .val (.int i2), .val (.int i3), .val (.int zz1), .val (.int hi), .val (.int vv), .val (.int (0 : Int32)), .val (.ref b3), .val (.ref b6), .val (.ref b9), .val (.ref b11), .val (.ref b14), .val (.ref tn16), .val (.ref tn16), .val (.int (1 : Int32)), .unset, .unset] [(.ref tn36)])) (fun _ k => st36.trans k) ?_
    clear st36
    refine own_goW (T' := T36) (g' := (mkF m 285 #[.val (.int i0), .val (.int i1), .val (.int i2), .val (.int i3), .val (.int zz1), .val (.int hi), .val (.int vv), .val (.int (0 : Int32)), .val (.ref b3), .val (.ref b6), .val (.ref b9), .val (.ref b11), .val (.ref b14), .val (.ref tn16), .val (.ref tn16), .val (.int (1 : Int32)), .val (.ref tn36), .unset] [])) (fun _ k => XS.astore Y36.here hx rfl (hb hby at_283) rfl rfl (l' := #[.val (.int i0), .val (.int i1), .val (.int i2), .val (.int i3), .val (.int zz1), .val (.int hi), .val (.int vv), .val (.int (0 : Int32)), .val (.ref b3), .val (.ref b6), .val (.ref b9), .val (.ref b11), .val (.ref b14), .val (.ref tn16), .val (.ref tn16), .val (.int (1 : Int32)), .val (.ref tn36), .unset]) rfl k) ?_
    refine own_goW (T' := T36) (g' := (mkF m 287 #[.val (.int i0), .val (.int i1), .val (.int i2), .val (.int i3), .val (.int zz1), .val (.int hi), .val (.int vv), .val (.int (0 : Int32)), .val (.ref b3), .val (.ref b6), .val (.ref b9), .val (.ref b11), .val (.ref b14), .val (.ref tn16), .val (.ref tn16), .val (.int (1 : Int32)), .val (.ref tn36), .unset] [(.ref tn36)])) (fun _ k => XS.aload Y36.here hx rfl (hb hby at_285) rfl rfl k) ?_
    obtain ⟨T37, X37, e37, st37⟩ := instY Y36 hx hZ hown (hw _ (List.mem_of_getElem? (i := 114) rfl)) rfl (Ins.self E_tn36) (g := (mkF m 287 #[.val (.int i0), .val (.int i1), .val (.int i2), .val (.int i3), .val (.int zz1), .val (.int hi), .val (.int vv), .val (.int (0 : Int32)), .val (.ref b3), .val (.ref b6), .val (.ref b9), .val (.ref b11), .val (.ref b14), .val (.ref tn16), .val (.ref tn16), .val (.int (1 : Int32)), .val (.ref tn36), .unset] [(.ref tn36)])) rfl rfl (hb hby at_287)
    clear Y36
    refine own_goW (T' := T37) (g' := (mkF m 290 #[.val (.int i0), .val (.int i1), .val (.int i2), .val (.int i3), .val (.int zz1), .val (.int hi), .val (.int vv), .val (.int (0 : Int32)), .val (.ref b3), .val (.ref b6), .val (.ref b9), .val (.ref b11), .val (.ref b14), .val (.ref tn16), .val (.ref tn16), .val (.int (1 : Int32)), .val (.ref tn36), .unset] [(.int (1 : Int32))])) (fun _ k => st37 _ k) ?_
    clear st37
    refine own_goW (T' := T37) (g' := (mkF m 295 #[.val (.int i0), .val (.int i1), .val (.int i2), .val (.int i3), .val (.int zz1), .val (.int hi), .val (.int vv), .val (.int (0 : Int32)), .val (.ref b3), .val (.ref b6), .val (.ref b9), .val (.ref b11), .val (.ref b14), .val (.ref tn16), .val (.ref tn16), .val (.int (1 : Int32)), .val (.ref tn36), .unset] [])) (fun _ k => XS.ifYes X37.here hx rfl (pc0 := 290) (pc' := 295) rfl (hb hby at_290) rfl (by decide) (by decide) (by decide) k) ?_
    refine own_goW (T' := T37) (g' := (mkF m 297 #[.val (.int i0), .val (.int i1), .val (.int i2), .val (.int i3), .val (.int zz1), .val (.int hi), .val (.int vv), .val (.int (0 : Int32)), .val (.ref b3), .val (.ref b6), .val (.ref b9), .val (.ref b11), .val (.ref b14), .val (.ref tn16), .val (.ref tn16), .val (.int (1 : Int32)), .val (.ref tn36), .unset] [(.ref tn36)])) (fun _ k => XS.aload X37.here hx rfl (hb hby at_295) rfl rfl k) ?_
    obtain ⟨T38, X38, e38, st38⟩ := castY X37 hx hZ hown (hw _ (List.mem_of_getElem? (i := 114) rfl)) e37 (Ins.self E_tn36) (g := (mkF m 297 #[.val (.int i0), .val (.int i1), .val (.int i2), .val (.int i3), .val (.int zz1), .val (.int hi), .val (.int vv), .val (.int (0 : Int32)), .val (.ref b3), .val (.ref b6), .val (.ref b9), .val (.ref b11), .val (.ref b14), .val (.ref tn16), .val (.ref tn16), .val (.int (1 : Int32)), .val (.ref tn36), .unset] [(.ref tn36)])) rfl rfl (hb hby at_297)
    clear X37 e37
    refine own_goW (T' := T38) (g' := (mkF m 300 #[.val (.int i0), .val (.int i1), .val (.int i2), .val (.int i3), .val (.int zz1), .val (.int hi), .val (.int vv), .val (.int (0 : Int32)), .val (.ref b3), .val (.ref b6), .val (.ref b9), .val (.ref b11), .val (.ref b14), .val (.ref tn16), .val (.ref tn16), .val (.int (1 : Int32)), .val (.ref tn36), .unset] [(.ref tn36)])) (fun _ k => st38 _ k) ?_
    clear st38
    refine own_goW (T' := T38) (g' := (mkF m 302 #[.val (.int i0), .val (.int i1), .val (.int i2), .val (.int i3), .val (.int zz1), .val (.int hi), .val (.int vv), .val (.int (0 : Int32)), .val (.ref b3), .val (.ref b6), .val (.ref b9), .val (.ref b11), .val (.ref b14), .val (.ref tn16), .val (.ref tn16), .val (.int (1 : Int32)), .val (.ref tn36), .val (.ref tn36)] [])) (fun _ k => XS.astore X38.here hx rfl (hb hby at_300) rfl rfl (l' := #[.val (.int i0), .val (.int i1), .val (.int i2), .val (.int i3), .val (.int zz1), .val (.int hi), .val (.int vv), .val (.int (0 : Int32)), .val (.ref b3), .val (.ref b6), .val (.ref b9), .val (.ref b11), .val (.ref b14), .val (.ref tn16), .val (.ref tn16), .val (.int (1 : Int32)), .val (.ref tn36), .val (.ref tn36)]) rfl k) ?_
    refine own_goW (T' := T38) (g' := (mkF m 304 #[.val (.int i0), .val (.int i1), .val (.int i2), .val (.int i3), .val (.int zz1), .val (.int hi), .val (.int vv), .val (.int (0 : Int32)), .val (.ref b3), .val (.ref b6), .val (.ref b9), .val (.ref b11), .val (.ref b14), .val (.ref tn16), .val (.ref tn16), .val (.int (1 : Int32)), .val (.ref tn36), .val (.ref tn36)] [(.ref tn36)])) (fun _ k => XS.aload X38.here hx rfl (hb hby at_302) rfl rfl k) ?_
    obtain ⟨cq39, kq39, q39a, q39b, q39c⟩ := isOf hZ e38 E_tn36
    clear q39b
    obtain ⟨_, _, ⟨T39, L39, k39, n39⟩, -, X39, ⟨Lc39, hQ39, l39, y39, z39⟩, st39⟩ := X38.virtualBack hx (y := (⟨"com/example/ordence/ordence/Formula$Table", "supports", "()Z"⟩ : MethodName)) (z := (⟨"com/example/ordence/ordence/Formula$Table", "supports", "()Z"⟩ : MethodName)) hown (mvT hZ (hw _ (List.mem_of_getElem? (i := 140) rfl))) (mvT hZ (hw _ (List.mem_of_getElem? (i := 141) rfl))) (notFace_of_selects (args := #[]) (mvT hZ (hw _ (List.mem_of_getElem? (i := 143) rfl)))) (mvT hZ (hw _ (List.mem_of_getElem? (i := 143) rfl))) (mvT hZ (hw _ (List.mem_of_getElem? (i := 142) rfl))) (by decide) (backOf (W := 0) (own_rm18_0 l Z a0 hw [] tn36 b6 b11 T36.heap n0 Zs F_tn36_variables F_tn36_tuples F_tn36_supports) hZ (hw _ (List.mem_of_getElem? (i := 144) rfl)) (hw _ (List.mem_of_getElem? (i := 116) rfl)) (by decide) (by decide)) q39a q39c (g := (mkF m 304 #[.val (.int i0), .val (.int i1), .val (.int i2), .val (.int i3), .val (.int zz1), .val (.int hi), .val (.int vv), .val (.int (0 : Int32)), .val (.ref b3), .val (.ref b6), .val (.ref b9), .val (.ref b11), .val (.ref b14), .val (.ref tn16), .val (.ref tn16), .val (.int (1 : Int32)), .val (.ref tn36), .val (.ref tn36)] [(.ref tn36)])) rfl (by rw [hml]; rfl) (Steps.refl _) (argsL := []) (rest := []) (lenOf own_pd0_6 rfl) rfl (by show 2 * 0 + _ ≤ _; exact Nat.le_of_eq rfl) (hb hby at_304) (fun _ _ => ⟨rfl, e38, (by decide : 15 + 0 ≤ _), (by decide : 54 + 0 ≤ _)⟩)
    dsimp only [Pt.U, Pt.locs, Pt.cells, Pt.slots] at X39 l39 y39 z39 st39 hQ39
    subst l39 y39 z39
    clear F_tn36_supports X38 e38 q39a q39c
    obtain ⟨rfl, NQ39, eq39⟩ := hQ39
    replace NF := Fr.app NF NQ39
    clear NQ39
    obtain ⟨lc39, Y39, NG39⟩ := own_lo X39 NF
    clear X39
    replace NF := NG39
    clear NG39
    refine own_goW (T' := T39) (g' := (mkF m 307 #[.val (.int i0), .val (.int i1), .val (.int i2), .val (.int i3), .val (.int zz1), .val (.int hi), .val (.int vv), .val (.int (0 : Int32)), .val (.ref b3), .val (.ref b6), .val (.ref b9), .val (.ref b11), .val (.ref b14), .val (.ref tn16), .val (.ref tn16), .val (.int (1 : Int32)), .val (.ref tn36), .val (.ref tn36)] [(.int (0 : Int32))])) (fun _ k => st39.trans k) ?_
    clear st39
    refine own_goW (T' := T39) (g' := (mkF m 309 #[.val (.int i0), .val (.int i1), .val (.int i2), .val (.int i3), .val (.int zz1), .val (.int hi), .val (.int vv), .val (.int (0 : Int32)), .val (.ref b3), .val (.ref b6), .val (.ref b9), .val (.ref b11), .val (.ref b14), .val (.ref tn16), .val (.ref tn16), .val (.int (1 : Int32)), .val (.ref tn36), .val (.ref tn36)] [(.int (0 : Int32)), (.int (0 : Int32))])) (fun _ k => XS.iload Y39.here hx rfl (hb hby at_307) rfl k) ?_
    refine own_goW (T' := T39) (g' := (mkF m 312 #[.val (.int i0), .val (.int i1), .val (.int i2), .val (.int i3), .val (.int zz1), .val (.int hi), .val (.int vv), .val (.int (0 : Int32)), .val (.ref b3), .val (.ref b6), .val (.ref b9), .val (.ref b11), .val (.ref b14), .val (.ref tn16), .val (.ref tn16), .val (.int (1 : Int32)), .val (.ref tn36), .val (.ref tn36)] [])) (fun _ k => XS.icmpNo Y39.here hx rfl (hb hby at_309) rfl (by decide) k) ?_
    refine own_goW (T' := T39) (g' := (mkF m 314 #[.val (.int i0), .val (.int i1), .val (.int i2), .val (.int i3), .val (.int zz1), .val (.int hi), .val (.int vv), .val (.int (0 : Int32)), .val (.ref b3), .val (.ref b6), .val (.ref b9), .val (.ref b11), .val (.ref b14), .val (.ref tn16), .val (.ref tn16), .val (.int (1 : Int32)), .val (.ref tn36), .val (.ref tn36)] [(.ref tn36)])) (fun _ k => XS.aload Y39.here hx rfl (hb hby at_312) rfl rfl k) ?_
    obtain ⟨cq40, kq40, q40a, q40b, q40c⟩ := isOf hZ eq39 E_tn36
    clear q40b
    obtain ⟨_, _, ⟨T40, L40, k40, n40⟩, -, X40, ⟨Lc40, hQ40, l40, y40, z40⟩, st40⟩ := Y39.virtualBack hx (y := (⟨"com/example/ordence/ordence/Formula$Table", "variables", "()Ljava/util/List;"⟩ : MethodName)) (z := (⟨"com/example/ordence/ordence/Formula$Table", "variables", "()Ljava/util/List;"⟩ : MethodName)) hown (mvT hZ (hw _ (List.mem_of_getElem? (i := 145) rfl))) (mvT hZ (hw _ (List.mem_of_getElem? (i := 146) rfl))) (notFace_of_selects (args := #[]) (mvT hZ (hw _ (List.mem_of_getElem? (i := 148) rfl)))) (mvT hZ (hw _ (List.mem_of_getElem? (i := 148) rfl))) (mvT hZ (hw _ (List.mem_of_getElem? (i := 147) rfl))) (by decide) (backOf (W := 0) (own_rm20 l Z a0 hw [] tn36 b6 T36.heap n0 Zs F_tn36_variables) hZ (hw _ (List.mem_of_getElem? (i := 149) rfl)) (hw _ (List.mem_of_getElem? (i := 116) rfl)) (by decide) (by decide)) q40a q40c (g := (mkF m 314 #[.val (.int i0), .val (.int i1), .val (.int i2), .val (.int i3), .val (.int zz1), .val (.int hi), .val (.int vv), .val (.int (0 : Int32)), .val (.ref b3), .val (.ref b6), .val (.ref b9), .val (.ref b11), .val (.ref b14), .val (.ref tn16), .val (.ref tn16), .val (.int (1 : Int32)), .val (.ref tn36), .val (.ref tn36)] [(.ref tn36)])) rfl (by rw [hml]; rfl) (Steps.refl _) (argsL := []) (rest := []) (lenOf own_pd0_7 rfl) rfl (by show 2 * 0 + _ ≤ _; exact Nat.le_of_eq rfl) (hb hby at_314) (fun _ _ => ⟨rfl, eq39, (by decide : 15 + 0 ≤ _), (by decide : 54 + 0 ≤ _)⟩)
    dsimp only [Pt.U, Pt.locs, Pt.cells, Pt.slots] at X40 l40 y40 z40 st40 hQ40
    subst l40 y40 z40
    clear Y39 eq39 q40a q40c
    obtain ⟨rfl, NQ40, eq40⟩ := hQ40
    replace NF := Fr.app NF NQ40
    clear NQ40
    obtain ⟨lc40, Y40, NG40⟩ := own_lo X40 NF
    clear X40
    replace NF := NG40
    clear NG40
    refine own_goW (T' := T40) (g' := (mkF m 317 #[.val (.int i0), .val (.int i1), .val (.int i2), .val (.int i3), .val (.int zz1), .val (.int hi), .val (.int vv), .val (.int (0 : Int32)), .val (.ref b3), .val (.ref b6), .val (.ref b9), .val (.ref b11), .val (.ref b14), .val (.ref tn16), .val (.ref tn16), .val (.int (1 : Int32)), .val (.ref tn36), .val (.ref tn36)] [(.ref b6)])) (fun _ k => st40.trans k) ?_
    clear st40
    obtain ⟨cq41, kq41, q41a, q41b, q41c⟩ := isOf hZ eq40 E_b6
    obtain ⟨_, _, ⟨T41, L41, k41, n41⟩, -, X41, ⟨Lc41, hQ41, l41, y41, z41⟩, st41⟩ := Y40.interfaceBack hx (xi := (⟨"java/util/List", "size", "()I"⟩ : MethodName)) (y := (⟨"java/util/ArrayList", "size", "()I"⟩ : MethodName)) hown (mvT hZ (hw _ (List.mem_of_getElem? (i := 150) rfl))) (mvT hZ (hw _ (List.mem_of_getElem? (i := 151) rfl))) (mvT hZ (hw _ (List.mem_of_getElem? (i := 152) rfl))) (mvT hZ (hw _ (List.mem_of_getElem? (i := 153) rfl))) (mvT hZ (hw _ (List.mem_of_getElem? (i := 154) rfl))) (mvT hZ (hw _ (List.mem_of_getElem? (i := 155) rfl))) (mvT hZ (hw _ (List.mem_of_getElem? (i := 156) rfl))) (mvT hZ (hw _ (List.mem_of_getElem? (i := 86) rfl))) (by decide) (backOf (W := 0) (own_rm21 l Z a0 hw [] b6 (1 : Int32) T36.heap n0 Zs F_b6_size) hZ (hw _ (List.mem_of_getElem? (i := 157) rfl)) (hw _ (List.mem_of_getElem? (i := 57) rfl)) (by decide) (by decide)) q41a q41b q41c (g := (mkF m 317 #[.val (.int i0), .val (.int i1), .val (.int i2), .val (.int i3), .val (.int zz1), .val (.int hi), .val (.int vv), .val (.int (0 : Int32)), .val (.ref b3), .val (.ref b6), .val (.ref b9), .val (.ref b11), .val (.ref b14), .val (.ref tn16), .val (.ref tn16), .val (.int (1 : Int32)), .val (.ref tn36), .val (.ref tn36)] [(.ref b6)])) rfl (by rw [hml]; rfl) (Steps.refl _) (argsL := []) (rest := []) (lenOf own_pd0_8 rfl) rfl (by show 2 * 0 + _ ≤ _; exact Nat.le_of_eq rfl) (hb hby at_317) (fun _ _ => ⟨rfl, eq40, (by decide : 15 + 0 ≤ _), (by decide : 54 + 0 ≤ _)⟩)
    dsimp only [Pt.U, Pt.locs, Pt.cells, Pt.slots] at X41 l41 y41 z41 st41 hQ41
    subst l41 y41 z41
    clear Y40 eq40 q41a q41b q41c
    obtain ⟨rfl, NQ41, eq41⟩ := hQ41
    replace NF := Fr.app NF NQ41
    clear NQ41
    obtain ⟨lc41, Y41, NG41⟩ := own_lo X41 NF
    clear X41
    replace NF := NG41
    clear NG41
    refine own_goW (T' := T41) (g' := (mkF m 322 #[.val (.int i0), .val (.int i1), .val (.int i2), .val (.int i3), .val (.int zz1), .val (.int hi), .val (.int vv), .val (.int (0 : Int32)), .val (.ref b3), .val (.ref b6), .val (.ref b9), .val (.ref b11), .val (.ref b14), .val (.ref tn16), .val (.ref tn16), .val (.int (1 : Int32)), .val (.ref tn36), .val (.ref tn36)] [(.int (1 : Int32))])) (fun _ k => st41.trans k) ?_
    clear st41
    refine own_goW (T' := T41) (g' := (mkF m 323 #[.val (.int i0), .val (.int i1), .val (.int i2), .val (.int i3), .val (.int zz1), .val (.int hi), .val (.int vv), .val (.int (0 : Int32)), .val (.ref b3), .val (.ref b6), .val (.ref b9), .val (.ref b11), .val (.ref b14), .val (.ref tn16), .val (.ref tn16), .val (.int (1 : Int32)), .val (.ref tn36), .val (.ref tn36)] [(.int (1 : Int32)), (.int (1 : Int32))])) (fun _ k => XS.iconst Y41.here hx rfl (hb hby at_322) k) ?_
    refine own_goW (T' := T41) (g' := (mkF m 326 #[.val (.int i0), .val (.int i1), .val (.int i2), .val (.int i3), .val (.int zz1), .val (.int hi), .val (.int vv), .val (.int (0 : Int32)), .val (.ref b3), .val (.ref b6), .val (.ref b9), .val (.ref b11), .val (.ref b14), .val (.ref tn16), .val (.ref tn16), .val (.int (1 : Int32)), .val (.ref tn36), .val (.ref tn36)] [])) (fun _ k => XS.icmpNo Y41.here hx rfl (hb hby at_323) rfl (by decide) k) ?_
    refine own_goW (T' := T41) (g' := (mkF m 328 #[.val (.int i0), .val (.int i1), .val (.int i2), .val (.int i3), .val (.int zz1), .val (.int hi), .val (.int vv), .val (.int (0 : Int32)), .val (.ref b3), .val (.ref b6), .val (.ref b9), .val (.ref b11), .val (.ref b14), .val (.ref tn16), .val (.ref tn16), .val (.int (1 : Int32)), .val (.ref tn36), .val (.ref tn36)] [(.ref tn36)])) (fun _ k => XS.aload Y41.here hx rfl (hb hby at_326) rfl rfl k) ?_
    obtain ⟨cq42, kq42, q42a, q42b, q42c⟩ := isOf hZ eq41 E_tn36
    clear q42b
    obtain ⟨_, _, ⟨T42, L42, k42, n42⟩, -, X42, ⟨Lc42, hQ42, l42, y42, z42⟩, st42⟩ := Y41.virtualBack hx (y := (⟨"com/example/ordence/ordence/Formula$Table", "variables", "()Ljava/util/List;"⟩ : MethodName)) (z := (⟨"com/example/ordence/ordence/Formula$Table", "variables", "()Ljava/util/List;"⟩ : MethodName)) hown (mvT hZ (hw _ (List.mem_of_getElem? (i := 145) rfl))) (mvT hZ (hw _ (List.mem_of_getElem? (i := 146) rfl))) (notFace_of_selects (args := #[]) (mvT hZ (hw _ (List.mem_of_getElem? (i := 148) rfl)))) (mvT hZ (hw _ (List.mem_of_getElem? (i := 148) rfl))) (mvT hZ (hw _ (List.mem_of_getElem? (i := 147) rfl))) (by decide) (backOf (W := 0) (own_rm20 l Z a0 hw [] tn36 b6 T36.heap n0 Zs F_tn36_variables) hZ (hw _ (List.mem_of_getElem? (i := 149) rfl)) (hw _ (List.mem_of_getElem? (i := 116) rfl)) (by decide) (by decide)) q42a q42c (g := (mkF m 328 #[.val (.int i0), .val (.int i1), .val (.int i2), .val (.int i3), .val (.int zz1), .val (.int hi), .val (.int vv), .val (.int (0 : Int32)), .val (.ref b3), .val (.ref b6), .val (.ref b9), .val (.ref b11), .val (.ref b14), .val (.ref tn16), .val (.ref tn16), .val (.int (1 : Int32)), .val (.ref tn36), .val (.ref tn36)] [(.ref tn36)])) rfl (by rw [hml]; rfl) (Steps.refl _) (argsL := []) (rest := []) (lenOf own_pd0_7 rfl) rfl (by show 2 * 0 + _ ≤ _; exact Nat.le_of_eq rfl) (hb hby at_328) (fun _ _ => ⟨rfl, eq41, (by decide : 15 + 0 ≤ _), (by decide : 54 + 0 ≤ _)⟩)
    dsimp only [Pt.U, Pt.locs, Pt.cells, Pt.slots] at X42 l42 y42 z42 st42 hQ42
    subst l42 y42 z42
    clear F_tn36_variables Y41 eq41 q42a q42c
    obtain ⟨rfl, NQ42, eq42⟩ := hQ42
    replace NF := Fr.app NF NQ42
    clear NQ42
    obtain ⟨lc42, Y42, NG42⟩ := own_lo X42 NF
    clear X42
    replace NF := NG42
    clear NG42
    refine own_goW (T' := T42) (g' := (mkF m 331 #[.val (.int i0), .val (.int i1), .val (.int i2), .val (.int i3), .val (.int zz1), .val (.int hi), .val (.int vv), .val (.int (0 : Int32)), .val (.ref b3), .val (.ref b6), .val (.ref b9), .val (.ref b11), .val (.ref b14), .val (.ref tn16), .val (.ref tn16), .val (.int (1 : Int32)), .val (.ref tn36), .val (.ref tn36)] [(.ref b6)])) (fun _ k => st42.trans k) ?_
    clear st42
    refine own_goW (T' := T42) (g' := (mkF m 332 #[.val (.int i0), .val (.int i1), .val (.int i2), .val (.int i3), .val (.int zz1), .val (.int hi), .val (.int vv), .val (.int (0 : Int32)), .val (.ref b3), .val (.ref b6), .val (.ref b9), .val (.ref b11), .val (.ref b14), .val (.ref tn16), .val (.ref tn16), .val (.int (1 : Int32)), .val (.ref tn36), .val (.ref tn36)] [(.int (0 : Int32)), (.ref b6)])) (fun _ k => XS.iconst Y42.here hx rfl (hb hby at_331) k) ?_
    obtain ⟨cq43, kq43, q43a, q43b, q43c⟩ := isOf hZ eq42 E_b6
    obtain ⟨_, _, ⟨T43, L43, k43, n43⟩, -, X43, ⟨Lc43, hQ43, l43, y43, z43⟩, st43⟩ := Y42.interfaceBack hx (xi := (⟨"java/util/List", "get", "(I)Ljava/lang/Object;"⟩ : MethodName)) (y := (⟨"java/util/ArrayList", "get", "(I)Ljava/lang/Object;"⟩ : MethodName)) hown (mvT hZ (hw _ (List.mem_of_getElem? (i := 158) rfl))) (mvT hZ (hw _ (List.mem_of_getElem? (i := 159) rfl))) (mvT hZ (hw _ (List.mem_of_getElem? (i := 160) rfl))) (mvT hZ (hw _ (List.mem_of_getElem? (i := 161) rfl))) (mvT hZ (hw _ (List.mem_of_getElem? (i := 162) rfl))) (mvT hZ (hw _ (List.mem_of_getElem? (i := 163) rfl))) (mvT hZ (hw _ (List.mem_of_getElem? (i := 164) rfl))) (mvT hZ (hw _ (List.mem_of_getElem? (i := 86) rfl))) (by decide) (backOf (W := 0) (own_rm22 l Z a0 hw [] b6 nb8 knb8 b3 T36.heap n0 Zs F_b6_elementData V_nb8 F_b6_size E_b6) hZ (hw _ (List.mem_of_getElem? (i := 165) rfl)) (hw _ (List.mem_of_getElem? (i := 57) rfl)) (by decide) (by decide)) q43a q43b q43c (g := (mkF m 332 #[.val (.int i0), .val (.int i1), .val (.int i2), .val (.int i3), .val (.int zz1), .val (.int hi), .val (.int vv), .val (.int (0 : Int32)), .val (.ref b3), .val (.ref b6), .val (.ref b9), .val (.ref b11), .val (.ref b14), .val (.ref tn16), .val (.ref tn16), .val (.int (1 : Int32)), .val (.ref tn36), .val (.ref tn36)] [(.int (0 : Int32)), (.ref b6)])) rfl (by rw [hml]; rfl) (Steps.refl _) (argsL := [(.int (0 : Int32))]) (rest := []) (lenOf own_pd0_9 rfl) rfl (by show 2 * 0 + _ ≤ _; exact Nat.le_of_eq rfl) (hb hby at_332) (fun _ _ => ⟨rfl, eq42, (by decide : 15 + 0 ≤ _), (by decide : 54 + 0 ≤ _)⟩)
    dsimp only [Pt.U, Pt.locs, Pt.cells, Pt.slots] at X43 l43 y43 z43 st43 hQ43
    subst l43 y43 z43
    clear E_b6 F_b6_elementData F_b6_size V_nb8 Y42 eq42 q43a q43b q43c
    obtain ⟨rfl, NQ43, eq43⟩ := hQ43
    replace NF := Fr.app NF NQ43
    clear NQ43
    obtain ⟨lc43, Y43, NG43⟩ := own_lo X43 NF
    clear X43
    replace NF := NG43
    clear NG43
    refine own_goW (T' := T43) (g' := (mkF m 337 #[.val (.int i0), .val (.int i1), .val (.int i2), .val (.int i3), .val (.int zz1), .val (.int hi), .val (.int vv), .val (.int (0 : Int32)), .val (.ref b3), .val (.ref b6), .val (.ref b9), .val (.ref b11), .val (.ref b14), .val (.ref tn16), .val (.ref tn16), .val (.int (1 : Int32)), .val (.ref tn36), .val (.ref tn36)] [(.ref b3)])) (fun _ k => st43.trans k) ?_
    clear st43
    refine own_goW (T' := T43) (g' := (mkF m 339 #[.val (.int i0), .val (.int i1), .val (.int i2), .val (.int i3), .val (.int zz1), .val (.int hi), .val (.int vv), .val (.int (0 : Int32)), .val (.ref b3), .val (.ref b6), .val (.ref b9), .val (.ref b11), .val (.ref b14), .val (.ref tn16), .val (.ref tn16), .val (.int (1 : Int32)), .val (.ref tn36), .val (.ref tn36)] [(.ref b3), (.ref b3)])) (fun _ k => XS.aload Y43.here hx rfl (hb hby at_337) rfl rfl k) ?_
    refine own_goW (T' := T43) (g' := (mkF m 342 #[.val (.int i0), .val (.int i1), .val (.int i2), .val (.int i3), .val (.int zz1), .val (.int hi), .val (.int vv), .val (.int (0 : Int32)), .val (.ref b3), .val (.ref b6), .val (.ref b9), .val (.ref b11), .val (.ref b14), .val (.ref tn16), .val (.ref tn16), .val (.int (1 : Int32)), .val (.ref tn36), .val (.ref tn36)] [])) (fun _ k => Jvm.RoadKit.acmp (g := (mkF m 339 #[.val (.int i0), .val (.int i1), .val (.int i2), .val (.int i3), .val (.int zz1), .val (.int hi), .val (.int vv), .val (.int (0 : Int32)), .val (.ref b3), .val (.ref b6), .val (.ref b9), .val (.ref b11), .val (.ref b14), .val (.ref tn16), .val (.ref tn16), .val (.int (1 : Int32)), .val (.ref tn36), .val (.ref tn36)] [(.ref b3), (.ref b3)])) Y43 hx rfl rfl rfl (pc0 := 339) (pc' := 342) (same := true) rfl (hb hby at_339) rfl (decide_eq_true rfl) (by decide) (by decide) k) ?_
    refine own_goW (T' := T43) (g' := (mkF m 344 #[.val (.int i0), .val (.int i1), .val (.int i2), .val (.int i3), .val (.int zz1), .val (.int hi), .val (.int vv), .val (.int (0 : Int32)), .val (.ref b3), .val (.ref b6), .val (.ref b9), .val (.ref b11), .val (.ref b14), .val (.ref tn16), .val (.ref tn16), .val (.int (1 : Int32)), .val (.ref tn36), .val (.ref tn36)] [(.ref tn36)])) (fun _ k => XS.aload Y43.here hx rfl (hb hby at_342) rfl rfl k) ?_
    obtain ⟨cq45, kq45, q45a, q45b, q45c⟩ := isOf hZ eq43 E_tn36
    clear q45b
    obtain ⟨_, _, ⟨T45, L45, k45, n45⟩, -, X45, ⟨Lc45, hQ45, l45, y45, z45⟩, st45⟩ := Y43.virtualBack hx (y := (⟨"com/example/ordence/ordence/Formula$Table", "tuples", "()Ljava/util/List;"⟩ : MethodName)) (z := (⟨"com/example/ordence/ordence/Formula$Table", "tuples", "()Ljava/util/List;"⟩ : MethodName)) hown (mvT hZ (hw _ (List.mem_of_getElem? (i := 179) rfl))) (mvT hZ (hw _ (List.mem_of_getElem? (i := 180) rfl))) (notFace_of_selects (args := #[]) (mvT hZ (hw _ (List.mem_of_getElem? (i := 182) rfl)))) (mvT hZ (hw _ (List.mem_of_getElem? (i := 182) rfl))) (mvT hZ (hw _ (List.mem_of_getElem? (i := 181) rfl))) (by decide) (backOf (W := 0) (own_rm26 l Z a0 hw [] tn36 b11 T36.heap n0 Zs F_tn36_tuples) hZ (hw _ (List.mem_of_getElem? (i := 183) rfl)) (hw _ (List.mem_of_getElem? (i := 116) rfl)) (by decide) (by decide)) q45a q45c (g := (mkF m 344 #[.val (.int i0), .val (.int i1), .val (.int i2), .val (.int i3), .val (.int zz1), .val (.int hi), .val (.int vv), .val (.int (0 : Int32)), .val (.ref b3), .val (.ref b6), .val (.ref b9), .val (.ref b11), .val (.ref b14), .val (.ref tn16), .val (.ref tn16), .val (.int (1 : Int32)), .val (.ref tn36), .val (.ref tn36)] [(.ref tn36)])) rfl (by rw [hml]; rfl) (Steps.refl _) (argsL := []) (rest := []) (lenOf own_pd0_7 rfl) rfl (by show 2 * 0 + _ ≤ _; exact Nat.le_of_eq rfl) (hb hby at_344) (fun _ _ => ⟨rfl, eq43, (by decide : 15 + 0 ≤ _), (by decide : 54 + 0 ≤ _)⟩)
    dsimp only [Pt.U, Pt.locs, Pt.cells, Pt.slots] at X45 l45 y45 z45 st45 hQ45
    subst l45 y45 z45
    clear Y43 eq43 q45a q45c
    obtain ⟨rfl, NQ45, eq45⟩ := hQ45
    replace NF := Fr.app NF NQ45
    clear NQ45
    obtain ⟨lc45, Y45, NG45⟩ := own_lo X45 NF
    clear X45
    replace NF := NG45
    clear NG45
    refine own_goW (T' := T45) (g' := (mkF m 347 #[.val (.int i0), .val (.int i1), .val (.int i2), .val (.int i3), .val (.int zz1), .val (.int hi), .val (.int vv), .val (.int (0 : Int32)), .val (.ref b3), .val (.ref b6), .val (.ref b9), .val (.ref b11), .val (.ref b14), .val (.ref tn16), .val (.ref tn16), .val (.int (1 : Int32)), .val (.ref tn36), .val (.ref tn36)] [(.ref b11)])) (fun _ k => st45.trans k) ?_
    clear st45
    obtain ⟨cq46, kq46, q46a, q46b, q46c⟩ := isOf hZ eq45 E_b11
    obtain ⟨_, _, ⟨T46, L46, k46, n46⟩, -, X46, ⟨Lc46, hQ46, l46, y46, z46⟩, st46⟩ := Y45.interfaceBack hx (xi := (⟨"java/util/List", "size", "()I"⟩ : MethodName)) (y := (⟨"java/util/ArrayList", "size", "()I"⟩ : MethodName)) hown (mvT hZ (hw _ (List.mem_of_getElem? (i := 150) rfl))) (mvT hZ (hw _ (List.mem_of_getElem? (i := 151) rfl))) (mvT hZ (hw _ (List.mem_of_getElem? (i := 152) rfl))) (mvT hZ (hw _ (List.mem_of_getElem? (i := 153) rfl))) (mvT hZ (hw _ (List.mem_of_getElem? (i := 154) rfl))) (mvT hZ (hw _ (List.mem_of_getElem? (i := 155) rfl))) (mvT hZ (hw _ (List.mem_of_getElem? (i := 156) rfl))) (mvT hZ (hw _ (List.mem_of_getElem? (i := 86) rfl))) (by decide) (backOf (W := 0) (own_rm21 l Z a0 hw [] b11 (1 : Int32) T36.heap n0 Zs F_b11_size) hZ (hw _ (List.mem_of_getElem? (i := 157) rfl)) (hw _ (List.mem_of_getElem? (i := 57) rfl)) (by decide) (by decide)) q46a q46b q46c (g := (mkF m 347 #[.val (.int i0), .val (.int i1), .val (.int i2), .val (.int i3), .val (.int zz1), .val (.int hi), .val (.int vv), .val (.int (0 : Int32)), .val (.ref b3), .val (.ref b6), .val (.ref b9), .val (.ref b11), .val (.ref b14), .val (.ref tn16), .val (.ref tn16), .val (.int (1 : Int32)), .val (.ref tn36), .val (.ref tn36)] [(.ref b11)])) rfl (by rw [hml]; rfl) (Steps.refl _) (argsL := []) (rest := []) (lenOf own_pd0_8 rfl) rfl (by show 2 * 0 + _ ≤ _; exact Nat.le_of_eq rfl) (hb hby at_347) (fun _ _ => ⟨rfl, eq45, (by decide : 15 + 0 ≤ _), (by decide : 54 + 0 ≤ _)⟩)
    dsimp only [Pt.U, Pt.locs, Pt.cells, Pt.slots] at X46 l46 y46 z46 st46 hQ46
    subst l46 y46 z46
    clear Y45 eq45 q46a q46b q46c
    obtain ⟨rfl, NQ46, eq46⟩ := hQ46
    replace NF := Fr.app NF NQ46
    clear NQ46
    obtain ⟨lc46, Y46, NG46⟩ := own_lo X46 NF
    clear X46
    replace NF := NG46
    clear NG46
    refine own_goW (T' := T46) (g' := (mkF m 352 #[.val (.int i0), .val (.int i1), .val (.int i2), .val (.int i3), .val (.int zz1), .val (.int hi), .val (.int vv), .val (.int (0 : Int32)), .val (.ref b3), .val (.ref b6), .val (.ref b9), .val (.ref b11), .val (.ref b14), .val (.ref tn16), .val (.ref tn16), .val (.int (1 : Int32)), .val (.ref tn36), .val (.ref tn36)] [(.int (1 : Int32))])) (fun _ k => st46.trans k) ?_
    clear st46
    refine own_goW (T' := T46) (g' := (mkF m 353 #[.val (.int i0), .val (.int i1), .val (.int i2), .val (.int i3), .val (.int zz1), .val (.int hi), .val (.int vv), .val (.int (0 : Int32)), .val (.ref b3), .val (.ref b6), .val (.ref b9), .val (.ref b11), .val (.ref b14), .val (.ref tn16), .val (.ref tn16), .val (.int (1 : Int32)), .val (.ref tn36), .val (.ref tn36)] [(.int (1 : Int32)), (.int (1 : Int32))])) (fun _ k => XS.iconst Y46.here hx rfl (hb hby at_352) k) ?_
    refine own_goW (T' := T46) (g' := (mkF m 356 #[.val (.int i0), .val (.int i1), .val (.int i2), .val (.int i3), .val (.int zz1), .val (.int hi), .val (.int vv), .val (.int (0 : Int32)), .val (.ref b3), .val (.ref b6), .val (.ref b9), .val (.ref b11), .val (.ref b14), .val (.ref tn16), .val (.ref tn16), .val (.int (1 : Int32)), .val (.ref tn36), .val (.ref tn36)] [])) (fun _ k => XS.icmpNo Y46.here hx rfl (hb hby at_353) rfl (by decide) k) ?_
    refine own_goW (T' := T46) (g' := (mkF m 358 #[.val (.int i0), .val (.int i1), .val (.int i2), .val (.int i3), .val (.int zz1), .val (.int hi), .val (.int vv), .val (.int (0 : Int32)), .val (.ref b3), .val (.ref b6), .val (.ref b9), .val (.ref b11), .val (.ref b14), .val (.ref tn16), .val (.ref tn16), .val (.int (1 : Int32)), .val (.ref tn36), .val (.ref tn36)] [(.ref tn36)])) (fun _ k => XS.aload Y46.here hx rfl (hb hby at_356) rfl rfl k) ?_
    obtain ⟨cq47, kq47, q47a, q47b, q47c⟩ := isOf hZ eq46 E_tn36
    clear E_tn36 q47b
    obtain ⟨_, _, ⟨T47, L47, k47, n47⟩, -, X47, ⟨Lc47, hQ47, l47, y47, z47⟩, st47⟩ := Y46.virtualBack hx (y := (⟨"com/example/ordence/ordence/Formula$Table", "tuples", "()Ljava/util/List;"⟩ : MethodName)) (z := (⟨"com/example/ordence/ordence/Formula$Table", "tuples", "()Ljava/util/List;"⟩ : MethodName)) hown (mvT hZ (hw _ (List.mem_of_getElem? (i := 179) rfl))) (mvT hZ (hw _ (List.mem_of_getElem? (i := 180) rfl))) (notFace_of_selects (args := #[]) (mvT hZ (hw _ (List.mem_of_getElem? (i := 182) rfl)))) (mvT hZ (hw _ (List.mem_of_getElem? (i := 182) rfl))) (mvT hZ (hw _ (List.mem_of_getElem? (i := 181) rfl))) (by decide) (backOf (W := 0) (own_rm26 l Z a0 hw [] tn36 b11 T36.heap n0 Zs F_tn36_tuples) hZ (hw _ (List.mem_of_getElem? (i := 183) rfl)) (hw _ (List.mem_of_getElem? (i := 116) rfl)) (by decide) (by decide)) q47a q47c (g := (mkF m 358 #[.val (.int i0), .val (.int i1), .val (.int i2), .val (.int i3), .val (.int zz1), .val (.int hi), .val (.int vv), .val (.int (0 : Int32)), .val (.ref b3), .val (.ref b6), .val (.ref b9), .val (.ref b11), .val (.ref b14), .val (.ref tn16), .val (.ref tn16), .val (.int (1 : Int32)), .val (.ref tn36), .val (.ref tn36)] [(.ref tn36)])) rfl (by rw [hml]; rfl) (Steps.refl _) (argsL := []) (rest := []) (lenOf own_pd0_7 rfl) rfl (by show 2 * 0 + _ ≤ _; exact Nat.le_of_eq rfl) (hb hby at_358) (fun _ _ => ⟨rfl, eq46, (by decide : 15 + 0 ≤ _), (by decide : 54 + 0 ≤ _)⟩)
    dsimp only [Pt.U, Pt.locs, Pt.cells, Pt.slots] at X47 l47 y47 z47 st47 hQ47
    subst l47 y47 z47
    clear F_tn36_tuples Y46 eq46 q47a q47c
    obtain ⟨rfl, NQ47, eq47⟩ := hQ47
    replace NF := Fr.app NF NQ47
    clear NQ47
    obtain ⟨lc47, Y47, NG47⟩ := own_lo X47 NF
    clear X47
    replace NF := NG47
    clear NG47
    refine own_goW (T' := T47) (g' := (mkF m 361 #[.val (.int i0), .val (.int i1), .val (.int i2), .val (.int i3), .val (.int zz1), .val (.int hi), .val (.int vv), .val (.int (0 : Int32)), .val (.ref b3), .val (.ref b6), .val (.ref b9), .val (.ref b11), .val (.ref b14), .val (.ref tn16), .val (.ref tn16), .val (.int (1 : Int32)), .val (.ref tn36), .val (.ref tn36)] [(.ref b11)])) (fun _ k => st47.trans k) ?_
    clear st47
    refine own_goW (T' := T47) (g' := (mkF m 362 #[.val (.int i0), .val (.int i1), .val (.int i2), .val (.int i3), .val (.int zz1), .val (.int hi), .val (.int vv), .val (.int (0 : Int32)), .val (.ref b3), .val (.ref b6), .val (.ref b9), .val (.ref b11), .val (.ref b14), .val (.ref tn16), .val (.ref tn16), .val (.int (1 : Int32)), .val (.ref tn36), .val (.ref tn36)] [(.int (0 : Int32)), (.ref b11)])) (fun _ k => XS.iconst Y47.here hx rfl (hb hby at_361) k) ?_
    obtain ⟨cq48, kq48, q48a, q48b, q48c⟩ := isOf hZ eq47 E_b11
    obtain ⟨_, _, ⟨T48, L48, k48, n48⟩, -, X48, ⟨Lc48, hQ48, l48, y48, z48⟩, st48⟩ := Y47.interfaceBack hx (xi := (⟨"java/util/List", "get", "(I)Ljava/lang/Object;"⟩ : MethodName)) (y := (⟨"java/util/ArrayList", "get", "(I)Ljava/lang/Object;"⟩ : MethodName)) hown (mvT hZ (hw _ (List.mem_of_getElem? (i := 158) rfl))) (mvT hZ (hw _ (List.mem_of_getElem? (i := 159) rfl))) (mvT hZ (hw _ (List.mem_of_getElem? (i := 160) rfl))) (mvT hZ (hw _ (List.mem_of_getElem? (i := 161) rfl))) (mvT hZ (hw _ (List.mem_of_getElem? (i := 162) rfl))) (mvT hZ (hw _ (List.mem_of_getElem? (i := 163) rfl))) (mvT hZ (hw _ (List.mem_of_getElem? (i := 164) rfl))) (mvT hZ (hw _ (List.mem_of_getElem? (i := 86) rfl))) (by decide) (backOf (W := 0) (own_rm22 l Z a0 hw [] b11 nb13 knb13 b9 T36.heap n0 Zs F_b11_elementData V_nb13 F_b11_size E_b11) hZ (hw _ (List.mem_of_getElem? (i := 165) rfl)) (hw _ (List.mem_of_getElem? (i := 57) rfl)) (by decide) (by decide)) q48a q48b q48c (g := (mkF m 362 #[.val (.int i0), .val (.int i1), .val (.int i2), .val (.int i3), .val (.int zz1), .val (.int hi), .val (.int vv), .val (.int (0 : Int32)), .val (.ref b3), .val (.ref b6), .val (.ref b9), .val (.ref b11), .val (.ref b14), .val (.ref tn16), .val (.ref tn16), .val (.int (1 : Int32)), .val (.ref tn36), .val (.ref tn36)] [(.int (0 : Int32)), (.ref b11)])) rfl (by rw [hml]; rfl) (Steps.refl _) (argsL := [(.int (0 : Int32))]) (rest := []) (lenOf own_pd0_9 rfl) rfl (by show 2 * 0 + _ ≤ _; exact Nat.le_of_eq rfl) (hb hby at_362) (fun _ _ => ⟨rfl, eq47, (by decide : 15 + 0 ≤ _), (by decide : 54 + 0 ≤ _)⟩)
    dsimp only [Pt.U, Pt.locs, Pt.cells, Pt.slots] at X48 l48 y48 z48 st48 hQ48
    subst l48 y48 z48
    clear E_b11 F_b11_elementData F_b11_size V_nb13 Y47 eq47 q48a q48b q48c
    obtain ⟨rfl, NQ48, eq48⟩ := hQ48
    replace NF := Fr.app NF NQ48
    clear NQ48
    obtain ⟨lc48, Y48, NG48⟩ := own_lo X48 NF
    clear X48
    replace NF := NG48
    clear NG48
    refine own_goW (T' := T48) (g' := (mkF m 367 #[.val (.int i0), .val (.int i1), .val (.int i2), .val (.int i3), .val (.int zz1), .val (.int hi), .val (.int vv), .val (.int (0 : Int32)), .val (.ref b3), .val (.ref b6), .val (.ref b9), .val (.ref b11), .val (.ref b14), .val (.ref tn16), .val (.ref tn16), .val (.int (1 : Int32)), .val (.ref tn36), .val (.ref tn36)] [(.ref b9)])) (fun _ k => st48.trans k) ?_
    clear st48
    obtain ⟨T49, X49, e49, st49⟩ := castY Y48 hx hZ hown (hw _ (List.mem_of_getElem? (i := 184) rfl)) eq48 (Ins.self E_b9) (g := (mkF m 367 #[.val (.int i0), .val (.int i1), .val (.int i2), .val (.int i3), .val (.int zz1), .val (.int hi), .val (.int vv), .val (.int (0 : Int32)), .val (.ref b3), .val (.ref b6), .val (.ref b9), .val (.ref b11), .val (.ref b14), .val (.ref tn16), .val (.ref tn16), .val (.int (1 : Int32)), .val (.ref tn36), .val (.ref tn36)] [(.ref b9)])) rfl rfl (hb hby at_367)
    clear E_b9 Y48 eq48
    refine own_goW (T' := T49) (g' := (mkF m 370 #[.val (.int i0), .val (.int i1), .val (.int i2), .val (.int i3), .val (.int zz1), .val (.int hi), .val (.int vv), .val (.int (0 : Int32)), .val (.ref b3), .val (.ref b6), .val (.ref b9), .val (.ref b11), .val (.ref b14), .val (.ref tn16), .val (.ref tn16), .val (.int (1 : Int32)), .val (.ref tn36), .val (.ref tn36)] [(.ref b9)])) (fun _ k => st49 _ k) ?_
    clear st49
    refine own_goW (T' := T49) (g' := (mkF m 371 #[.val (.int i0), .val (.int i1), .val (.int i2), .val (.int i3), .val (.int zz1), .val (.int hi), .val (.int vv), .val (.int (0 : Int32)), .val (.ref b3), .val (.ref b6), .val (.ref b9), .val (.ref b11), .val (.ref b14), .val (.ref tn16), .val (.ref tn16), .val (.int (1 : Int32)), .val (.ref tn36), .val (.ref tn36)] [(.int (0 : Int32)), (.ref b9)])) (fun _ k => XS.iconst X49.here hx rfl (hb hby at_370) k) ?_
    obtain ⟨c_50, Ar_50, q_50, S_50, N_50, H_50, G_50⟩ := id V_b9
    clear G_50 N_50 V_b9 q_50
    replace hin_50 : ¬ ((0 : Int32) < 0 ∨ c_50.slots.size ≤ ((0 : Int32)).toNatClampNeg) := inb_of S_50 ⟨by decide, by decide⟩
    clear S_50
    replace hat_50 : c_50.slots[((0 : Int32)).toNatClampNeg]? = some (.int vv) := H_50.at hin_50 rfl
    clear H_50
    refine own_goW (T' := T49) (g' := (mkF m 372 #[.val (.int i0), .val (.int i1), .val (.int i2), .val (.int i3), .val (.int zz1), .val (.int hi), .val (.int vv), .val (.int (0 : Int32)), .val (.ref b3), .val (.ref b6), .val (.ref b9), .val (.ref b11), .val (.ref b14), .val (.ref tn16), .val (.ref tn16), .val (.int (1 : Int32)), .val (.ref tn36), .val (.ref tn36)] [(.int vv)])) (fun _ k => X49.iaload hx (j := (0 : Int32)) (v := (.int vv)) (by rw [e49]; exact Ar_50.1) (State.isArrayOf_alike hZ.alike Ar_50.2.1) Ar_50.2.2 hin_50 hat_50 (g := (mkF m 371 #[.val (.int i0), .val (.int i1), .val (.int i2), .val (.int i3), .val (.int zz1), .val (.int hi), .val (.int vv), .val (.int (0 : Int32)), .val (.ref b3), .val (.ref b6), .val (.ref b9), .val (.ref b11), .val (.ref b14), .val (.ref tn16), .val (.ref tn16), .val (.int (1 : Int32)), .val (.ref tn36), .val (.ref tn36)] [(.int (0 : Int32)), (.ref b9)])) rfl rfl (hb hby at_371) _ k) ?_
    clear Ar_50 hat_50 hin_50
    refine own_goW (T' := T49) (g' := (mkF m 374 #[.val (.int i0), .val (.int i1), .val (.int i2), .val (.int i3), .val (.int zz1), .val (.int hi), .val (.int vv), .val (.int (0 : Int32)), .val (.ref b3), .val (.ref b6), .val (.ref b9), .val (.ref b11), .val (.ref b14), .val (.ref tn16), .val (.ref tn16), .val (.int (1 : Int32)), .val (.ref tn36), .val (.ref tn36)] [(.int vv), (.int vv)])) (fun _ k => XS.iload X49.here hx rfl (hb hby at_372) rfl k) ?_
    refine own_goW (T' := T49) (g' := (mkF m 377 #[.val (.int i0), .val (.int i1), .val (.int i2), .val (.int i3), .val (.int zz1), .val (.int hi), .val (.int vv), .val (.int (0 : Int32)), .val (.ref b3), .val (.ref b6), .val (.ref b9), .val (.ref b11), .val (.ref b14), .val (.ref tn16), .val (.ref tn16), .val (.int (1 : Int32)), .val (.ref tn36), .val (.ref tn36)] [])) (fun _ k => XS.icmpNo X49.here hx rfl (hb hby at_374) rfl (teq (rfl : vv = vv)).2 k) ?_
    refine own_goW (T' := T49) (g' := (mkF m 378 #[.val (.int i0), .val (.int i1), .val (.int i2), .val (.int i3), .val (.int zz1), .val (.int hi), .val (.int vv), .val (.int (0 : Int32)), .val (.ref b3), .val (.ref b6), .val (.ref b9), .val (.ref b11), .val (.ref b14), .val (.ref tn16), .val (.ref tn16), .val (.int (1 : Int32)), .val (.ref tn36), .val (.ref tn36)] [(.int (1 : Int32))])) (fun _ k => XS.iconst X49.here hx rfl (hb hby at_377) k) ?_
    refine own_goW (T' := T49) (g' := (mkF m 382 #[.val (.int i0), .val (.int i1), .val (.int i2), .val (.int i3), .val (.int zz1), .val (.int hi), .val (.int vv), .val (.int (0 : Int32)), .val (.ref b3), .val (.ref b6), .val (.ref b9), .val (.ref b11), .val (.ref b14), .val (.ref tn16), .val (.ref tn16), .val (.int (1 : Int32)), .val (.ref tn36), .val (.ref tn36)] [(.int (1 : Int32))])) (fun _ k => XS.goto X49.here hx rfl (pc0 := 378) (pc' := 382) rfl (hb hby at_378) (by decide) (by decide) k) ?_
    refine own_retW (s := s) (vm₁ := T4.vm) X49 Bd.notSynchronized (some (.int (1 : Int32))) (fun h => by rw [Bd.returns] at h; cases h) (fun fs hr => retN X49 hx (t := .boolean) Bd.returns (by simp) (hb hby at_382) hr) ?_ (by decide) (by decide) hSi (by rw [e49]; exact hKi)
    clear X49
    show (own_Q0 Z i0 i1 i2 i3 de cde h0 n0) (some (.int (1 : Int32))) T49.heap _
    rw [e49]
    clear e49
    exact ⟨rfl, NF⟩
  · refine own_goW (T' := T1) (g' := (mkF m 43 #[.val (.int i0), .val (.int i1), .val (.int i2), .val (.int i3), .val (.int zz1), .val (.int hi), .val (.int vv), .unset, .unset, .unset, .unset, .unset, .unset, .unset, .unset, .unset, .unset, .unset] [])) (fun _ k => XS.ifNo Y1.here hx rfl (hb hby at_40) rfl ((if0 _ _).trans (feq c2).1) k) ?_
    refine own_goW (T' := T1) (g' := (mkF m 44 #[.val (.int i0), .val (.int i1), .val (.int i2), .val (.int i3), .val (.int zz1), .val (.int hi), .val (.int vv), .unset, .unset, .unset, .unset, .unset, .unset, .unset, .unset, .unset, .unset, .unset] [(.int (1 : Int32))])) (fun _ k => XS.iconst Y1.here hx rfl (hb hby at_43) k) ?_
    refine own_goW (T' := T1) (g' := (mkF m 48 #[.val (.int i0), .val (.int i1), .val (.int i2), .val (.int i3), .val (.int zz1), .val (.int hi), .val (.int vv), .unset, .unset, .unset, .unset, .unset, .unset, .unset, .unset, .unset, .unset, .unset] [(.int (1 : Int32))])) (fun _ k => XS.goto Y1.here hx rfl (pc0 := 44) (pc' := 48) rfl (hb hby at_44) (by decide) (by decide) k) ?_
    refine own_goW (T' := T1) (g' := (mkF m 50 #[.val (.int i0), .val (.int i1), .val (.int i2), .val (.int i3), .val (.int zz1), .val (.int hi), .val (.int vv), .val (.int (1 : Int32)), .unset, .unset, .unset, .unset, .unset, .unset, .unset, .unset, .unset, .unset] [])) (fun _ k => XS.istore Y1.here hx rfl (hb hby at_48) rfl (l' := #[.val (.int i0), .val (.int i1), .val (.int i2), .val (.int i3), .val (.int zz1), .val (.int hi), .val (.int vv), .val (.int (1 : Int32)), .unset, .unset, .unset, .unset, .unset, .unset, .unset, .unset, .unset, .unset]) rfl k) ?_
    obtain ⟨T51, h51, X51, e51, E51, A51, D51, -, st51⟩ := newO Y1 hx hZ hown (hw _ (List.mem_of_getElem? (i := 6) rfl)) (hw _ (List.mem_of_getElem? (i := 7) rfl)) (hw _ (List.mem_of_getElem? (i := 8) rfl)) eq1 (g := (mkF m 50 #[.val (.int i0), .val (.int i1), .val (.int i2), .val (.int i3), .val (.int zz1), .val (.int hi), .val (.int vv), .val (.int (1 : Int32)), .unset, .unset, .unset, .unset, .unset, .unset, .unset, .unset, .unset, .unset] [])) rfl (hb hby at_50) (by decide) (by decide)
    clear Y1 eq1
    obtain ⟨b51, g51⟩ : ∃ z, z = h0.size := ⟨_, rfl⟩
    rw [← g51] at A51 D51 st51
    replace g_b51 : n0 ≤ b51 := Nat.le_trans Zs (Nat.le_of_eq g51.symm)
    replace OL := OL.ext E51
    replace hKi := Nat.le_trans hKi E51.1
    replace Zs := Nat.le_trans Zs E51.1
    clear E51
    replace E_b51 := A51
    clear A51
    replace F_b51_name : Fld Z h51 b51 "com/example/ordence/ordence/IntVariable" "name" "Ljava/lang/String;" .null := D51 (Or.inr (hw _ (List.mem_of_getElem? (i := 50) rfl))) (ty := (.object "java/lang/String")) (by decide)
    replace F_b51_domain : Fld Z h51 b51 "com/example/ordence/ordence/IntVariable" "domain" "Lcom/example/ordence/ordence/Domain;" .null := D51 (Or.inr (hw _ (List.mem_of_getElem? (i := 52) rfl))) (ty := (.object "com/example/ordence/ordence/Domain")) (by decide)
    replace F_b51_isBoolean : Fld Z h51 b51 "com/example/ordence/ordence/IntVariable" "isBoolean" "Z" (.int (0 : Int32)) := D51 (Or.inr (hw _ (List.mem_of_getElem? (i := 54) rfl))) (ty := .boolean) (by decide)
    clear D51
    refine own_goW (T' := T51) (g' := (mkF m 53 #[.val (.int i0), .val (.int i1), .val (.int i2), .val (.int i3), .val (.int zz1), .val (.int hi), .val (.int vv), .val (.int (1 : Int32)), .unset, .unset, .unset, .unset, .unset, .unset, .unset, .unset, .unset, .unset] [(.ref b51)])) (fun _ k => st51 _ k) ?_
    clear st51
    refine own_goW (T' := T51) (g' := (mkF m 54 #[.val (.int i0), .val (.int i1), .val (.int i2), .val (.int i3), .val (.int zz1), .val (.int hi), .val (.int vv), .val (.int (1 : Int32)), .unset, .unset, .unset, .unset, .unset, .unset, .unset, .unset, .unset, .unset] [(.ref b51), (.ref b51)])) (fun _ k => XS.dup X51.here hx rfl (hb hby at_53) rfl rfl k) ?_
    obtain ⟨b52, T52, h52, k52, X52, e52, E52, hSi, hKj52, hZ, hown, st52⟩ := ldcS (s := s) (vm0 := s.vm) X51 hx hZ hown (hw _ (List.mem_of_getElem? (i := 9) rfl)) (own_strAtoms Z a0 hw) e51 hSi hKi (g := (mkF m 54 #[.val (.int i0), .val (.int i1), .val (.int i2), .val (.int i3), .val (.int zz1), .val (.int hi), .val (.int vv), .val (.int (1 : Int32)), .unset, .unset, .unset, .unset, .unset, .unset, .unset, .unset, .unset, .unset] [(.ref b51), (.ref b51)])) rfl (hb hby at_54) (n := 4) (by decide) (by decide) (by decide) (by decide)
    clear X51 e51
    replace OL := OL.ext E52
    replace E_b51 := E_b51.ext E52
    replace F_b51_name := F_b51_name.ext E52
    replace F_b51_domain := F_b51_domain.ext E52
    replace F_b51_isBoolean := F_b51_isBoolean.ext E52
    replace hKi := Nat.le_trans hKi E52.1
    replace Zs := Nat.le_trans Zs E52.1
    clear E52
    replace hKi : k52 ≤ h52.size := hKj52
    refine own_goW (T' := T52) (g' := (mkF m 56 #[.val (.int i0), .val (.int i1), .val (.int i2), .val (.int i3), .val (.int zz1), .val (.int hi), .val (.int vv), .val (.int (1 : Int32)), .unset, .unset, .unset, .unset, .unset, .unset, .unset, .unset, .unset, .unset] [(.ref b52), (.ref b51), (.ref b51)])) (fun _ k => st52 _ k) ?_
    clear st52
    refine own_goW (T' := T52) (g' := (mkF m 58 #[.val (.int i0), .val (.int i1), .val (.int i2), .val (.int i3), .val (.int zz1), .val (.int hi), .val (.int vv), .val (.int (1 : Int32)), .unset, .unset, .unset, .unset, .unset, .unset, .unset, .unset, .unset, .unset] [(.int zz1), (.ref b52), (.ref b51), (.ref b51)])) (fun _ k => XS.iload X52.here hx rfl (hb hby at_56) rfl k) ?_
    refine own_goW (T' := T52) (g' := (mkF m 60 #[.val (.int i0), .val (.int i1), .val (.int i2), .val (.int i3), .val (.int zz1), .val (.int hi), .val (.int vv), .val (.int (1 : Int32)), .unset, .unset, .unset, .unset, .unset, .unset, .unset, .unset, .unset, .unset] [(.int hi), (.int zz1), (.ref b52), (.ref b51), (.ref b51)])) (fun _ k => XS.iload X52.here hx rfl (hb hby at_58) rfl k) ?_
    obtain ⟨_, _, ⟨T53, L53, k53, n53⟩, -, X53, ⟨Lc53, hQ53, l53, y53, z53⟩, st53⟩ := X52.specialBack hx (y := (⟨"com/example/ordence/ordence/IntVariable", "<init>", "(Ljava/lang/String;II)V"⟩ : MethodName)) rfl hown (mvT hZ (hw _ (List.mem_of_getElem? (i := 17) rfl))) (mvT hZ (hw _ (List.mem_of_getElem? (i := 18) rfl))) (mvT hZ (hw _ (List.mem_of_getElem? (i := 19) rfl))) (by decide) (backOf (W := 1) (own_rm7 l Z a0 hw [] b51 b52 zz1 hi h52 n0 Zs F_b51_name F_b51_domain F_b51_isBoolean E_b51 g_b51 hc) hZ (hw _ (List.mem_of_getElem? (i := 19) rfl)) (hw _ (List.mem_of_getElem? (i := 8) rfl)) (by decide) (by decide)) (g := (mkF m 60 #[.val (.int i0), .val (.int i1), .val (.int i2), .val (.int i3), .val (.int zz1), .val (.int hi), .val (.int vv), .val (.int (1 : Int32)), .unset, .unset, .unset, .unset, .unset, .unset, .unset, .unset, .unset, .unset] [(.int hi), (.int zz1), (.ref b52), (.ref b51), (.ref b51)])) rfl (by rw [hml]; rfl) (Steps.refl _) (a := b51) (argsL := [(.ref b52), (.int zz1), (.int hi)]) (rest := [(.ref b51)]) (lenOf own_pd0_1 rfl) rfl (by show 2 * 0 + _ ≤ _; exact Nat.le_of_eq rfl) (hb hby at_60) (fun _ _ => ⟨rfl, e52, (by decide : 3 + 4 ≤ _), (by decide : 11 + 7 ≤ _)⟩)
    dsimp only [Pt.U, Pt.locs, Pt.cells, Pt.slots] at X53 l53 y53 z53 st53 hQ53
    subst l53 y53 z53
    clear F_b51_domain F_b51_isBoolean F_b51_name X52 e52
    clear E_b51
    obtain ⟨rfl, NQ53, K53, E_b51⟩ := hQ53
    replace NF := Fr.app NF NQ53
    clear NQ53
    obtain ⟨lc53, Y53, NG53⟩ := own_lo X53 NF
    clear X53
    replace NF := NG53
    clear NG53
    replace OL := OL.keep K53 (allS g_b51 all0)
    clear g_b51
    replace hKi := Nat.le_trans hKi K53.1
    replace Zs := Nat.le_trans Zs K53.1
    clear K53
    refine own_goW (T' := T53) (g' := (mkF m 63 #[.val (.int i0), .val (.int i1), .val (.int i2), .val (.int i3), .val (.int zz1), .val (.int hi), .val (.int vv), .val (.int (1 : Int32)), .unset, .unset, .unset, .unset, .unset, .unset, .unset, .unset, .unset, .unset] [(.ref b51)])) (fun _ k => st53.trans k) ?_
    clear st53
    refine own_goW (T' := T53) (g' := (mkF m 65 #[.val (.int i0), .val (.int i1), .val (.int i2), .val (.int i3), .val (.int zz1), .val (.int hi), .val (.int vv), .val (.int (1 : Int32)), .val (.ref b51), .unset, .unset, .unset, .unset, .unset, .unset, .unset, .unset, .unset] [])) (fun _ k => XS.astore Y53.here hx rfl (hb hby at_63) rfl rfl (l' := #[.val (.int i0), .val (.int i1), .val (.int i2), .val (.int i3), .val (.int zz1), .val (.int hi), .val (.int vv), .val (.int (1 : Int32)), .val (.ref b51), .unset, .unset, .unset, .unset, .unset, .unset, .unset, .unset, .unset]) rfl k) ?_
    obtain ⟨T54, h54, X54, e54, E54, A54, D54, -, st54⟩ := newO Y53 hx hZ hown (hw _ (List.mem_of_getElem? (i := 55) rfl)) (hw _ (List.mem_of_getElem? (i := 56) rfl)) (hw _ (List.mem_of_getElem? (i := 57) rfl)) rfl (g := (mkF m 65 #[.val (.int i0), .val (.int i1), .val (.int i2), .val (.int i3), .val (.int zz1), .val (.int hi), .val (.int vv), .val (.int (1 : Int32)), .val (.ref b51), .unset, .unset, .unset, .unset, .unset, .unset, .unset, .unset, .unset] [])) rfl (hb hby at_65) (by decide) (by decide)
    clear Y53
    obtain ⟨b54, g54⟩ : ∃ z, z = T53.heap.size := ⟨_, rfl⟩
    rw [← g54] at A54 D54 st54
    replace ne_b51_b54 : b51 ≠ b54 := Nat.ne_of_lt (Nat.lt_of_lt_of_le E_b51.lt (Nat.le_of_eq g54.symm))
    replace g_b54 : n0 ≤ b54 := Nat.le_trans Zs (Nat.le_of_eq g54.symm)
    replace OL := OL.ext E54
    replace E_b51 := E_b51.ext E54
    replace hKi := Nat.le_trans hKi E54.1
    replace Zs := Nat.le_trans Zs E54.1
    clear E54
    replace E_b54 := A54
    clear A54
    replace F_b54_modCount : Fld Z h54 b54 "java/util/AbstractList" "modCount" "I" (.int (0 : Int32)) := D54 (Or.inl (hw _ (List.mem_of_getElem? (i := 75) rfl))) (ty := .int) (by decide)
    replace F_b54_elementData : Fld Z h54 b54 "java/util/ArrayList" "elementData" "[Ljava/lang/Object;" .null := D54 (Or.inl (hw _ (List.mem_of_getElem? (i := 78) rfl))) (ty := (.array (.object "java/lang/Object"))) (by decide)
    replace F_b54_size : Fld Z h54 b54 "java/util/ArrayList" "size" "I" (.int (0 : Int32)) := D54 (Or.inl (hw _ (List.mem_of_getElem? (i := 91) rfl))) (ty := .int) (by decide)
    clear D54
    refine own_goW (T' := T54) (g' := (mkF m 68 #[.val (.int i0), .val (.int i1), .val (.int i2), .val (.int i3), .val (.int zz1), .val (.int hi), .val (.int vv), .val (.int (1 : Int32)), .val (.ref b51), .unset, .unset, .unset, .unset, .unset, .unset, .unset, .unset, .unset] [(.ref b54)])) (fun _ k => st54 _ k) ?_
    clear st54
    refine own_goW (T' := T54) (g' := (mkF m 69 #[.val (.int i0), .val (.int i1), .val (.int i2), .val (.int i3), .val (.int zz1), .val (.int hi), .val (.int vv), .val (.int (1 : Int32)), .val (.ref b51), .unset, .unset, .unset, .unset, .unset, .unset, .unset, .unset, .unset] [(.ref b54), (.ref b54)])) (fun _ k => XS.dup X54.here hx rfl (hb hby at_68) rfl rfl k) ?_
    obtain ⟨_, _, ⟨T55, L55, k55, n55⟩, -, X55, ⟨Lc55, hQ55, l55, y55, z55⟩, st55⟩ := X54.specialBack hx (y := (⟨"java/util/ArrayList", "<init>", "()V"⟩ : MethodName)) rfl hown (mvT hZ (hw _ (List.mem_of_getElem? (i := 58) rfl))) (mvT hZ (hw _ (List.mem_of_getElem? (i := 59) rfl))) (mvT hZ (hw _ (List.mem_of_getElem? (i := 60) rfl))) (by decide) (backOf (W := 1) (own_rm10 l Z a0 hw [] b54 de cde h54 n0 Zs F_b54_elementData F_b54_size F_b54_modCount E_b54 g_b54 OL S_de Ar_de Sz_de) hZ (hw _ (List.mem_of_getElem? (i := 60) rfl)) (hw _ (List.mem_of_getElem? (i := 57) rfl)) (by decide) (by decide)) (g := (mkF m 69 #[.val (.int i0), .val (.int i1), .val (.int i2), .val (.int i3), .val (.int zz1), .val (.int hi), .val (.int vv), .val (.int (1 : Int32)), .val (.ref b51), .unset, .unset, .unset, .unset, .unset, .unset, .unset, .unset, .unset] [(.ref b54), (.ref b54)])) rfl (by rw [hml]; rfl) (Steps.refl _) (a := b54) (argsL := []) (rest := [(.ref b54)]) (lenOf own_pd0_2 rfl) rfl (by show 2 * 0 + _ ≤ _; exact Nat.le_of_eq rfl) (hb hby at_69) (fun _ _ => ⟨rfl, e54, (by decide : 8 + 0 ≤ _), (by decide : 21 + 0 ≤ _)⟩)
    dsimp only [Pt.U, Pt.locs, Pt.cells, Pt.slots] at X55 l55 y55 z55 st55 hQ55
    subst l55 y55 z55
    clear X54 e54
    clear E_b54 F_b54_elementData F_b54_modCount F_b54_size
    obtain ⟨rfl, NQ55, K55, E_b54, F_b54_elementData, F_b54_size, F_b54_modCount⟩ := hQ55
    replace NF := Fr.app NF NQ55
    clear NQ55
    obtain ⟨lc55, Y55, NG55⟩ := own_lo X55 NF
    clear X55
    replace NF := NG55
    clear NG55
    replace OL := OL.keep K55 (allS g_b54 all0)
    replace E_b51 := E_b51.keep K55
    replace hKi := Nat.le_trans hKi K55.1
    replace Zs := Nat.le_trans Zs K55.1
    clear K55
    refine own_goW (T' := T55) (g' := (mkF m 72 #[.val (.int i0), .val (.int i1), .val (.int i2), .val (.int i3), .val (.int zz1), .val (.int hi), .val (.int vv), .val (.int (1 : Int32)), .val (.ref b51), .unset, .unset, .unset, .unset, .unset, .unset, .unset, .unset, .unset] [(.ref b54)])) (fun _ k => st55.trans k) ?_
    clear st55
    refine own_goW (T' := T55) (g' := (mkF m 74 #[.val (.int i0), .val (.int i1), .val (.int i2), .val (.int i3), .val (.int zz1), .val (.int hi), .val (.int vv), .val (.int (1 : Int32)), .val (.ref b51), .val (.ref b54), .unset, .unset, .unset, .unset, .unset, .unset, .unset, .unset] [])) (fun _ k => XS.astore Y55.here hx rfl (hb hby at_72) rfl rfl (l' := #[.val (.int i0), .val (.int i1), .val (.int i2), .val (.int i3), .val (.int zz1), .val (.int hi), .val (.int vv), .val (.int (1 : Int32)), .val (.ref b51), .val (.ref b54), .unset, .unset, .unset, .unset, .unset, .unset, .unset, .unset]) rfl k) ?_
    refine own_goW (T' := T55) (g' := (mkF m 76 #[.val (.int i0), .val (.int i1), .val (.int i2), .val (.int i3), .val (.int zz1), .val (.int hi), .val (.int vv), .val (.int (1 : Int32)), .val (.ref b51), .val (.ref b54), .unset, .unset, .unset, .unset, .unset, .unset, .unset, .unset] [(.ref b54)])) (fun _ k => XS.aload Y55.here hx rfl (hb hby at_74) rfl rfl k) ?_
    refine own_goW (T' := T55) (g' := (mkF m 78 #[.val (.int i0), .val (.int i1), .val (.int i2), .val (.int i3), .val (.int zz1), .val (.int hi), .val (.int vv), .val (.int (1 : Int32)), .val (.ref b51), .val (.ref b54), .unset, .unset, .unset, .unset, .unset, .unset, .unset, .unset] [(.ref b51), (.ref b54)])) (fun _ k => XS.aload Y55.here hx rfl (hb hby at_76) rfl rfl k) ?_
    replace lt_b51 := E_b51.lt
    replace lt_b54 := E_b54.lt
    obtain ⟨cq56, kq56, q56a, q56b, q56c⟩ := isOf hZ rfl E_b54
    obtain ⟨_, _, ⟨T56, L56, k56, n56⟩, -, X56, ⟨Lc56, hQ56, l56, y56, z56⟩, st56⟩ := Y55.interfaceBack hx (xi := (⟨"java/util/List", "add", "(Ljava/lang/Object;)Z"⟩ : MethodName)) (y := (⟨"java/util/ArrayList", "add", "(Ljava/lang/Object;)Z"⟩ : MethodName)) hown (mvT hZ (hw _ (List.mem_of_getElem? (i := 79) rfl))) (mvT hZ (hw _ (List.mem_of_getElem? (i := 80) rfl))) (mvT hZ (hw _ (List.mem_of_getElem? (i := 81) rfl))) (mvT hZ (hw _ (List.mem_of_getElem? (i := 82) rfl))) (mvT hZ (hw _ (List.mem_of_getElem? (i := 83) rfl))) (mvT hZ (hw _ (List.mem_of_getElem? (i := 84) rfl))) (mvT hZ (hw _ (List.mem_of_getElem? (i := 85) rfl))) (mvT hZ (hw _ (List.mem_of_getElem? (i := 86) rfl))) (by decide) (backOf (W := 0) (own_rm13 l Z a0 hw [] b54 b51 de cde T55.heap n0 Zs F_b54_elementData F_b54_size F_b54_modCount E_b54 g_b54 E_b51 OL S_de Ar_de Sz_de (Ne.symm ne_b51_b54)) hZ (hw _ (List.mem_of_getElem? (i := 87) rfl)) (hw _ (List.mem_of_getElem? (i := 57) rfl)) (by decide) (by decide)) q56a q56b q56c (g := (mkF m 78 #[.val (.int i0), .val (.int i1), .val (.int i2), .val (.int i3), .val (.int zz1), .val (.int hi), .val (.int vv), .val (.int (1 : Int32)), .val (.ref b51), .val (.ref b54), .unset, .unset, .unset, .unset, .unset, .unset, .unset, .unset] [(.ref b51), (.ref b54)])) rfl (by rw [hml]; rfl) (Steps.refl _) (argsL := [(.ref b51)]) (rest := []) (lenOf own_pd0_3 rfl) rfl (by show 2 * 0 + _ ≤ _; exact Nat.le_of_eq rfl) (hb hby at_78) (fun _ _ => ⟨rfl, rfl, (by decide : 8 + 1 ≤ _), (by decide : 21 + 10 ≤ _)⟩)
    dsimp only [Pt.U, Pt.locs, Pt.cells, Pt.slots] at X56 l56 y56 z56 st56 hQ56
    subst l56 y56 z56
    clear Y55 ne_b51_b54 q56a q56b q56c
    clear E_b54 F_b54_elementData F_b54_modCount F_b54_size
    obtain ⟨rfl, NQ56, K56, E_b54, nb56, knb56, ge_nb56, g_nb56, V_nb56, F_b54_elementData, F_b54_size, F_b54_modCount⟩ := hQ56
    clear g_nb56
    replace NF := Fr.app NF NQ56
    clear NQ56
    obtain ⟨lc56, Y56, NG56⟩ := own_lo X56 NF
    clear X56
    replace NF := NG56
    clear NG56
    replace OL := OL.keep K56 (allS g_b54 all0)
    clear g_b54
    replace E_b51 := E_b51.keep K56
    replace hKi := Nat.le_trans hKi K56.1
    replace Zs := Nat.le_trans Zs K56.1
    clear K56
    replace ne_b51_nb56 : b51 ≠ nb56 := Nat.ne_of_lt (Nat.lt_of_lt_of_le lt_b51 ge_nb56)
    clear ne_b51_nb56
    replace ne_b54_nb56 : b54 ≠ nb56 := Nat.ne_of_lt (Nat.lt_of_lt_of_le lt_b54 ge_nb56)
    clear ge_nb56 ne_b54_nb56
    refine own_goW (T' := T56) (g' := (mkF m 83 #[.val (.int i0), .val (.int i1), .val (.int i2), .val (.int i3), .val (.int zz1), .val (.int hi), .val (.int vv), .val (.int (1 : Int32)), .val (.ref b51), .val (.ref b54), .unset, .unset, .unset, .unset, .unset, .unset, .unset, .unset] [(.int (1 : Int32))])) (fun _ k => st56.trans k) ?_
    clear st56
    refine own_goW (T' := T56) (g' := (mkF m 84 #[.val (.int i0), .val (.int i1), .val (.int i2), .val (.int i3), .val (.int zz1), .val (.int hi), .val (.int vv), .val (.int (1 : Int32)), .val (.ref b51), .val (.ref b54), .unset, .unset, .unset, .unset, .unset, .unset, .unset, .unset] [])) (fun _ k => XS.pop Y56.here hx rfl (hb hby at_83) rfl rfl k) ?_
    refine own_goW (T' := T56) (g' := (mkF m 85 #[.val (.int i0), .val (.int i1), .val (.int i2), .val (.int i3), .val (.int zz1), .val (.int hi), .val (.int vv), .val (.int (1 : Int32)), .val (.ref b51), .val (.ref b54), .unset, .unset, .unset, .unset, .unset, .unset, .unset, .unset] [(.int (1 : Int32))])) (fun _ k => XS.iconst Y56.here hx rfl (hb hby at_84) k) ?_
    obtain ⟨T57, h57, k57, X57, e57, E57, A57, EA57, st57⟩ := newPE Y56 hx hZ (hw _ (List.mem_of_getElem? (i := 27) rfl)) rfl (g := (mkF m 85 #[.val (.int i0), .val (.int i1), .val (.int i2), .val (.int i3), .val (.int zz1), .val (.int hi), .val (.int vv), .val (.int (1 : Int32)), .val (.ref b51), .val (.ref b54), .unset, .unset, .unset, .unset, .unset, .unset, .unset, .unset] [(.int (1 : Int32))])) rfl (hb hby at_85) rfl (by decide) (cap := 1) (by decide) (by decide) (by decide) (by decide) (ad := "[I") (by decide)
    clear Y56
    obtain ⟨b57, g57⟩ : ∃ z, z = T56.heap.size := ⟨_, rfl⟩
    rw [← g57] at A57 EA57 st57
    replace ne_b51_b57 : b51 ≠ b57 := Nat.ne_of_lt (Nat.lt_of_lt_of_le E_b51.lt (Nat.le_of_eq g57.symm))
    clear ne_b51_b57
    replace ne_b54_b57 : b54 ≠ b57 := Nat.ne_of_lt (Nat.lt_of_lt_of_le E_b54.lt (Nat.le_of_eq g57.symm))
    replace ne_nb56_b57 : nb56 ≠ b57 := Nat.ne_of_lt (Nat.lt_of_lt_of_le V_nb56.lt (Nat.le_of_eq g57.symm))
    replace g_b57 : n0 ≤ b57 := Nat.le_trans Zs (Nat.le_of_eq g57.symm)
    replace OL := OL.ext E57
    replace E_b51 := E_b51.ext E57
    replace E_b54 := E_b54.ext E57
    replace F_b54_modCount := F_b54_modCount.ext E57
    replace F_b54_elementData := F_b54_elementData.ext E57
    replace F_b54_size := F_b54_size.ext E57
    replace V_nb56 := V_nb56.ext E57
    replace hKi := Nat.le_trans hKi E57.1
    replace Zs := Nat.le_trans Zs E57.1
    clear E57
    replace E_b57 := EA57
    clear EA57
    replace V_b57 : Arv Z h57 b57 k57 .int (1 : Int32) [(.int (0 : Int32))] (.int (0 : Int32)) := (Arv.new A57 (by decide)).pad (pad_rep [] (.int (0 : Int32)) 1)
    clear A57
    refine own_goW (T' := T57) (g' := (mkF m 87 #[.val (.int i0), .val (.int i1), .val (.int i2), .val (.int i3), .val (.int zz1), .val (.int hi), .val (.int vv), .val (.int (1 : Int32)), .val (.ref b51), .val (.ref b54), .unset, .unset, .unset, .unset, .unset, .unset, .unset, .unset] [(.ref b57)])) (fun _ k => st57 _ k) ?_
    clear st57
    refine own_goW (T' := T57) (g' := (mkF m 88 #[.val (.int i0), .val (.int i1), .val (.int i2), .val (.int i3), .val (.int zz1), .val (.int hi), .val (.int vv), .val (.int (1 : Int32)), .val (.ref b51), .val (.ref b54), .unset, .unset, .unset, .unset, .unset, .unset, .unset, .unset] [(.ref b57), (.ref b57)])) (fun _ k => XS.dup X57.here hx rfl (hb hby at_87) rfl rfl k) ?_
    refine own_goW (T' := T57) (g' := (mkF m 89 #[.val (.int i0), .val (.int i1), .val (.int i2), .val (.int i3), .val (.int zz1), .val (.int hi), .val (.int vv), .val (.int (1 : Int32)), .val (.ref b51), .val (.ref b54), .unset, .unset, .unset, .unset, .unset, .unset, .unset, .unset] [(.int (0 : Int32)), (.ref b57), (.ref b57)])) (fun _ k => XS.iconst X57.here hx rfl (hb hby at_88) k) ?_
    refine own_goW (T' := T57) (g' := (mkF m 91 #[.val (.int i0), .val (.int i1), .val (.int i2), .val (.int i3), .val (.int zz1), .val (.int hi), .val (.int vv), .val (.int (1 : Int32)), .val (.ref b51), .val (.ref b54), .unset, .unset, .unset, .unset, .unset, .unset, .unset, .unset] [(.int vv), (.int (0 : Int32)), (.ref b57), (.ref b57)])) (fun _ k => XS.iload X57.here hx rfl (hb hby at_89) rfl k) ?_
    obtain ⟨c_58, Ar_58, q_58, S_58, N_58, H_58, G_58⟩ := id V_b57
    replace hin_58 : ¬ ((0 : Int32) < 0 ∨ c_58.slots.size ≤ ((0 : Int32)).toNatClampNeg) := inb_of S_58 ⟨by decide, by decide⟩
    obtain ⟨T58, h58, X58, e58, W58, st58⟩ := stI X57 hx hZ e57 Ar_58 (j := (0 : Int32)) hin_58 (g := (mkF m 91 #[.val (.int i0), .val (.int i1), .val (.int i2), .val (.int i3), .val (.int zz1), .val (.int hi), .val (.int vv), .val (.int (1 : Int32)), .val (.ref b51), .val (.ref b54), .unset, .unset, .unset, .unset, .unset, .unset, .unset, .unset] [(.int vv), (.int (0 : Int32)), (.ref b57), (.ref b57)])) rfl rfl (hb hby at_91)
    clear X57 e57 hin_58
    replace OL := OL.wr W58 g_b57
    replace E_b51 := E_b51.wr W58
    replace E_b54 := E_b54.wr W58
    replace F_b54_modCount := F_b54_modCount.other W58 (Or.inl ne_b54_b57)
    replace F_b54_elementData := F_b54_elementData.other W58 (Or.inl ne_b54_b57)
    replace F_b54_size := F_b54_size.other W58 (Or.inl ne_b54_b57)
    clear ne_b54_b57
    replace V_nb56 := V_nb56.other W58 ne_nb56_b57
    clear ne_nb56_b57
    replace E_b57 := E_b57.wr W58
    replace hKi := Nat.le_trans hKi (Keep.of_wr W58).1
    replace Zs := Nat.le_trans Zs (Keep.of_wr W58).1
    replace V_b57 := Arv.set Ar_58 q_58 S_58 N_58 H_58 G_58 rfl W58 0 rfl (Nat.le_of_ble_eq_true rfl)
    clear Ar_58 G_58 H_58 N_58 S_58 W58 q_58
    replace NF := Fr.snoc X58 NF g_b57
    clear g_b57
    obtain ⟨lc58, Y58, NG58⟩ := own_lo X58 NF
    clear X58
    replace NF := NG58
    clear NG58
    refine own_goW (T' := T58) (g' := (mkF m 92 #[.val (.int i0), .val (.int i1), .val (.int i2), .val (.int i3), .val (.int zz1), .val (.int hi), .val (.int vv), .val (.int (1 : Int32)), .val (.ref b51), .val (.ref b54), .unset, .unset, .unset, .unset, .unset, .unset, .unset, .unset] [(.ref b57)])) (fun _ k => st58 _ k) ?_
    clear st58
    refine own_goW (T' := T58) (g' := (mkF m 94 #[.val (.int i0), .val (.int i1), .val (.int i2), .val (.int i3), .val (.int zz1), .val (.int hi), .val (.int vv), .val (.int (1 : Int32)), .val (.ref b51), .val (.ref b54), .val (.ref b57), .unset, .unset, .unset, .unset, .unset, .unset, .unset] [])) (fun _ k => XS.astore Y58.here hx rfl (hb hby at_92) rfl rfl (l' := #[.val (.int i0), .val (.int i1), .val (.int i2), .val (.int i3), .val (.int zz1), .val (.int hi), .val (.int vv), .val (.int (1 : Int32)), .val (.ref b51), .val (.ref b54), .val (.ref b57), .unset, .unset, .unset, .unset, .unset, .unset, .unset]) rfl k) ?_
    obtain ⟨T59, h59, X59, e59, E59, A59, D59, -, st59⟩ := newO Y58 hx hZ hown (hw _ (List.mem_of_getElem? (i := 55) rfl)) (hw _ (List.mem_of_getElem? (i := 56) rfl)) (hw _ (List.mem_of_getElem? (i := 57) rfl)) e58 (g := (mkF m 94 #[.val (.int i0), .val (.int i1), .val (.int i2), .val (.int i3), .val (.int zz1), .val (.int hi), .val (.int vv), .val (.int (1 : Int32)), .val (.ref b51), .val (.ref b54), .val (.ref b57), .unset, .unset, .unset, .unset, .unset, .unset, .unset] [])) rfl (hb hby at_94) (by decide) (by decide)
    clear Y58 e58
    obtain ⟨b59, g59⟩ : ∃ z, z = h58.size := ⟨_, rfl⟩
    rw [← g59] at A59 D59 st59
    replace ne_b51_b59 : b51 ≠ b59 := Nat.ne_of_lt (Nat.lt_of_lt_of_le E_b51.lt (Nat.le_of_eq g59.symm))
    clear ne_b51_b59
    replace ne_b54_b59 : b54 ≠ b59 := Nat.ne_of_lt (Nat.lt_of_lt_of_le E_b54.lt (Nat.le_of_eq g59.symm))
    replace ne_b57_b59 : b57 ≠ b59 := Nat.ne_of_lt (Nat.lt_of_lt_of_le E_b57.lt (Nat.le_of_eq g59.symm))
    replace ne_nb56_b59 : nb56 ≠ b59 := Nat.ne_of_lt (Nat.lt_of_lt_of_le V_nb56.lt (Nat.le_of_eq g59.symm))
    replace g_b59 : n0 ≤ b59 := Nat.le_trans Zs (Nat.le_of_eq g59.symm)
    replace OL := OL.ext E59
    replace E_b51 := E_b51.ext E59
    replace E_b54 := E_b54.ext E59
    replace F_b54_modCount := F_b54_modCount.ext E59
    replace F_b54_elementData := F_b54_elementData.ext E59
    replace F_b54_size := F_b54_size.ext E59
    replace V_nb56 := V_nb56.ext E59
    replace E_b57 := E_b57.ext E59
    replace V_b57 := V_b57.ext E59
    replace hKi := Nat.le_trans hKi E59.1
    replace Zs := Nat.le_trans Zs E59.1
    clear E59
    replace E_b59 := A59
    clear A59
    replace F_b59_modCount : Fld Z h59 b59 "java/util/AbstractList" "modCount" "I" (.int (0 : Int32)) := D59 (Or.inl (hw _ (List.mem_of_getElem? (i := 75) rfl))) (ty := .int) (by decide)
    replace F_b59_elementData : Fld Z h59 b59 "java/util/ArrayList" "elementData" "[Ljava/lang/Object;" .null := D59 (Or.inl (hw _ (List.mem_of_getElem? (i := 78) rfl))) (ty := (.array (.object "java/lang/Object"))) (by decide)
    replace F_b59_size : Fld Z h59 b59 "java/util/ArrayList" "size" "I" (.int (0 : Int32)) := D59 (Or.inl (hw _ (List.mem_of_getElem? (i := 91) rfl))) (ty := .int) (by decide)
    clear D59
    refine own_goW (T' := T59) (g' := (mkF m 97 #[.val (.int i0), .val (.int i1), .val (.int i2), .val (.int i3), .val (.int zz1), .val (.int hi), .val (.int vv), .val (.int (1 : Int32)), .val (.ref b51), .val (.ref b54), .val (.ref b57), .unset, .unset, .unset, .unset, .unset, .unset, .unset] [(.ref b59)])) (fun _ k => st59 _ k) ?_
    clear st59
    refine own_goW (T' := T59) (g' := (mkF m 98 #[.val (.int i0), .val (.int i1), .val (.int i2), .val (.int i3), .val (.int zz1), .val (.int hi), .val (.int vv), .val (.int (1 : Int32)), .val (.ref b51), .val (.ref b54), .val (.ref b57), .unset, .unset, .unset, .unset, .unset, .unset, .unset] [(.ref b59), (.ref b59)])) (fun _ k => XS.dup X59.here hx rfl (hb hby at_97) rfl rfl k) ?_
    obtain ⟨_, _, ⟨T60, L60, k60, n60⟩, -, X60, ⟨Lc60, hQ60, l60, y60, z60⟩, st60⟩ := X59.specialBack hx (y := (⟨"java/util/ArrayList", "<init>", "()V"⟩ : MethodName)) rfl hown (mvT hZ (hw _ (List.mem_of_getElem? (i := 58) rfl))) (mvT hZ (hw _ (List.mem_of_getElem? (i := 59) rfl))) (mvT hZ (hw _ (List.mem_of_getElem? (i := 60) rfl))) (by decide) (backOf (W := 1) (own_rm10 l Z a0 hw [] b59 de cde h59 n0 Zs F_b59_elementData F_b59_size F_b59_modCount E_b59 g_b59 OL S_de Ar_de Sz_de) hZ (hw _ (List.mem_of_getElem? (i := 60) rfl)) (hw _ (List.mem_of_getElem? (i := 57) rfl)) (by decide) (by decide)) (g := (mkF m 98 #[.val (.int i0), .val (.int i1), .val (.int i2), .val (.int i3), .val (.int zz1), .val (.int hi), .val (.int vv), .val (.int (1 : Int32)), .val (.ref b51), .val (.ref b54), .val (.ref b57), .unset, .unset, .unset, .unset, .unset, .unset, .unset] [(.ref b59), (.ref b59)])) rfl (by rw [hml]; rfl) (Steps.refl _) (a := b59) (argsL := []) (rest := [(.ref b59)]) (lenOf own_pd0_2 rfl) rfl (by show 2 * 0 + _ ≤ _; exact Nat.le_of_eq rfl) (hb hby at_98) (fun _ _ => ⟨rfl, e59, (by decide : 11 + 0 ≤ _), (by decide : 35 + 0 ≤ _)⟩)
    dsimp only [Pt.U, Pt.locs, Pt.cells, Pt.slots] at X60 l60 y60 z60 st60 hQ60
    subst l60 y60 z60
    clear X59 e59
    clear E_b59 F_b59_elementData F_b59_modCount F_b59_size
    obtain ⟨rfl, NQ60, K60, E_b59, F_b59_elementData, F_b59_size, F_b59_modCount⟩ := hQ60
    replace NF := Fr.app NF NQ60
    clear NQ60
    obtain ⟨lc60, Y60, NG60⟩ := own_lo X60 NF
    clear X60
    replace NF := NG60
    clear NG60
    replace OL := OL.keep K60 (allS g_b59 all0)
    replace E_b51 := E_b51.keep K60
    replace E_b54 := E_b54.keep K60
    replace F_b54_modCount := F_b54_modCount.keep K60 (ninS ne_b54_b59 nin0)
    replace F_b54_elementData := F_b54_elementData.keep K60 (ninS ne_b54_b59 nin0)
    replace F_b54_size := F_b54_size.keep K60 (ninS ne_b54_b59 nin0)
    replace V_nb56 := V_nb56.keep K60 (ninS ne_nb56_b59 nin0)
    replace E_b57 := E_b57.keep K60
    replace V_b57 := V_b57.keep K60 (ninS ne_b57_b59 nin0)
    replace hKi := Nat.le_trans hKi K60.1
    replace Zs := Nat.le_trans Zs K60.1
    clear K60
    refine own_goW (T' := T60) (g' := (mkF m 101 #[.val (.int i0), .val (.int i1), .val (.int i2), .val (.int i3), .val (.int zz1), .val (.int hi), .val (.int vv), .val (.int (1 : Int32)), .val (.ref b51), .val (.ref b54), .val (.ref b57), .unset, .unset, .unset, .unset, .unset, .unset, .unset] [(.ref b59)])) (fun _ k => st60.trans k) ?_
    clear st60
    refine own_goW (T' := T60) (g' := (mkF m 103 #[.val (.int i0), .val (.int i1), .val (.int i2), .val (.int i3), .val (.int zz1), .val (.int hi), .val (.int vv), .val (.int (1 : Int32)), .val (.ref b51), .val (.ref b54), .val (.ref b57), .val (.ref b59), .unset, .unset, .unset, .unset, .unset, .unset] [])) (fun _ k => XS.astore Y60.here hx rfl (hb hby at_101) rfl rfl (l' := #[.val (.int i0), .val (.int i1), .val (.int i2), .val (.int i3), .val (.int zz1), .val (.int hi), .val (.int vv), .val (.int (1 : Int32)), .val (.ref b51), .val (.ref b54), .val (.ref b57), .val (.ref b59), .unset, .unset, .unset, .unset, .unset, .unset]) rfl k) ?_
    refine own_goW (T' := T60) (g' := (mkF m 105 #[.val (.int i0), .val (.int i1), .val (.int i2), .val (.int i3), .val (.int zz1), .val (.int hi), .val (.int vv), .val (.int (1 : Int32)), .val (.ref b51), .val (.ref b54), .val (.ref b57), .val (.ref b59), .unset, .unset, .unset, .unset, .unset, .unset] [(.ref b59)])) (fun _ k => XS.aload Y60.here hx rfl (hb hby at_103) rfl rfl k) ?_
    refine own_goW (T' := T60) (g' := (mkF m 107 #[.val (.int i0), .val (.int i1), .val (.int i2), .val (.int i3), .val (.int zz1), .val (.int hi), .val (.int vv), .val (.int (1 : Int32)), .val (.ref b51), .val (.ref b54), .val (.ref b57), .val (.ref b59), .unset, .unset, .unset, .unset, .unset, .unset] [(.ref b57), (.ref b59)])) (fun _ k => XS.aload Y60.here hx rfl (hb hby at_105) rfl rfl k) ?_
    replace lt_b51 := E_b51.lt
    replace lt_b54 := E_b54.lt
    replace lt_b57 := E_b57.lt
    replace lt_b59 := E_b59.lt
    replace lt_nb56 := V_nb56.lt
    obtain ⟨cq61, kq61, q61a, q61b, q61c⟩ := isOf hZ rfl E_b59
    obtain ⟨_, _, ⟨T61, L61, k61, n61⟩, -, X61, ⟨Lc61, hQ61, l61, y61, z61⟩, st61⟩ := Y60.interfaceBack hx (xi := (⟨"java/util/List", "add", "(Ljava/lang/Object;)Z"⟩ : MethodName)) (y := (⟨"java/util/ArrayList", "add", "(Ljava/lang/Object;)Z"⟩ : MethodName)) hown (mvT hZ (hw _ (List.mem_of_getElem? (i := 79) rfl))) (mvT hZ (hw _ (List.mem_of_getElem? (i := 80) rfl))) (mvT hZ (hw _ (List.mem_of_getElem? (i := 81) rfl))) (mvT hZ (hw _ (List.mem_of_getElem? (i := 82) rfl))) (mvT hZ (hw _ (List.mem_of_getElem? (i := 83) rfl))) (mvT hZ (hw _ (List.mem_of_getElem? (i := 84) rfl))) (mvT hZ (hw _ (List.mem_of_getElem? (i := 85) rfl))) (mvT hZ (hw _ (List.mem_of_getElem? (i := 86) rfl))) (by decide) (backOf (W := 0) (own_rm14 l Z a0 hw [] b59 b57 de cde T60.heap n0 Zs F_b59_elementData F_b59_size F_b59_modCount E_b59 g_b59 E_b57 OL S_de Ar_de Sz_de (Ne.symm ne_b57_b59)) hZ (hw _ (List.mem_of_getElem? (i := 87) rfl)) (hw _ (List.mem_of_getElem? (i := 57) rfl)) (by decide) (by decide)) q61a q61b q61c (g := (mkF m 107 #[.val (.int i0), .val (.int i1), .val (.int i2), .val (.int i3), .val (.int zz1), .val (.int hi), .val (.int vv), .val (.int (1 : Int32)), .val (.ref b51), .val (.ref b54), .val (.ref b57), .val (.ref b59), .unset, .unset, .unset, .unset, .unset, .unset] [(.ref b57), (.ref b59)])) rfl (by rw [hml]; rfl) (Steps.refl _) (argsL := [(.ref b57)]) (rest := []) (lenOf own_pd0_3 rfl) rfl (by show 2 * 0 + _ ≤ _; exact Nat.le_of_eq rfl) (hb hby at_107) (fun _ _ => ⟨rfl, rfl, (by decide : 11 + 1 ≤ _), (by decide : 35 + 10 ≤ _)⟩)
    dsimp only [Pt.U, Pt.locs, Pt.cells, Pt.slots] at X61 l61 y61 z61 st61 hQ61
    subst l61 y61 z61
    clear Y60 q61a q61b q61c
    clear E_b59 F_b59_elementData F_b59_modCount F_b59_size
    obtain ⟨rfl, NQ61, K61, E_b59, nb61, knb61, ge_nb61, g_nb61, V_nb61, F_b59_elementData, F_b59_size, F_b59_modCount⟩ := hQ61
    clear g_nb61
    replace NF := Fr.app NF NQ61
    clear NQ61
    obtain ⟨lc61, Y61, NG61⟩ := own_lo X61 NF
    clear X61
    replace NF := NG61
    clear NG61
    replace OL := OL.keep K61 (allS g_b59 all0)
    clear g_b59
    replace E_b51 := E_b51.keep K61
    replace E_b54 := E_b54.keep K61
    replace F_b54_modCount := F_b54_modCount.keep K61 (ninS ne_b54_b59 nin0)
    replace F_b54_elementData := F_b54_elementData.keep K61 (ninS ne_b54_b59 nin0)
    replace F_b54_size := F_b54_size.keep K61 (ninS ne_b54_b59 nin0)
    clear ne_b54_b59
    replace V_nb56 := V_nb56.keep K61 (ninS ne_nb56_b59 nin0)
    clear ne_nb56_b59
    replace E_b57 := E_b57.keep K61
    replace V_b57 := V_b57.keep K61 (ninS ne_b57_b59 nin0)
    clear ne_b57_b59
    replace hKi := Nat.le_trans hKi K61.1
    replace Zs := Nat.le_trans Zs K61.1
    clear K61
    replace ne_b51_nb61 : b51 ≠ nb61 := Nat.ne_of_lt (Nat.lt_of_lt_of_le lt_b51 ge_nb61)
    clear ne_b51_nb61
    replace ne_b54_nb61 : b54 ≠ nb61 := Nat.ne_of_lt (Nat.lt_of_lt_of_le lt_b54 ge_nb61)
    clear ne_b54_nb61
    replace ne_b57_nb61 : b57 ≠ nb61 := Nat.ne_of_lt (Nat.lt_of_lt_of_le lt_b57 ge_nb61)
    clear ne_b57_nb61
    replace ne_b59_nb61 : b59 ≠ nb61 := Nat.ne_of_lt (Nat.lt_of_lt_of_le lt_b59 ge_nb61)
    clear ne_b59_nb61
    replace ne_nb56_nb61 : nb56 ≠ nb61 := Nat.ne_of_lt (Nat.lt_of_lt_of_le lt_nb56 ge_nb61)
    clear ge_nb61 ne_nb56_nb61
    refine own_goW (T' := T61) (g' := (mkF m 112 #[.val (.int i0), .val (.int i1), .val (.int i2), .val (.int i3), .val (.int zz1), .val (.int hi), .val (.int vv), .val (.int (1 : Int32)), .val (.ref b51), .val (.ref b54), .val (.ref b57), .val (.ref b59), .unset, .unset, .unset, .unset, .unset, .unset] [(.int (1 : Int32))])) (fun _ k => st61.trans k) ?_
    clear st61
    refine own_goW (T' := T61) (g' := (mkF m 113 #[.val (.int i0), .val (.int i1), .val (.int i2), .val (.int i3), .val (.int zz1), .val (.int hi), .val (.int vv), .val (.int (1 : Int32)), .val (.ref b51), .val (.ref b54), .val (.ref b57), .val (.ref b59), .unset, .unset, .unset, .unset, .unset, .unset] [])) (fun _ k => XS.pop Y61.here hx rfl (hb hby at_112) rfl rfl k) ?_
    obtain ⟨T62, h62, X62, e62, E62, A62, D62, -, st62⟩ := newO Y61 hx hZ hown (hw _ (List.mem_of_getElem? (i := 114) rfl)) (hw _ (List.mem_of_getElem? (i := 115) rfl)) (hw _ (List.mem_of_getElem? (i := 116) rfl)) rfl (g := (mkF m 113 #[.val (.int i0), .val (.int i1), .val (.int i2), .val (.int i3), .val (.int zz1), .val (.int hi), .val (.int vv), .val (.int (1 : Int32)), .val (.ref b51), .val (.ref b54), .val (.ref b57), .val (.ref b59), .unset, .unset, .unset, .unset, .unset, .unset] [])) rfl (hb hby at_113) (by decide) (by decide)
    clear Y61
    obtain ⟨b62, g62⟩ : ∃ z, z = T61.heap.size := ⟨_, rfl⟩
    rw [← g62] at A62 D62 st62
    replace ne_b51_b62 : b51 ≠ b62 := Nat.ne_of_lt (Nat.lt_of_lt_of_le E_b51.lt (Nat.le_of_eq g62.symm))
    clear ne_b51_b62
    replace ne_b54_b62 : b54 ≠ b62 := Nat.ne_of_lt (Nat.lt_of_lt_of_le E_b54.lt (Nat.le_of_eq g62.symm))
    replace ne_b57_b62 : b57 ≠ b62 := Nat.ne_of_lt (Nat.lt_of_lt_of_le E_b57.lt (Nat.le_of_eq g62.symm))
    replace ne_b59_b62 : b59 ≠ b62 := Nat.ne_of_lt (Nat.lt_of_lt_of_le E_b59.lt (Nat.le_of_eq g62.symm))
    replace ne_nb56_b62 : nb56 ≠ b62 := Nat.ne_of_lt (Nat.lt_of_lt_of_le V_nb56.lt (Nat.le_of_eq g62.symm))
    replace ne_nb61_b62 : nb61 ≠ b62 := Nat.ne_of_lt (Nat.lt_of_lt_of_le V_nb61.lt (Nat.le_of_eq g62.symm))
    replace g_b62 : n0 ≤ b62 := Nat.le_trans Zs (Nat.le_of_eq g62.symm)
    replace OL := OL.ext E62
    replace E_b51 := E_b51.ext E62
    replace E_b54 := E_b54.ext E62
    replace F_b54_modCount := F_b54_modCount.ext E62
    replace F_b54_elementData := F_b54_elementData.ext E62
    replace F_b54_size := F_b54_size.ext E62
    replace V_nb56 := V_nb56.ext E62
    replace E_b57 := E_b57.ext E62
    replace V_b57 := V_b57.ext E62
    replace E_b59 := E_b59.ext E62
    replace F_b59_modCount := F_b59_modCount.ext E62
    replace F_b59_elementData := F_b59_elementData.ext E62
    replace F_b59_size := F_b59_size.ext E62
    replace V_nb61 := V_nb61.ext E62
    replace hKi := Nat.le_trans hKi E62.1
    replace Zs := Nat.le_trans Zs E62.1
    clear E62
    replace E_b62 := A62
    clear A62
    replace F_b62_variables : Fld Z h62 b62 "com/example/ordence/ordence/Formula$Table" "variables" "Ljava/util/List;" .null := D62 (Or.inr (hw _ (List.mem_of_getElem? (i := 127) rfl))) (ty := (.object "java/util/List")) (by decide)
    replace F_b62_tuples : Fld Z h62 b62 "com/example/ordence/ordence/Formula$Table" "tuples" "Ljava/util/List;" .null := D62 (Or.inr (hw _ (List.mem_of_getElem? (i := 129) rfl))) (ty := (.object "java/util/List")) (by decide)
    replace F_b62_supports : Fld Z h62 b62 "com/example/ordence/ordence/Formula$Table" "supports" "Z" (.int (0 : Int32)) := D62 (Or.inr (hw _ (List.mem_of_getElem? (i := 131) rfl))) (ty := .boolean) (by decide)
    clear D62
    refine own_goW (T' := T62) (g' := (mkF m 116 #[.val (.int i0), .val (.int i1), .val (.int i2), .val (.int i3), .val (.int zz1), .val (.int hi), .val (.int vv), .val (.int (1 : Int32)), .val (.ref b51), .val (.ref b54), .val (.ref b57), .val (.ref b59), .unset, .unset, .unset, .unset, .unset, .unset] [(.ref b62)])) (fun _ k => st62 _ k) ?_
    clear st62
    refine own_goW (T' := T62) (g' := (mkF m 117 #[.val (.int i0), .val (.int i1), .val (.int i2), .val (.int i3), .val (.int zz1), .val (.int hi), .val (.int vv), .val (.int (1 : Int32)), .val (.ref b51), .val (.ref b54), .val (.ref b57), .val (.ref b59), .unset, .unset, .unset, .unset, .unset, .unset] [(.ref b62), (.ref b62)])) (fun _ k => XS.dup X62.here hx rfl (hb hby at_116) rfl rfl k) ?_
    refine own_goW (T' := T62) (g' := (mkF m 119 #[.val (.int i0), .val (.int i1), .val (.int i2), .val (.int i3), .val (.int zz1), .val (.int hi), .val (.int vv), .val (.int (1 : Int32)), .val (.ref b51), .val (.ref b54), .val (.ref b57), .val (.ref b59), .unset, .unset, .unset, .unset, .unset, .unset] [(.ref b54), (.ref b62), (.ref b62)])) (fun _ k => XS.aload X62.here hx rfl (hb hby at_117) rfl rfl k) ?_
    refine own_goW (T' := T62) (g' := (mkF m 121 #[.val (.int i0), .val (.int i1), .val (.int i2), .val (.int i3), .val (.int zz1), .val (.int hi), .val (.int vv), .val (.int (1 : Int32)), .val (.ref b51), .val (.ref b54), .val (.ref b57), .val (.ref b59), .unset, .unset, .unset, .unset, .unset, .unset] [(.ref b59), (.ref b54), (.ref b62), (.ref b62)])) (fun _ k => XS.aload X62.here hx rfl (hb hby at_119) rfl rfl k) ?_
    refine own_goW (T' := T62) (g' := (mkF m 123 #[.val (.int i0), .val (.int i1), .val (.int i2), .val (.int i3), .val (.int zz1), .val (.int hi), .val (.int vv), .val (.int (1 : Int32)), .val (.ref b51), .val (.ref b54), .val (.ref b57), .val (.ref b59), .unset, .unset, .unset, .unset, .unset, .unset] [(.int (1 : Int32)), (.ref b59), (.ref b54), (.ref b62), (.ref b62)])) (fun _ k => XS.iload X62.here hx rfl (hb hby at_121) rfl k) ?_
    obtain ⟨_, _, ⟨T63, L63, k63, n63⟩, -, X63, ⟨Lc63, hQ63, l63, y63, z63⟩, st63⟩ := X62.specialBack hx (y := (⟨"com/example/ordence/ordence/Formula$Table", "<init>", "(Ljava/util/List;Ljava/util/List;Z)V"⟩ : MethodName)) rfl hown (mvT hZ (hw _ (List.mem_of_getElem? (i := 117) rfl))) (mvT hZ (hw _ (List.mem_of_getElem? (i := 118) rfl))) (mvT hZ (hw _ (List.mem_of_getElem? (i := 119) rfl))) (by decide) (backOf (W := 1) (own_rm16_1 l Z a0 hw [] b62 b54 b59 h62 n0 Zs F_b62_variables F_b62_tuples F_b62_supports E_b62 g_b62) hZ (hw _ (List.mem_of_getElem? (i := 119) rfl)) (hw _ (List.mem_of_getElem? (i := 116) rfl)) (by decide) (by decide)) (g := (mkF m 123 #[.val (.int i0), .val (.int i1), .val (.int i2), .val (.int i3), .val (.int zz1), .val (.int hi), .val (.int vv), .val (.int (1 : Int32)), .val (.ref b51), .val (.ref b54), .val (.ref b57), .val (.ref b59), .unset, .unset, .unset, .unset, .unset, .unset] [(.int (1 : Int32)), (.ref b59), (.ref b54), (.ref b62), (.ref b62)])) rfl (by rw [hml]; rfl) (Steps.refl _) (a := b62) (argsL := [(.ref b54), (.ref b59), (.int (1 : Int32))]) (rest := [(.ref b62)]) (lenOf own_pd0_4 rfl) rfl (by show 2 * 0 + _ ≤ _; exact Nat.le_of_eq rfl) (hb hby at_123) (fun _ _ => ⟨rfl, e62, (by decide : 13 + 0 ≤ _), (by decide : 48 + 0 ≤ _)⟩)
    dsimp only [Pt.U, Pt.locs, Pt.cells, Pt.slots] at X63 l63 y63 z63 st63 hQ63
    subst l63 y63 z63
    clear X62 e62
    clear E_b62 F_b62_supports F_b62_tuples F_b62_variables
    obtain ⟨rfl, NQ63, K63, E_b62, F_b62_variables, F_b62_tuples, F_b62_supports⟩ := hQ63
    replace NF := Fr.app NF NQ63
    clear NQ63
    obtain ⟨lc63, Y63, NG63⟩ := own_lo X63 NF
    clear X63
    replace NF := NG63
    clear NG63
    replace OL := OL.keep K63 (allS g_b62 all0)
    clear g_b62
    replace E_b51 := E_b51.keep K63
    replace E_b54 := E_b54.keep K63
    replace F_b54_modCount := F_b54_modCount.keep K63 (ninS ne_b54_b62 nin0)
    replace F_b54_elementData := F_b54_elementData.keep K63 (ninS ne_b54_b62 nin0)
    replace F_b54_size := F_b54_size.keep K63 (ninS ne_b54_b62 nin0)
    clear ne_b54_b62
    replace V_nb56 := V_nb56.keep K63 (ninS ne_nb56_b62 nin0)
    clear ne_nb56_b62
    replace E_b57 := E_b57.keep K63
    replace V_b57 := V_b57.keep K63 (ninS ne_b57_b62 nin0)
    clear ne_b57_b62
    replace E_b59 := E_b59.keep K63
    replace F_b59_modCount := F_b59_modCount.keep K63 (ninS ne_b59_b62 nin0)
    replace F_b59_elementData := F_b59_elementData.keep K63 (ninS ne_b59_b62 nin0)
    replace F_b59_size := F_b59_size.keep K63 (ninS ne_b59_b62 nin0)
    clear ne_b59_b62
    replace V_nb61 := V_nb61.keep K63 (ninS ne_nb61_b62 nin0)
    clear ne_nb61_b62
    replace hKi := Nat.le_trans hKi K63.1
    replace Zs := Nat.le_trans Zs K63.1
    clear K63
    refine own_goW (T' := T63) (g' := (mkF m 126 #[.val (.int i0), .val (.int i1), .val (.int i2), .val (.int i3), .val (.int zz1), .val (.int hi), .val (.int vv), .val (.int (1 : Int32)), .val (.ref b51), .val (.ref b54), .val (.ref b57), .val (.ref b59), .unset, .unset, .unset, .unset, .unset, .unset] [(.ref b62)])) (fun _ k => st63.trans k) ?_
    clear st63
    refine own_goW (T' := T63) (g' := (mkF m 128 #[.val (.int i0), .val (.int i1), .val (.int i2), .val (.int i3), .val (.int zz1), .val (.int hi), .val (.int vv), .val (.int (1 : Int32)), .val (.ref b51), .val (.ref b54), .val (.ref b57), .val (.ref b59), .val (.ref b62), .unset, .unset, .unset, .unset, .unset] [])) (fun _ k => XS.astore Y63.here hx rfl (hb hby at_126) rfl rfl (l' := #[.val (.int i0), .val (.int i1), .val (.int i2), .val (.int i3), .val (.int zz1), .val (.int hi), .val (.int vv), .val (.int (1 : Int32)), .val (.ref b51), .val (.ref b54), .val (.ref b57), .val (.ref b59), .val (.ref b62), .unset, .unset, .unset, .unset, .unset]) rfl k) ?_
    refine own_goW (T' := T63) (g' := (mkF m 130 #[.val (.int i0), .val (.int i1), .val (.int i2), .val (.int i3), .val (.int zz1), .val (.int hi), .val (.int vv), .val (.int (1 : Int32)), .val (.ref b51), .val (.ref b54), .val (.ref b57), .val (.ref b59), .val (.ref b62), .unset, .unset, .unset, .unset, .unset] [(.ref b62)])) (fun _ k => XS.aload Y63.here hx rfl (hb hby at_128) rfl rfl k) ?_
    replace lt_b51 := E_b51.lt
    replace lt_b54 := E_b54.lt
    replace lt_b57 := E_b57.lt
    replace lt_b59 := E_b59.lt
    replace lt_b62 := E_b62.lt
    replace lt_nb56 := V_nb56.lt
    replace lt_nb61 := V_nb61.lt
    obtain ⟨cq64, kq64, q64a, q64b, q64c⟩ := isOf hZ rfl E_b62
    clear q64b
    obtain ⟨_, _, ⟨T64, L64, k64, n64⟩, -, X64, ⟨Lc64, hQ64, l64, y64, z64⟩, st64⟩ := Y63.virtualBack hx (y := (⟨"com/example/ordence/ordence/Formula$Table", "negate", "()Lcom/example/ordence/ordence/Formula;"⟩ : MethodName)) (z := (⟨"com/example/ordence/ordence/Formula$Table", "negate", "()Lcom/example/ordence/ordence/Formula;"⟩ : MethodName)) hown (mvT hZ (hw _ (List.mem_of_getElem? (i := 132) rfl))) (mvT hZ (hw _ (List.mem_of_getElem? (i := 133) rfl))) (notFace_of_selects (args := #[]) (mvT hZ (hw _ (List.mem_of_getElem? (i := 135) rfl)))) (mvT hZ (hw _ (List.mem_of_getElem? (i := 135) rfl))) (mvT hZ (hw _ (List.mem_of_getElem? (i := 134) rfl))) (by decide) (backOf (W := 0) (own_rm17_1 l Z a0 hw [] b62 b54 b59 T63.heap n0 Zs F_b62_variables F_b62_tuples F_b62_supports) hZ (hw _ (List.mem_of_getElem? (i := 136) rfl)) (hw _ (List.mem_of_getElem? (i := 116) rfl)) (by decide) (by decide)) q64a q64c (g := (mkF m 130 #[.val (.int i0), .val (.int i1), .val (.int i2), .val (.int i3), .val (.int zz1), .val (.int hi), .val (.int vv), .val (.int (1 : Int32)), .val (.ref b51), .val (.ref b54), .val (.ref b57), .val (.ref b59), .val (.ref b62), .unset, .unset, .unset, .unset, .unset] [(.ref b62)])) rfl (by rw [hml]; rfl) (Steps.refl _) (argsL := []) (rest := []) (lenOf own_pd0_5 rfl) rfl (by show 2 * 0 + _ ≤ _; exact Nat.le_of_eq rfl) (hb hby at_130) (fun _ _ => ⟨rfl, rfl, (by decide : 13 + 1 ≤ _), (by decide : 48 + 3 ≤ _)⟩)
    dsimp only [Pt.U, Pt.locs, Pt.cells, Pt.slots] at X64 l64 y64 z64 st64 hQ64
    subst l64 y64 z64
    clear Y63 q64a q64c
    obtain ⟨NQ64, K64, tn64, rfl, ge_tn64, g_tn64, E_tn64, F_tn64_variables, F_tn64_tuples, F_tn64_supports⟩ := hQ64
    clear g_tn64
    replace NF := Fr.app NF NQ64
    clear NQ64
    obtain ⟨lc64, Y64, NG64⟩ := own_lo X64 NF
    clear X64
    replace NF := NG64
    clear NG64
    replace OL := OL.keep K64 all0
    replace E_b51 := E_b51.keep K64
    replace E_b54 := E_b54.keep K64
    replace F_b54_modCount := F_b54_modCount.keep K64 nin0
    replace F_b54_elementData := F_b54_elementData.keep K64 nin0
    replace F_b54_size := F_b54_size.keep K64 nin0
    replace V_nb56 := V_nb56.keep K64 nin0
    replace E_b57 := E_b57.keep K64
    replace V_b57 := V_b57.keep K64 nin0
    replace E_b59 := E_b59.keep K64
    replace F_b59_modCount := F_b59_modCount.keep K64 nin0
    replace F_b59_elementData := F_b59_elementData.keep K64 nin0
    replace F_b59_size := F_b59_size.keep K64 nin0
    replace V_nb61 := V_nb61.keep K64 nin0
    replace E_b62 := E_b62.keep K64
    replace F_b62_variables := F_b62_variables.keep K64 nin0
    replace F_b62_tuples := F_b62_tuples.keep K64 nin0
    replace F_b62_supports := F_b62_supports.keep K64 nin0
    replace hKi := Nat.le_trans hKi K64.1
    replace Zs := Nat.le_trans Zs K64.1
    clear K64
    replace ne_b51_tn64 : b51 ≠ tn64 := Nat.ne_of_lt (Nat.lt_of_lt_of_le lt_b51 ge_tn64)
    clear ne_b51_tn64
    replace ne_b54_tn64 : b54 ≠ tn64 := Nat.ne_of_lt (Nat.lt_of_lt_of_le lt_b54 ge_tn64)
    clear ne_b54_tn64
    replace ne_b57_tn64 : b57 ≠ tn64 := Nat.ne_of_lt (Nat.lt_of_lt_of_le lt_b57 ge_tn64)
    clear ne_b57_tn64
    replace ne_b59_tn64 : b59 ≠ tn64 := Nat.ne_of_lt (Nat.lt_of_lt_of_le lt_b59 ge_tn64)
    clear ne_b59_tn64
    replace ne_b62_tn64 : b62 ≠ tn64 := Nat.ne_of_lt (Nat.lt_of_lt_of_le lt_b62 ge_tn64)
    clear ne_b62_tn64
    replace ne_nb56_tn64 : nb56 ≠ tn64 := Nat.ne_of_lt (Nat.lt_of_lt_of_le lt_nb56 ge_tn64)
    clear ne_nb56_tn64
    replace ne_nb61_tn64 : nb61 ≠ tn64 := Nat.ne_of_lt (Nat.lt_of_lt_of_le lt_nb61 ge_tn64)
    clear ge_tn64 ne_nb61_tn64
    refine own_goW (T' := T64) (g' := (mkF m 133 #[.val (.int i0), .val (.int i1), .val (.int i2), .val (.int i3), .val (.int zz1), .val (.int hi), .val (.int vv), .val (.int (1 : Int32)), .val (.ref b51), .val (.ref b54), .val (.ref b57), .val (.ref b59), .val (.ref b62), .unset, .unset, .unset, .unset, .unset] [(.ref tn64)])) (fun _ k => st64.trans k) ?_
    clear st64
    refine own_goW (T' := T64) (g' := (mkF m 135 #[.val (.int i0), .val (.int i1), .val (.int i2), .val (.int i3), .val (.int zz1), .val (.int hi), .val (.int vv), .val (.int (1 : Int32)), .val (.ref b51), .val (.ref b54), .val (.ref b57), .val (.ref b59), .val (.ref b62), .val (.ref tn64), .unset, .unset, .unset, .unset] [])) (fun _ k => XS.astore Y64.here hx rfl (hb hby at_133) rfl rfl (l' := #[.val (.int i0), .val (.int i1), .val (.int i2), .val (.int i3), .val (.int zz1), .val (.int hi), .val (.int vv), .val (.int (1 : Int32)), .val (.ref b51), .val (.ref b54), .val (.ref b57), .val (.ref b59), .val (.ref b62), .val (.ref tn64), .unset, .unset, .unset, .unset]) rfl k) ?_
    refine own_goW (T' := T64) (g' := (mkF m 137 #[.val (.int i0), .val (.int i1), .val (.int i2), .val (.int i3), .val (.int zz1), .val (.int hi), .val (.int vv), .val (.int (1 : Int32)), .val (.ref b51), .val (.ref b54), .val (.ref b57), .val (.ref b59), .val (.ref b62), .val (.ref tn64), .unset, .unset, .unset, .unset] [(.ref tn64)])) (fun _ k => XS.aload Y64.here hx rfl (hb hby at_135) rfl rfl k) ?_
    obtain ⟨T65, X65, e65, st65⟩ := instY Y64 hx hZ hown (hw _ (List.mem_of_getElem? (i := 114) rfl)) rfl (Ins.self E_tn64) (g := (mkF m 137 #[.val (.int i0), .val (.int i1), .val (.int i2), .val (.int i3), .val (.int zz1), .val (.int hi), .val (.int vv), .val (.int (1 : Int32)), .val (.ref b51), .val (.ref b54), .val (.ref b57), .val (.ref b59), .val (.ref b62), .val (.ref tn64), .unset, .unset, .unset, .unset] [(.ref tn64)])) rfl rfl (hb hby at_137)
    clear Y64
    refine own_goW (T' := T65) (g' := (mkF m 140 #[.val (.int i0), .val (.int i1), .val (.int i2), .val (.int i3), .val (.int zz1), .val (.int hi), .val (.int vv), .val (.int (1 : Int32)), .val (.ref b51), .val (.ref b54), .val (.ref b57), .val (.ref b59), .val (.ref b62), .val (.ref tn64), .unset, .unset, .unset, .unset] [(.int (1 : Int32))])) (fun _ k => st65 _ k) ?_
    clear st65
    refine own_goW (T' := T65) (g' := (mkF m 145 #[.val (.int i0), .val (.int i1), .val (.int i2), .val (.int i3), .val (.int zz1), .val (.int hi), .val (.int vv), .val (.int (1 : Int32)), .val (.ref b51), .val (.ref b54), .val (.ref b57), .val (.ref b59), .val (.ref b62), .val (.ref tn64), .unset, .unset, .unset, .unset] [])) (fun _ k => XS.ifYes X65.here hx rfl (pc0 := 140) (pc' := 145) rfl (hb hby at_140) rfl (by decide) (by decide) (by decide) k) ?_
    refine own_goW (T' := T65) (g' := (mkF m 147 #[.val (.int i0), .val (.int i1), .val (.int i2), .val (.int i3), .val (.int zz1), .val (.int hi), .val (.int vv), .val (.int (1 : Int32)), .val (.ref b51), .val (.ref b54), .val (.ref b57), .val (.ref b59), .val (.ref b62), .val (.ref tn64), .unset, .unset, .unset, .unset] [(.ref tn64)])) (fun _ k => XS.aload X65.here hx rfl (hb hby at_145) rfl rfl k) ?_
    obtain ⟨T66, X66, e66, st66⟩ := castY X65 hx hZ hown (hw _ (List.mem_of_getElem? (i := 114) rfl)) e65 (Ins.self E_tn64) (g := (mkF m 147 #[.val (.int i0), .val (.int i1), .val (.int i2), .val (.int i3), .val (.int zz1), .val (.int hi), .val (.int vv), .val (.int (1 : Int32)), .val (.ref b51), .val (.ref b54), .val (.ref b57), .val (.ref b59), .val (.ref b62), .val (.ref tn64), .unset, .unset, .unset, .unset] [(.ref tn64)])) rfl rfl (hb hby at_147)
    clear X65 e65
    refine own_goW (T' := T66) (g' := (mkF m 150 #[.val (.int i0), .val (.int i1), .val (.int i2), .val (.int i3), .val (.int zz1), .val (.int hi), .val (.int vv), .val (.int (1 : Int32)), .val (.ref b51), .val (.ref b54), .val (.ref b57), .val (.ref b59), .val (.ref b62), .val (.ref tn64), .unset, .unset, .unset, .unset] [(.ref tn64)])) (fun _ k => st66 _ k) ?_
    clear st66
    refine own_goW (T' := T66) (g' := (mkF m 152 #[.val (.int i0), .val (.int i1), .val (.int i2), .val (.int i3), .val (.int zz1), .val (.int hi), .val (.int vv), .val (.int (1 : Int32)), .val (.ref b51), .val (.ref b54), .val (.ref b57), .val (.ref b59), .val (.ref b62), .val (.ref tn64), .val (.ref tn64), .unset, .unset, .unset] [])) (fun _ k => XS.astore X66.here hx rfl (hb hby at_150) rfl rfl (l' := #[.val (.int i0), .val (.int i1), .val (.int i2), .val (.int i3), .val (.int zz1), .val (.int hi), .val (.int vv), .val (.int (1 : Int32)), .val (.ref b51), .val (.ref b54), .val (.ref b57), .val (.ref b59), .val (.ref b62), .val (.ref tn64), .val (.ref tn64), .unset, .unset, .unset]) rfl k) ?_
    refine own_goW (T' := T66) (g' := (mkF m 154 #[.val (.int i0), .val (.int i1), .val (.int i2), .val (.int i3), .val (.int zz1), .val (.int hi), .val (.int vv), .val (.int (1 : Int32)), .val (.ref b51), .val (.ref b54), .val (.ref b57), .val (.ref b59), .val (.ref b62), .val (.ref tn64), .val (.ref tn64), .unset, .unset, .unset] [(.ref tn64)])) (fun _ k => XS.aload X66.here hx rfl (hb hby at_152) rfl rfl k) ?_
    obtain ⟨cq67, kq67, q67a, q67b, q67c⟩ := isOf hZ e66 E_tn64
    clear q67b
    obtain ⟨_, _, ⟨T67, L67, k67, n67⟩, -, X67, ⟨Lc67, hQ67, l67, y67, z67⟩, st67⟩ := X66.virtualBack hx (y := (⟨"com/example/ordence/ordence/Formula$Table", "supports", "()Z"⟩ : MethodName)) (z := (⟨"com/example/ordence/ordence/Formula$Table", "supports", "()Z"⟩ : MethodName)) hown (mvT hZ (hw _ (List.mem_of_getElem? (i := 140) rfl))) (mvT hZ (hw _ (List.mem_of_getElem? (i := 141) rfl))) (notFace_of_selects (args := #[]) (mvT hZ (hw _ (List.mem_of_getElem? (i := 143) rfl)))) (mvT hZ (hw _ (List.mem_of_getElem? (i := 143) rfl))) (mvT hZ (hw _ (List.mem_of_getElem? (i := 142) rfl))) (by decide) (backOf (W := 0) (own_rm18_0 l Z a0 hw [] tn64 b54 b59 T64.heap n0 Zs F_tn64_variables F_tn64_tuples F_tn64_supports) hZ (hw _ (List.mem_of_getElem? (i := 144) rfl)) (hw _ (List.mem_of_getElem? (i := 116) rfl)) (by decide) (by decide)) q67a q67c (g := (mkF m 154 #[.val (.int i0), .val (.int i1), .val (.int i2), .val (.int i3), .val (.int zz1), .val (.int hi), .val (.int vv), .val (.int (1 : Int32)), .val (.ref b51), .val (.ref b54), .val (.ref b57), .val (.ref b59), .val (.ref b62), .val (.ref tn64), .val (.ref tn64), .unset, .unset, .unset] [(.ref tn64)])) rfl (by rw [hml]; rfl) (Steps.refl _) (argsL := []) (rest := []) (lenOf own_pd0_6 rfl) rfl (by show 2 * 0 + _ ≤ _; exact Nat.le_of_eq rfl) (hb hby at_154) (fun _ _ => ⟨rfl, e66, (by decide : 14 + 0 ≤ _), (by decide : 51 + 0 ≤ _)⟩)
    dsimp only [Pt.U, Pt.locs, Pt.cells, Pt.slots] at X67 l67 y67 z67 st67 hQ67
    subst l67 y67 z67
    clear X66 e66 q67a q67c
    obtain ⟨rfl, NQ67, eq67⟩ := hQ67
    replace NF := Fr.app NF NQ67
    clear NQ67
    obtain ⟨lc67, Y67, NG67⟩ := own_lo X67 NF
    clear X67
    replace NF := NG67
    clear NG67
    refine own_goW (T' := T67) (g' := (mkF m 157 #[.val (.int i0), .val (.int i1), .val (.int i2), .val (.int i3), .val (.int zz1), .val (.int hi), .val (.int vv), .val (.int (1 : Int32)), .val (.ref b51), .val (.ref b54), .val (.ref b57), .val (.ref b59), .val (.ref b62), .val (.ref tn64), .val (.ref tn64), .unset, .unset, .unset] [(.int (0 : Int32))])) (fun _ k => st67.trans k) ?_
    clear st67
    refine own_goW (T' := T67) (g' := (mkF m 159 #[.val (.int i0), .val (.int i1), .val (.int i2), .val (.int i3), .val (.int zz1), .val (.int hi), .val (.int vv), .val (.int (1 : Int32)), .val (.ref b51), .val (.ref b54), .val (.ref b57), .val (.ref b59), .val (.ref b62), .val (.ref tn64), .val (.ref tn64), .unset, .unset, .unset] [(.int (1 : Int32)), (.int (0 : Int32))])) (fun _ k => XS.iload Y67.here hx rfl (hb hby at_157) rfl k) ?_
    refine own_goW (T' := T67) (g' := (mkF m 166 #[.val (.int i0), .val (.int i1), .val (.int i2), .val (.int i3), .val (.int zz1), .val (.int hi), .val (.int vv), .val (.int (1 : Int32)), .val (.ref b51), .val (.ref b54), .val (.ref b57), .val (.ref b59), .val (.ref b62), .val (.ref tn64), .val (.ref tn64), .unset, .unset, .unset] [(.int (0 : Int32))])) (fun _ k => XS.ifYes Y67.here hx rfl (pc0 := 159) (pc' := 166) rfl (hb hby at_159) rfl (by decide) (by decide) (by decide) k) ?_
    refine own_goW (T' := T67) (g' := (mkF m 167 #[.val (.int i0), .val (.int i1), .val (.int i2), .val (.int i3), .val (.int zz1), .val (.int hi), .val (.int vv), .val (.int (1 : Int32)), .val (.ref b51), .val (.ref b54), .val (.ref b57), .val (.ref b59), .val (.ref b62), .val (.ref tn64), .val (.ref tn64), .unset, .unset, .unset] [(.int (0 : Int32)), (.int (0 : Int32))])) (fun _ k => XS.iconst Y67.here hx rfl (hb hby at_166) k) ?_
    refine own_goW (T' := T67) (g' := (mkF m 170 #[.val (.int i0), .val (.int i1), .val (.int i2), .val (.int i3), .val (.int zz1), .val (.int hi), .val (.int vv), .val (.int (1 : Int32)), .val (.ref b51), .val (.ref b54), .val (.ref b57), .val (.ref b59), .val (.ref b62), .val (.ref tn64), .val (.ref tn64), .unset, .unset, .unset] [])) (fun _ k => XS.icmpNo Y67.here hx rfl (hb hby at_167) rfl (by decide) k) ?_
    refine own_goW (T' := T67) (g' := (mkF m 172 #[.val (.int i0), .val (.int i1), .val (.int i2), .val (.int i3), .val (.int zz1), .val (.int hi), .val (.int vv), .val (.int (1 : Int32)), .val (.ref b51), .val (.ref b54), .val (.ref b57), .val (.ref b59), .val (.ref b62), .val (.ref tn64), .val (.ref tn64), .unset, .unset, .unset] [(.ref tn64)])) (fun _ k => XS.aload Y67.here hx rfl (hb hby at_170) rfl rfl k) ?_
    obtain ⟨cq68, kq68, q68a, q68b, q68c⟩ := isOf hZ eq67 E_tn64
    clear q68b
    obtain ⟨_, _, ⟨T68, L68, k68, n68⟩, -, X68, ⟨Lc68, hQ68, l68, y68, z68⟩, st68⟩ := Y67.virtualBack hx (y := (⟨"com/example/ordence/ordence/Formula$Table", "variables", "()Ljava/util/List;"⟩ : MethodName)) (z := (⟨"com/example/ordence/ordence/Formula$Table", "variables", "()Ljava/util/List;"⟩ : MethodName)) hown (mvT hZ (hw _ (List.mem_of_getElem? (i := 145) rfl))) (mvT hZ (hw _ (List.mem_of_getElem? (i := 146) rfl))) (notFace_of_selects (args := #[]) (mvT hZ (hw _ (List.mem_of_getElem? (i := 148) rfl)))) (mvT hZ (hw _ (List.mem_of_getElem? (i := 148) rfl))) (mvT hZ (hw _ (List.mem_of_getElem? (i := 147) rfl))) (by decide) (backOf (W := 0) (own_rm20 l Z a0 hw [] tn64 b54 T64.heap n0 Zs F_tn64_variables) hZ (hw _ (List.mem_of_getElem? (i := 149) rfl)) (hw _ (List.mem_of_getElem? (i := 116) rfl)) (by decide) (by decide)) q68a q68c (g := (mkF m 172 #[.val (.int i0), .val (.int i1), .val (.int i2), .val (.int i3), .val (.int zz1), .val (.int hi), .val (.int vv), .val (.int (1 : Int32)), .val (.ref b51), .val (.ref b54), .val (.ref b57), .val (.ref b59), .val (.ref b62), .val (.ref tn64), .val (.ref tn64), .unset, .unset, .unset] [(.ref tn64)])) rfl (by rw [hml]; rfl) (Steps.refl _) (argsL := []) (rest := []) (lenOf own_pd0_7 rfl) rfl (by show 2 * 0 + _ ≤ _; exact Nat.le_of_eq rfl) (hb hby at_172) (fun _ _ => ⟨rfl, eq67, (by decide : 14 + 0 ≤ _), (by decide : 51 + 0 ≤ _)⟩)
    dsimp only [Pt.U, Pt.locs, Pt.cells, Pt.slots] at X68 l68 y68 z68 st68 hQ68
    subst l68 y68 z68
    clear Y67 eq67 q68a q68c
    obtain ⟨rfl, NQ68, eq68⟩ := hQ68
    replace NF := Fr.app NF NQ68
    clear NQ68
    obtain ⟨lc68, Y68, NG68⟩ := own_lo X68 NF
    clear X68
    replace NF := NG68
    clear NG68
    refine own_goW (T' := T68) (g' := (mkF m 175 #[.val (.int i0), .val (.int i1), .val (.int i2), .val (.int i3), .val (.int zz1), .val (.int hi), .val (.int vv), .val (.int (1 : Int32)), .val (.ref b51), .val (.ref b54), .val (.ref b57), .val (.ref b59), .val (.ref b62), .val (.ref tn64), .val (.ref tn64), .unset, .unset, .unset] [(.ref b54)])) (fun _ k => st68.trans k) ?_
    clear st68
    obtain ⟨cq69, kq69, q69a, q69b, q69c⟩ := isOf hZ eq68 E_b54
    obtain ⟨_, _, ⟨T69, L69, k69, n69⟩, -, X69, ⟨Lc69, hQ69, l69, y69, z69⟩, st69⟩ := Y68.interfaceBack hx (xi := (⟨"java/util/List", "size", "()I"⟩ : MethodName)) (y := (⟨"java/util/ArrayList", "size", "()I"⟩ : MethodName)) hown (mvT hZ (hw _ (List.mem_of_getElem? (i := 150) rfl))) (mvT hZ (hw _ (List.mem_of_getElem? (i := 151) rfl))) (mvT hZ (hw _ (List.mem_of_getElem? (i := 152) rfl))) (mvT hZ (hw _ (List.mem_of_getElem? (i := 153) rfl))) (mvT hZ (hw _ (List.mem_of_getElem? (i := 154) rfl))) (mvT hZ (hw _ (List.mem_of_getElem? (i := 155) rfl))) (mvT hZ (hw _ (List.mem_of_getElem? (i := 156) rfl))) (mvT hZ (hw _ (List.mem_of_getElem? (i := 86) rfl))) (by decide) (backOf (W := 0) (own_rm21 l Z a0 hw [] b54 (1 : Int32) T64.heap n0 Zs F_b54_size) hZ (hw _ (List.mem_of_getElem? (i := 157) rfl)) (hw _ (List.mem_of_getElem? (i := 57) rfl)) (by decide) (by decide)) q69a q69b q69c (g := (mkF m 175 #[.val (.int i0), .val (.int i1), .val (.int i2), .val (.int i3), .val (.int zz1), .val (.int hi), .val (.int vv), .val (.int (1 : Int32)), .val (.ref b51), .val (.ref b54), .val (.ref b57), .val (.ref b59), .val (.ref b62), .val (.ref tn64), .val (.ref tn64), .unset, .unset, .unset] [(.ref b54)])) rfl (by rw [hml]; rfl) (Steps.refl _) (argsL := []) (rest := []) (lenOf own_pd0_8 rfl) rfl (by show 2 * 0 + _ ≤ _; exact Nat.le_of_eq rfl) (hb hby at_175) (fun _ _ => ⟨rfl, eq68, (by decide : 14 + 0 ≤ _), (by decide : 51 + 0 ≤ _)⟩)
    dsimp only [Pt.U, Pt.locs, Pt.cells, Pt.slots] at X69 l69 y69 z69 st69 hQ69
    subst l69 y69 z69
    clear Y68 eq68 q69a q69b q69c
    obtain ⟨rfl, NQ69, eq69⟩ := hQ69
    replace NF := Fr.app NF NQ69
    clear NQ69
    obtain ⟨lc69, Y69, NG69⟩ := own_lo X69 NF
    clear X69
    replace NF := NG69
    clear NG69
    refine own_goW (T' := T69) (g' := (mkF m 180 #[.val (.int i0), .val (.int i1), .val (.int i2), .val (.int i3), .val (.int zz1), .val (.int hi), .val (.int vv), .val (.int (1 : Int32)), .val (.ref b51), .val (.ref b54), .val (.ref b57), .val (.ref b59), .val (.ref b62), .val (.ref tn64), .val (.ref tn64), .unset, .unset, .unset] [(.int (1 : Int32))])) (fun _ k => st69.trans k) ?_
    clear st69
    refine own_goW (T' := T69) (g' := (mkF m 181 #[.val (.int i0), .val (.int i1), .val (.int i2), .val (.int i3), .val (.int zz1), .val (.int hi), .val (.int vv), .val (.int (1 : Int32)), .val (.ref b51), .val (.ref b54), .val (.ref b57), .val (.ref b59), .val (.ref b62), .val (.ref tn64), .val (.ref tn64), .unset, .unset, .unset] [(.int (1 : Int32)), (.int (1 : Int32))])) (fun _ k => XS.iconst Y69.here hx rfl (hb hby at_180) k) ?_
    refine own_goW (T' := T69) (g' := (mkF m 184 #[.val (.int i0), .val (.int i1), .val (.int i2), .val (.int i3), .val (.int zz1), .val (.int hi), .val (.int vv), .val (.int (1 : Int32)), .val (.ref b51), .val (.ref b54), .val (.ref b57), .val (.ref b59), .val (.ref b62), .val (.ref tn64), .val (.ref tn64), .unset, .unset, .unset] [])) (fun _ k => XS.icmpNo Y69.here hx rfl (hb hby at_181) rfl (by decide) k) ?_
    refine own_goW (T' := T69) (g' := (mkF m 186 #[.val (.int i0), .val (.int i1), .val (.int i2), .val (.int i3), .val (.int zz1), .val (.int hi), .val (.int vv), .val (.int (1 : Int32)), .val (.ref b51), .val (.ref b54), .val (.ref b57), .val (.ref b59), .val (.ref b62), .val (.ref tn64), .val (.ref tn64), .unset, .unset, .unset] [(.ref tn64)])) (fun _ k => XS.aload Y69.here hx rfl (hb hby at_184) rfl rfl k) ?_
    obtain ⟨cq70, kq70, q70a, q70b, q70c⟩ := isOf hZ eq69 E_tn64
    clear q70b
    obtain ⟨_, _, ⟨T70, L70, k70, n70⟩, -, X70, ⟨Lc70, hQ70, l70, y70, z70⟩, st70⟩ := Y69.virtualBack hx (y := (⟨"com/example/ordence/ordence/Formula$Table", "variables", "()Ljava/util/List;"⟩ : MethodName)) (z := (⟨"com/example/ordence/ordence/Formula$Table", "variables", "()Ljava/util/List;"⟩ : MethodName)) hown (mvT hZ (hw _ (List.mem_of_getElem? (i := 145) rfl))) (mvT hZ (hw _ (List.mem_of_getElem? (i := 146) rfl))) (notFace_of_selects (args := #[]) (mvT hZ (hw _ (List.mem_of_getElem? (i := 148) rfl)))) (mvT hZ (hw _ (List.mem_of_getElem? (i := 148) rfl))) (mvT hZ (hw _ (List.mem_of_getElem? (i := 147) rfl))) (by decide) (backOf (W := 0) (own_rm20 l Z a0 hw [] tn64 b54 T64.heap n0 Zs F_tn64_variables) hZ (hw _ (List.mem_of_getElem? (i := 149) rfl)) (hw _ (List.mem_of_getElem? (i := 116) rfl)) (by decide) (by decide)) q70a q70c (g := (mkF m 186 #[.val (.int i0), .val (.int i1), .val (.int i2), .val (.int i3), .val (.int zz1), .val (.int hi), .val (.int vv), .val (.int (1 : Int32)), .val (.ref b51), .val (.ref b54), .val (.ref b57), .val (.ref b59), .val (.ref b62), .val (.ref tn64), .val (.ref tn64), .unset, .unset, .unset] [(.ref tn64)])) rfl (by rw [hml]; rfl) (Steps.refl _) (argsL := []) (rest := []) (lenOf own_pd0_7 rfl) rfl (by show 2 * 0 + _ ≤ _; exact Nat.le_of_eq rfl) (hb hby at_186) (fun _ _ => ⟨rfl, eq69, (by decide : 14 + 0 ≤ _), (by decide : 51 + 0 ≤ _)⟩)
    dsimp only [Pt.U, Pt.locs, Pt.cells, Pt.slots] at X70 l70 y70 z70 st70 hQ70
    subst l70 y70 z70
    clear Y69 eq69 q70a q70c
    obtain ⟨rfl, NQ70, eq70⟩ := hQ70
    replace NF := Fr.app NF NQ70
    clear NQ70
    obtain ⟨lc70, Y70, NG70⟩ := own_lo X70 NF
    clear X70
    replace NF := NG70
    clear NG70
    refine own_goW (T' := T70) (g' := (mkF m 189 #[.val (.int i0), .val (.int i1), .val (.int i2), .val (.int i3), .val (.int zz1), .val (.int hi), .val (.int vv), .val (.int (1 : Int32)), .val (.ref b51), .val (.ref b54), .val (.ref b57), .val (.ref b59), .val (.ref b62), .val (.ref tn64), .val (.ref tn64), .unset, .unset, .unset] [(.ref b54)])) (fun _ k => st70.trans k) ?_
    clear st70
    refine own_goW (T' := T70) (g' := (mkF m 190 #[.val (.int i0), .val (.int i1), .val (.int i2), .val (.int i3), .val (.int zz1), .val (.int hi), .val (.int vv), .val (.int (1 : Int32)), .val (.ref b51), .val (.ref b54), .val (.ref b57), .val (.ref b59), .val (.ref b62), .val (.ref tn64), .val (.ref tn64), .unset, .unset, .unset] [(.int (0 : Int32)), (.ref b54)])) (fun _ k => XS.iconst Y70.here hx rfl (hb hby at_189) k) ?_
    obtain ⟨cq71, kq71, q71a, q71b, q71c⟩ := isOf hZ eq70 E_b54
    obtain ⟨_, _, ⟨T71, L71, k71, n71⟩, -, X71, ⟨Lc71, hQ71, l71, y71, z71⟩, st71⟩ := Y70.interfaceBack hx (xi := (⟨"java/util/List", "get", "(I)Ljava/lang/Object;"⟩ : MethodName)) (y := (⟨"java/util/ArrayList", "get", "(I)Ljava/lang/Object;"⟩ : MethodName)) hown (mvT hZ (hw _ (List.mem_of_getElem? (i := 158) rfl))) (mvT hZ (hw _ (List.mem_of_getElem? (i := 159) rfl))) (mvT hZ (hw _ (List.mem_of_getElem? (i := 160) rfl))) (mvT hZ (hw _ (List.mem_of_getElem? (i := 161) rfl))) (mvT hZ (hw _ (List.mem_of_getElem? (i := 162) rfl))) (mvT hZ (hw _ (List.mem_of_getElem? (i := 163) rfl))) (mvT hZ (hw _ (List.mem_of_getElem? (i := 164) rfl))) (mvT hZ (hw _ (List.mem_of_getElem? (i := 86) rfl))) (by decide) (backOf (W := 0) (own_rm22 l Z a0 hw [] b54 nb56 knb56 b51 T64.heap n0 Zs F_b54_elementData V_nb56 F_b54_size E_b54) hZ (hw _ (List.mem_of_getElem? (i := 165) rfl)) (hw _ (List.mem_of_getElem? (i := 57) rfl)) (by decide) (by decide)) q71a q71b q71c (g := (mkF m 190 #[.val (.int i0), .val (.int i1), .val (.int i2), .val (.int i3), .val (.int zz1), .val (.int hi), .val (.int vv), .val (.int (1 : Int32)), .val (.ref b51), .val (.ref b54), .val (.ref b57), .val (.ref b59), .val (.ref b62), .val (.ref tn64), .val (.ref tn64), .unset, .unset, .unset] [(.int (0 : Int32)), (.ref b54)])) rfl (by rw [hml]; rfl) (Steps.refl _) (argsL := [(.int (0 : Int32))]) (rest := []) (lenOf own_pd0_9 rfl) rfl (by show 2 * 0 + _ ≤ _; exact Nat.le_of_eq rfl) (hb hby at_190) (fun _ _ => ⟨rfl, eq70, (by decide : 14 + 0 ≤ _), (by decide : 51 + 0 ≤ _)⟩)
    dsimp only [Pt.U, Pt.locs, Pt.cells, Pt.slots] at X71 l71 y71 z71 st71 hQ71
    subst l71 y71 z71
    clear Y70 eq70 q71a q71b q71c
    obtain ⟨rfl, NQ71, eq71⟩ := hQ71
    replace NF := Fr.app NF NQ71
    clear NQ71
    obtain ⟨lc71, Y71, NG71⟩ := own_lo X71 NF
    clear X71
    replace NF := NG71
    clear NG71
    refine own_goW (T' := T71) (g' := (mkF m 195 #[.val (.int i0), .val (.int i1), .val (.int i2), .val (.int i3), .val (.int zz1), .val (.int hi), .val (.int vv), .val (.int (1 : Int32)), .val (.ref b51), .val (.ref b54), .val (.ref b57), .val (.ref b59), .val (.ref b62), .val (.ref tn64), .val (.ref tn64), .unset, .unset, .unset] [(.ref b51)])) (fun _ k => st71.trans k) ?_
    clear st71
    refine own_goW (T' := T71) (g' := (mkF m 197 #[.val (.int i0), .val (.int i1), .val (.int i2), .val (.int i3), .val (.int zz1), .val (.int hi), .val (.int vv), .val (.int (1 : Int32)), .val (.ref b51), .val (.ref b54), .val (.ref b57), .val (.ref b59), .val (.ref b62), .val (.ref tn64), .val (.ref tn64), .unset, .unset, .unset] [(.ref b51), (.ref b51)])) (fun _ k => XS.aload Y71.here hx rfl (hb hby at_195) rfl rfl k) ?_
    refine own_goW (T' := T71) (g' := (mkF m 200 #[.val (.int i0), .val (.int i1), .val (.int i2), .val (.int i3), .val (.int zz1), .val (.int hi), .val (.int vv), .val (.int (1 : Int32)), .val (.ref b51), .val (.ref b54), .val (.ref b57), .val (.ref b59), .val (.ref b62), .val (.ref tn64), .val (.ref tn64), .unset, .unset, .unset] [])) (fun _ k => Jvm.RoadKit.acmp (g := (mkF m 197 #[.val (.int i0), .val (.int i1), .val (.int i2), .val (.int i3), .val (.int zz1), .val (.int hi), .val (.int vv), .val (.int (1 : Int32)), .val (.ref b51), .val (.ref b54), .val (.ref b57), .val (.ref b59), .val (.ref b62), .val (.ref tn64), .val (.ref tn64), .unset, .unset, .unset] [(.ref b51), (.ref b51)])) Y71 hx rfl rfl rfl (pc0 := 197) (pc' := 200) (same := true) rfl (hb hby at_197) rfl (decide_eq_true rfl) (by decide) (by decide) k) ?_
    refine own_goW (T' := T71) (g' := (mkF m 202 #[.val (.int i0), .val (.int i1), .val (.int i2), .val (.int i3), .val (.int zz1), .val (.int hi), .val (.int vv), .val (.int (1 : Int32)), .val (.ref b51), .val (.ref b54), .val (.ref b57), .val (.ref b59), .val (.ref b62), .val (.ref tn64), .val (.ref tn64), .unset, .unset, .unset] [(.ref tn64)])) (fun _ k => XS.aload Y71.here hx rfl (hb hby at_200) rfl rfl k) ?_
    obtain ⟨cq73, kq73, q73a, q73b, q73c⟩ := isOf hZ eq71 E_tn64
    clear q73b
    obtain ⟨_, _, ⟨T73, L73, k73, n73⟩, -, X73, ⟨Lc73, hQ73, l73, y73, z73⟩, st73⟩ := Y71.virtualBack hx (y := (⟨"com/example/ordence/ordence/Formula$Table", "tuples", "()Ljava/util/List;"⟩ : MethodName)) (z := (⟨"com/example/ordence/ordence/Formula$Table", "tuples", "()Ljava/util/List;"⟩ : MethodName)) hown (mvT hZ (hw _ (List.mem_of_getElem? (i := 179) rfl))) (mvT hZ (hw _ (List.mem_of_getElem? (i := 180) rfl))) (notFace_of_selects (args := #[]) (mvT hZ (hw _ (List.mem_of_getElem? (i := 182) rfl)))) (mvT hZ (hw _ (List.mem_of_getElem? (i := 182) rfl))) (mvT hZ (hw _ (List.mem_of_getElem? (i := 181) rfl))) (by decide) (backOf (W := 0) (own_rm26 l Z a0 hw [] tn64 b59 T64.heap n0 Zs F_tn64_tuples) hZ (hw _ (List.mem_of_getElem? (i := 183) rfl)) (hw _ (List.mem_of_getElem? (i := 116) rfl)) (by decide) (by decide)) q73a q73c (g := (mkF m 202 #[.val (.int i0), .val (.int i1), .val (.int i2), .val (.int i3), .val (.int zz1), .val (.int hi), .val (.int vv), .val (.int (1 : Int32)), .val (.ref b51), .val (.ref b54), .val (.ref b57), .val (.ref b59), .val (.ref b62), .val (.ref tn64), .val (.ref tn64), .unset, .unset, .unset] [(.ref tn64)])) rfl (by rw [hml]; rfl) (Steps.refl _) (argsL := []) (rest := []) (lenOf own_pd0_7 rfl) rfl (by show 2 * 0 + _ ≤ _; exact Nat.le_of_eq rfl) (hb hby at_202) (fun _ _ => ⟨rfl, eq71, (by decide : 14 + 0 ≤ _), (by decide : 51 + 0 ≤ _)⟩)
    dsimp only [Pt.U, Pt.locs, Pt.cells, Pt.slots] at X73 l73 y73 z73 st73 hQ73
    subst l73 y73 z73
    clear Y71 eq71 q73a q73c
    obtain ⟨rfl, NQ73, eq73⟩ := hQ73
    replace NF := Fr.app NF NQ73
    clear NQ73
    obtain ⟨lc73, Y73, NG73⟩ := own_lo X73 NF
    clear X73
    replace NF := NG73
    clear NG73
    refine own_goW (T' := T73) (g' := (mkF m 205 #[.val (.int i0), .val (.int i1), .val (.int i2), .val (.int i3), .val (.int zz1), .val (.int hi), .val (.int vv), .val (.int (1 : Int32)), .val (.ref b51), .val (.ref b54), .val (.ref b57), .val (.ref b59), .val (.ref b62), .val (.ref tn64), .val (.ref tn64), .unset, .unset, .unset] [(.ref b59)])) (fun _ k => st73.trans k) ?_
    clear st73
    obtain ⟨cq74, kq74, q74a, q74b, q74c⟩ := isOf hZ eq73 E_b59
    obtain ⟨_, _, ⟨T74, L74, k74, n74⟩, -, X74, ⟨Lc74, hQ74, l74, y74, z74⟩, st74⟩ := Y73.interfaceBack hx (xi := (⟨"java/util/List", "size", "()I"⟩ : MethodName)) (y := (⟨"java/util/ArrayList", "size", "()I"⟩ : MethodName)) hown (mvT hZ (hw _ (List.mem_of_getElem? (i := 150) rfl))) (mvT hZ (hw _ (List.mem_of_getElem? (i := 151) rfl))) (mvT hZ (hw _ (List.mem_of_getElem? (i := 152) rfl))) (mvT hZ (hw _ (List.mem_of_getElem? (i := 153) rfl))) (mvT hZ (hw _ (List.mem_of_getElem? (i := 154) rfl))) (mvT hZ (hw _ (List.mem_of_getElem? (i := 155) rfl))) (mvT hZ (hw _ (List.mem_of_getElem? (i := 156) rfl))) (mvT hZ (hw _ (List.mem_of_getElem? (i := 86) rfl))) (by decide) (backOf (W := 0) (own_rm21 l Z a0 hw [] b59 (1 : Int32) T64.heap n0 Zs F_b59_size) hZ (hw _ (List.mem_of_getElem? (i := 157) rfl)) (hw _ (List.mem_of_getElem? (i := 57) rfl)) (by decide) (by decide)) q74a q74b q74c (g := (mkF m 205 #[.val (.int i0), .val (.int i1), .val (.int i2), .val (.int i3), .val (.int zz1), .val (.int hi), .val (.int vv), .val (.int (1 : Int32)), .val (.ref b51), .val (.ref b54), .val (.ref b57), .val (.ref b59), .val (.ref b62), .val (.ref tn64), .val (.ref tn64), .unset, .unset, .unset] [(.ref b59)])) rfl (by rw [hml]; rfl) (Steps.refl _) (argsL := []) (rest := []) (lenOf own_pd0_8 rfl) rfl (by show 2 * 0 + _ ≤ _; exact Nat.le_of_eq rfl) (hb hby at_205) (fun _ _ => ⟨rfl, eq73, (by decide : 14 + 0 ≤ _), (by decide : 51 + 0 ≤ _)⟩)
    dsimp only [Pt.U, Pt.locs, Pt.cells, Pt.slots] at X74 l74 y74 z74 st74 hQ74
    subst l74 y74 z74
    clear Y73 eq73 q74a q74b q74c
    obtain ⟨rfl, NQ74, eq74⟩ := hQ74
    replace NF := Fr.app NF NQ74
    clear NQ74
    obtain ⟨lc74, Y74, NG74⟩ := own_lo X74 NF
    clear X74
    replace NF := NG74
    clear NG74
    refine own_goW (T' := T74) (g' := (mkF m 210 #[.val (.int i0), .val (.int i1), .val (.int i2), .val (.int i3), .val (.int zz1), .val (.int hi), .val (.int vv), .val (.int (1 : Int32)), .val (.ref b51), .val (.ref b54), .val (.ref b57), .val (.ref b59), .val (.ref b62), .val (.ref tn64), .val (.ref tn64), .unset, .unset, .unset] [(.int (1 : Int32))])) (fun _ k => st74.trans k) ?_
    clear st74
    refine own_goW (T' := T74) (g' := (mkF m 211 #[.val (.int i0), .val (.int i1), .val (.int i2), .val (.int i3), .val (.int zz1), .val (.int hi), .val (.int vv), .val (.int (1 : Int32)), .val (.ref b51), .val (.ref b54), .val (.ref b57), .val (.ref b59), .val (.ref b62), .val (.ref tn64), .val (.ref tn64), .unset, .unset, .unset] [(.int (1 : Int32)), (.int (1 : Int32))])) (fun _ k => XS.iconst Y74.here hx rfl (hb hby at_210) k) ?_
    refine own_goW (T' := T74) (g' := (mkF m 214 #[.val (.int i0), .val (.int i1), .val (.int i2), .val (.int i3), .val (.int zz1), .val (.int hi), .val (.int vv), .val (.int (1 : Int32)), .val (.ref b51), .val (.ref b54), .val (.ref b57), .val (.ref b59), .val (.ref b62), .val (.ref tn64), .val (.ref tn64), .unset, .unset, .unset] [])) (fun _ k => XS.icmpNo Y74.here hx rfl (hb hby at_211) rfl (by decide) k) ?_
    refine own_goW (T' := T74) (g' := (mkF m 216 #[.val (.int i0), .val (.int i1), .val (.int i2), .val (.int i3), .val (.int zz1), .val (.int hi), .val (.int vv), .val (.int (1 : Int32)), .val (.ref b51), .val (.ref b54), .val (.ref b57), .val (.ref b59), .val (.ref b62), .val (.ref tn64), .val (.ref tn64), .unset, .unset, .unset] [(.ref tn64)])) (fun _ k => XS.aload Y74.here hx rfl (hb hby at_214) rfl rfl k) ?_
    obtain ⟨cq75, kq75, q75a, q75b, q75c⟩ := isOf hZ eq74 E_tn64
    clear q75b
    obtain ⟨_, _, ⟨T75, L75, k75, n75⟩, -, X75, ⟨Lc75, hQ75, l75, y75, z75⟩, st75⟩ := Y74.virtualBack hx (y := (⟨"com/example/ordence/ordence/Formula$Table", "tuples", "()Ljava/util/List;"⟩ : MethodName)) (z := (⟨"com/example/ordence/ordence/Formula$Table", "tuples", "()Ljava/util/List;"⟩ : MethodName)) hown (mvT hZ (hw _ (List.mem_of_getElem? (i := 179) rfl))) (mvT hZ (hw _ (List.mem_of_getElem? (i := 180) rfl))) (notFace_of_selects (args := #[]) (mvT hZ (hw _ (List.mem_of_getElem? (i := 182) rfl)))) (mvT hZ (hw _ (List.mem_of_getElem? (i := 182) rfl))) (mvT hZ (hw _ (List.mem_of_getElem? (i := 181) rfl))) (by decide) (backOf (W := 0) (own_rm26 l Z a0 hw [] tn64 b59 T64.heap n0 Zs F_tn64_tuples) hZ (hw _ (List.mem_of_getElem? (i := 183) rfl)) (hw _ (List.mem_of_getElem? (i := 116) rfl)) (by decide) (by decide)) q75a q75c (g := (mkF m 216 #[.val (.int i0), .val (.int i1), .val (.int i2), .val (.int i3), .val (.int zz1), .val (.int hi), .val (.int vv), .val (.int (1 : Int32)), .val (.ref b51), .val (.ref b54), .val (.ref b57), .val (.ref b59), .val (.ref b62), .val (.ref tn64), .val (.ref tn64), .unset, .unset, .unset] [(.ref tn64)])) rfl (by rw [hml]; rfl) (Steps.refl _) (argsL := []) (rest := []) (lenOf own_pd0_7 rfl) rfl (by show 2 * 0 + _ ≤ _; exact Nat.le_of_eq rfl) (hb hby at_216) (fun _ _ => ⟨rfl, eq74, (by decide : 14 + 0 ≤ _), (by decide : 51 + 0 ≤ _)⟩)
    dsimp only [Pt.U, Pt.locs, Pt.cells, Pt.slots] at X75 l75 y75 z75 st75 hQ75
    subst l75 y75 z75
    clear Y74 eq74 q75a q75c
    obtain ⟨rfl, NQ75, eq75⟩ := hQ75
    replace NF := Fr.app NF NQ75
    clear NQ75
    obtain ⟨lc75, Y75, NG75⟩ := own_lo X75 NF
    clear X75
    replace NF := NG75
    clear NG75
    refine own_goW (T' := T75) (g' := (mkF m 219 #[.val (.int i0), .val (.int i1), .val (.int i2), .val (.int i3), .val (.int zz1), .val (.int hi), .val (.int vv), .val (.int (1 : Int32)), .val (.ref b51), .val (.ref b54), .val (.ref b57), .val (.ref b59), .val (.ref b62), .val (.ref tn64), .val (.ref tn64), .unset, .unset, .unset] [(.ref b59)])) (fun _ k => st75.trans k) ?_
    clear st75
    refine own_goW (T' := T75) (g' := (mkF m 220 #[.val (.int i0), .val (.int i1), .val (.int i2), .val (.int i3), .val (.int zz1), .val (.int hi), .val (.int vv), .val (.int (1 : Int32)), .val (.ref b51), .val (.ref b54), .val (.ref b57), .val (.ref b59), .val (.ref b62), .val (.ref tn64), .val (.ref tn64), .unset, .unset, .unset] [(.int (0 : Int32)), (.ref b59)])) (fun _ k => XS.iconst Y75.here hx rfl (hb hby at_219) k) ?_
    obtain ⟨cq76, kq76, q76a, q76b, q76c⟩ := isOf hZ eq75 E_b59
    obtain ⟨_, _, ⟨T76, L76, k76, n76⟩, -, X76, ⟨Lc76, hQ76, l76, y76, z76⟩, st76⟩ := Y75.interfaceBack hx (xi := (⟨"java/util/List", "get", "(I)Ljava/lang/Object;"⟩ : MethodName)) (y := (⟨"java/util/ArrayList", "get", "(I)Ljava/lang/Object;"⟩ : MethodName)) hown (mvT hZ (hw _ (List.mem_of_getElem? (i := 158) rfl))) (mvT hZ (hw _ (List.mem_of_getElem? (i := 159) rfl))) (mvT hZ (hw _ (List.mem_of_getElem? (i := 160) rfl))) (mvT hZ (hw _ (List.mem_of_getElem? (i := 161) rfl))) (mvT hZ (hw _ (List.mem_of_getElem? (i := 162) rfl))) (mvT hZ (hw _ (List.mem_of_getElem? (i := 163) rfl))) (mvT hZ (hw _ (List.mem_of_getElem? (i := 164) rfl))) (mvT hZ (hw _ (List.mem_of_getElem? (i := 86) rfl))) (by decide) (backOf (W := 0) (own_rm22 l Z a0 hw [] b59 nb61 knb61 b57 T64.heap n0 Zs F_b59_elementData V_nb61 F_b59_size E_b59) hZ (hw _ (List.mem_of_getElem? (i := 165) rfl)) (hw _ (List.mem_of_getElem? (i := 57) rfl)) (by decide) (by decide)) q76a q76b q76c (g := (mkF m 220 #[.val (.int i0), .val (.int i1), .val (.int i2), .val (.int i3), .val (.int zz1), .val (.int hi), .val (.int vv), .val (.int (1 : Int32)), .val (.ref b51), .val (.ref b54), .val (.ref b57), .val (.ref b59), .val (.ref b62), .val (.ref tn64), .val (.ref tn64), .unset, .unset, .unset] [(.int (0 : Int32)), (.ref b59)])) rfl (by rw [hml]; rfl) (Steps.refl _) (argsL := [(.int (0 : Int32))]) (rest := []) (lenOf own_pd0_9 rfl) rfl (by show 2 * 0 + _ ≤ _; exact Nat.le_of_eq rfl) (hb hby at_220) (fun _ _ => ⟨rfl, eq75, (by decide : 14 + 0 ≤ _), (by decide : 51 + 0 ≤ _)⟩)
    dsimp only [Pt.U, Pt.locs, Pt.cells, Pt.slots] at X76 l76 y76 z76 st76 hQ76
    subst l76 y76 z76
    clear Y75 eq75 q76a q76b q76c
    obtain ⟨rfl, NQ76, eq76⟩ := hQ76
    replace NF := Fr.app NF NQ76
    clear NQ76
    obtain ⟨lc76, Y76, NG76⟩ := own_lo X76 NF
    clear X76
    replace NF := NG76
    clear NG76
    refine own_goW (T' := T76) (g' := (mkF m 225 #[.val (.int i0), .val (.int i1), .val (.int i2), .val (.int i3), .val (.int zz1), .val (.int hi), .val (.int vv), .val (.int (1 : Int32)), .val (.ref b51), .val (.ref b54), .val (.ref b57), .val (.ref b59), .val (.ref b62), .val (.ref tn64), .val (.ref tn64), .unset, .unset, .unset] [(.ref b57)])) (fun _ k => st76.trans k) ?_
    clear st76
    obtain ⟨T77, X77, e77, st77⟩ := castY Y76 hx hZ hown (hw _ (List.mem_of_getElem? (i := 184) rfl)) eq76 (Ins.self E_b57) (g := (mkF m 225 #[.val (.int i0), .val (.int i1), .val (.int i2), .val (.int i3), .val (.int zz1), .val (.int hi), .val (.int vv), .val (.int (1 : Int32)), .val (.ref b51), .val (.ref b54), .val (.ref b57), .val (.ref b59), .val (.ref b62), .val (.ref tn64), .val (.ref tn64), .unset, .unset, .unset] [(.ref b57)])) rfl rfl (hb hby at_225)
    clear Y76 eq76
    refine own_goW (T' := T77) (g' := (mkF m 228 #[.val (.int i0), .val (.int i1), .val (.int i2), .val (.int i3), .val (.int zz1), .val (.int hi), .val (.int vv), .val (.int (1 : Int32)), .val (.ref b51), .val (.ref b54), .val (.ref b57), .val (.ref b59), .val (.ref b62), .val (.ref tn64), .val (.ref tn64), .unset, .unset, .unset] [(.ref b57)])) (fun _ k => st77 _ k) ?_
    clear st77
    obtain ⟨c_78, Ar_78, q_78, S_78, N_78, H_78, G_78⟩ := id V_b57
    clear G_78 H_78 q_78
    refine own_goW (T' := T77) (g' := (mkF m 229 #[.val (.int i0), .val (.int i1), .val (.int i2), .val (.int i3), .val (.int zz1), .val (.int hi), .val (.int vv), .val (.int (1 : Int32)), .val (.ref b51), .val (.ref b54), .val (.ref b57), .val (.ref b59), .val (.ref b62), .val (.ref tn64), .val (.ref tn64), .unset, .unset, .unset] [(.int (1 : Int32))])) (fun _ k => X77.arraylength hx (by rw [e77]; exact Ar_78.1) (State.isArrayOf_alike hZ.alike Ar_78.2.1) (g := (mkF m 228 #[.val (.int i0), .val (.int i1), .val (.int i2), .val (.int i3), .val (.int zz1), .val (.int hi), .val (.int vv), .val (.int (1 : Int32)), .val (.ref b51), .val (.ref b54), .val (.ref b57), .val (.ref b59), .val (.ref b62), .val (.ref tn64), .val (.ref tn64), .unset, .unset, .unset] [(.ref b57)])) rfl rfl (hb hby at_228) _ (by rw [len_of S_78 N_78]; exact k)) ?_
    clear Ar_78 N_78 S_78
    refine own_goW (T' := T77) (g' := (mkF m 230 #[.val (.int i0), .val (.int i1), .val (.int i2), .val (.int i3), .val (.int zz1), .val (.int hi), .val (.int vv), .val (.int (1 : Int32)), .val (.ref b51), .val (.ref b54), .val (.ref b57), .val (.ref b59), .val (.ref b62), .val (.ref tn64), .val (.ref tn64), .unset, .unset, .unset] [(.int (1 : Int32)), (.int (1 : Int32))])) (fun _ k => XS.iconst X77.here hx rfl (hb hby at_229) k) ?_
    refine own_goW (T' := T77) (g' := (mkF m 233 #[.val (.int i0), .val (.int i1), .val (.int i2), .val (.int i3), .val (.int zz1), .val (.int hi), .val (.int vv), .val (.int (1 : Int32)), .val (.ref b51), .val (.ref b54), .val (.ref b57), .val (.ref b59), .val (.ref b62), .val (.ref tn64), .val (.ref tn64), .unset, .unset, .unset] [])) (fun _ k => XS.icmpNo X77.here hx rfl (hb hby at_230) rfl (by decide) k) ?_
    refine own_goW (T' := T77) (g' := (mkF m 235 #[.val (.int i0), .val (.int i1), .val (.int i2), .val (.int i3), .val (.int zz1), .val (.int hi), .val (.int vv), .val (.int (1 : Int32)), .val (.ref b51), .val (.ref b54), .val (.ref b57), .val (.ref b59), .val (.ref b62), .val (.ref tn64), .val (.ref tn64), .unset, .unset, .unset] [(.ref tn64)])) (fun _ k => XS.aload X77.here hx rfl (hb hby at_233) rfl rfl k) ?_
    obtain ⟨cq79, kq79, q79a, q79b, q79c⟩ := isOf hZ e77 E_tn64
    clear q79b
    obtain ⟨_, _, ⟨T79, L79, k79, n79⟩, -, X79, ⟨Lc79, hQ79, l79, y79, z79⟩, st79⟩ := X77.virtualBack hx (y := (⟨"com/example/ordence/ordence/Formula$Table", "tuples", "()Ljava/util/List;"⟩ : MethodName)) (z := (⟨"com/example/ordence/ordence/Formula$Table", "tuples", "()Ljava/util/List;"⟩ : MethodName)) hown (mvT hZ (hw _ (List.mem_of_getElem? (i := 179) rfl))) (mvT hZ (hw _ (List.mem_of_getElem? (i := 180) rfl))) (notFace_of_selects (args := #[]) (mvT hZ (hw _ (List.mem_of_getElem? (i := 182) rfl)))) (mvT hZ (hw _ (List.mem_of_getElem? (i := 182) rfl))) (mvT hZ (hw _ (List.mem_of_getElem? (i := 181) rfl))) (by decide) (backOf (W := 0) (own_rm26 l Z a0 hw [] tn64 b59 T64.heap n0 Zs F_tn64_tuples) hZ (hw _ (List.mem_of_getElem? (i := 183) rfl)) (hw _ (List.mem_of_getElem? (i := 116) rfl)) (by decide) (by decide)) q79a q79c (g := (mkF m 235 #[.val (.int i0), .val (.int i1), .val (.int i2), .val (.int i3), .val (.int zz1), .val (.int hi), .val (.int vv), .val (.int (1 : Int32)), .val (.ref b51), .val (.ref b54), .val (.ref b57), .val (.ref b59), .val (.ref b62), .val (.ref tn64), .val (.ref tn64), .unset, .unset, .unset] [(.ref tn64)])) rfl (by rw [hml]; rfl) (Steps.refl _) (argsL := []) (rest := []) (lenOf own_pd0_7 rfl) rfl (by show 2 * 0 + _ ≤ _; exact Nat.le_of_eq rfl) (hb hby at_235) (fun _ _ => ⟨rfl, e77, (by decide : 14 + 0 ≤ _), (by decide : 51 + 0 ≤ _)⟩)
    dsimp only [Pt.U, Pt.locs, Pt.cells, Pt.slots] at X79 l79 y79 z79 st79 hQ79
    subst l79 y79 z79
    clear X77 e77 q79a q79c
    obtain ⟨rfl, NQ79, eq79⟩ := hQ79
    replace NF := Fr.app NF NQ79
    clear NQ79
    obtain ⟨lc79, Y79, NG79⟩ := own_lo X79 NF
    clear X79
    replace NF := NG79
    clear NG79
    refine own_goW (T' := T79) (g' := (mkF m 238 #[.val (.int i0), .val (.int i1), .val (.int i2), .val (.int i3), .val (.int zz1), .val (.int hi), .val (.int vv), .val (.int (1 : Int32)), .val (.ref b51), .val (.ref b54), .val (.ref b57), .val (.ref b59), .val (.ref b62), .val (.ref tn64), .val (.ref tn64), .unset, .unset, .unset] [(.ref b59)])) (fun _ k => st79.trans k) ?_
    clear st79
    refine own_goW (T' := T79) (g' := (mkF m 239 #[.val (.int i0), .val (.int i1), .val (.int i2), .val (.int i3), .val (.int zz1), .val (.int hi), .val (.int vv), .val (.int (1 : Int32)), .val (.ref b51), .val (.ref b54), .val (.ref b57), .val (.ref b59), .val (.ref b62), .val (.ref tn64), .val (.ref tn64), .unset, .unset, .unset] [(.int (0 : Int32)), (.ref b59)])) (fun _ k => XS.iconst Y79.here hx rfl (hb hby at_238) k) ?_
    obtain ⟨cq80, kq80, q80a, q80b, q80c⟩ := isOf hZ eq79 E_b59
    obtain ⟨_, _, ⟨T80, L80, k80, n80⟩, -, X80, ⟨Lc80, hQ80, l80, y80, z80⟩, st80⟩ := Y79.interfaceBack hx (xi := (⟨"java/util/List", "get", "(I)Ljava/lang/Object;"⟩ : MethodName)) (y := (⟨"java/util/ArrayList", "get", "(I)Ljava/lang/Object;"⟩ : MethodName)) hown (mvT hZ (hw _ (List.mem_of_getElem? (i := 158) rfl))) (mvT hZ (hw _ (List.mem_of_getElem? (i := 159) rfl))) (mvT hZ (hw _ (List.mem_of_getElem? (i := 160) rfl))) (mvT hZ (hw _ (List.mem_of_getElem? (i := 161) rfl))) (mvT hZ (hw _ (List.mem_of_getElem? (i := 162) rfl))) (mvT hZ (hw _ (List.mem_of_getElem? (i := 163) rfl))) (mvT hZ (hw _ (List.mem_of_getElem? (i := 164) rfl))) (mvT hZ (hw _ (List.mem_of_getElem? (i := 86) rfl))) (by decide) (backOf (W := 0) (own_rm22 l Z a0 hw [] b59 nb61 knb61 b57 T64.heap n0 Zs F_b59_elementData V_nb61 F_b59_size E_b59) hZ (hw _ (List.mem_of_getElem? (i := 165) rfl)) (hw _ (List.mem_of_getElem? (i := 57) rfl)) (by decide) (by decide)) q80a q80b q80c (g := (mkF m 239 #[.val (.int i0), .val (.int i1), .val (.int i2), .val (.int i3), .val (.int zz1), .val (.int hi), .val (.int vv), .val (.int (1 : Int32)), .val (.ref b51), .val (.ref b54), .val (.ref b57), .val (.ref b59), .val (.ref b62), .val (.ref tn64), .val (.ref tn64), .unset, .unset, .unset] [(.int (0 : Int32)), (.ref b59)])) rfl (by rw [hml]; rfl) (Steps.refl _) (argsL := [(.int (0 : Int32))]) (rest := []) (lenOf own_pd0_9 rfl) rfl (by show 2 * 0 + _ ≤ _; exact Nat.le_of_eq rfl) (hb hby at_239) (fun _ _ => ⟨rfl, eq79, (by decide : 14 + 0 ≤ _), (by decide : 51 + 0 ≤ _)⟩)
    dsimp only [Pt.U, Pt.locs, Pt.cells, Pt.slots] at X80 l80 y80 z80 st80 hQ80
    subst l80 y80 z80
    clear Y79 eq79 q80a q80b q80c
    obtain ⟨rfl, NQ80, eq80⟩ := hQ80
    replace NF := Fr.app NF NQ80
    clear NQ80
    obtain ⟨lc80, Y80, NG80⟩ := own_lo X80 NF
    clear X80
    replace NF := NG80
    clear NG80
    refine own_goW (T' := T80) (g' := (mkF m 244 #[.val (.int i0), .val (.int i1), .val (.int i2), .val (.int i3), .val (.int zz1), .val (.int hi), .val (.int vv), .val (.int (1 : Int32)), .val (.ref b51), .val (.ref b54), .val (.ref b57), .val (.ref b59), .val (.ref b62), .val (.ref tn64), .val (.ref tn64), .unset, .unset, .unset] [(.ref b57)])) (fun _ k => st80.trans k) ?_
    clear st80
    obtain ⟨T81, X81, e81, st81⟩ := castY Y80 hx hZ hown (hw _ (List.mem_of_getElem? (i := 184) rfl)) eq80 (Ins.self E_b57) (g := (mkF m 244 #[.val (.int i0), .val (.int i1), .val (.int i2), .val (.int i3), .val (.int zz1), .val (.int hi), .val (.int vv), .val (.int (1 : Int32)), .val (.ref b51), .val (.ref b54), .val (.ref b57), .val (.ref b59), .val (.ref b62), .val (.ref tn64), .val (.ref tn64), .unset, .unset, .unset] [(.ref b57)])) rfl rfl (hb hby at_244)
    clear Y80 eq80
    refine own_goW (T' := T81) (g' := (mkF m 247 #[.val (.int i0), .val (.int i1), .val (.int i2), .val (.int i3), .val (.int zz1), .val (.int hi), .val (.int vv), .val (.int (1 : Int32)), .val (.ref b51), .val (.ref b54), .val (.ref b57), .val (.ref b59), .val (.ref b62), .val (.ref tn64), .val (.ref tn64), .unset, .unset, .unset] [(.ref b57)])) (fun _ k => st81 _ k) ?_
    clear st81
    refine own_goW (T' := T81) (g' := (mkF m 248 #[.val (.int i0), .val (.int i1), .val (.int i2), .val (.int i3), .val (.int zz1), .val (.int hi), .val (.int vv), .val (.int (1 : Int32)), .val (.ref b51), .val (.ref b54), .val (.ref b57), .val (.ref b59), .val (.ref b62), .val (.ref tn64), .val (.ref tn64), .unset, .unset, .unset] [(.int (0 : Int32)), (.ref b57)])) (fun _ k => XS.iconst X81.here hx rfl (hb hby at_247) k) ?_
    obtain ⟨c_82, Ar_82, q_82, S_82, N_82, H_82, G_82⟩ := id V_b57
    clear G_82 N_82 q_82
    replace hin_82 : ¬ ((0 : Int32) < 0 ∨ c_82.slots.size ≤ ((0 : Int32)).toNatClampNeg) := inb_of S_82 ⟨by decide, by decide⟩
    clear S_82
    replace hat_82 : c_82.slots[((0 : Int32)).toNatClampNeg]? = some (.int vv) := H_82.at hin_82 rfl
    clear H_82
    refine own_goW (T' := T81) (g' := (mkF m 249 #[.val (.int i0), .val (.int i1), .val (.int i2), .val (.int i3), .val (.int zz1), .val (.int hi), .val (.int vv), .val (.int (1 : Int32)), .val (.ref b51), .val (.ref b54), .val (.ref b57), .val (.ref b59), .val (.ref b62), .val (.ref tn64), .val (.ref tn64), .unset, .unset, .unset] [(.int vv)])) (fun _ k => X81.iaload hx (j := (0 : Int32)) (v := (.int vv)) (by rw [e81]; exact Ar_82.1) (State.isArrayOf_alike hZ.alike Ar_82.2.1) Ar_82.2.2 hin_82 hat_82 (g := (mkF m 248 #[.val (.int i0), .val (.int i1), .val (.int i2), .val (.int i3), .val (.int zz1), .val (.int hi), .val (.int vv), .val (.int (1 : Int32)), .val (.ref b51), .val (.ref b54), .val (.ref b57), .val (.ref b59), .val (.ref b62), .val (.ref tn64), .val (.ref tn64), .unset, .unset, .unset] [(.int (0 : Int32)), (.ref b57)])) rfl rfl (hb hby at_248) _ k) ?_
    clear Ar_82 hat_82 hin_82
    refine own_goW (T' := T81) (g' := (mkF m 251 #[.val (.int i0), .val (.int i1), .val (.int i2), .val (.int i3), .val (.int zz1), .val (.int hi), .val (.int vv), .val (.int (1 : Int32)), .val (.ref b51), .val (.ref b54), .val (.ref b57), .val (.ref b59), .val (.ref b62), .val (.ref tn64), .val (.ref tn64), .unset, .unset, .unset] [(.int vv), (.int vv)])) (fun _ k => XS.iload X81.here hx rfl (hb hby at_249) rfl k) ?_
    refine own_goW (T' := T81) (g' := (mkF m 254 #[.val (.int i0), .val (.int i1), .val (.int i2), .val (.int i3), .val (.int zz1), .val (.int hi), .val (.int vv), .val (.int (1 : Int32)), .val (.ref b51), .val (.ref b54), .val (.ref b57), .val (.ref b59), .val (.ref b62), .val (.ref tn64), .val (.ref tn64), .unset, .unset, .unset] [])) (fun _ k => XS.icmpNo X81.here hx rfl (hb hby at_251) rfl (teq (rfl : vv = vv)).2 k) ?_
    refine own_goW (T' := T81) (g' := (mkF m 256 #[.val (.int i0), .val (.int i1), .val (.int i2), .val (.int i3), .val (.int zz1), .val (.int hi), .val (.int vv), .val (.int (1 : Int32)), .val (.ref b51), .val (.ref b54), .val (.ref b57), .val (.ref b59), .val (.ref b62), .val (.ref tn64), .val (.ref tn64), .unset, .unset, .unset] [(.ref b62)])) (fun _ k => XS.aload X81.here hx rfl (hb hby at_254) rfl rfl k) ?_
    obtain ⟨cq83, kq83, q83a, q83b, q83c⟩ := isOf hZ e81 E_b62
    clear q83b
    obtain ⟨_, _, ⟨T83, L83, k83, n83⟩, -, X83, ⟨Lc83, hQ83, l83, y83, z83⟩, st83⟩ := X81.virtualBack hx (y := (⟨"com/example/ordence/ordence/Formula$Table", "supports", "()Z"⟩ : MethodName)) (z := (⟨"com/example/ordence/ordence/Formula$Table", "supports", "()Z"⟩ : MethodName)) hown (mvT hZ (hw _ (List.mem_of_getElem? (i := 140) rfl))) (mvT hZ (hw _ (List.mem_of_getElem? (i := 141) rfl))) (notFace_of_selects (args := #[]) (mvT hZ (hw _ (List.mem_of_getElem? (i := 143) rfl)))) (mvT hZ (hw _ (List.mem_of_getElem? (i := 143) rfl))) (mvT hZ (hw _ (List.mem_of_getElem? (i := 142) rfl))) (by decide) (backOf (W := 0) (own_rm18_1 l Z a0 hw [] b62 b54 b59 T64.heap n0 Zs F_b62_variables F_b62_tuples F_b62_supports) hZ (hw _ (List.mem_of_getElem? (i := 144) rfl)) (hw _ (List.mem_of_getElem? (i := 116) rfl)) (by decide) (by decide)) q83a q83c (g := (mkF m 256 #[.val (.int i0), .val (.int i1), .val (.int i2), .val (.int i3), .val (.int zz1), .val (.int hi), .val (.int vv), .val (.int (1 : Int32)), .val (.ref b51), .val (.ref b54), .val (.ref b57), .val (.ref b59), .val (.ref b62), .val (.ref tn64), .val (.ref tn64), .unset, .unset, .unset] [(.ref b62)])) rfl (by rw [hml]; rfl) (Steps.refl _) (argsL := []) (rest := []) (lenOf own_pd0_6 rfl) rfl (by show 2 * 0 + _ ≤ _; exact Nat.le_of_eq rfl) (hb hby at_256) (fun _ _ => ⟨rfl, e81, (by decide : 14 + 0 ≤ _), (by decide : 51 + 0 ≤ _)⟩)
    dsimp only [Pt.U, Pt.locs, Pt.cells, Pt.slots] at X83 l83 y83 z83 st83 hQ83
    subst l83 y83 z83
    clear X81 e81 q83a q83c
    obtain ⟨rfl, NQ83, eq83⟩ := hQ83
    replace NF := Fr.app NF NQ83
    clear NQ83
    obtain ⟨lc83, Y83, NG83⟩ := own_lo X83 NF
    clear X83
    replace NF := NG83
    clear NG83
    refine own_goW (T' := T83) (g' := (mkF m 259 #[.val (.int i0), .val (.int i1), .val (.int i2), .val (.int i3), .val (.int zz1), .val (.int hi), .val (.int vv), .val (.int (1 : Int32)), .val (.ref b51), .val (.ref b54), .val (.ref b57), .val (.ref b59), .val (.ref b62), .val (.ref tn64), .val (.ref tn64), .unset, .unset, .unset] [(.int (1 : Int32))])) (fun _ k => st83.trans k) ?_
    clear st83
    refine own_goW (T' := T83) (g' := (mkF m 261 #[.val (.int i0), .val (.int i1), .val (.int i2), .val (.int i3), .val (.int zz1), .val (.int hi), .val (.int vv), .val (.int (1 : Int32)), .val (.ref b51), .val (.ref b54), .val (.ref b57), .val (.ref b59), .val (.ref b62), .val (.ref tn64), .val (.ref tn64), .unset, .unset, .unset] [(.int (1 : Int32)), (.int (1 : Int32))])) (fun _ k => XS.iload Y83.here hx rfl (hb hby at_259) rfl k) ?_
    refine own_goW (T' := T83) (g' := (mkF m 264 #[.val (.int i0), .val (.int i1), .val (.int i2), .val (.int i3), .val (.int zz1), .val (.int hi), .val (.int vv), .val (.int (1 : Int32)), .val (.ref b51), .val (.ref b54), .val (.ref b57), .val (.ref b59), .val (.ref b62), .val (.ref tn64), .val (.ref tn64), .unset, .unset, .unset] [])) (fun _ k => XS.icmpNo Y83.here hx rfl (hb hby at_261) rfl (by decide) k) ?_
    refine own_goW (T' := T83) (g' := (mkF m 265 #[.val (.int i0), .val (.int i1), .val (.int i2), .val (.int i3), .val (.int zz1), .val (.int hi), .val (.int vv), .val (.int (1 : Int32)), .val (.ref b51), .val (.ref b54), .val (.ref b57), .val (.ref b59), .val (.ref b62), .val (.ref tn64), .val (.ref tn64), .unset, .unset, .unset] [(.int (1 : Int32))])) (fun _ k => XS.iconst Y83.here hx rfl (hb hby at_264) k) ?_
    refine own_goW (T' := T83) (g' := (mkF m 269 #[.val (.int i0), .val (.int i1), .val (.int i2), .val (.int i3), .val (.int zz1), .val (.int hi), .val (.int vv), .val (.int (1 : Int32)), .val (.ref b51), .val (.ref b54), .val (.ref b57), .val (.ref b59), .val (.ref b62), .val (.ref tn64), .val (.ref tn64), .unset, .unset, .unset] [(.int (1 : Int32))])) (fun _ k => XS.goto Y83.here hx rfl (pc0 := 265) (pc' := 269) rfl (hb hby at_265) (by decide) (by decide) k) ?_
    refine own_goW (T' := T83) (g' := (mkF m 271 #[.val (.int i0), .val (.int i1), .val (.int i2), .val (.int i3), .val (.int zz1), .val (.int hi), .val (.int vv), .val (.int (1 : Int32)), .val (.ref b51), .val (.ref b54), .val (.ref b57), .val (.ref b59), .val (.ref b62), .val (.ref tn64), .val (.ref tn64), .val (.int (1 : Int32)), .unset, .unset] [])) (fun _ k => XS.istore Y83.here hx rfl (hb hby at_269) rfl (l' := #[.val (.int i0), .val (.int i1), .val (.int i2), .val (.int i3), .val (.int zz1), .val (.int hi), .val (.int vv), .val (.int (1 : Int32)), .val (.ref b51), .val (.ref b54), .val (.ref b57), .val (.ref b59), .val (.ref b62), .val (.ref tn64), .val (.ref tn64), .val (.int (1 : Int32)), .unset, .unset]) rfl k) ?_
    refine own_goW (T' := T83) (g' := (mkF m 273 #[.val (.int i0), .val (.int i1), .val (.int i2), .val (.int i3), .val (.int zz1), .val (.int hi), .val (.int vv), .val (.int (1 : Int32)), .val (.ref b51), .val (.ref b54), .val (.ref b57), .val (.ref b59), .val (.ref b62), .val (.ref tn64), .val (.ref tn64), .val (.int (1 : Int32)), .unset, .unset] [(.int (1 : Int32))])) (fun _ k => XS.iload Y83.here hx rfl (hb hby at_271) rfl k) ?_
    refine own_goW (T' := T83) (g' := (mkF m 278 #[.val (.int i0), .val (.int i1), .val (.int i2), .val (.int i3), .val (.int zz1), .val (.int hi), .val (.int vv), .val (.int (1 : Int32)), .val (.ref b51), .val (.ref b54), .val (.ref b57), .val (.ref b59), .val (.ref b62), .val (.ref tn64), .val (.ref tn64), .val (.int (1 : Int32)), .unset, .unset] [])) (fun _ k => XS.ifYes Y83.here hx rfl (pc0 := 273) (pc' := 278) rfl (hb hby at_273) rfl (by decide) (by decide) (by decide) k) ?_
    refine own_goW (T' := T83) (g' := (mkF m 280 #[.val (.int i0), .val (.int i1), .val (.int i2), .val (.int i3), .val (.int zz1), .val (.int hi), .val (.int vv), .val (.int (1 : Int32)), .val (.ref b51), .val (.ref b54), .val (.ref b57), .val (.ref b59), .val (.ref b62), .val (.ref tn64), .val (.ref tn64), .val (.int (1 : Int32)), .unset, .unset] [(.ref tn64)])) (fun _ k => XS.aload Y83.here hx rfl (hb hby at_278) rfl rfl k) ?_
    replace lt_b51 := E_b51.lt
    replace lt_b54 := E_b54.lt
    replace lt_b57 := E_b57.lt
    replace lt_b59 := E_b59.lt
    replace lt_b62 := E_b62.lt
    replace lt_nb56 := V_nb56.lt
    replace lt_nb61 := V_nb61.lt
    replace lt_tn64 := E_tn64.lt
    obtain ⟨cq84, kq84, q84a, q84b, q84c⟩ := isOf hZ eq83 E_tn64
    clear q84b
    obtain ⟨_, _, ⟨T84, L84, k84, n84⟩, -, X84, ⟨Lc84, hQ84, l84, y84, z84⟩, st84⟩ := Y83.virtualBack hx (y := (⟨"com/example/ordence/ordence/Formula$Table", "negate", "()Lcom/example/ordence/ordence/Formula;"⟩ : MethodName)) (z := (⟨"com/example/ordence/ordence/Formula$Table", "negate", "()Lcom/example/ordence/ordence/Formula;"⟩ : MethodName)) hown (mvT hZ (hw _ (List.mem_of_getElem? (i := 132) rfl))) (mvT hZ (hw _ (List.mem_of_getElem? (i := 133) rfl))) (notFace_of_selects (args := #[]) (mvT hZ (hw _ (List.mem_of_getElem? (i := 135) rfl)))) (mvT hZ (hw _ (List.mem_of_getElem? (i := 135) rfl))) (mvT hZ (hw _ (List.mem_of_getElem? (i := 134) rfl))) (by decide) (backOf (W := 0) (own_rm17_0 l Z a0 hw [] tn64 b54 b59 T64.heap n0 Zs F_tn64_variables F_tn64_tuples F_tn64_supports) hZ (hw _ (List.mem_of_getElem? (i := 136) rfl)) (hw _ (List.mem_of_getElem? (i := 116) rfl)) (by decide) (by decide)) q84a q84c (g := (mkF m 280 #[.val (.int i0), .val (.int i1), .val (.int i2), .val (.int i3), .val (.int zz1), .val (.int hi), .val (.int vv), .val (.int (1 : Int32)), .val (.ref b51), .val (.ref b54), .val (.ref b57), .val (.ref b59), .val (.ref b62), .val (.ref tn64), .val (.ref tn64), .val (.int (1 : Int32)), .unset, .unset] [(.ref tn64)])) rfl (by rw [hml]; rfl) (Steps.refl _) (argsL := []) (rest := []) (lenOf own_pd0_5 rfl) rfl (by show 2 * 0 + _ ≤ _; exact Nat.le_of_eq rfl) (hb hby at_280) (fun _ _ => ⟨rfl, eq83, (by decide : 14 + 1 ≤ _), (by decide : 51 + 3 ≤ _)⟩)
    dsimp only [Pt.U, Pt.locs, Pt.cells, Pt.slots] at X84 l84 y84 z84 st84 hQ84
    subst l84 y84 z84
    clear Y83 eq83 q84a q84c
    obtain ⟨NQ84, K84, tn84, rfl, ge_tn84, g_tn84, E_tn84, F_tn84_variables, F_tn84_tuples, F_tn84_supports⟩ := hQ84
    clear g_tn84
    replace NF := Fr.app NF NQ84
    clear NQ84
    obtain ⟨lc84, Y84, NG84⟩ := own_lo X84 NF
    clear X84
    replace NF := NG84
    clear NG84
    replace OL := OL.keep K84 all0
    replace E_b51 := E_b51.keep K84
    clear E_b51
    replace E_b54 := E_b54.keep K84
    replace F_b54_modCount := F_b54_modCount.keep K84 nin0
    clear F_b54_modCount
    replace F_b54_elementData := F_b54_elementData.keep K84 nin0
    replace F_b54_size := F_b54_size.keep K84 nin0
    replace V_nb56 := V_nb56.keep K84 nin0
    replace E_b57 := E_b57.keep K84
    replace V_b57 := V_b57.keep K84 nin0
    replace E_b59 := E_b59.keep K84
    replace F_b59_modCount := F_b59_modCount.keep K84 nin0
    clear F_b59_modCount
    replace F_b59_elementData := F_b59_elementData.keep K84 nin0
    replace F_b59_size := F_b59_size.keep K84 nin0
    replace V_nb61 := V_nb61.keep K84 nin0
    replace E_b62 := E_b62.keep K84
    clear E_b62
    replace F_b62_variables := F_b62_variables.keep K84 nin0
    clear F_b62_variables
    replace F_b62_tuples := F_b62_tuples.keep K84 nin0
    clear F_b62_tuples
    replace F_b62_supports := F_b62_supports.keep K84 nin0
    clear F_b62_supports
    replace E_tn64 := E_tn64.keep K84
    clear E_tn64
    replace F_tn64_variables := F_tn64_variables.keep K84 nin0
    clear F_tn64_variables
    replace F_tn64_tuples := F_tn64_tuples.keep K84 nin0
    clear F_tn64_tuples
    replace F_tn64_supports := F_tn64_supports.keep K84 nin0
    clear F_tn64_supports
    replace hKi := Nat.le_trans hKi K84.1
    replace Zs := Nat.le_trans Zs K84.1
    clear K84
    replace ne_b51_tn84 : b51 ≠ tn84 := Nat.ne_of_lt (Nat.lt_of_lt_of_le lt_b51 ge_tn84)
    clear lt_b51 ne_b51_tn84
    replace ne_b54_tn84 : b54 ≠ tn84 := Nat.ne_of_lt (Nat.lt_of_lt_of_le lt_b54 ge_tn84)
    clear lt_b54 ne_b54_tn84
    replace ne_b57_tn84 : b57 ≠ tn84 := Nat.ne_of_lt (Nat.lt_of_lt_of_le lt_b57 ge_tn84)
    clear lt_b57 ne_b57_tn84
    replace ne_b59_tn84 : b59 ≠ tn84 := Nat.ne_of_lt (Nat.lt_of_lt_of_le lt_b59 ge_tn84)
    clear lt_b59 ne_b59_tn84
    replace ne_b62_tn84 : b62 ≠ tn84 := Nat.ne_of_lt (Nat.lt_of_lt_of_le lt_b62 ge_tn84)
    clear lt_b62 ne_b62_tn84
    replace ne_nb56_tn84 : nb56 ≠ tn84 := Nat.ne_of_lt (Nat.lt_of_lt_of_le lt_nb56 ge_tn84)
    clear lt_nb56 ne_nb56_tn84
    replace ne_nb61_tn84 : nb61 ≠ tn84 := Nat.ne_of_lt (Nat.lt_of_lt_of_le lt_nb61 ge_tn84)
    clear lt_nb61 ne_nb61_tn84
    replace ne_tn64_tn84 : tn64 ≠ tn84 := Nat.ne_of_lt (Nat.lt_of_lt_of_le lt_tn64 ge_tn84)
    clear ge_tn84 lt_tn64 ne_tn64_tn84
    refine own_goW (T' := T84) (g' := (mkF m 283 #[.val (.int i0), .val (.int i1), .val (.int i2), .val (.int i3), .val (.int zz1), .val (.int hi), .val (.int vv), .val (.int (1 : Int32)), .val (.ref b51), .val (.ref b54), .val (.ref b57), .val (.ref b59), .val (.ref b62), .val (.ref tn64), .val (.ref tn64), .val (.int (1 : Int32)), .unset, .unset] [(.ref tn84)])) (fun _ k => st84.trans k) ?_
    clear st84
    refine own_goW (T' := T84) (g' := (mkF m 285 #[.val (.int i0), .val (.int i1), .val (.int i2), .val (.int i3), .val (.int zz1), .val (.int hi), .val (.int vv), .val (.int (1 : Int32)), .val (.ref b51), .val (.ref b54), .val (.ref b57), .val (.ref b59), .val (.ref b62), .val (.ref tn64), .val (.ref tn64), .val (.int (1 : Int32)), .val (.ref tn84), .unset] [])) (fun _ k => XS.astore Y84.here hx rfl (hb hby at_283) rfl rfl (l' := #[.val (.int i0), .val (.int i1), .val (.int i2), .val (.int i3), .val (.int zz1), .val (.int hi), .val (.int vv), .val (.int (1 : Int32)), .val (.ref b51), .val (.ref b54), .val (.ref b57), .val (.ref b59), .val (.ref b62), .val (.ref tn64), .val (.ref tn64), .val (.int (1 : Int32)), .val (.ref tn84), .unset]) rfl k) ?_
    refine own_goW (T' := T84) (g' := (mkF m 287 #[.val (.int i0), .val (.int i1), .val (.int i2), .val (.int i3), .val (.int zz1), .val (.int hi), .val (.int vv), .val (.int (1 : Int32)), .val (.ref b51), .val (.ref b54), .val (.ref b57), .val (.ref b59), .val (.ref b62), .val (.ref tn64), .val (.ref tn64), .val (.int (1 : Int32)), .val (.ref tn84), .unset] [(.ref tn84)])) (fun _ k => XS.aload Y84.here hx rfl (hb hby at_285) rfl rfl k) ?_
    obtain ⟨T85, X85, e85, st85⟩ := instY Y84 hx hZ hown (hw _ (List.mem_of_getElem? (i := 114) rfl)) rfl (Ins.self E_tn84) (g := (mkF m 287 #[.val (.int i0), .val (.int i1), .val (.int i2), .val (.int i3), .val (.int zz1), .val (.int hi), .val (.int vv), .val (.int (1 : Int32)), .val (.ref b51), .val (.ref b54), .val (.ref b57), .val (.ref b59), .val (.ref b62), .val (.ref tn64), .val (.ref tn64), .val (.int (1 : Int32)), .val (.ref tn84), .unset] [(.ref tn84)])) rfl rfl (hb hby at_287)
    clear Y84
    refine own_goW (T' := T85) (g' := (mkF m 290 #[.val (.int i0), .val (.int i1), .val (.int i2), .val (.int i3), .val (.int zz1), .val (.int hi), .val (.int vv), .val (.int (1 : Int32)), .val (.ref b51), .val (.ref b54), .val (.ref b57), .val (.ref b59), .val (.ref b62), .val (.ref tn64), .val (.ref tn64), .val (.int (1 : Int32)), .val (.ref tn84), .unset] [(.int (1 : Int32))])) (fun _ k => st85 _ k) ?_
    clear st85
    refine own_goW (T' := T85) (g' := (mkF m 295 #[.val (.int i0), .val (.int i1), .val (.int i2), .val (.int i3), .val (.int zz1), .val (.int hi), .val (.int vv), .val (.int (1 : Int32)), .val (.ref b51), .val (.ref b54), .val (.ref b57), .val (.ref b59), .val (.ref b62), .val (.ref tn64), .val (.ref tn64), .val (.int (1 : Int32)), .val (.ref tn84), .unset] [])) (fun _ k => XS.ifYes X85.here hx rfl (pc0 := 290) (pc' := 295) rfl (hb hby at_290) rfl (by decide) (by decide) (by decide) k) ?_
    refine own_goW (T' := T85) (g' := (mkF m 297 #[.val (.int i0), .val (.int i1), .val (.int i2), .val (.int i3), .val (.int zz1), .val (.int hi), .val (.int vv), .val (.int (1 : Int32)), .val (.ref b51), .val (.ref b54), .val (.ref b57), .val (.ref b59), .val (.ref b62), .val (.ref tn64), .val (.ref tn64), .val (.int (1 : Int32)), .val (.ref tn84), .unset] [(.ref tn84)])) (fun _ k => XS.aload X85.here hx rfl (hb hby at_295) rfl rfl k) ?_
    obtain ⟨T86, X86, e86, st86⟩ := castY X85 hx hZ hown (hw _ (List.mem_of_getElem? (i := 114) rfl)) e85 (Ins.self E_tn84) (g := (mkF m 297 #[.val (.int i0), .val (.int i1), .val (.int i2), .val (.int i3), .val (.int zz1), .val (.int hi), .val (.int vv), .val (.int (1 : Int32)), .val (.ref b51), .val (.ref b54), .val (.ref b57), .val (.ref b59), .val (.ref b62), .val (.ref tn64), .val (.ref tn64), .val (.int (1 : Int32)), .val (.ref tn84), .unset] [(.ref tn84)])) rfl rfl (hb hby at_297)
    clear X85 e85
    refine own_goW (T' := T86) (g' := (mkF m 300 #[.val (.int i0), .val (.int i1), .val (.int i2), .val (.int i3), .val (.int zz1), .val (.int hi), .val (.int vv), .val (.int (1 : Int32)), .val (.ref b51), .val (.ref b54), .val (.ref b57), .val (.ref b59), .val (.ref b62), .val (.ref tn64), .val (.ref tn64), .val (.int (1 : Int32)), .val (.ref tn84), .unset] [(.ref tn84)])) (fun _ k => st86 _ k) ?_
    clear st86
    refine own_goW (T' := T86) (g' := (mkF m 302 #[.val (.int i0), .val (.int i1), .val (.int i2), .val (.int i3), .val (.int zz1), .val (.int hi), .val (.int vv), .val (.int (1 : Int32)), .val (.ref b51), .val (.ref b54), .val (.ref b57), .val (.ref b59), .val (.ref b62), .val (.ref tn64), .val (.ref tn64), .val (.int (1 : Int32)), .val (.ref tn84), .val (.ref tn84)] [])) (fun _ k => XS.astore X86.here hx rfl (hb hby at_300) rfl rfl (l' := #[.val (.int i0), .val (.int i1), .val (.int i2), .val (.int i3), .val (.int zz1), .val (.int hi), .val (.int vv), .val (.int (1 : Int32)), .val (.ref b51), .val (.ref b54), .val (.ref b57), .val (.ref b59), .val (.ref b62), .val (.ref tn64), .val (.ref tn64), .val (.int (1 : Int32)), .val (.ref tn84), .val (.ref tn84)]) rfl k) ?_
    refine own_goW (T' := T86) (g' := (mkF m 304 #[.val (.int i0), .val (.int i1), .val (.int i2), .val (.int i3), .val (.int zz1), .val (.int hi), .val (.int vv), .val (.int (1 : Int32)), .val (.ref b51), .val (.ref b54), .val (.ref b57), .val (.ref b59), .val (.ref b62), .val (.ref tn64), .val (.ref tn64), .val (.int (1 : Int32)), .val (.ref tn84), .val (.ref tn84)] [(.ref tn84)])) (fun _ k => XS.aload X86.here hx rfl (hb hby at_302) rfl rfl k) ?_
    obtain ⟨cq87, kq87, q87a, q87b, q87c⟩ := isOf hZ e86 E_tn84
    clear q87b
    obtain ⟨_, _, ⟨T87, L87, k87, n87⟩, -, X87, ⟨Lc87, hQ87, l87, y87, z87⟩, st87⟩ := X86.virtualBack hx (y := (⟨"com/example/ordence/ordence/Formula$Table", "supports", "()Z"⟩ : MethodName)) (z := (⟨"com/example/ordence/ordence/Formula$Table", "supports", "()Z"⟩ : MethodName)) hown (mvT hZ (hw _ (List.mem_of_getElem? (i := 140) rfl))) (mvT hZ (hw _ (List.mem_of_getElem? (i := 141) rfl))) (notFace_of_selects (args := #[]) (mvT hZ (hw _ (List.mem_of_getElem? (i := 143) rfl)))) (mvT hZ (hw _ (List.mem_of_getElem? (i := 143) rfl))) (mvT hZ (hw _ (List.mem_of_getElem? (i := 142) rfl))) (by decide) (backOf (W := 0) (own_rm18_1 l Z a0 hw [] tn84 b54 b59 T84.heap n0 Zs F_tn84_variables F_tn84_tuples F_tn84_supports) hZ (hw _ (List.mem_of_getElem? (i := 144) rfl)) (hw _ (List.mem_of_getElem? (i := 116) rfl)) (by decide) (by decide)) q87a q87c (g := (mkF m 304 #[.val (.int i0), .val (.int i1), .val (.int i2), .val (.int i3), .val (.int zz1), .val (.int hi), .val (.int vv), .val (.int (1 : Int32)), .val (.ref b51), .val (.ref b54), .val (.ref b57), .val (.ref b59), .val (.ref b62), .val (.ref tn64), .val (.ref tn64), .val (.int (1 : Int32)), .val (.ref tn84), .val (.ref tn84)] [(.ref tn84)])) rfl (by rw [hml]; rfl) (Steps.refl _) (argsL := []) (rest := []) (lenOf own_pd0_6 rfl) rfl (by show 2 * 0 + _ ≤ _; exact Nat.le_of_eq rfl) (hb hby at_304) (fun _ _ => ⟨rfl, e86, (by decide : 15 + 0 ≤ _), (by decide : 54 + 0 ≤ _)⟩)
    dsimp only [Pt.U, Pt.locs, Pt.cells, Pt.slots] at X87 l87 y87 z87 st87 hQ87
    subst l87 y87 z87
    clear F_tn84_supports X86 e86 q87a q87c
    obtain ⟨rfl, NQ87, eq87⟩ := hQ87
    replace NF := Fr.app NF NQ87
    clear NQ87
    obtain ⟨lc87, Y87, NG87⟩ := own_lo X87 NF
    clear X87
    replace NF := NG87
    clear NG87
    refine own_goW (T' := T87) (g' := (mkF m 307 #[.val (.int i0), .val (.int i1), .val (.int i2), .val (.int i3), .val (.int zz1), .val (.int hi), .val (.int vv), .val (.int (1 : Int32)), .val (.ref b51), .val (.ref b54), .val (.ref b57), .val (.ref b59), .val (.ref b62), .val (.ref tn64), .val (.ref tn64), .val (.int (1 : Int32)), .val (.ref tn84), .val (.ref tn84)] [(.int (1 : Int32))])) (fun _ k => st87.trans k) ?_
    clear st87
    refine own_goW (T' := T87) (g' := (mkF m 309 #[.val (.int i0), .val (.int i1), .val (.int i2), .val (.int i3), .val (.int zz1), .val (.int hi), .val (.int vv), .val (.int (1 : Int32)), .val (.ref b51), .val (.ref b54), .val (.ref b57), .val (.ref b59), .val (.ref b62), .val (.ref tn64), .val (.ref tn64), .val (.int (1 : Int32)), .val (.ref tn84), .val (.ref tn84)] [(.int (1 : Int32)), (.int (1 : Int32))])) (fun _ k => XS.iload Y87.here hx rfl (hb hby at_307) rfl k) ?_
    refine own_goW (T' := T87) (g' := (mkF m 312 #[.val (.int i0), .val (.int i1), .val (.int i2), .val (.int i3), .val (.int zz1), .val (.int hi), .val (.int vv), .val (.int (1 : Int32)), .val (.ref b51), .val (.ref b54), .val (.ref b57), .val (.ref b59), .val (.ref b62), .val (.ref tn64), .val (.ref tn64), .val (.int (1 : Int32)), .val (.ref tn84), .val (.ref tn84)] [])) (fun _ k => XS.icmpNo Y87.here hx rfl (hb hby at_309) rfl (by decide) k) ?_
    refine own_goW (T' := T87) (g' := (mkF m 314 #[.val (.int i0), .val (.int i1), .val (.int i2), .val (.int i3), .val (.int zz1), .val (.int hi), .val (.int vv), .val (.int (1 : Int32)), .val (.ref b51), .val (.ref b54), .val (.ref b57), .val (.ref b59), .val (.ref b62), .val (.ref tn64), .val (.ref tn64), .val (.int (1 : Int32)), .val (.ref tn84), .val (.ref tn84)] [(.ref tn84)])) (fun _ k => XS.aload Y87.here hx rfl (hb hby at_312) rfl rfl k) ?_
    obtain ⟨cq88, kq88, q88a, q88b, q88c⟩ := isOf hZ eq87 E_tn84
    clear q88b
    obtain ⟨_, _, ⟨T88, L88, k88, n88⟩, -, X88, ⟨Lc88, hQ88, l88, y88, z88⟩, st88⟩ := Y87.virtualBack hx (y := (⟨"com/example/ordence/ordence/Formula$Table", "variables", "()Ljava/util/List;"⟩ : MethodName)) (z := (⟨"com/example/ordence/ordence/Formula$Table", "variables", "()Ljava/util/List;"⟩ : MethodName)) hown (mvT hZ (hw _ (List.mem_of_getElem? (i := 145) rfl))) (mvT hZ (hw _ (List.mem_of_getElem? (i := 146) rfl))) (notFace_of_selects (args := #[]) (mvT hZ (hw _ (List.mem_of_getElem? (i := 148) rfl)))) (mvT hZ (hw _ (List.mem_of_getElem? (i := 148) rfl))) (mvT hZ (hw _ (List.mem_of_getElem? (i := 147) rfl))) (by decide) (backOf (W := 0) (own_rm20 l Z a0 hw [] tn84 b54 T84.heap n0 Zs F_tn84_variables) hZ (hw _ (List.mem_of_getElem? (i := 149) rfl)) (hw _ (List.mem_of_getElem? (i := 116) rfl)) (by decide) (by decide)) q88a q88c (g := (mkF m 314 #[.val (.int i0), .val (.int i1), .val (.int i2), .val (.int i3), .val (.int zz1), .val (.int hi), .val (.int vv), .val (.int (1 : Int32)), .val (.ref b51), .val (.ref b54), .val (.ref b57), .val (.ref b59), .val (.ref b62), .val (.ref tn64), .val (.ref tn64), .val (.int (1 : Int32)), .val (.ref tn84), .val (.ref tn84)] [(.ref tn84)])) rfl (by rw [hml]; rfl) (Steps.refl _) (argsL := []) (rest := []) (lenOf own_pd0_7 rfl) rfl (by show 2 * 0 + _ ≤ _; exact Nat.le_of_eq rfl) (hb hby at_314) (fun _ _ => ⟨rfl, eq87, (by decide : 15 + 0 ≤ _), (by decide : 54 + 0 ≤ _)⟩)
    dsimp only [Pt.U, Pt.locs, Pt.cells, Pt.slots] at X88 l88 y88 z88 st88 hQ88
    subst l88 y88 z88
    clear Y87 eq87 q88a q88c
    obtain ⟨rfl, NQ88, eq88⟩ := hQ88
    replace NF := Fr.app NF NQ88
    clear NQ88
    obtain ⟨lc88, Y88, NG88⟩ := own_lo X88 NF
    clear X88
    replace NF := NG88
    clear NG88
    refine own_goW (T' := T88) (g' := (mkF m 317 #[.val (.int i0), .val (.int i1), .val (.int i2), .val (.int i3), .val (.int zz1), .val (.int hi), .val (.int vv), .val (.int (1 : Int32)), .val (.ref b51), .val (.ref b54), .val (.ref b57), .val (.ref b59), .val (.ref b62), .val (.ref tn64), .val (.ref tn64), .val (.int (1 : Int32)), .val (.ref tn84), .val (.ref tn84)] [(.ref b54)])) (fun _ k => st88.trans k) ?_
    clear st88
    obtain ⟨cq89, kq89, q89a, q89b, q89c⟩ := isOf hZ eq88 E_b54
    obtain ⟨_, _, ⟨T89, L89, k89, n89⟩, -, X89, ⟨Lc89, hQ89, l89, y89, z89⟩, st89⟩ := Y88.interfaceBack hx (xi := (⟨"java/util/List", "size", "()I"⟩ : MethodName)) (y := (⟨"java/util/ArrayList", "size", "()I"⟩ : MethodName)) hown (mvT hZ (hw _ (List.mem_of_getElem? (i := 150) rfl))) (mvT hZ (hw _ (List.mem_of_getElem? (i := 151) rfl))) (mvT hZ (hw _ (List.mem_of_getElem? (i := 152) rfl))) (mvT hZ (hw _ (List.mem_of_getElem? (i := 153) rfl))) (mvT hZ (hw _ (List.mem_of_getElem? (i := 154) rfl))) (mvT hZ (hw _ (List.mem_of_getElem? (i := 155) rfl))) (mvT hZ (hw _ (List.mem_of_getElem? (i := 156) rfl))) (mvT hZ (hw _ (List.mem_of_getElem? (i := 86) rfl))) (by decide) (backOf (W := 0) (own_rm21 l Z a0 hw [] b54 (1 : Int32) T84.heap n0 Zs F_b54_size) hZ (hw _ (List.mem_of_getElem? (i := 157) rfl)) (hw _ (List.mem_of_getElem? (i := 57) rfl)) (by decide) (by decide)) q89a q89b q89c (g := (mkF m 317 #[.val (.int i0), .val (.int i1), .val (.int i2), .val (.int i3), .val (.int zz1), .val (.int hi), .val (.int vv), .val (.int (1 : Int32)), .val (.ref b51), .val (.ref b54), .val (.ref b57), .val (.ref b59), .val (.ref b62), .val (.ref tn64), .val (.ref tn64), .val (.int (1 : Int32)), .val (.ref tn84), .val (.ref tn84)] [(.ref b54)])) rfl (by rw [hml]; rfl) (Steps.refl _) (argsL := []) (rest := []) (lenOf own_pd0_8 rfl) rfl (by show 2 * 0 + _ ≤ _; exact Nat.le_of_eq rfl) (hb hby at_317) (fun _ _ => ⟨rfl, eq88, (by decide : 15 + 0 ≤ _), (by decide : 54 + 0 ≤ _)⟩)
    dsimp only [Pt.U, Pt.locs, Pt.cells, Pt.slots] at X89 l89 y89 z89 st89 hQ89
    subst l89 y89 z89
    clear Y88 eq88 q89a q89b q89c
    obtain ⟨rfl, NQ89, eq89⟩ := hQ89
    replace NF := Fr.app NF NQ89
    clear NQ89
    obtain ⟨lc89, Y89, NG89⟩ := own_lo X89 NF
    clear X89
    replace NF := NG89
    clear NG89
    refine own_goW (T' := T89) (g' := (mkF m 322 #[.val (.int i0), .val (.int i1), .val (.int i2), .val (.int i3), .val (.int zz1), .val (.int hi), .val (.int vv), .val (.int (1 : Int32)), .val (.ref b51), .val (.ref b54), .val (.ref b57), .val (.ref b59), .val (.ref b62), .val (.ref tn64), .val (.ref tn64), .val (.int (1 : Int32)), .val (.ref tn84), .val (.ref tn84)] [(.int (1 : Int32))])) (fun _ k => st89.trans k) ?_
    clear st89
    refine own_goW (T' := T89) (g' := (mkF m 323 #[.val (.int i0), .val (.int i1), .val (.int i2), .val (.int i3), .val (.int zz1), .val (.int hi), .val (.int vv), .val (.int (1 : Int32)), .val (.ref b51), .val (.ref b54), .val (.ref b57), .val (.ref b59), .val (.ref b62), .val (.ref tn64), .val (.ref tn64), .val (.int (1 : Int32)), .val (.ref tn84), .val (.ref tn84)] [(.int (1 : Int32)), (.int (1 : Int32))])) (fun _ k => XS.iconst Y89.here hx rfl (hb hby at_322) k) ?_
    refine own_goW (T' := T89) (g' := (mkF m 326 #[.val (.int i0), .val (.int i1), .val (.int i2), .val (.int i3), .val (.int zz1), .val (.int hi), .val (.int vv), .val (.int (1 : Int32)), .val (.ref b51), .val (.ref b54), .val (.ref b57), .val (.ref b59), .val (.ref b62), .val (.ref tn64), .val (.ref tn64), .val (.int (1 : Int32)), .val (.ref tn84), .val (.ref tn84)] [])) (fun _ k => XS.icmpNo Y89.here hx rfl (hb hby at_323) rfl (by decide) k) ?_
    refine own_goW (T' := T89) (g' := (mkF m 328 #[.val (.int i0), .val (.int i1), .val (.int i2), .val (.int i3), .val (.int zz1), .val (.int hi), .val (.int vv), .val (.int (1 : Int32)), .val (.ref b51), .val (.ref b54), .val (.ref b57), .val (.ref b59), .val (.ref b62), .val (.ref tn64), .val (.ref tn64), .val (.int (1 : Int32)), .val (.ref tn84), .val (.ref tn84)] [(.ref tn84)])) (fun _ k => XS.aload Y89.here hx rfl (hb hby at_326) rfl rfl k) ?_
    obtain ⟨cq90, kq90, q90a, q90b, q90c⟩ := isOf hZ eq89 E_tn84
    clear q90b
    obtain ⟨_, _, ⟨T90, L90, k90, n90⟩, -, X90, ⟨Lc90, hQ90, l90, y90, z90⟩, st90⟩ := Y89.virtualBack hx (y := (⟨"com/example/ordence/ordence/Formula$Table", "variables", "()Ljava/util/List;"⟩ : MethodName)) (z := (⟨"com/example/ordence/ordence/Formula$Table", "variables", "()Ljava/util/List;"⟩ : MethodName)) hown (mvT hZ (hw _ (List.mem_of_getElem? (i := 145) rfl))) (mvT hZ (hw _ (List.mem_of_getElem? (i := 146) rfl))) (notFace_of_selects (args := #[]) (mvT hZ (hw _ (List.mem_of_getElem? (i := 148) rfl)))) (mvT hZ (hw _ (List.mem_of_getElem? (i := 148) rfl))) (mvT hZ (hw _ (List.mem_of_getElem? (i := 147) rfl))) (by decide) (backOf (W := 0) (own_rm20 l Z a0 hw [] tn84 b54 T84.heap n0 Zs F_tn84_variables) hZ (hw _ (List.mem_of_getElem? (i := 149) rfl)) (hw _ (List.mem_of_getElem? (i := 116) rfl)) (by decide) (by decide)) q90a q90c (g := (mkF m 328 #[.val (.int i0), .val (.int i1), .val (.int i2), .val (.int i3), .val (.int zz1), .val (.int hi), .val (.int vv), .val (.int (1 : Int32)), .val (.ref b51), .val (.ref b54), .val (.ref b57), .val (.ref b59), .val (.ref b62), .val (.ref tn64), .val (.ref tn64), .val (.int (1 : Int32)), .val (.ref tn84), .val (.ref tn84)] [(.ref tn84)])) rfl (by rw [hml]; rfl) (Steps.refl _) (argsL := []) (rest := []) (lenOf own_pd0_7 rfl) rfl (by show 2 * 0 + _ ≤ _; exact Nat.le_of_eq rfl) (hb hby at_328) (fun _ _ => ⟨rfl, eq89, (by decide : 15 + 0 ≤ _), (by decide : 54 + 0 ≤ _)⟩)
    dsimp only [Pt.U, Pt.locs, Pt.cells, Pt.slots] at X90 l90 y90 z90 st90 hQ90
    subst l90 y90 z90
    clear F_tn84_variables Y89 eq89 q90a q90c
    obtain ⟨rfl, NQ90, eq90⟩ := hQ90
    replace NF := Fr.app NF NQ90
    clear NQ90
    obtain ⟨lc90, Y90, NG90⟩ := own_lo X90 NF
    clear X90
    replace NF := NG90
    clear NG90
    refine own_goW (T' := T90) (g' := (mkF m 331 #[.val (.int i0), .val (.int i1), .val (.int i2), .val (.int i3), .val (.int zz1), .val (.int hi), .val (.int vv), .val (.int (1 : Int32)), .val (.ref b51), .val (.ref b54), .val (.ref b57), .val (.ref b59), .val (.ref b62), .val (.ref tn64), .val (.ref tn64), .val (.int (1 : Int32)), .val (.ref tn84), .val (.ref tn84)] [(.ref b54)])) (fun _ k => st90.trans k) ?_
    clear st90
    refine own_goW (T' := T90) (g' := (mkF m 332 #[.val (.int i0), .val (.int i1), .val (.int i2), .val (.int i3), .val (.int zz1), .val (.int hi), .val (.int vv), .val (.int (1 : Int32)), .val (.ref b51), .val (.ref b54), .val (.ref b57), .val (.ref b59), .val (.ref b62), .val (.ref tn64), .val (.ref tn64), .val (.int (1 : Int32)), .val (.ref tn84), .val (.ref tn84)] [(.int (0 : Int32)), (.ref b54)])) (fun _ k => XS.iconst Y90.here hx rfl (hb hby at_331) k) ?_
    obtain ⟨cq91, kq91, q91a, q91b, q91c⟩ := isOf hZ eq90 E_b54
    obtain ⟨_, _, ⟨T91, L91, k91, n91⟩, -, X91, ⟨Lc91, hQ91, l91, y91, z91⟩, st91⟩ := Y90.interfaceBack hx (xi := (⟨"java/util/List", "get", "(I)Ljava/lang/Object;"⟩ : MethodName)) (y := (⟨"java/util/ArrayList", "get", "(I)Ljava/lang/Object;"⟩ : MethodName)) hown (mvT hZ (hw _ (List.mem_of_getElem? (i := 158) rfl))) (mvT hZ (hw _ (List.mem_of_getElem? (i := 159) rfl))) (mvT hZ (hw _ (List.mem_of_getElem? (i := 160) rfl))) (mvT hZ (hw _ (List.mem_of_getElem? (i := 161) rfl))) (mvT hZ (hw _ (List.mem_of_getElem? (i := 162) rfl))) (mvT hZ (hw _ (List.mem_of_getElem? (i := 163) rfl))) (mvT hZ (hw _ (List.mem_of_getElem? (i := 164) rfl))) (mvT hZ (hw _ (List.mem_of_getElem? (i := 86) rfl))) (by decide) (backOf (W := 0) (own_rm22 l Z a0 hw [] b54 nb56 knb56 b51 T84.heap n0 Zs F_b54_elementData V_nb56 F_b54_size E_b54) hZ (hw _ (List.mem_of_getElem? (i := 165) rfl)) (hw _ (List.mem_of_getElem? (i := 57) rfl)) (by decide) (by decide)) q91a q91b q91c (g := (mkF m 332 #[.val (.int i0), .val (.int i1), .val (.int i2), .val (.int i3), .val (.int zz1), .val (.int hi), .val (.int vv), .val (.int (1 : Int32)), .val (.ref b51), .val (.ref b54), .val (.ref b57), .val (.ref b59), .val (.ref b62), .val (.ref tn64), .val (.ref tn64), .val (.int (1 : Int32)), .val (.ref tn84), .val (.ref tn84)] [(.int (0 : Int32)), (.ref b54)])) rfl (by rw [hml]; rfl) (Steps.refl _) (argsL := [(.int (0 : Int32))]) (rest := []) (lenOf own_pd0_9 rfl) rfl (by show 2 * 0 + _ ≤ _; exact Nat.le_of_eq rfl) (hb hby at_332) (fun _ _ => ⟨rfl, eq90, (by decide : 15 + 0 ≤ _), (by decide : 54 + 0 ≤ _)⟩)
    dsimp only [Pt.U, Pt.locs, Pt.cells, Pt.slots] at X91 l91 y91 z91 st91 hQ91
    subst l91 y91 z91
    clear E_b54 F_b54_elementData F_b54_size V_nb56 Y90 eq90 q91a q91b q91c
    obtain ⟨rfl, NQ91, eq91⟩ := hQ91
    replace NF := Fr.app NF NQ91
    clear NQ91
    obtain ⟨lc91, Y91, NG91⟩ := own_lo X91 NF
    clear X91
    replace NF := NG91
    clear NG91
    refine own_goW (T' := T91) (g' := (mkF m 337 #[.val (.int i0), .val (.int i1), .val (.int i2), .val (.int i3), .val (.int zz1), .val (.int hi), .val (.int vv), .val (.int (1 : Int32)), .val (.ref b51), .val (.ref b54), .val (.ref b57), .val (.ref b59), .val (.ref b62), .val (.ref tn64), .val (.ref tn64), .val (.int (1 : Int32)), .val (.ref tn84), .val (.ref tn84)] [(.ref b51)])) (fun _ k => st91.trans k) ?_
    clear st91
    refine own_goW (T' := T91) (g' := (mkF m 339 #[.val (.int i0), .val (.int i1), .val (.int i2), .val (.int i3), .val (.int zz1), .val (.int hi), .val (.int vv), .val (.int (1 : Int32)), .val (.ref b51), .val (.ref b54), .val (.ref b57), .val (.ref b59), .val (.ref b62), .val (.ref tn64), .val (.ref tn64), .val (.int (1 : Int32)), .val (.ref tn84), .val (.ref tn84)] [(.ref b51), (.ref b51)])) (fun _ k => XS.aload Y91.here hx rfl (hb hby at_337) rfl rfl k) ?_
    refine own_goW (T' := T91) (g' := (mkF m 342 #[.val (.int i0), .val (.int i1), .val (.int i2), .val (.int i3), .val (.int zz1), .val (.int hi), .val (.int vv), .val (.int (1 : Int32)), .val (.ref b51), .val (.ref b54), .val (.ref b57), .val (.ref b59), .val (.ref b62), .val (.ref tn64), .val (.ref tn64), .val (.int (1 : Int32)), .val (.ref tn84), .val (.ref tn84)] [])) (fun _ k => Jvm.RoadKit.acmp (g := (mkF m 339 #[.val (.int i0), .val (.int i1), .val (.int i2), .val (.int i3), .val (.int zz1), .val (.int hi), .val (.int vv), .val (.int (1 : Int32)), .val (.ref b51), .val (.ref b54), .val (.ref b57), .val (.ref b59), .val (.ref b62), .val (.ref tn64), .val (.ref tn64), .val (.int (1 : Int32)), .val (.ref tn84), .val (.ref tn84)] [(.ref b51), (.ref b51)])) Y91 hx rfl rfl rfl (pc0 := 339) (pc' := 342) (same := true) rfl (hb hby at_339) rfl (decide_eq_true rfl) (by decide) (by decide) k) ?_
    refine own_goW (T' := T91) (g' := (mkF m 344 #[.val (.int i0), .val (.int i1), .val (.int i2), .val (.int i3), .val (.int zz1), .val (.int hi), .val (.int vv), .val (.int (1 : Int32)), .val (.ref b51), .val (.ref b54), .val (.ref b57), .val (.ref b59), .val (.ref b62), .val (.ref tn64), .val (.ref tn64), .val (.int (1 : Int32)), .val (.ref tn84), .val (.ref tn84)] [(.ref tn84)])) (fun _ k => XS.aload Y91.here hx rfl (hb hby at_342) rfl rfl k) ?_
    obtain ⟨cq93, kq93, q93a, q93b, q93c⟩ := isOf hZ eq91 E_tn84
    clear q93b
    obtain ⟨_, _, ⟨T93, L93, k93, n93⟩, -, X93, ⟨Lc93, hQ93, l93, y93, z93⟩, st93⟩ := Y91.virtualBack hx (y := (⟨"com/example/ordence/ordence/Formula$Table", "tuples", "()Ljava/util/List;"⟩ : MethodName)) (z := (⟨"com/example/ordence/ordence/Formula$Table", "tuples", "()Ljava/util/List;"⟩ : MethodName)) hown (mvT hZ (hw _ (List.mem_of_getElem? (i := 179) rfl))) (mvT hZ (hw _ (List.mem_of_getElem? (i := 180) rfl))) (notFace_of_selects (args := #[]) (mvT hZ (hw _ (List.mem_of_getElem? (i := 182) rfl)))) (mvT hZ (hw _ (List.mem_of_getElem? (i := 182) rfl))) (mvT hZ (hw _ (List.mem_of_getElem? (i := 181) rfl))) (by decide) (backOf (W := 0) (own_rm26 l Z a0 hw [] tn84 b59 T84.heap n0 Zs F_tn84_tuples) hZ (hw _ (List.mem_of_getElem? (i := 183) rfl)) (hw _ (List.mem_of_getElem? (i := 116) rfl)) (by decide) (by decide)) q93a q93c (g := (mkF m 344 #[.val (.int i0), .val (.int i1), .val (.int i2), .val (.int i3), .val (.int zz1), .val (.int hi), .val (.int vv), .val (.int (1 : Int32)), .val (.ref b51), .val (.ref b54), .val (.ref b57), .val (.ref b59), .val (.ref b62), .val (.ref tn64), .val (.ref tn64), .val (.int (1 : Int32)), .val (.ref tn84), .val (.ref tn84)] [(.ref tn84)])) rfl (by rw [hml]; rfl) (Steps.refl _) (argsL := []) (rest := []) (lenOf own_pd0_7 rfl) rfl (by show 2 * 0 + _ ≤ _; exact Nat.le_of_eq rfl) (hb hby at_344) (fun _ _ => ⟨rfl, eq91, (by decide : 15 + 0 ≤ _), (by decide : 54 + 0 ≤ _)⟩)
    dsimp only [Pt.U, Pt.locs, Pt.cells, Pt.slots] at X93 l93 y93 z93 st93 hQ93
    subst l93 y93 z93
    clear Y91 eq91 q93a q93c
    obtain ⟨rfl, NQ93, eq93⟩ := hQ93
    replace NF := Fr.app NF NQ93
    clear NQ93
    obtain ⟨lc93, Y93, NG93⟩ := own_lo X93 NF
    clear X93
    replace NF := NG93
    clear NG93
    refine own_goW (T' := T93) (g' := (mkF m 347 #[.val (.int i0), .val (.int i1), .val (.int i2), .val (.int i3), .val (.int zz1), .val (.int hi), .val (.int vv), .val (.int (1 : Int32)), .val (.ref b51), .val (.ref b54), .val (.ref b57), .val (.ref b59), .val (.ref b62), .val (.ref tn64), .val (.ref tn64), .val (.int (1 : Int32)), .val (.ref tn84), .val (.ref tn84)] [(.ref b59)])) (fun _ k => st93.trans k) ?_
    clear st93
    obtain ⟨cq94, kq94, q94a, q94b, q94c⟩ := isOf hZ eq93 E_b59
    obtain ⟨_, _, ⟨T94, L94, k94, n94⟩, -, X94, ⟨Lc94, hQ94, l94, y94, z94⟩, st94⟩ := Y93.interfaceBack hx (xi := (⟨"java/util/List", "size", "()I"⟩ : MethodName)) (y := (⟨"java/util/ArrayList", "size", "()I"⟩ : MethodName)) hown (mvT hZ (hw _ (List.mem_of_getElem? (i := 150) rfl))) (mvT hZ (hw _ (List.mem_of_getElem? (i := 151) rfl))) (mvT hZ (hw _ (List.mem_of_getElem? (i := 152) rfl))) (mvT hZ (hw _ (List.mem_of_getElem? (i := 153) rfl))) (mvT hZ (hw _ (List.mem_of_getElem? (i := 154) rfl))) (mvT hZ (hw _ (List.mem_of_getElem? (i := 155) rfl))) (mvT hZ (hw _ (List.mem_of_getElem? (i := 156) rfl))) (mvT hZ (hw _ (List.mem_of_getElem? (i := 86) rfl))) (by decide) (backOf (W := 0) (own_rm21 l Z a0 hw [] b59 (1 : Int32) T84.heap n0 Zs F_b59_size) hZ (hw _ (List.mem_of_getElem? (i := 157) rfl)) (hw _ (List.mem_of_getElem? (i := 57) rfl)) (by decide) (by decide)) q94a q94b q94c (g := (mkF m 347 #[.val (.int i0), .val (.int i1), .val (.int i2), .val (.int i3), .val (.int zz1), .val (.int hi), .val (.int vv), .val (.int (1 : Int32)), .val (.ref b51), .val (.ref b54), .val (.ref b57), .val (.ref b59), .val (.ref b62), .val (.ref tn64), .val (.ref tn64), .val (.int (1 : Int32)), .val (.ref tn84), .val (.ref tn84)] [(.ref b59)])) rfl (by rw [hml]; rfl) (Steps.refl _) (argsL := []) (rest := []) (lenOf own_pd0_8 rfl) rfl (by show 2 * 0 + _ ≤ _; exact Nat.le_of_eq rfl) (hb hby at_347) (fun _ _ => ⟨rfl, eq93, (by decide : 15 + 0 ≤ _), (by decide : 54 + 0 ≤ _)⟩)
    dsimp only [Pt.U, Pt.locs, Pt.cells, Pt.slots] at X94 l94 y94 z94 st94 hQ94
    subst l94 y94 z94
    clear Y93 eq93 q94a q94b q94c
    obtain ⟨rfl, NQ94, eq94⟩ := hQ94
    replace NF := Fr.app NF NQ94
    clear NQ94
    obtain ⟨lc94, Y94, NG94⟩ := own_lo X94 NF
    clear X94
    replace NF := NG94
    clear NG94
    refine own_goW (T' := T94) (g' := (mkF m 352 #[.val (.int i0), .val (.int i1), .val (.int i2), .val (.int i3), .val (.int zz1), .val (.int hi), .val (.int vv), .val (.int (1 : Int32)), .val (.ref b51), .val (.ref b54), .val (.ref b57), .val (.ref b59), .val (.ref b62), .val (.ref tn64), .val (.ref tn64), .val (.int (1 : Int32)), .val (.ref tn84), .val (.ref tn84)] [(.int (1 : Int32))])) (fun _ k => st94.trans k) ?_
    clear st94
    refine own_goW (T' := T94) (g' := (mkF m 353 #[.val (.int i0), .val (.int i1), .val (.int i2), .val (.int i3), .val (.int zz1), .val (.int hi), .val (.int vv), .val (.int (1 : Int32)), .val (.ref b51), .val (.ref b54), .val (.ref b57), .val (.ref b59), .val (.ref b62), .val (.ref tn64), .val (.ref tn64), .val (.int (1 : Int32)), .val (.ref tn84), .val (.ref tn84)] [(.int (1 : Int32)), (.int (1 : Int32))])) (fun _ k => XS.iconst Y94.here hx rfl (hb hby at_352) k) ?_
    refine own_goW (T' := T94) (g' := (mkF m 356 #[.val (.int i0), .val (.int i1), .val (.int i2), .val (.int i3), .val (.int zz1), .val (.int hi), .val (.int vv), .val (.int (1 : Int32)), .val (.ref b51), .val (.ref b54), .val (.ref b57), .val (.ref b59), .val (.ref b62), .val (.ref tn64), .val (.ref tn64), .val (.int (1 : Int32)), .val (.ref tn84), .val (.ref tn84)] [])) (fun _ k => XS.icmpNo Y94.here hx rfl (hb hby at_353) rfl (by decide) k) ?_
    refine own_goW (T' := T94) (g' := (mkF m 358 #[.val (.int i0), .val (.int i1), .val (.int i2), .val (.int i3), .val (.int zz1), .val (.int hi), .val (.int vv), .val (.int (1 : Int32)), .val (.ref b51), .val (.ref b54), .val (.ref b57), .val (.ref b59), .val (.ref b62), .val (.ref tn64), .val (.ref tn64), .val (.int (1 : Int32)), .val (.ref tn84), .val (.ref tn84)] [(.ref tn84)])) (fun _ k => XS.aload Y94.here hx rfl (hb hby at_356) rfl rfl k) ?_
    obtain ⟨cq95, kq95, q95a, q95b, q95c⟩ := isOf hZ eq94 E_tn84
    clear E_tn84 q95b
    obtain ⟨_, _, ⟨T95, L95, k95, n95⟩, -, X95, ⟨Lc95, hQ95, l95, y95, z95⟩, st95⟩ := Y94.virtualBack hx (y := (⟨"com/example/ordence/ordence/Formula$Table", "tuples", "()Ljava/util/List;"⟩ : MethodName)) (z := (⟨"com/example/ordence/ordence/Formula$Table", "tuples", "()Ljava/util/List;"⟩ : MethodName)) hown (mvT hZ (hw _ (List.mem_of_getElem? (i := 179) rfl))) (mvT hZ (hw _ (List.mem_of_getElem? (i := 180) rfl))) (notFace_of_selects (args := #[]) (mvT hZ (hw _ (List.mem_of_getElem? (i := 182) rfl)))) (mvT hZ (hw _ (List.mem_of_getElem? (i := 182) rfl))) (mvT hZ (hw _ (List.mem_of_getElem? (i := 181) rfl))) (by decide) (backOf (W := 0) (own_rm26 l Z a0 hw [] tn84 b59 T84.heap n0 Zs F_tn84_tuples) hZ (hw _ (List.mem_of_getElem? (i := 183) rfl)) (hw _ (List.mem_of_getElem? (i := 116) rfl)) (by decide) (by decide)) q95a q95c (g := (mkF m 358 #[.val (.int i0), .val (.int i1), .val (.int i2), .val (.int i3), .val (.int zz1), .val (.int hi), .val (.int vv), .val (.int (1 : Int32)), .val (.ref b51), .val (.ref b54), .val (.ref b57), .val (.ref b59), .val (.ref b62), .val (.ref tn64), .val (.ref tn64), .val (.int (1 : Int32)), .val (.ref tn84), .val (.ref tn84)] [(.ref tn84)])) rfl (by rw [hml]; rfl) (Steps.refl _) (argsL := []) (rest := []) (lenOf own_pd0_7 rfl) rfl (by show 2 * 0 + _ ≤ _; exact Nat.le_of_eq rfl) (hb hby at_358) (fun _ _ => ⟨rfl, eq94, (by decide : 15 + 0 ≤ _), (by decide : 54 + 0 ≤ _)⟩)
    dsimp only [Pt.U, Pt.locs, Pt.cells, Pt.slots] at X95 l95 y95 z95 st95 hQ95
    subst l95 y95 z95
    clear F_tn84_tuples Y94 eq94 q95a q95c
    obtain ⟨rfl, NQ95, eq95⟩ := hQ95
    replace NF := Fr.app NF NQ95
    clear NQ95
    obtain ⟨lc95, Y95, NG95⟩ := own_lo X95 NF
    clear X95
    replace NF := NG95
    clear NG95
    refine own_goW (T' := T95) (g' := (mkF m 361 #[.val (.int i0), .val (.int i1), .val (.int i2), .val (.int i3), .val (.int zz1), .val (.int hi), .val (.int vv), .val (.int (1 : Int32)), .val (.ref b51), .val (.ref b54), .val (.ref b57), .val (.ref b59), .val (.ref b62), .val (.ref tn64), .val (.ref tn64), .val (.int (1 : Int32)), .val (.ref tn84), .val (.ref tn84)] [(.ref b59)])) (fun _ k => st95.trans k) ?_
    clear st95
    refine own_goW (T' := T95) (g' := (mkF m 362 #[.val (.int i0), .val (.int i1), .val (.int i2), .val (.int i3), .val (.int zz1), .val (.int hi), .val (.int vv), .val (.int (1 : Int32)), .val (.ref b51), .val (.ref b54), .val (.ref b57), .val (.ref b59), .val (.ref b62), .val (.ref tn64), .val (.ref tn64), .val (.int (1 : Int32)), .val (.ref tn84), .val (.ref tn84)] [(.int (0 : Int32)), (.ref b59)])) (fun _ k => XS.iconst Y95.here hx rfl (hb hby at_361) k) ?_
    obtain ⟨cq96, kq96, q96a, q96b, q96c⟩ := isOf hZ eq95 E_b59
    obtain ⟨_, _, ⟨T96, L96, k96, n96⟩, -, X96, ⟨Lc96, hQ96, l96, y96, z96⟩, st96⟩ := Y95.interfaceBack hx (xi := (⟨"java/util/List", "get", "(I)Ljava/lang/Object;"⟩ : MethodName)) (y := (⟨"java/util/ArrayList", "get", "(I)Ljava/lang/Object;"⟩ : MethodName)) hown (mvT hZ (hw _ (List.mem_of_getElem? (i := 158) rfl))) (mvT hZ (hw _ (List.mem_of_getElem? (i := 159) rfl))) (mvT hZ (hw _ (List.mem_of_getElem? (i := 160) rfl))) (mvT hZ (hw _ (List.mem_of_getElem? (i := 161) rfl))) (mvT hZ (hw _ (List.mem_of_getElem? (i := 162) rfl))) (mvT hZ (hw _ (List.mem_of_getElem? (i := 163) rfl))) (mvT hZ (hw _ (List.mem_of_getElem? (i := 164) rfl))) (mvT hZ (hw _ (List.mem_of_getElem? (i := 86) rfl))) (by decide) (backOf (W := 0) (own_rm22 l Z a0 hw [] b59 nb61 knb61 b57 T84.heap n0 Zs F_b59_elementData V_nb61 F_b59_size E_b59) hZ (hw _ (List.mem_of_getElem? (i := 165) rfl)) (hw _ (List.mem_of_getElem? (i := 57) rfl)) (by decide) (by decide)) q96a q96b q96c (g := (mkF m 362 #[.val (.int i0), .val (.int i1), .val (.int i2), .val (.int i3), .val (.int zz1), .val (.int hi), .val (.int vv), .val (.int (1 : Int32)), .val (.ref b51), .val (.ref b54), .val (.ref b57), .val (.ref b59), .val (.ref b62), .val (.ref tn64), .val (.ref tn64), .val (.int (1 : Int32)), .val (.ref tn84), .val (.ref tn84)] [(.int (0 : Int32)), (.ref b59)])) rfl (by rw [hml]; rfl) (Steps.refl _) (argsL := [(.int (0 : Int32))]) (rest := []) (lenOf own_pd0_9 rfl) rfl (by show 2 * 0 + _ ≤ _; exact Nat.le_of_eq rfl) (hb hby at_362) (fun _ _ => ⟨rfl, eq95, (by decide : 15 + 0 ≤ _), (by decide : 54 + 0 ≤ _)⟩)
    dsimp only [Pt.U, Pt.locs, Pt.cells, Pt.slots] at X96 l96 y96 z96 st96 hQ96
    subst l96 y96 z96
    clear E_b59 F_b59_elementData F_b59_size V_nb61 Y95 eq95 q96a q96b q96c
    obtain ⟨rfl, NQ96, eq96⟩ := hQ96
    replace NF := Fr.app NF NQ96
    clear NQ96
    obtain ⟨lc96, Y96, NG96⟩ := own_lo X96 NF
    clear X96
    replace NF := NG96
    clear NG96
    refine own_goW (T' := T96) (g' := (mkF m 367 #[.val (.int i0), .val (.int i1), .val (.int i2), .val (.int i3), .val (.int zz1), .val (.int hi), .val (.int vv), .val (.int (1 : Int32)), .val (.ref b51), .val (.ref b54), .val (.ref b57), .val (.ref b59), .val (.ref b62), .val (.ref tn64), .val (.ref tn64), .val (.int (1 : Int32)), .val (.ref tn84), .val (.ref tn84)] [(.ref b57)])) (fun _ k => st96.trans k) ?_
    clear st96
    obtain ⟨T97, X97, e97, st97⟩ := castY Y96 hx hZ hown (hw _ (List.mem_of_getElem? (i := 184) rfl)) eq96 (Ins.self E_b57) (g := (mkF m 367 #[.val (.int i0), .val (.int i1), .val (.int i2), .val (.int i3), .val (.int zz1), .val (.int hi), .val (.int vv), .val (.int (1 : Int32)), .val (.ref b51), .val (.ref b54), .val (.ref b57), .val (.ref b59), .val (.ref b62), .val (.ref tn64), .val (.ref tn64), .val (.int (1 : Int32)), .val (.ref tn84), .val (.ref tn84)] [(.ref b57)])) rfl rfl (hb hby at_367)
    clear E_b57 Y96 eq96
    refine own_goW (T' := T97) (g' := (mkF m 370 #[.val (.int i0), .val (.int i1), .val (.int i2), .val (.int i3), .val (.int zz1), .val (.int hi), .val (.int vv), .val (.int (1 : Int32)), .val (.ref b51), .val (.ref b54), .val (.ref b57), .val (.ref b59), .val (.ref b62), .val (.ref tn64), .val (.ref tn64), .val (.int (1 : Int32)), .val (.ref tn84), .val (.ref tn84)] [(.ref b57)])) (fun _ k => st97 _ k) ?_
    clear st97
    refine own_goW (T' := T97) (g' := (mkF m 371 #[.val (.int i0), .val (.int i1), .val (.int i2), .val (.int i3), .val (.int zz1), .val (.int hi), .val (.int vv), .val (.int (1 : Int32)), .val (.ref b51), .val (.ref b54), .val (.ref b57), .val (.ref b59), .val (.ref b62), .val (.ref tn64), .val (.ref tn64), .val (.int (1 : Int32)), .val (.ref tn84), .val (.ref tn84)] [(.int (0 : Int32)), (.ref b57)])) (fun _ k => XS.iconst X97.here hx rfl (hb hby at_370) k) ?_
    obtain ⟨c_98, Ar_98, q_98, S_98, N_98, H_98, G_98⟩ := id V_b57
    clear G_98 N_98 V_b57 q_98
    replace hin_98 : ¬ ((0 : Int32) < 0 ∨ c_98.slots.size ≤ ((0 : Int32)).toNatClampNeg) := inb_of S_98 ⟨by decide, by decide⟩
    clear S_98
    replace hat_98 : c_98.slots[((0 : Int32)).toNatClampNeg]? = some (.int vv) := H_98.at hin_98 rfl
    clear H_98
    refine own_goW (T' := T97) (g' := (mkF m 372 #[.val (.int i0), .val (.int i1), .val (.int i2), .val (.int i3), .val (.int zz1), .val (.int hi), .val (.int vv), .val (.int (1 : Int32)), .val (.ref b51), .val (.ref b54), .val (.ref b57), .val (.ref b59), .val (.ref b62), .val (.ref tn64), .val (.ref tn64), .val (.int (1 : Int32)), .val (.ref tn84), .val (.ref tn84)] [(.int vv)])) (fun _ k => X97.iaload hx (j := (0 : Int32)) (v := (.int vv)) (by rw [e97]; exact Ar_98.1) (State.isArrayOf_alike hZ.alike Ar_98.2.1) Ar_98.2.2 hin_98 hat_98 (g := (mkF m 371 #[.val (.int i0), .val (.int i1), .val (.int i2), .val (.int i3), .val (.int zz1), .val (.int hi), .val (.int vv), .val (.int (1 : Int32)), .val (.ref b51), .val (.ref b54), .val (.ref b57), .val (.ref b59), .val (.ref b62), .val (.ref tn64), .val (.ref tn64), .val (.int (1 : Int32)), .val (.ref tn84), .val (.ref tn84)] [(.int (0 : Int32)), (.ref b57)])) rfl rfl (hb hby at_371) _ k) ?_
    clear Ar_98 hat_98 hin_98
    refine own_goW (T' := T97) (g' := (mkF m 374 #[.val (.int i0), .val (.int i1), .val (.int i2), .val (.int i3), .val (.int zz1), .val (.int hi), .val (.int vv), .val (.int (1 : Int32)), .val (.ref b51), .val (.ref b54), .val (.ref b57), .val (.ref b59), .val (.ref b62), .val (.ref tn64), .val (.ref tn64), .val (.int (1 : Int32)), .val (.ref tn84), .val (.ref tn84)] [(.int vv), (.int vv)])) (fun _ k => XS.iload X97.here hx rfl (hb hby at_372) rfl k) ?_
    refine own_goW (T' := T97) (g' := (mkF m 377 #[.val (.int i0), .val (.int i1), .val (.int i2), .val (.int i3), .val (.int zz1), .val (.int hi), .val (.int vv), .val (.int (1 : Int32)), .val (.ref b51), .val (.ref b54), .val (.ref b57), .val (.ref b59), .val (.ref b62), .val (.ref tn64), .val (.ref tn64), .val (.int (1 : Int32)), .val (.ref tn84), .val (.ref tn84)] [])) (fun _ k => XS.icmpNo X97.here hx rfl (hb hby at_374) rfl (teq (rfl : vv = vv)).2 k) ?_
    refine own_goW (T' := T97) (g' := (mkF m 378 #[.val (.int i0), .val (.int i1), .val (.int i2), .val (.int i3), .val (.int zz1), .val (.int hi), .val (.int vv), .val (.int (1 : Int32)), .val (.ref b51), .val (.ref b54), .val (.ref b57), .val (.ref b59), .val (.ref b62), .val (.ref tn64), .val (.ref tn64), .val (.int (1 : Int32)), .val (.ref tn84), .val (.ref tn84)] [(.int (1 : Int32))])) (fun _ k => XS.iconst X97.here hx rfl (hb hby at_377) k) ?_
    refine own_goW (T' := T97) (g' := (mkF m 382 #[.val (.int i0), .val (.int i1), .val (.int i2), .val (.int i3), .val (.int zz1), .val (.int hi), .val (.int vv), .val (.int (1 : Int32)), .val (.ref b51), .val (.ref b54), .val (.ref b57), .val (.ref b59), .val (.ref b62), .val (.ref tn64), .val (.ref tn64), .val (.int (1 : Int32)), .val (.ref tn84), .val (.ref tn84)] [(.int (1 : Int32))])) (fun _ k => XS.goto X97.here hx rfl (pc0 := 378) (pc' := 382) rfl (hb hby at_378) (by decide) (by decide) k) ?_
    refine own_retW (s := s) (vm₁ := T52.vm) X97 Bd.notSynchronized (some (.int (1 : Int32))) (fun h => by rw [Bd.returns] at h; cases h) (fun fs hr => retN X97 hx (t := .boolean) Bd.returns (by simp) (hb hby at_382) hr) ?_ (by decide) (by decide) hSi (by rw [e97]; exact hKi)
    clear X97
    show (own_Q0 Z i0 i1 i2 i3 de cde h0 n0) (some (.int (1 : Int32))) T97.heap _
    rw [e97]
    clear e97
    exact ⟨rfl, NF⟩
set_option maxRecDepth 65536 in
set_option maxHeartbeats 40000000 in
theorem own_comes {Post : Tables → Env → Array Value → State → Outcome → State → Prop} (hpost : ∀ tb e args s v u, (limb_1_1.after args s (.returned v) u = true ∧ limb_1_2.after args s (.returned v) u = true ∧ True) → ReturnedEndW s (.returned v) u (Jvm.fieldLocs frame_1_writes args s ++ Jvm.arrayLocs frame_1_arrays args s ++ Jvm.staticLocs frame_1_statics s) 40 1216 → Post tb e args s (.returned v) u) :
    ArmFor flags0 classFile x code maxLocals ret World_1 tables_1 room_1 Calls_1 rest_1 Pre_1 Post := by
  intro l hfl _ _ p e ha hc hk s m args below hf hA hF happ hP
  obtain ⟨hcalls, hrest, hpre⟩ := hP
  obtain ⟨-, -, -, hnamed, -, -, -, hat⟩ := (Spec.applies_iff hf).mp happ
  obtain ⟨hg, hn⟩ := and_e (Cond.before_iff.mp (show (Jvm.Cond.and given_1 narrow_1).before args s = true from hpre))
  obtain ⟨gg1, gg2⟩ := and_e hg
  obtain ⟨gg3, gg4⟩ := and_e gg2
  obtain ⟨gg5, gg6⟩ := and_e gg4
  obtain ⟨gg7, gg8⟩ := and_e gg6
  obtain ⟨w0, w1, w2, w3, rfl⟩ : ∃ w0 w1 w2 w3 : Value, args = #[w0, w1, w2, w3] := by
    have hs : args.size = 4 := by simpa [Cond.value, given_1] using gg1
    obtain ⟨L⟩ := args
    match L, hs with
    | [w0, w1, w2, w3], _ => exact ⟨w0, w1, w2, w3, rfl⟩
  have hw := fun d (hd : d ∈ tables_1) => atoms_spec (ws := Jvm.Cond.code x code maxLocals ret :: tables_1) hat d (List.mem_cons_of_mem _ hd)
  have hfit : Fit s := fun {y c} hc i hi => by
    obtain ⟨ha, rfl⟩ := Array.getElem?_eq_some_iff.mp hc
    have q := List.all_eq_true.mp ((Array.all_eq_true_iff_forall_mem.mp hF) _ (Array.getElem_mem ha)) i (List.mem_range.mpr hi)
    simpa [Array.getElem?_eq_getElem hi] using q
  obtain ⟨hsets, hown0⟩ := atoms_of _ (rest_1_c_eq ▸ (show rest_1_c.before _ s = true from hrest))
  have hr0 := Cond.before_iff.mp hown0
  obtain ⟨i0, ei0⟩ := is_v gg3
  obtain rfl : w0 = (.int i0) := Option.some.inj ei0
  obtain ⟨i1, ei1⟩ := is_v gg5
  obtain rfl : w1 = (.int i1) := Option.some.inj ei1
  obtain ⟨i2, ei2⟩ := is_v gg7
  obtain rfl : w2 = (.int i2) := Option.some.inj ei2
  obtain ⟨i3, ei3⟩ := is_v gg8
  obtain rfl : w3 = (.int i3) := Option.some.inj ei3
  have w6 := Cond.before_iff.mp (hsets _ (List.mem_of_getElem? (i := 6) rfl))
  obtain ⟨de, ede⟩ := arr_v w6
  have S_de := Sta.start (Z := s) ede (Or.inr ⟨hw _ (List.mem_of_getElem? (i := 57) rfl), hsets _ (List.mem_of_getElem? (i := 2) rfl)⟩)
  obtain ⟨cde, Ar_de⟩ := Arr.start ede w6
  have l8 := own_len31 ede (Ar_de.fin (Vm.Alike.refl _)) (eqv_i (Term.int_eval (0)) (Cond.before_iff.mp (hsets _ (List.mem_of_getElem? (i := 8) rfl))))
  have Sz_de : cde.slots.size = 0 := by
    have q := congrArg Int32.toInt (Value.int.inj l8.2)
    rw [len_toInt l8.1] at q
    have q2 : (0 : Int32).toInt = 0 := rfl
    omega
  have OL := Old.start s
  obtain ⟨n, o, h1, h2, h3, _, L, rfl, ⟨rfl, N⟩, hq⟩ := own_rm0 l s _ hw tables_1 i0 i1 i2 i3 de cde s.heap s.heap.size (Nat.le_refl _) OL S_de Ar_de Sz_de p e ha hc hk s m _ below hf ((Spec.applies_iff_loose hf).mp happ).1 ⟨rfl, State.Warmed39.refl s, rfl⟩ trivial
  refine ⟨n, _, h1, h2, h3, hpost _ _ _ _ _ _ ⟨Cond.after_iff.mpr rfl, Cond.after_iff.mpr (eq_i res_at (Term.int_eval (1)) rfl), trivial⟩ ⟨hq.1, hq.2.1, hq.2.2.1, (hq.2.2.2.sift fun y hy => Or.inr (N y hy)).mono (by decide) (by decide)⟩⟩
theorem main_1_1 : Claimed_1_1 := own_comes fun _ _ _ _ _ _ h hF => ⟨h.1, hF⟩
theorem main_1_2 : Claimed_1_2 := own_comes fun _ _ _ _ _ _ h hF => ⟨h.2.1, hF⟩
end Jvm.Pilot.@@N@@
namespace Jvm.Pilot.@@N@@
open Jvm Jvm.ClassFile Sem Op Lib Jvm.Free Jvm.Stand Jvm.Pilot.@@N@@.Jvm.D
/-! MADE BY PROGRAM (witnessworld.py) out of the Statement's table words and the real class files: 32 classes; the members and pool entries that the words name. The judged class is class 1, her method 1. -/
namespace start1
open Jvm.ClassFile
def u (s : String) : CpInfo := .utf8 (stringToUtf16 s)
/-- a pool by its gaps: so many unusable entries, then the entry; so many at the end -/
def gap : Nat → List CpInfo → List CpInfo
  | 0, r => r
  | n + 1, r => .unusable :: gap n r
def poolList (es : List (Nat × CpInfo)) (last : Nat) : List CpInfo := es.foldr (fun e r => gap e.1 (e.2 :: r)) (gap last [])
def pool (es : List (Nat × CpInfo)) (last : Nat) : Array CpInfo := ⟨poolList es last⟩
def fileOf (pool : Array CpInfo) (this : Nat) (attrs : Array Attribute := #[]) (ms : Array MethodInfo := #[]) (fl : Nat := 33) (sup : Nat := 0) (ifs : Array Nat := #[]) (fds : Array FieldInfo := #[]) : ClassFile where
  minorVersion := 0
  majorVersion := 65
  constantPool := pool
  accessFlags := fl
  thisClass := this
  superClass := sup
  interfaces := ifs
  fields := fds
  methods := ms
  attributes := attrs
def plain (name : String) (sup : Option ClassId) : Class where
  name := name
  kind := .ordinary
  loader := none
  accessFlags := 33
  super := sup
  interfaces := #[]
  cf := none
  fields := #[]
  methods := #[]
  instanceTypes := #[]
  staticTypes := #[]
  resolved := #[]
  callSites := []
  init := .initialized
  statics := none
  mirror := none

def pool0 : Array CpInfo := pool [(5, u "<init>"), (0, u "()V"), (1, .class_ 10), (1, u "java/lang/Object")] 113

def k0c0 : Code := { maxStack := 0, maxLocals := 1, code := object_method_1_code, exceptionTable := #[], attributes := #[] }
def k0m0 : Method := { name := "<init>", desc := "()V", sig := { parameters := [], returnType := none }, accessFlags := 1, code := some k0c0 }
/-- java/lang/Object -/
def k0 : Class := { plain "java/lang/Object" none with
  accessFlags := 33
  interfaces := #[]
  cf := some (fileOf pool0 8 #[] #[{ accessFlags := 1, nameIndex := 5, descriptorIndex := 6, attributes := #[] }] 33 0 #[] #[])
  fields := #[]
  methods := #[k0m0]
  instanceTypes := #[]
  staticTypes := #[]
  resolved := Array.replicate 124 none
  statics := none }

def pool1 : Array CpInfo := pool [(2, .class_ 4), (0, .nameAndType 5 6), (0, u "java/lang/Object"), (0, u "<init>"), (0, u "()V"), (2, .integer 2147483347), (0, .methodref 11 12), (0, .class_ 13), (0, .nameAndType 14 15), (0, u "java/lang/Math"), (0, u "min"), (0, u "(II)I"), (0, .integer 2147483647), (0, .class_ 18), (0, u "com/example/ordence/ordence/IntVariable"), (0, .string 20), (0, u "x"), (0, .methodref 17 22), (0, .nameAndType 5 23), (0, u "(Ljava/lang/String;II)V"), (0, .class_ 25), (0, u "java/util/ArrayList"), (0, .methodref 24 3), (0, .interfaceMethodref 28 29), (0, .class_ 30), (0, .nameAndType 31 32), (0, u "java/util/List"), (0, u "add"), (0, u "(Ljava/lang/Object;)Z"), (0, .class_ 34), (0, u "com/example/ordence/ordence/Formula$Table"), (0, .methodref 33 36), (0, .nameAndType 5 37), (0, u "(Ljava/util/List;Ljava/util/List;Z)V"), (0, .methodref 33 39), (0, .nameAndType 40 41), (0, u "negate"), (0, u "()Lcom/example/ordence/ordence/Formula;"), (0, .methodref 33 43), (0, .nameAndType 44 45), (0, u "supports"), (0, u "()Z"), (0, .methodref 33 47), (0, .nameAndType 48 49), (0, u "variables"), (0, u "()Ljava/util/List;"), (0, .interfaceMethodref 28 51), (0, .nameAndType 52 53), (0, u "size"), (0, u "()I"), (0, .interfaceMethodref 28 55), (0, .nameAndType 56 57), (0, u "get"), (0, u "(I)Ljava/lang/Object;"), (0, .methodref 33 59), (0, .nameAndType 60 49), (0, u "tuples"), (0, .class_ 62), (0, u "[I"), (0, .class_ 64), (0, u "com/example/ordence/ordence/TableNegatePinLaw"), (2, u "law"), (0, u "(IIII)Z")] 7

def k1m0 : Method := { name := "<init>", desc := "()V", sig := { parameters := [], returnType := none }, accessFlags := 1, code := none }
def k1c1 : Code := { maxStack := 5, maxLocals := 18, code := code, exceptionTable := #[], attributes := #[] }
def k1m1 : Method := { name := "law", desc := "(IIII)Z", sig := { parameters := [.int, .int, .int, .int], returnType := some .boolean }, accessFlags := 9, code := some k1c1 }
/-- com/example/ordence/ordence/TableNegatePinLaw -/
def k1 : Class := { plain "com/example/ordence/ordence/TableNegatePinLaw" (some 0) with
  accessFlags := 49
  interfaces := #[]
  cf := some (fileOf pool1 63 #[] #[{ accessFlags := 1, nameIndex := 5, descriptorIndex := 6, attributes := #[] }, { accessFlags := 9, nameIndex := 67, descriptorIndex := 68, attributes := #[] }] 49 2 #[] #[])
  fields := #[]
  methods := #[k1m0, k1m1]
  instanceTypes := #[]
  staticTypes := #[]
  resolved := Array.replicate 76 none
  statics := none }

def pool2 : Array CpInfo := pool [(1, .class_ 2), (0, u "java/lang/Math"), (1, .class_ 6), (1, u "java/lang/Object"), (0, u "<init>"), (0, u "()V"), (89, .class_ 100), (1, u "java/lang/Math$RandomNumberGeneratorHolder"), (71, u "negativeZeroFloatBits"), (0, u "J"), (2, u "negativeZeroDoubleBits"), (21, u "max"), (2, u "min"), (43, u "$assertionsDisabled"), (0, u "Z"), (88, u "(II)I"), (2, u "twoToTheDoubleScaleDown"), (0, u "D"), (4, u "twoToTheDoubleScaleUp"), (9, u "E"), (3, u "PI"), (2, u "TAU"), (2, u "DEGREES_TO_RADIANS"), (0, u "RADIANS_TO_DEGREES")] 94

def k2m0 : Method := { name := "<init>", desc := "()V", sig := { parameters := [], returnType := none }, accessFlags := 2, code := none }
def k2c1 : Code := { maxStack := 2, maxLocals := 2, code := jdk_29_method_65_code, exceptionTable := #[], attributes := #[] }
def k2m1 : Method := { name := "max", desc := "(II)I", sig := { parameters := [.int, .int], returnType := some .int }, accessFlags := 9, code := some k2c1 }
def k2c2 : Code := { maxStack := 2, maxLocals := 2, code := jdk_29_method_69_code, exceptionTable := #[], attributes := #[] }
def k2m2 : Method := { name := "min", desc := "(II)I", sig := { parameters := [.int, .int], returnType := some .int }, accessFlags := 9, code := some k2c2 }
/-- java/lang/Math -/
def k2 : Class := { plain "java/lang/Math" (some 0) with
  accessFlags := 49
  interfaces := #[]
  cf := some (fileOf pool2 1 #[.nestMembers #[98]] #[{ accessFlags := 2, nameIndex := 7, descriptorIndex := 8, attributes := #[] }, { accessFlags := 9, nameIndex := 198, descriptorIndex := 335, attributes := #[] }, { accessFlags := 9, nameIndex := 201, descriptorIndex := 335, attributes := #[] }] 49 4 #[] #[{ accessFlags := 25, nameIndex := 354, descriptorIndex := 339, attributes := #[] }, { accessFlags := 25, nameIndex := 358, descriptorIndex := 339, attributes := #[] }, { accessFlags := 25, nameIndex := 361, descriptorIndex := 339, attributes := #[] }, { accessFlags := 26, nameIndex := 364, descriptorIndex := 339, attributes := #[] }, { accessFlags := 26, nameIndex := 365, descriptorIndex := 339, attributes := #[] }, { accessFlags := 26, nameIndex := 172, descriptorIndex := 173, attributes := #[] }, { accessFlags := 26, nameIndex := 176, descriptorIndex := 173, attributes := #[] }, { accessFlags := 8, nameIndex := 344, descriptorIndex := 339, attributes := #[] }, { accessFlags := 8, nameIndex := 338, descriptorIndex := 339, attributes := #[] }, { accessFlags := 4120, nameIndex := 245, descriptorIndex := 246, attributes := #[] }])
  fields := #[{ name := "E", type := .double, accessFlags := 25, slot := 0, constantValue := 0 }, { name := "PI", type := .double, accessFlags := 25, slot := 1, constantValue := 0 }, { name := "TAU", type := .double, accessFlags := 25, slot := 2, constantValue := 0 }, { name := "DEGREES_TO_RADIANS", type := .double, accessFlags := 26, slot := 3, constantValue := 0 }, { name := "RADIANS_TO_DEGREES", type := .double, accessFlags := 26, slot := 4, constantValue := 0 }, { name := "negativeZeroFloatBits", type := .long, accessFlags := 26, slot := 5, constantValue := 0 }, { name := "negativeZeroDoubleBits", type := .long, accessFlags := 26, slot := 6, constantValue := 0 }, { name := "twoToTheDoubleScaleUp", type := .double, accessFlags := 8, slot := 7, constantValue := 0 }, { name := "twoToTheDoubleScaleDown", type := .double, accessFlags := 8, slot := 8, constantValue := 0 }, { name := "$assertionsDisabled", type := .boolean, accessFlags := 4120, slot := 9, constantValue := 0 }]
  methods := #[k2m0, k2m1, k2m2]
  instanceTypes := #[]
  staticTypes := #[.double, .double, .double, .double, .double, .long, .long, .double, .double, .boolean]
  resolved := Array.replicate 460 none
  statics := none }

def pool3 : Array CpInfo := pool [(1, .methodref 2 3), (0, .class_ 4), (0, .nameAndType 5 6), (0, u "com/example/ordence/ordence/Domain"), (0, u "interval"), (0, u "(II)Lcom/example/ordence/ordence/Domain;"), (0, .methodref 8 9), (0, .class_ 10), (0, .nameAndType 11 12), (0, u "com/example/ordence/ordence/IntVariable"), (0, u "<init>"), (0, u "(Ljava/lang/String;Lcom/example/ordence/ordence/Domain;)V"), (0, .methodref 8 14), (0, .nameAndType 11 15), (0, u "(Ljava/lang/String;Lcom/example/ordence/ordence/Domain;Z)V"), (0, .methodref 17 18), (0, .class_ 19), (0, .nameAndType 11 20), (0, u "java/lang/Object"), (0, u "()V"), (0, .fieldref 8 22), (0, .nameAndType 23 24), (0, u "name"), (0, u "Ljava/lang/String;"), (0, .fieldref 8 26), (0, .nameAndType 27 28), (0, u "domain"), (0, u "Lcom/example/ordence/ordence/Domain;"), (0, .fieldref 8 30), (0, .nameAndType 31 32), (0, u "isBoolean"), (0, u "Z"), (27, u "(Ljava/lang/String;II)V")] 27

def k3c0 : Code := { maxStack := 4, maxLocals := 4, code := prog_77_method_1_code, exceptionTable := #[], attributes := #[] }
def k3m0 : Method := { name := "<init>", desc := "(Ljava/lang/String;II)V", sig := { parameters := [(.object "java/lang/String"), .int, .int], returnType := none }, accessFlags := 0, code := some k3c0 }
def k3c1 : Code := { maxStack := 4, maxLocals := 3, code := prog_77_method_2_code, exceptionTable := #[], attributes := #[] }
def k3m1 : Method := { name := "<init>", desc := "(Ljava/lang/String;Lcom/example/ordence/ordence/Domain;)V", sig := { parameters := [(.object "java/lang/String"), (.object "com/example/ordence/ordence/Domain")], returnType := none }, accessFlags := 0, code := some k3c1 }
def k3c2 : Code := { maxStack := 2, maxLocals := 4, code := prog_77_method_3_code, exceptionTable := #[], attributes := #[] }
def k3m2 : Method := { name := "<init>", desc := "(Ljava/lang/String;Lcom/example/ordence/ordence/Domain;Z)V", sig := { parameters := [(.object "java/lang/String"), (.object "com/example/ordence/ordence/Domain"), .boolean], returnType := none }, accessFlags := 2, code := some k3c2 }
/-- com/example/ordence/ordence/IntVariable -/
def k3 : Class := { plain "com/example/ordence/ordence/IntVariable" (some 0) with
  accessFlags := 48
  interfaces := #[]
  cf := some (fileOf pool3 8 #[] #[{ accessFlags := 0, nameIndex := 11, descriptorIndex := 60, attributes := #[] }, { accessFlags := 0, nameIndex := 11, descriptorIndex := 12, attributes := #[] }, { accessFlags := 2, nameIndex := 11, descriptorIndex := 15, attributes := #[] }] 48 17 #[] #[{ accessFlags := 18, nameIndex := 23, descriptorIndex := 24, attributes := #[] }, { accessFlags := 18, nameIndex := 27, descriptorIndex := 28, attributes := #[] }, { accessFlags := 18, nameIndex := 31, descriptorIndex := 32, attributes := #[] }])
  fields := #[{ name := "name", type := (.object "java/lang/String"), accessFlags := 18, slot := 0, constantValue := 0 }, { name := "domain", type := (.object "com/example/ordence/ordence/Domain"), accessFlags := 18, slot := 1, constantValue := 0 }, { name := "isBoolean", type := .boolean, accessFlags := 18, slot := 2, constantValue := 0 }]
  methods := #[k3m0, k3m1, k3m2]
  instanceTypes := #[(.object "java/lang/String"), (.object "com/example/ordence/ordence/Domain"), .boolean]
  staticTypes := #[]
  resolved := Array.replicate 88 none
  statics := none }

def pool4 : Array CpInfo := pool [(1, .class_ 2), (0, u "java/io/Serializable"), (0, .class_ 4), (0, u "java/lang/Object")] 2

/-- java/io/Serializable -/
def k4 : Class := { plain "java/io/Serializable" (some 0) with
  accessFlags := 1537
  interfaces := #[]
  cf := some (fileOf pool4 1 #[] #[] 1537 3 #[] #[])
  fields := #[]
  methods := #[]
  instanceTypes := #[]
  staticTypes := #[]
  resolved := Array.replicate 7 none
  statics := none }

def pool5 : Array CpInfo := pool [(1, .class_ 2), (0, u "java/lang/Comparable"), (0, .class_ 4), (0, u "java/lang/Object")] 7

/-- java/lang/Comparable -/
def k5 : Class := { plain "java/lang/Comparable" (some 0) with
  accessFlags := 1537
  interfaces := #[]
  cf := some (fileOf pool5 1 #[] #[] 1537 3 #[] #[])
  fields := #[]
  methods := #[]
  instanceTypes := #[]
  staticTypes := #[]
  resolved := Array.replicate 12 none
  statics := none }

def pool6 : Array CpInfo := pool [(2, .class_ 4), (1, u "java/lang/CharSequence"), (42, .class_ 48), (0, u "java/lang/CharSequence$1CodePointIterator"), (10, .class_ 60), (0, u "java/lang/CharSequence$1CharIterator"), (5, .class_ 67), (0, u "java/lang/Object")] 63

/-- java/lang/CharSequence -/
def k6 : Class := { plain "java/lang/CharSequence" (some 0) with
  accessFlags := 1537
  interfaces := #[]
  cf := some (fileOf pool6 2 #[.nestMembers #[47, 59]] #[] 1537 66 #[] #[])
  fields := #[]
  methods := #[]
  instanceTypes := #[]
  staticTypes := #[]
  resolved := Array.replicate 131 none
  statics := none }

def pool7 : Array CpInfo := pool [(1, .class_ 2), (0, u "java/lang/constant/Constable"), (0, .class_ 4), (0, u "java/lang/Object")] 6

/-- java/lang/constant/Constable -/
def k7 : Class := { plain "java/lang/constant/Constable" (some 0) with
  accessFlags := 1537
  interfaces := #[]
  cf := some (fileOf pool7 1 #[] #[] 1537 3 #[] #[])
  fields := #[]
  methods := #[]
  instanceTypes := #[]
  staticTypes := #[]
  resolved := Array.replicate 11 none
  statics := none }

def pool8 : Array CpInfo := pool [(1, .class_ 2), (0, u "java/lang/constant/ConstantDesc"), (0, .class_ 4), (0, u "java/lang/Object")] 32

/-- java/lang/constant/ConstantDesc -/
def k8 : Class := { plain "java/lang/constant/ConstantDesc" (some 0) with
  accessFlags := 1537
  interfaces := #[]
  cf := some (fileOf pool8 1 #[] #[] 1537 3 #[] #[])
  fields := #[]
  methods := #[]
  instanceTypes := #[]
  staticTypes := #[]
  resolved := Array.replicate 37 none
  statics := none }

def pool9 : Array CpInfo := pool [(2, .class_ 4), (1, u "java/lang/Object"), (0, u "<init>"), (0, u "()V"), (3, .class_ 12), (1, u "java/lang/String"), (0, u "value"), (0, u "[B"), (2, u "coder"), (0, u "B"), (2, u "hash"), (0, u "I"), (2, u "hashIsZero"), (0, u "Z"), (13, u "COMPACT_STRINGS"), (534, .class_ 576), (0, u "java/lang/CharSequence"), (22, u "CASE_INSENSITIVE_ORDER"), (0, u "Ljava/util/Comparator;"), (500, u "serialPersistentFields"), (0, u "[Ljava/io/ObjectStreamField;"), (0, .class_ 1104), (0, u "java/lang/String$CaseInsensitiveComparator"), (1, .class_ 1107), (0, u "java/io/Serializable"), (0, .class_ 1109), (0, u "java/lang/Comparable"), (0, .class_ 1111), (0, u "java/lang/constant/Constable"), (0, .class_ 1113), (0, u "java/lang/constant/ConstantDesc"), (2, u "serialVersionUID"), (0, u "J"), (3, u "REPL"), (0, u "C"), (2, u "LATIN1"), (1, u "UTF16")] 323

def k9m0 : Method := { name := "<init>", desc := "()V", sig := { parameters := [], returnType := none }, accessFlags := 1, code := none }
/-- java/lang/String -/
def k9 : Class := { plain "java/lang/String" (some 0) with
  accessFlags := 49
  interfaces := #[4, 5, 6, 7, 8]
  cf := some (fileOf pool9 10 #[.nestMembers #[1103]] #[{ accessFlags := 1, nameIndex := 5, descriptorIndex := 6, attributes := #[] }] 49 2 #[1106, 1108, 575, 1110, 1112] #[{ accessFlags := 18, nameIndex := 13, descriptorIndex := 14, attributes := #[] }, { accessFlags := 18, nameIndex := 17, descriptorIndex := 18, attributes := #[] }, { accessFlags := 2, nameIndex := 21, descriptorIndex := 22, attributes := #[] }, { accessFlags := 2, nameIndex := 25, descriptorIndex := 26, attributes := #[] }, { accessFlags := 26, nameIndex := 1116, descriptorIndex := 1117, attributes := #[] }, { accessFlags := 24, nameIndex := 40, descriptorIndex := 26, attributes := #[] }, { accessFlags := 26, nameIndex := 1101, descriptorIndex := 1102, attributes := #[] }, { accessFlags := 26, nameIndex := 1121, descriptorIndex := 1122, attributes := #[] }, { accessFlags := 25, nameIndex := 599, descriptorIndex := 600, attributes := #[] }, { accessFlags := 24, nameIndex := 1125, descriptorIndex := 18, attributes := #[] }, { accessFlags := 24, nameIndex := 1127, descriptorIndex := 18, attributes := #[] }])
  fields := #[{ name := "value", type := (.array .byte), accessFlags := 18, slot := 0, constantValue := 0 }, { name := "coder", type := .byte, accessFlags := 18, slot := 1, constantValue := 0 }, { name := "hash", type := .int, accessFlags := 2, slot := 2, constantValue := 0 }, { name := "hashIsZero", type := .boolean, accessFlags := 2, slot := 3, constantValue := 0 }, { name := "serialVersionUID", type := .long, accessFlags := 26, slot := 0, constantValue := 0 }, { name := "COMPACT_STRINGS", type := .boolean, accessFlags := 24, slot := 1, constantValue := 0 }, { name := "serialPersistentFields", type := (.array (.object "java/io/ObjectStreamField")), accessFlags := 26, slot := 2, constantValue := 0 }, { name := "REPL", type := .char, accessFlags := 26, slot := 3, constantValue := 0 }, { name := "CASE_INSENSITIVE_ORDER", type := (.object "java/util/Comparator"), accessFlags := 25, slot := 4, constantValue := 0 }, { name := "LATIN1", type := .byte, accessFlags := 24, slot := 5, constantValue := 0 }, { name := "UTF16", type := .byte, accessFlags := 24, slot := 6, constantValue := 0 }]
  methods := #[k9m0]
  instanceTypes := #[(.array .byte), .byte, .int, .boolean]
  staticTypes := #[.long, .boolean, (.array (.object "java/io/ObjectStreamField")), .char, (.object "java/util/Comparator"), .byte, .byte]
  resolved := Array.replicate 1451 none
  statics := none }

def pool10 : Array CpInfo := pool [(1, .methodref 2 3), (0, .class_ 4), (0, .nameAndType 5 6), (0, u "java/lang/Object"), (0, u "<init>"), (0, u "()V"), (0, .fieldref 8 9), (0, .class_ 10), (0, .nameAndType 11 12), (0, u "com/example/ordence/ordence/Domain"), (0, u "los"), (0, u "[J"), (0, .fieldref 8 14), (0, .nameAndType 15 16), (0, u "his"), (0, u "[I"), (0, .fieldref 8 18), (0, .nameAndType 19 12), (0, u "firstIndexes"), (0, .fieldref 8 21), (0, .nameAndType 22 23), (0, u "size"), (0, u "J"), (9, .methodref 8 34), (0, .nameAndType 5 35), (0, u "([J[I)V"), (123, u "interval"), (0, u "(II)Lcom/example/ordence/ordence/Domain;")] 47

def k10c0 : Code := { maxStack := 6, maxLocals := 6, code := prog_27_method_1_code, exceptionTable := #[], attributes := #[] }
def k10m0 : Method := { name := "<init>", desc := "([J[I)V", sig := { parameters := [(.array .long), (.array .int)], returnType := none }, accessFlags := 2, code := some k10c0 }
def k10c1 : Code := { maxStack := 7, maxLocals := 2, code := prog_27_method_2_code, exceptionTable := #[], attributes := #[] }
def k10m1 : Method := { name := "interval", desc := "(II)Lcom/example/ordence/ordence/Domain;", sig := { parameters := [.int, .int], returnType := some (.object "com/example/ordence/ordence/Domain") }, accessFlags := 8, code := some k10c1 }
/-- com/example/ordence/ordence/Domain -/
def k10 : Class := { plain "com/example/ordence/ordence/Domain" (some 0) with
  accessFlags := 48
  interfaces := #[]
  cf := some (fileOf pool10 8 #[] #[{ accessFlags := 2, nameIndex := 5, descriptorIndex := 35, attributes := #[] }, { accessFlags := 8, nameIndex := 159, descriptorIndex := 160, attributes := #[] }] 48 2 #[] #[{ accessFlags := 18, nameIndex := 11, descriptorIndex := 12, attributes := #[] }, { accessFlags := 18, nameIndex := 15, descriptorIndex := 16, attributes := #[] }, { accessFlags := 18, nameIndex := 19, descriptorIndex := 12, attributes := #[] }, { accessFlags := 18, nameIndex := 22, descriptorIndex := 23, attributes := #[] }])
  fields := #[{ name := "los", type := (.array .long), accessFlags := 18, slot := 0, constantValue := 0 }, { name := "his", type := (.array .int), accessFlags := 18, slot := 1, constantValue := 0 }, { name := "firstIndexes", type := (.array .long), accessFlags := 18, slot := 2, constantValue := 0 }, { name := "size", type := .long, accessFlags := 18, slot := 3, constantValue := 0 }]
  methods := #[k10m0, k10m1]
  instanceTypes := #[(.array .long), (.array .int), (.array .long), .long]
  staticTypes := #[]
  resolved := Array.replicate 208 none
  statics := none }

def pool11 : Array CpInfo := pool [(8, .class_ 10), (1, u "java/lang/Iterable"), (24, .class_ 36), (0, u "java/lang/Object")] 25

/-- java/lang/Iterable -/
def k11 : Class := { plain "java/lang/Iterable" (some 0) with
  accessFlags := 1537
  interfaces := #[]
  cf := some (fileOf pool11 8 #[] #[] 1537 35 #[] #[])
  fields := #[]
  methods := #[]
  instanceTypes := #[]
  staticTypes := #[]
  resolved := Array.replicate 62 none
  statics := none }

def pool12 : Array CpInfo := pool [(10, .class_ 12), (1, u "java/util/Collection"), (47, .class_ 61), (0, u "java/lang/Object"), (0, .class_ 63), (0, u "java/lang/Iterable")] 51

/-- java/util/Collection -/
def k12 : Class := { plain "java/util/Collection" (some 0) with
  accessFlags := 1537
  interfaces := #[11]
  cf := some (fileOf pool12 10 #[] #[] 1537 60 #[62] #[])
  fields := #[]
  methods := #[]
  instanceTypes := #[]
  staticTypes := #[]
  resolved := Array.replicate 115 none
  statics := none }

def pool13 : Array CpInfo := pool [(1, .methodref 2 3), (0, .class_ 4), (0, .nameAndType 5 6), (0, u "java/lang/Object"), (0, u "<init>"), (0, u "()V"), (1, .class_ 10), (1, u "java/util/AbstractCollection"), (66, .class_ 78), (0, u "java/util/Collection")] 81

def k13c0 : Code := { maxStack := 1, maxLocals := 1, code := jdk_22_method_1_code, exceptionTable := #[], attributes := #[] }
def k13m0 : Method := { name := "<init>", desc := "()V", sig := { parameters := [], returnType := none }, accessFlags := 4, code := some k13c0 }
/-- java/util/AbstractCollection -/
def k13 : Class := { plain "java/util/AbstractCollection" (some 0) with
  accessFlags := 1057
  interfaces := #[12]
  cf := some (fileOf pool13 8 #[] #[{ accessFlags := 4, nameIndex := 5, descriptorIndex := 6, attributes := #[] }] 1057 2 #[77] #[])
  fields := #[]
  methods := #[k13m0]
  instanceTypes := #[]
  staticTypes := #[]
  resolved := Array.replicate 160 none
  statics := none }

def pool14 : Array CpInfo := pool [(8, .class_ 10), (1, u "java/util/SequencedCollection"), (15, .class_ 27), (0, u "java/lang/Object"), (0, .class_ 29), (0, u "java/util/Collection")] 27

/-- java/util/SequencedCollection -/
def k14 : Class := { plain "java/util/SequencedCollection" (some 0) with
  accessFlags := 1537
  interfaces := #[12]
  cf := some (fileOf pool14 8 #[] #[] 1537 26 #[28] #[])
  fields := #[]
  methods := #[]
  instanceTypes := #[]
  staticTypes := #[]
  resolved := Array.replicate 57 none
  statics := none }

def pool15 : Array CpInfo := pool [(8, .class_ 10), (1, u "java/util/List"), (49, u "add"), (3, u "(Ljava/lang/Object;)Z"), (10, u "get"), (0, u "(I)Ljava/lang/Object;"), (2, u "size"), (0, u "()I"), (22, .class_ 104), (0, u "java/lang/Object"), (15, .class_ 121), (0, u "java/util/SequencedCollection")] 129

def k15m0 : Method := { name := "size", desc := "()I", sig := { parameters := [], returnType := some .int }, accessFlags := 1025, code := none }
def k15m1 : Method := { name := "add", desc := "(Ljava/lang/Object;)Z", sig := { parameters := [(.object "java/lang/Object")], returnType := some .boolean }, accessFlags := 1025, code := none }
def k15m2 : Method := { name := "get", desc := "(I)Ljava/lang/Object;", sig := { parameters := [.int], returnType := some (.object "java/lang/Object") }, accessFlags := 1025, code := none }
/-- java/util/List -/
def k15 : Class := { plain "java/util/List" (some 0) with
  accessFlags := 1537
  interfaces := #[14]
  cf := some (fileOf pool15 8 #[] #[{ accessFlags := 1025, nameIndex := 79, descriptorIndex := 80, attributes := #[] }, { accessFlags := 1025, nameIndex := 60, descriptorIndex := 64, attributes := #[] }, { accessFlags := 1025, nameIndex := 75, descriptorIndex := 76, attributes := #[] }] 1537 103 #[120] #[])
  fields := #[]
  methods := #[k15m0, k15m1, k15m2]
  instanceTypes := #[]
  staticTypes := #[]
  resolved := Array.replicate 251 none
  statics := none }

def pool16 : Array CpInfo := pool [(1, .methodref 2 3), (0, .class_ 4), (0, .nameAndType 5 6), (0, u "java/util/AbstractCollection"), (0, u "<init>"), (0, u "()V"), (0, .fieldref 8 9), (0, .class_ 10), (0, .nameAndType 11 12), (0, u "java/util/AbstractList"), (0, u "modCount"), (0, u "I"), (64, .class_ 78), (0, u "java/util/AbstractList$Itr"), (3, .class_ 83), (0, u "java/util/AbstractList$ListItr"), (9, .class_ 94), (0, u "java/util/AbstractList$RandomAccessSubList"), (3, .class_ 99), (0, u "java/util/AbstractList$SubList"), (33, .class_ 134), (0, u "java/util/List"), (73, .class_ 209), (0, u "java/util/AbstractList$SubList$1"), (0, .class_ 211), (0, u "java/util/AbstractList$RandomAccessSpliterator")] 6

def k16c0 : Code := { maxStack := 2, maxLocals := 1, code := jdk_39_method_1_code, exceptionTable := #[], attributes := #[] }
def k16m0 : Method := { name := "<init>", desc := "()V", sig := { parameters := [], returnType := none }, accessFlags := 4, code := some k16c0 }
/-- java/util/AbstractList -/
def k16 : Class := { plain "java/util/AbstractList" (some 13) with
  accessFlags := 1057
  interfaces := #[15]
  cf := some (fileOf pool16 8 #[.nestMembers #[93, 98, 208, 210, 82, 77]] #[{ accessFlags := 4, nameIndex := 5, descriptorIndex := 6, attributes := #[] }] 1057 2 #[133] #[{ accessFlags := 132, nameIndex := 11, descriptorIndex := 12, attributes := #[] }])
  fields := #[{ name := "modCount", type := .int, accessFlags := 132, slot := 0, constantValue := 0 }]
  methods := #[k16m0]
  instanceTypes := #[.int]
  staticTypes := #[]
  resolved := Array.replicate 218 none
  statics := none }

def pool17 : Array CpInfo := pool [(1, .class_ 2), (0, u "java/util/RandomAccess"), (0, .class_ 4), (0, u "java/lang/Object")] 2

/-- java/util/RandomAccess -/
def k17 : Class := { plain "java/util/RandomAccess" (some 0) with
  accessFlags := 1537
  interfaces := #[]
  cf := some (fileOf pool17 1 #[] #[] 1537 3 #[] #[])
  fields := #[]
  methods := #[]
  instanceTypes := #[]
  staticTypes := #[]
  resolved := Array.replicate 7 none
  statics := none }

def pool18 : Array CpInfo := pool [(1, .class_ 2), (0, u "java/lang/Cloneable"), (0, .class_ 4), (0, u "java/lang/Object")] 2

/-- java/lang/Cloneable -/
def k18 : Class := { plain "java/lang/Cloneable" (some 0) with
  accessFlags := 1537
  interfaces := #[]
  cf := some (fileOf pool18 1 #[] #[] 1537 3 #[] #[])
  fields := #[]
  methods := #[]
  instanceTypes := #[]
  staticTypes := #[]
  resolved := Array.replicate 7 none
  statics := none }

def pool19 : Array CpInfo := pool [(1, .methodref 2 3), (0, .class_ 4), (0, .nameAndType 5 6), (0, u "java/util/AbstractList"), (0, u "<init>"), (0, u "()V"), (0, .class_ 8), (0, u "java/lang/Object"), (0, .fieldref 10 11), (0, .class_ 12), (0, .nameAndType 13 14), (0, u "java/util/ArrayList"), (0, u "elementData"), (0, u "[Ljava/lang/Object;"), (2, u "EMPTY_ELEMENTDATA"), (21, .fieldref 10 40), (0, .nameAndType 41 14), (0, u "DEFAULTCAPACITY_EMPTY_ELEMENTDATA"), (5, u "()[Ljava/lang/Object;"), (0, .fieldref 10 49), (0, .nameAndType 50 51), (0, u "size"), (0, u "I"), (11, .fieldref 10 64), (0, .nameAndType 65 51), (0, u "modCount"), (3, .methodref 10 70), (0, .nameAndType 71 72), (0, u "grow"), (0, u "(I)[Ljava/lang/Object;"), (6, .methodref 80 81), (0, .class_ 82), (0, .nameAndType 83 84), (0, u "java/lang/Math"), (0, u "max"), (0, u "(II)I"), (11, u "(Ljava/lang/Object;)Z"), (21, .methodref 119 120), (0, .class_ 121), (0, .nameAndType 122 84), (0, u "java/util/Objects"), (0, u "checkIndex"), (0, .methodref 10 124), (0, .nameAndType 13 125), (0, u "(I)Ljava/lang/Object;"), (3, .methodref 10 130), (0, .nameAndType 71 47), (0, .methodref 10 132), (0, .nameAndType 133 134), (0, u "add"), (0, u "(Ljava/lang/Object;[Ljava/lang/Object;I)V"), (13, .class_ 149), (0, u "java/util/List"), (36, u "()I"), (75, .class_ 263), (0, u "java/util/ArrayList$ListItr"), (3, .class_ 268), (0, u "java/util/ArrayList$Itr"), (7, .class_ 277), (0, u "java/util/ArrayList$SubList"), (12, .class_ 291), (0, u "java/util/ArrayList$ArrayListSpliterator"), (37, .class_ 330), (0, u "java/util/RandomAccess"), (0, .class_ 332), (0, u "java/lang/Cloneable"), (0, .class_ 334), (0, u "java/io/Serializable"), (0, u "serialVersionUID"), (0, u "J"), (3, u "DEFAULT_CAPACITY"), (40, u "get"), (118, .class_ 501), (0, u "java/util/ArrayList$SubList$2"), (0, .class_ 503), (0, u "java/util/ArrayList$SubList$1")] 5

def k19c0 : Code := { maxStack := 2, maxLocals := 1, code := jdk_38_method_2_code, exceptionTable := #[], attributes := #[] }
def k19m0 : Method := { name := "<init>", desc := "()V", sig := { parameters := [], returnType := none }, accessFlags := 1, code := some k19c0 }
def k19c1 : Code := { maxStack := 4, maxLocals := 4, code := jdk_38_method_6_code, exceptionTable := #[], attributes := #[] }
def k19m1 : Method := { name := "grow", desc := "(I)[Ljava/lang/Object;", sig := { parameters := [.int], returnType := some (.array (.object "java/lang/Object")) }, accessFlags := 2, code := some k19c1 }
def k19c2 : Code := { maxStack := 3, maxLocals := 1, code := jdk_38_method_7_code, exceptionTable := #[], attributes := #[] }
def k19m2 : Method := { name := "grow", desc := "()[Ljava/lang/Object;", sig := { parameters := [], returnType := some (.array (.object "java/lang/Object")) }, accessFlags := 2, code := some k19c2 }
def k19c3 : Code := { maxStack := 1, maxLocals := 1, code := jdk_38_method_8_code, exceptionTable := #[], attributes := #[] }
def k19m3 : Method := { name := "size", desc := "()I", sig := { parameters := [], returnType := some .int }, accessFlags := 1, code := some k19c3 }
def k19c4 : Code := { maxStack := 2, maxLocals := 2, code := jdk_38_method_18_code, exceptionTable := #[], attributes := #[] }
def k19m4 : Method := { name := "elementData", desc := "(I)Ljava/lang/Object;", sig := { parameters := [.int], returnType := some (.object "java/lang/Object") }, accessFlags := 0, code := some k19c4 }
def k19c5 : Code := { maxStack := 2, maxLocals := 2, code := jdk_38_method_20_code, exceptionTable := #[], attributes := #[] }
def k19m5 : Method := { name := "get", desc := "(I)Ljava/lang/Object;", sig := { parameters := [.int], returnType := some (.object "java/lang/Object") }, accessFlags := 1, code := some k19c5 }
def k19c6 : Code := { maxStack := 3, maxLocals := 4, code := jdk_38_method_24_code, exceptionTable := #[], attributes := #[] }
def k19m6 : Method := { name := "add", desc := "(Ljava/lang/Object;[Ljava/lang/Object;I)V", sig := { parameters := [(.object "java/lang/Object"), (.array (.object "java/lang/Object")), .int], returnType := none }, accessFlags := 2, code := some k19c6 }
def k19c7 : Code := { maxStack := 4, maxLocals := 2, code := jdk_38_method_25_code, exceptionTable := #[], attributes := #[] }
def k19m7 : Method := { name := "add", desc := "(Ljava/lang/Object;)Z", sig := { parameters := [(.object "java/lang/Object")], returnType := some .boolean }, accessFlags := 1, code := some k19c7 }
/-- java/util/ArrayList -/
def k19 : Class := { plain "java/util/ArrayList" (some 16) with
  accessFlags := 33
  interfaces := #[15, 17, 18, 4]
  cf := some (fileOf pool19 10 #[.nestMembers #[290, 276, 500, 502, 262, 267]] #[{ accessFlags := 1, nameIndex := 5, descriptorIndex := 6, attributes := #[] }, { accessFlags := 2, nameIndex := 71, descriptorIndex := 72, attributes := #[] }, { accessFlags := 2, nameIndex := 71, descriptorIndex := 47, attributes := #[] }, { accessFlags := 1, nameIndex := 50, descriptorIndex := 186, attributes := #[] }, { accessFlags := 0, nameIndex := 13, descriptorIndex := 125, attributes := #[] }, { accessFlags := 1, nameIndex := 381, descriptorIndex := 125, attributes := #[] }, { accessFlags := 2, nameIndex := 133, descriptorIndex := 134, attributes := #[] }, { accessFlags := 1, nameIndex := 133, descriptorIndex := 96, attributes := #[] }] 33 2 #[148, 329, 331, 333] #[{ accessFlags := 26, nameIndex := 335, descriptorIndex := 336, attributes := #[] }, { accessFlags := 26, nameIndex := 340, descriptorIndex := 51, attributes := #[] }, { accessFlags := 26, nameIndex := 17, descriptorIndex := 14, attributes := #[] }, { accessFlags := 26, nameIndex := 41, descriptorIndex := 14, attributes := #[] }, { accessFlags := 128, nameIndex := 13, descriptorIndex := 14, attributes := #[] }, { accessFlags := 2, nameIndex := 50, descriptorIndex := 51, attributes := #[] }])
  fields := #[{ name := "serialVersionUID", type := .long, accessFlags := 26, slot := 0, constantValue := 0 }, { name := "DEFAULT_CAPACITY", type := .int, accessFlags := 26, slot := 1, constantValue := 0 }, { name := "EMPTY_ELEMENTDATA", type := (.array (.object "java/lang/Object")), accessFlags := 26, slot := 2, constantValue := 0 }, { name := "DEFAULTCAPACITY_EMPTY_ELEMENTDATA", type := (.array (.object "java/lang/Object")), accessFlags := 26, slot := 3, constantValue := 0 }, { name := "elementData", type := (.array (.object "java/lang/Object")), accessFlags := 128, slot := 1, constantValue := 0 }, { name := "size", type := .int, accessFlags := 2, slot := 2, constantValue := 0 }]
  methods := #[k19m0, k19m1, k19m2, k19m3, k19m4, k19m5, k19m6, k19m7]
  instanceTypes := #[.int, (.array (.object "java/lang/Object")), .int]
  staticTypes := #[.long, .int, (.array (.object "java/lang/Object")), (.array (.object "java/lang/Object"))]
  resolved := Array.replicate 509 none
  statics := some 0 }

def pool20 : Array CpInfo := pool [(1, .methodref 2 3), (0, .class_ 4), (0, .nameAndType 5 6), (0, u "java/lang/Object"), (0, u "<init>"), (0, u "()V"), (0, .class_ 8), (0, u "java/lang/Record")] 13

def k20c0 : Code := { maxStack := 1, maxLocals := 1, code := jdk_30_method_1_code, exceptionTable := #[], attributes := #[] }
def k20m0 : Method := { name := "<init>", desc := "()V", sig := { parameters := [], returnType := none }, accessFlags := 4, code := some k20c0 }
/-- java/lang/Record -/
def k20 : Class := { plain "java/lang/Record" (some 0) with
  accessFlags := 1057
  interfaces := #[]
  cf := some (fileOf pool20 7 #[] #[{ accessFlags := 4, nameIndex := 5, descriptorIndex := 6, attributes := #[] }] 1057 2 #[] #[])
  fields := #[]
  methods := #[k20m0]
  instanceTypes := #[]
  staticTypes := #[]
  resolved := Array.replicate 22 none
  statics := none }

def pool21 : Array CpInfo := pool [(2, .class_ 4), (1, u "com/example/ordence/ordence/Formula"), (0, u "FALSE"), (0, u "Lcom/example/ordence/ordence/Formula;"), (2, u "TRUE"), (56, .class_ 67), (0, u "com/example/ordence/ordence/Formula$Comparison"), (57, .class_ 126), (0, u "com/example/ordence/ordence/Formula$Table"), (6, .class_ 134), (0, u "com/example/ordence/ordence/Formula$And"), (6, .class_ 142), (0, u "com/example/ordence/ordence/Formula$Or"), (1, .class_ 145), (0, u "java/lang/Object"), (23, .class_ 170), (0, u "com/example/ordence/ordence/Formula$Xor"), (0, .class_ 172), (0, u "com/example/ordence/ordence/Formula$Iff")] 34

/-- com/example/ordence/ordence/Formula -/
def k21 : Class := { plain "com/example/ordence/ordence/Formula" (some 0) with
  accessFlags := 1536
  interfaces := #[]
  cf := some (fileOf pool21 2 #[.nestMembers #[169, 171, 141, 133, 125, 66]] #[] 1536 144 #[] #[{ accessFlags := 25, nameIndex := 9, descriptorIndex := 6, attributes := #[] }, { accessFlags := 25, nameIndex := 5, descriptorIndex := 6, attributes := #[] }])
  fields := #[{ name := "TRUE", type := (.object "com/example/ordence/ordence/Formula"), accessFlags := 25, slot := 0, constantValue := 0 }, { name := "FALSE", type := (.object "com/example/ordence/ordence/Formula"), accessFlags := 25, slot := 1, constantValue := 0 }]
  methods := #[]
  instanceTypes := #[]
  staticTypes := #[(.object "com/example/ordence/ordence/Formula"), (.object "com/example/ordence/ordence/Formula")]
  resolved := Array.replicate 207 none
  statics := none }

def pool22 : Array CpInfo := pool [(1, .methodref 2 3), (0, .class_ 4), (0, .nameAndType 5 6), (0, u "java/lang/Record"), (0, u "<init>"), (0, u "()V"), (0, .fieldref 8 9), (0, .class_ 10), (0, .nameAndType 11 12), (0, u "com/example/ordence/ordence/Formula$Table"), (0, u "variables"), (0, u "Ljava/util/List;"), (0, .fieldref 8 14), (0, .nameAndType 15 12), (0, u "tuples"), (0, .fieldref 8 17), (0, .nameAndType 18 19), (0, u "supports"), (0, u "Z"), (0, .methodref 8 21), (0, .nameAndType 5 22), (0, u "(Ljava/util/List;Ljava/util/List;Z)V"), (50, .class_ 74), (0, u "com/example/ordence/ordence/Formula"), (7, u "negate"), (0, u "()Lcom/example/ordence/ordence/Formula;"), (5, u "()Ljava/util/List;"), (2, u "()Z")] 48

def k22c0 : Code := { maxStack := 2, maxLocals := 4, code := prog_73_method_1_code, exceptionTable := #[], attributes := #[] }
def k22m0 : Method := { name := "<init>", desc := "(Ljava/util/List;Ljava/util/List;Z)V", sig := { parameters := [(.object "java/util/List"), (.object "java/util/List"), .boolean], returnType := none }, accessFlags := 1, code := some k22c0 }
def k22c1 : Code := { maxStack := 5, maxLocals := 1, code := prog_73_method_2_code, exceptionTable := #[], attributes := #[] }
def k22m1 : Method := { name := "negate", desc := "()Lcom/example/ordence/ordence/Formula;", sig := { parameters := [], returnType := some (.object "com/example/ordence/ordence/Formula") }, accessFlags := 1, code := some k22c1 }
def k22c2 : Code := { maxStack := 1, maxLocals := 1, code := prog_73_method_6_code, exceptionTable := #[], attributes := #[] }
def k22m2 : Method := { name := "variables", desc := "()Ljava/util/List;", sig := { parameters := [], returnType := some (.object "java/util/List") }, accessFlags := 1, code := some k22c2 }
def k22c3 : Code := { maxStack := 1, maxLocals := 1, code := prog_73_method_7_code, exceptionTable := #[], attributes := #[] }
def k22m3 : Method := { name := "tuples", desc := "()Ljava/util/List;", sig := { parameters := [], returnType := some (.object "java/util/List") }, accessFlags := 1, code := some k22c3 }
def k22c4 : Code := { maxStack := 1, maxLocals := 1, code := prog_73_method_8_code, exceptionTable := #[], attributes := #[] }
def k22m4 : Method := { name := "supports", desc := "()Z", sig := { parameters := [], returnType := some .boolean }, accessFlags := 1, code := some k22c4 }
/-- com/example/ordence/ordence/Formula$Table -/
def k22 : Class := { plain "com/example/ordence/ordence/Formula$Table" (some 20) with
  accessFlags := 49
  interfaces := #[21]
  cf := some (fileOf pool22 8 #[.nestHost 73] #[{ accessFlags := 1, nameIndex := 5, descriptorIndex := 22, attributes := #[] }, { accessFlags := 1, nameIndex := 82, descriptorIndex := 83, attributes := #[] }, { accessFlags := 1, nameIndex := 11, descriptorIndex := 89, attributes := #[] }, { accessFlags := 1, nameIndex := 15, descriptorIndex := 89, attributes := #[] }, { accessFlags := 1, nameIndex := 18, descriptorIndex := 92, attributes := #[] }] 49 2 #[73] #[{ accessFlags := 18, nameIndex := 11, descriptorIndex := 12, attributes := #[] }, { accessFlags := 18, nameIndex := 15, descriptorIndex := 12, attributes := #[] }, { accessFlags := 18, nameIndex := 18, descriptorIndex := 19, attributes := #[] }])
  fields := #[{ name := "variables", type := (.object "java/util/List"), accessFlags := 18, slot := 0, constantValue := 0 }, { name := "tuples", type := (.object "java/util/List"), accessFlags := 18, slot := 1, constantValue := 0 }, { name := "supports", type := .boolean, accessFlags := 18, slot := 2, constantValue := 0 }]
  methods := #[k22m0, k22m1, k22m2, k22m3, k22m4]
  instanceTypes := #[(.object "java/util/List"), (.object "java/util/List"), .boolean]
  staticTypes := #[]
  resolved := Array.replicate 141 none
  statics := none }

def pool23 : Array CpInfo := pool [(2, .class_ 4), (1, u "java/lang/Object"), (0, u "<init>"), (0, u "()V"), (35, .class_ 44), (1, u "java/util/Objects"), (60, .methodref 106 107), (0, .class_ 108), (0, .nameAndType 109 110), (0, u "jdk/internal/util/Preconditions"), (0, u "checkIndex"), (0, u "(IILjava/util/function/BiFunction;)I"), (60, u "(II)I")] 12

def k23m0 : Method := { name := "<init>", desc := "()V", sig := { parameters := [], returnType := none }, accessFlags := 2, code := none }
def k23c1 : Code := { maxStack := 3, maxLocals := 2, code := jdk_31_method_17_code, exceptionTable := #[], attributes := #[] }
def k23m1 : Method := { name := "checkIndex", desc := "(II)I", sig := { parameters := [.int, .int], returnType := some .int }, accessFlags := 9, code := some k23c1 }
/-- java/util/Objects -/
def k23 : Class := { plain "java/util/Objects" (some 0) with
  accessFlags := 49
  interfaces := #[]
  cf := some (fileOf pool23 42 #[] #[{ accessFlags := 2, nameIndex := 5, descriptorIndex := 6, attributes := #[] }, { accessFlags := 9, nameIndex := 109, descriptorIndex := 171, attributes := #[] }] 49 2 #[] #[])
  fields := #[]
  methods := #[k23m0, k23m1]
  instanceTypes := #[]
  staticTypes := #[]
  resolved := Array.replicate 184 none
  statics := none }

def pool24 : Array CpInfo := pool [(2, .class_ 4), (1, u "java/lang/Object"), (0, u "<init>"), (0, u "()V"), (17, .class_ 26), (1, u "jdk/internal/util/Preconditions"), (6, u "checkIndex"), (21, .class_ 56), (0, u "jdk/internal/util/Preconditions$4"), (57, .class_ 115), (0, u "jdk/internal/util/Preconditions$1"), (7, u "SIOOBE_FORMATTER"), (0, u "Ljava/util/function/BiFunction;"), (0, .class_ 126), (0, u "jdk/internal/util/Preconditions$2"), (3, u "AIOOBE_FORMATTER"), (0, .class_ 132), (0, u "jdk/internal/util/Preconditions$3"), (3, u "IOOBE_FORMATTER"), (41, u "(IILjava/util/function/BiFunction;)I")] 15

def k24m0 : Method := { name := "<init>", desc := "()V", sig := { parameters := [], returnType := none }, accessFlags := 1, code := none }
def k24c1 : Code := { maxStack := 3, maxLocals := 3, code := jdk_41_method_11_code, exceptionTable := #[], attributes := #[] }
def k24m1 : Method := { name := "checkIndex", desc := "(IILjava/util/function/BiFunction;)I", sig := { parameters := [.int, .int, (.object "java/util/function/BiFunction")], returnType := some .int }, accessFlags := 9, code := some k24c1 }
/-- jdk/internal/util/Preconditions -/
def k24 : Class := { plain "jdk/internal/util/Preconditions" (some 0) with
  accessFlags := 33
  interfaces := #[]
  cf := some (fileOf pool24 24 #[.nestMembers #[55, 131, 125, 114]] #[{ accessFlags := 1, nameIndex := 5, descriptorIndex := 6, attributes := #[] }, { accessFlags := 9, nameIndex := 33, descriptorIndex := 178, attributes := #[] }] 33 2 #[] #[{ accessFlags := 25, nameIndex := 123, descriptorIndex := 124, attributes := #[] }, { accessFlags := 25, nameIndex := 130, descriptorIndex := 124, attributes := #[] }, { accessFlags := 25, nameIndex := 136, descriptorIndex := 124, attributes := #[] }])
  fields := #[{ name := "SIOOBE_FORMATTER", type := (.object "java/util/function/BiFunction"), accessFlags := 25, slot := 0, constantValue := 0 }, { name := "AIOOBE_FORMATTER", type := (.object "java/util/function/BiFunction"), accessFlags := 25, slot := 1, constantValue := 0 }, { name := "IOOBE_FORMATTER", type := (.object "java/util/function/BiFunction"), accessFlags := 25, slot := 2, constantValue := 0 }]
  methods := #[k24m0, k24m1]
  instanceTypes := #[]
  staticTypes := #[(.object "java/util/function/BiFunction"), (.object "java/util/function/BiFunction"), (.object "java/util/function/BiFunction")]
  resolved := Array.replicate 194 none
  statics := none }

/-- the primitive byte -/
def k25 : Class := { plain "byte" none with kind := .primitive 'B', accessFlags := 0x411 }
/-- [B -/
def k26 : Class := { plain "[B" (some 0) with kind := .array 25 .byte, interfaces := #[18, 4], accessFlags := 1041 }

/-- the primitive int -/
def k27 : Class := { plain "int" none with kind := .primitive 'I', accessFlags := 0x411 }
/-- [I -/
def k28 : Class := { plain "[I" (some 0) with kind := .array 27 .int, interfaces := #[18, 4], accessFlags := 1041 }

/-- the primitive long -/
def k29 : Class := { plain "long" none with kind := .primitive 'J', accessFlags := 0x411 }
/-- [J -/
def k30 : Class := { plain "[J" (some 0) with kind := .array 29 .long, interfaces := #[18, 4], accessFlags := 1041 }

/-- [Ljava/lang/Object; -/
def k31 : Class := { plain "[Ljava/lang/Object;" (some 0) with kind := .array 0 (.object "java/lang/Object"), interfaces := #[18, 4], accessFlags := 1041 }

def heap : Heap := #[{ cls := 19, slots := #[.long 0, .int 0, .ref 1, .ref 2], vm := .statics 19 },
  { cls := 31, slots := #[], vm := .none },
  { cls := 31, slots := #[], vm := .none }]
def classes : Array Class := #[k0, k1, k2, k3, k4, k5, k6, k7, k8, k9, k10, k11, k12, k13, k14, k15, k16, k17, k18, k19, k20, k21, k22, k23, k24, k25, k26, k27, k28, k29, k30, k31]
def interned : List (Array UInt16 × Addr) := []
def slotsUsed : Nat := 4
def theMethod : MethodId := ⟨1, 1⟩
def args0 : Array Value := #[.int 0, .int 1, .int 2, .int 3]
def aboutOver (below : List Frame) : State where
  vm := { classes := classes, interned := interned.toArray }
  heap := heap
  slotsUsed := slotsUsed
  threads := #[{ frames := .invoking theMethod args0 :: below }]
def below0 : List Frame := [.native { method := ⟨0, 0⟩, args := #[] }]
def about1 : State := aboutOver below0
def p0 : Program := .bare "" "" ""
def e0 : Env := launch0.env 0 0 0
theorem w_frames : about1.frames = Frame.invoking theMethod args0 :: below0 := rfl
set_option maxRecDepth 65536 in
theorem w_args : argsFit about1.vm theMethod args0 = true := by decide +kernel
set_option maxRecDepth 65536 in
theorem w_heap : heapFits about1 = true := by decide +kernel
set_option maxRecDepth 65536 in
theorem w_runnable : about1.curStatus? = some .runnable := by decide +kernel
set_option maxRecDepth 65536 in
theorem w_alone : about1.alone = true := by decide +kernel
set_option maxRecDepth 65536 in
theorem w_named : about1.methodNamed? x = some theMethod := by decide +kernel
set_option maxRecDepth 65536 in
theorem w_hears : about1.hears theMethod below0 = true := by decide +kernel
set_option maxRecDepth 65536 in
theorem w_ripe : about1.ripe theMethod args0 below0 = true := by decide +kernel
theorem w_running : about1.status = .running := rfl
set_option maxRecDepth 65536 in
theorem w_room : about1.hasRoom e0.platform room_1 = true :=
  launch0.hasRoom_least _ room_1 (by decide +kernel) (by decide +kernel) (by decide +kernel) (by decide +kernel) (by decide +kernel) (by decide +kernel)
theorem allAtoms_all (ts : List Jvm.Cond) (a : Array Jvm.Value) (st : Jvm.State) : (allAtoms ts).before a st = ts.all (fun c => c.before a st) := by
  induction ts with
  | nil => rfl
  | cons c t ih =>
    show (Jvm.Cond.and c (allAtoms t)).before a st = _
    rw [Jvm.Cond.before_and, ih, List.all_cons]
def words1 : List Jvm.Cond := Jvm.Cond.code x code maxLocals ret :: tables_1
/-- a 'code' word, met by the world's own term for the bytes: nothing is compared byte by byte -/
theorem code_word {y : MethodName} {bytes : ByteArray} {mx : Nat} {rt : Option FieldType} {a : Array Value} {s : State} {m : MethodId} {meth : Method} {c : Code} (h1 : s.methodNamed? y = some m) (h2 : s.vm.method? m = some meth) (h3 : meth.code = some c) (h4 : c.code = bytes)
    (h5 : (c.maxLocals == mx && c.exceptionTable.isEmpty && decide (c.maxStack ≤ mostOperands) && decide (meth.sig.returnType = rt) && !meth.locks && decide (parseMethodDescriptor y.desc = some meth.sig)) = true) : (Jvm.Cond.code y bytes mx rt).before a s = true := by
  simp only [Bool.and_eq_true, beq_iff_eq, Bool.not_eq_true', decide_eq_true_eq] at h5
  obtain ⟨⟨⟨⟨⟨g1, g2⟩, g3⟩, g4⟩, g5⟩, g6⟩ := h5
  simp [Cond.before, Cond.holds, Cond.value, h1, h2, h3, h4, g1, g2, g3, g4, g5, g6]
def isCode : Jvm.Cond → Bool
  | .code _ _ _ _ => true
  | _ => false
theorem all_split {L : List Jvm.Cond} {P : Jvm.Cond → Bool} (h1 : L.all (fun c => isCode c || P c) = true) (h2 : ∀ c ∈ L.filter isCode, P c = true) : L.all P = true := by
  refine List.all_eq_true.mpr fun c hc => ?_
  have h := List.all_eq_true.mp h1 c hc
  rcases Bool.eq_false_or_eq_true (isCode c) with hi | hi
  · exact h2 c (List.mem_filter.mpr ⟨hc, hi⟩)
  · simpa [hi] using h
set_option maxRecDepth 65536 in
theorem w_c0 : (Jvm.Cond.code x code maxLocals ret).before args0 about1 = true := code_word (m := ⟨1, 1⟩) (meth := k1m1) (c := k1c1) (by decide +kernel) rfl rfl rfl (by decide +kernel)
set_option maxRecDepth 65536 in
theorem w_c1 : (Jvm.Cond.code ({ cls := "java/lang/Math", name := "min", desc := "(II)I" } : Jvm.MethodName) jdk_29_method_69_code (2 : Nat) (Option.some Jvm.ClassFile.FieldType.int)).before args0 about1 = true := code_word (m := ⟨2, 2⟩) (meth := k2m2) (c := k2c2) (by decide +kernel) rfl rfl rfl (by decide +kernel)
set_option maxRecDepth 65536 in
theorem w_c2 : (Jvm.Cond.code ({ cls := "com/example/ordence/ordence/IntVariable", name := "<init>", desc := "(Ljava/lang/String;II)V" } : Jvm.MethodName) prog_77_method_1_code (4 : Nat) (Option.none : Option Jvm.ClassFile.FieldType)).before args0 about1 = true := code_word (m := ⟨3, 0⟩) (meth := k3m0) (c := k3c0) (by decide +kernel) rfl rfl rfl (by decide +kernel)
set_option maxRecDepth 65536 in
theorem w_c3 : (Jvm.Cond.code ({ cls := "com/example/ordence/ordence/Domain", name := "interval", desc := "(II)Lcom/example/ordence/ordence/Domain;" } : Jvm.MethodName) prog_27_method_2_code (2 : Nat) (Option.some (Jvm.ClassFile.FieldType.object "com/example/ordence/ordence/Domain"))).before args0 about1 = true := code_word (m := ⟨10, 1⟩) (meth := k10m1) (c := k10c1) (by decide +kernel) rfl rfl rfl (by decide +kernel)
set_option maxRecDepth 65536 in
theorem w_c4 : (Jvm.Cond.code ({ cls := "com/example/ordence/ordence/Domain", name := "<init>", desc := "([J[I)V" } : Jvm.MethodName) prog_27_method_1_code (6 : Nat) (Option.none : Option Jvm.ClassFile.FieldType)).before args0 about1 = true := code_word (m := ⟨10, 0⟩) (meth := k10m0) (c := k10c0) (by decide +kernel) rfl rfl rfl (by decide +kernel)
set_option maxRecDepth 65536 in
theorem w_c5 : (Jvm.Cond.code ({ cls := "java/lang/Object", name := "<init>", desc := "()V" } : Jvm.MethodName) object_method_1_code (1 : Nat) (Option.none : Option Jvm.ClassFile.FieldType)).before args0 about1 = true := code_word (m := ⟨0, 0⟩) (meth := k0m0) (c := k0c0) (by decide +kernel) rfl rfl rfl (by decide +kernel)
set_option maxRecDepth 65536 in
theorem w_c6 : (Jvm.Cond.code ({ cls := "com/example/ordence/ordence/IntVariable", name := "<init>", desc := "(Ljava/lang/String;Lcom/example/ordence/ordence/Domain;)V" } : Jvm.MethodName) prog_77_method_2_code (3 : Nat) (Option.none : Option Jvm.ClassFile.FieldType)).before args0 about1 = true := code_word (m := ⟨3, 1⟩) (meth := k3m1) (c := k3c1) (by decide +kernel) rfl rfl rfl (by decide +kernel)
set_option maxRecDepth 65536 in
theorem w_c7 : (Jvm.Cond.code ({ cls := "com/example/ordence/ordence/IntVariable", name := "<init>", desc := "(Ljava/lang/String;Lcom/example/ordence/ordence/Domain;Z)V" } : Jvm.MethodName) prog_77_method_3_code (4 : Nat) (Option.none : Option Jvm.ClassFile.FieldType)).before args0 about1 = true := code_word (m := ⟨3, 2⟩) (meth := k3m2) (c := k3c2) (by decide +kernel) rfl rfl rfl (by decide +kernel)
set_option maxRecDepth 65536 in
theorem w_c8 : (Jvm.Cond.code ({ cls := "java/util/ArrayList", name := "<init>", desc := "()V" } : Jvm.MethodName) jdk_38_method_2_code (1 : Nat) (Option.none : Option Jvm.ClassFile.FieldType)).before args0 about1 = true := code_word (m := ⟨19, 0⟩) (meth := k19m0) (c := k19c0) (by decide +kernel) rfl rfl rfl (by decide +kernel)
set_option maxRecDepth 65536 in
theorem w_c9 : (Jvm.Cond.code ({ cls := "java/util/AbstractList", name := "<init>", desc := "()V" } : Jvm.MethodName) jdk_39_method_1_code (1 : Nat) (Option.none : Option Jvm.ClassFile.FieldType)).before args0 about1 = true := code_word (m := ⟨16, 0⟩) (meth := k16m0) (c := k16c0) (by decide +kernel) rfl rfl rfl (by decide +kernel)
set_option maxRecDepth 65536 in
theorem w_c10 : (Jvm.Cond.code ({ cls := "java/util/AbstractCollection", name := "<init>", desc := "()V" } : Jvm.MethodName) jdk_22_method_1_code (1 : Nat) (Option.none : Option Jvm.ClassFile.FieldType)).before args0 about1 = true := code_word (m := ⟨13, 0⟩) (meth := k13m0) (c := k13c0) (by decide +kernel) rfl rfl rfl (by decide +kernel)
set_option maxRecDepth 65536 in
theorem w_c11 : (Jvm.Cond.code ({ cls := "java/util/ArrayList", name := "add", desc := "(Ljava/lang/Object;)Z" } : Jvm.MethodName) jdk_38_method_25_code (2 : Nat) (Option.some Jvm.ClassFile.FieldType.boolean)).before args0 about1 = true := code_word (m := ⟨19, 7⟩) (meth := k19m7) (c := k19c7) (by decide +kernel) rfl rfl rfl (by decide +kernel)
set_option maxRecDepth 65536 in
theorem w_c12 : (Jvm.Cond.code ({ cls := "java/util/ArrayList", name := "add", desc := "(Ljava/lang/Object;[Ljava/lang/Object;I)V" } : Jvm.MethodName) jdk_38_method_24_code (4 : Nat) (Option.none : Option Jvm.ClassFile.FieldType)).before args0 about1 = true := code_word (m := ⟨19, 6⟩) (meth := k19m6) (c := k19c6) (by decide +kernel) rfl rfl rfl (by decide +kernel)
set_option maxRecDepth 65536 in
theorem w_c13 : (Jvm.Cond.code ({ cls := "java/util/ArrayList", name := "grow", desc := "()[Ljava/lang/Object;" } : Jvm.MethodName) jdk_38_method_7_code (1 : Nat) (Option.some (Jvm.ClassFile.FieldType.array (Jvm.ClassFile.FieldType.object "java/lang/Object")))).before args0 about1 = true := code_word (m := ⟨19, 2⟩) (meth := k19m2) (c := k19c2) (by decide +kernel) rfl rfl rfl (by decide +kernel)
set_option maxRecDepth 65536 in
theorem w_c14 : (Jvm.Cond.code ({ cls := "java/util/ArrayList", name := "grow", desc := "(I)[Ljava/lang/Object;" } : Jvm.MethodName) jdk_38_method_6_code (4 : Nat) (Option.some (Jvm.ClassFile.FieldType.array (Jvm.ClassFile.FieldType.object "java/lang/Object")))).before args0 about1 = true := code_word (m := ⟨19, 1⟩) (meth := k19m1) (c := k19c1) (by decide +kernel) rfl rfl rfl (by decide +kernel)
set_option maxRecDepth 65536 in
theorem w_c15 : (Jvm.Cond.code ({ cls := "java/lang/Math", name := "max", desc := "(II)I" } : Jvm.MethodName) jdk_29_method_65_code (2 : Nat) (Option.some Jvm.ClassFile.FieldType.int)).before args0 about1 = true := code_word (m := ⟨2, 1⟩) (meth := k2m1) (c := k2c1) (by decide +kernel) rfl rfl rfl (by decide +kernel)
set_option maxRecDepth 65536 in
theorem w_c16 : (Jvm.Cond.code ({ cls := "com/example/ordence/ordence/Formula$Table", name := "<init>", desc := "(Ljava/util/List;Ljava/util/List;Z)V" } : Jvm.MethodName) prog_73_method_1_code (4 : Nat) (Option.none : Option Jvm.ClassFile.FieldType)).before args0 about1 = true := code_word (m := ⟨22, 0⟩) (meth := k22m0) (c := k22c0) (by decide +kernel) rfl rfl rfl (by decide +kernel)
set_option maxRecDepth 65536 in
theorem w_c17 : (Jvm.Cond.code ({ cls := "java/lang/Record", name := "<init>", desc := "()V" } : Jvm.MethodName) jdk_30_method_1_code (1 : Nat) (Option.none : Option Jvm.ClassFile.FieldType)).before args0 about1 = true := code_word (m := ⟨20, 0⟩) (meth := k20m0) (c := k20c0) (by decide +kernel) rfl rfl rfl (by decide +kernel)
set_option maxRecDepth 65536 in
theorem w_c18 : (Jvm.Cond.code ({ cls := "com/example/ordence/ordence/Formula$Table", name := "negate", desc := "()Lcom/example/ordence/ordence/Formula;" } : Jvm.MethodName) prog_73_method_2_code (1 : Nat) (Option.some (Jvm.ClassFile.FieldType.object "com/example/ordence/ordence/Formula"))).before args0 about1 = true := code_word (m := ⟨22, 1⟩) (meth := k22m1) (c := k22c1) (by decide +kernel) rfl rfl rfl (by decide +kernel)
set_option maxRecDepth 65536 in
theorem w_c19 : (Jvm.Cond.code ({ cls := "com/example/ordence/ordence/Formula$Table", name := "supports", desc := "()Z" } : Jvm.MethodName) prog_73_method_8_code (1 : Nat) (Option.some Jvm.ClassFile.FieldType.boolean)).before args0 about1 = true := code_word (m := ⟨22, 4⟩) (meth := k22m4) (c := k22c4) (by decide +kernel) rfl rfl rfl (by decide +kernel)
set_option maxRecDepth 65536 in
theorem w_c20 : (Jvm.Cond.code ({ cls := "com/example/ordence/ordence/Formula$Table", name := "variables", desc := "()Ljava/util/List;" } : Jvm.MethodName) prog_73_method_6_code (1 : Nat) (Option.some (Jvm.ClassFile.FieldType.object "java/util/List"))).before args0 about1 = true := code_word (m := ⟨22, 2⟩) (meth := k22m2) (c := k22c2) (by decide +kernel) rfl rfl rfl (by decide +kernel)
set_option maxRecDepth 65536 in
theorem w_c21 : (Jvm.Cond.code ({ cls := "java/util/ArrayList", name := "size", desc := "()I" } : Jvm.MethodName) jdk_38_method_8_code (1 : Nat) (Option.some Jvm.ClassFile.FieldType.int)).before args0 about1 = true := code_word (m := ⟨19, 3⟩) (meth := k19m3) (c := k19c3) (by decide +kernel) rfl rfl rfl (by decide +kernel)
set_option maxRecDepth 65536 in
theorem w_c22 : (Jvm.Cond.code ({ cls := "java/util/ArrayList", name := "get", desc := "(I)Ljava/lang/Object;" } : Jvm.MethodName) jdk_38_method_20_code (2 : Nat) (Option.some (Jvm.ClassFile.FieldType.object "java/lang/Object"))).before args0 about1 = true := code_word (m := ⟨19, 5⟩) (meth := k19m5) (c := k19c5) (by decide +kernel) rfl rfl rfl (by decide +kernel)
set_option maxRecDepth 65536 in
theorem w_c23 : (Jvm.Cond.code ({ cls := "java/util/Objects", name := "checkIndex", desc := "(II)I" } : Jvm.MethodName) jdk_31_method_17_code (2 : Nat) (Option.some Jvm.ClassFile.FieldType.int)).before args0 about1 = true := code_word (m := ⟨23, 1⟩) (meth := k23m1) (c := k23c1) (by decide +kernel) rfl rfl rfl (by decide +kernel)
set_option maxRecDepth 65536 in
theorem w_c24 : (Jvm.Cond.code ({ cls := "jdk/internal/util/Preconditions", name := "checkIndex", desc := "(IILjava/util/function/BiFunction;)I" } : Jvm.MethodName) jdk_41_method_11_code (3 : Nat) (Option.some Jvm.ClassFile.FieldType.int)).before args0 about1 = true := code_word (m := ⟨24, 1⟩) (meth := k24m1) (c := k24c1) (by decide +kernel) rfl rfl rfl (by decide +kernel)
set_option maxRecDepth 65536 in
theorem w_c25 : (Jvm.Cond.code ({ cls := "java/util/ArrayList", name := "elementData", desc := "(I)Ljava/lang/Object;" } : Jvm.MethodName) jdk_38_method_18_code (2 : Nat) (Option.some (Jvm.ClassFile.FieldType.object "java/lang/Object"))).before args0 about1 = true := code_word (m := ⟨19, 4⟩) (meth := k19m4) (c := k19c4) (by decide +kernel) rfl rfl rfl (by decide +kernel)
set_option maxRecDepth 65536 in
theorem w_c26 : (Jvm.Cond.code ({ cls := "com/example/ordence/ordence/Formula$Table", name := "tuples", desc := "()Ljava/util/List;" } : Jvm.MethodName) prog_73_method_7_code (1 : Nat) (Option.some (Jvm.ClassFile.FieldType.object "java/util/List"))).before args0 about1 = true := code_word (m := ⟨22, 3⟩) (meth := k22m3) (c := k22c3) (by decide +kernel) rfl rfl rfl (by decide +kernel)
def codes1 : List Jvm.Cond := [Jvm.Cond.code x code maxLocals ret, Jvm.Cond.code ({ cls := "java/lang/Math", name := "min", desc := "(II)I" } : Jvm.MethodName) jdk_29_method_69_code (2 : Nat) (Option.some Jvm.ClassFile.FieldType.int), Jvm.Cond.code ({ cls := "com/example/ordence/ordence/IntVariable", name := "<init>", desc := "(Ljava/lang/String;II)V" } : Jvm.MethodName) prog_77_method_1_code (4 : Nat) (Option.none : Option Jvm.ClassFile.FieldType), Jvm.Cond.code ({ cls := "com/example/ordence/ordence/Domain", name := "interval", desc := "(II)Lcom/example/ordence/ordence/Domain;" } : Jvm.MethodName) prog_27_method_2_code (2 : Nat) (Option.some (Jvm.ClassFile.FieldType.object "com/example/ordence/ordence/Domain")), Jvm.Cond.code ({ cls := "com/example/ordence/ordence/Domain", name := "<init>", desc := "([J[I)V" } : Jvm.MethodName) prog_27_method_1_code (6 : Nat) (Option.none : Option Jvm.ClassFile.FieldType), Jvm.Cond.code ({ cls := "java/lang/Object", name := "<init>", desc := "()V" } : Jvm.MethodName) object_method_1_code (1 : Nat) (Option.none : Option Jvm.ClassFile.FieldType), Jvm.Cond.code ({ cls := "com/example/ordence/ordence/IntVariable", name := "<init>", desc := "(Ljava/lang/String;Lcom/example/ordence/ordence/Domain;)V" } : Jvm.MethodName) prog_77_method_2_code (3 : Nat) (Option.none : Option Jvm.ClassFile.FieldType), Jvm.Cond.code ({ cls := "com/example/ordence/ordence/IntVariable", name := "<init>", desc := "(Ljava/lang/String;Lcom/example/ordence/ordence/Domain;Z)V" } : Jvm.MethodName) prog_77_method_3_code (4 : Nat) (Option.none : Option Jvm.ClassFile.FieldType), Jvm.Cond.code ({ cls := "java/util/ArrayList", name := "<init>", desc := "()V" } : Jvm.MethodName) jdk_38_method_2_code (1 : Nat) (Option.none : Option Jvm.ClassFile.FieldType), Jvm.Cond.code ({ cls := "java/util/AbstractList", name := "<init>", desc := "()V" } : Jvm.MethodName) jdk_39_method_1_code (1 : Nat) (Option.none : Option Jvm.ClassFile.FieldType), Jvm.Cond.code ({ cls := "java/util/AbstractCollection", name := "<init>", desc := "()V" } : Jvm.MethodName) jdk_22_method_1_code (1 : Nat) (Option.none : Option Jvm.ClassFile.FieldType), Jvm.Cond.code ({ cls := "java/util/ArrayList", name := "add", desc := "(Ljava/lang/Object;)Z" } : Jvm.MethodName) jdk_38_method_25_code (2 : Nat) (Option.some Jvm.ClassFile.FieldType.boolean), Jvm.Cond.code ({ cls := "java/util/ArrayList", name := "add", desc := "(Ljava/lang/Object;[Ljava/lang/Object;I)V" } : Jvm.MethodName) jdk_38_method_24_code (4 : Nat) (Option.none : Option Jvm.ClassFile.FieldType), Jvm.Cond.code ({ cls := "java/util/ArrayList", name := "grow", desc := "()[Ljava/lang/Object;" } : Jvm.MethodName) jdk_38_method_7_code (1 : Nat) (Option.some (Jvm.ClassFile.FieldType.array (Jvm.ClassFile.FieldType.object "java/lang/Object"))), Jvm.Cond.code ({ cls := "java/util/ArrayList", name := "grow", desc := "(I)[Ljava/lang/Object;" } : Jvm.MethodName) jdk_38_method_6_code (4 : Nat) (Option.some (Jvm.ClassFile.FieldType.array (Jvm.ClassFile.FieldType.object "java/lang/Object"))), Jvm.Cond.code ({ cls := "java/lang/Math", name := "max", desc := "(II)I" } : Jvm.MethodName) jdk_29_method_65_code (2 : Nat) (Option.some Jvm.ClassFile.FieldType.int), Jvm.Cond.code ({ cls := "com/example/ordence/ordence/Formula$Table", name := "<init>", desc := "(Ljava/util/List;Ljava/util/List;Z)V" } : Jvm.MethodName) prog_73_method_1_code (4 : Nat) (Option.none : Option Jvm.ClassFile.FieldType), Jvm.Cond.code ({ cls := "java/lang/Record", name := "<init>", desc := "()V" } : Jvm.MethodName) jdk_30_method_1_code (1 : Nat) (Option.none : Option Jvm.ClassFile.FieldType), Jvm.Cond.code ({ cls := "com/example/ordence/ordence/Formula$Table", name := "negate", desc := "()Lcom/example/ordence/ordence/Formula;" } : Jvm.MethodName) prog_73_method_2_code (1 : Nat) (Option.some (Jvm.ClassFile.FieldType.object "com/example/ordence/ordence/Formula")), Jvm.Cond.code ({ cls := "com/example/ordence/ordence/Formula$Table", name := "supports", desc := "()Z" } : Jvm.MethodName) prog_73_method_8_code (1 : Nat) (Option.some Jvm.ClassFile.FieldType.boolean), Jvm.Cond.code ({ cls := "com/example/ordence/ordence/Formula$Table", name := "variables", desc := "()Ljava/util/List;" } : Jvm.MethodName) prog_73_method_6_code (1 : Nat) (Option.some (Jvm.ClassFile.FieldType.object "java/util/List")), Jvm.Cond.code ({ cls := "java/util/ArrayList", name := "size", desc := "()I" } : Jvm.MethodName) jdk_38_method_8_code (1 : Nat) (Option.some Jvm.ClassFile.FieldType.int), Jvm.Cond.code ({ cls := "java/util/ArrayList", name := "get", desc := "(I)Ljava/lang/Object;" } : Jvm.MethodName) jdk_38_method_20_code (2 : Nat) (Option.some (Jvm.ClassFile.FieldType.object "java/lang/Object")), Jvm.Cond.code ({ cls := "java/util/Objects", name := "checkIndex", desc := "(II)I" } : Jvm.MethodName) jdk_31_method_17_code (2 : Nat) (Option.some Jvm.ClassFile.FieldType.int), Jvm.Cond.code ({ cls := "jdk/internal/util/Preconditions", name := "checkIndex", desc := "(IILjava/util/function/BiFunction;)I" } : Jvm.MethodName) jdk_41_method_11_code (3 : Nat) (Option.some Jvm.ClassFile.FieldType.int), Jvm.Cond.code ({ cls := "java/util/ArrayList", name := "elementData", desc := "(I)Ljava/lang/Object;" } : Jvm.MethodName) jdk_38_method_18_code (2 : Nat) (Option.some (Jvm.ClassFile.FieldType.object "java/lang/Object")), Jvm.Cond.code ({ cls := "com/example/ordence/ordence/Formula$Table", name := "tuples", desc := "()Ljava/util/List;" } : Jvm.MethodName) prog_73_method_7_code (1 : Nat) (Option.some (Jvm.ClassFile.FieldType.object "java/util/List"))]
set_option maxRecDepth 65536 in
theorem codes_eq : words1.filter isCode = codes1 := rfl
theorem w_codes : ∀ c ∈ words1.filter isCode, c.before args0 about1 = true := by
  rw [codes_eq]
  intro c hc
  simp only [codes1, List.mem_cons, List.not_mem_nil, or_false] at hc
  rcases hc with rfl | rfl | rfl | rfl | rfl | rfl | rfl | rfl | rfl | rfl | rfl | rfl | rfl | rfl | rfl | rfl | rfl | rfl | rfl | rfl | rfl | rfl | rfl | rfl | rfl | rfl | rfl
  · exact w_c0
  · exact w_c1
  · exact w_c2
  · exact w_c3
  · exact w_c4
  · exact w_c5
  · exact w_c6
  · exact w_c7
  · exact w_c8
  · exact w_c9
  · exact w_c10
  · exact w_c11
  · exact w_c12
  · exact w_c13
  · exact w_c14
  · exact w_c15
  · exact w_c16
  · exact w_c17
  · exact w_c18
  · exact w_c19
  · exact w_c20
  · exact w_c21
  · exact w_c22
  · exact w_c23
  · exact w_c24
  · exact w_c25
  · exact w_c26
set_option maxRecDepth 65536 in
theorem w_t1 : (words1.take 24).all (fun c => isCode c || c.before args0 about1) = true := by decide +kernel
set_option maxRecDepth 65536 in
theorem w_t2 : ((words1.drop 24).take 24).all (fun c => isCode c || c.before args0 about1) = true := by decide +kernel
set_option maxRecDepth 65536 in
theorem w_t3 : (((words1.drop 24).drop 24).take 24).all (fun c => isCode c || c.before args0 about1) = true := by decide +kernel
set_option maxRecDepth 65536 in
theorem w_t4 : ((((words1.drop 24).drop 24).drop 24).take 24).all (fun c => isCode c || c.before args0 about1) = true := by decide +kernel
set_option maxRecDepth 65536 in
theorem w_t5 : (((((words1.drop 24).drop 24).drop 24).drop 24).take 24).all (fun c => isCode c || c.before args0 about1) = true := by decide +kernel
set_option maxRecDepth 65536 in
theorem w_t6 : ((((((words1.drop 24).drop 24).drop 24).drop 24).drop 24).take 24).all (fun c => isCode c || c.before args0 about1) = true := by decide +kernel
set_option maxRecDepth 65536 in
theorem w_t7 : (((((((words1.drop 24).drop 24).drop 24).drop 24).drop 24).drop 24).take 24).all (fun c => isCode c || c.before args0 about1) = true := by decide +kernel
set_option maxRecDepth 65536 in
theorem w_t8 : (((((((words1.drop 24).drop 24).drop 24).drop 24).drop 24).drop 24).drop 24).all (fun c => isCode c || c.before args0 about1) = true := by decide +kernel
theorem w_tables : (allAtoms (Jvm.Cond.code x code maxLocals ret :: tables_1)).before args0 about1 = true := by
  rw [allAtoms_all]
  show words1.all (fun c => c.before args0 about1) = true
  refine all_split ?_ w_codes
  rw [← List.take_append_drop 24 words1, List.all_append, w_t1, ← List.take_append_drop 24 (words1.drop 24), List.all_append, w_t2, ← List.take_append_drop 24 ((words1.drop 24).drop 24), List.all_append, w_t3, ← List.take_append_drop 24 (((words1.drop 24).drop 24).drop 24), List.all_append, w_t4, ← List.take_append_drop 24 ((((words1.drop 24).drop 24).drop 24).drop 24), List.all_append, w_t5, ← List.take_append_drop 24 (((((words1.drop 24).drop 24).drop 24).drop 24).drop 24), List.all_append, w_t6, ← List.take_append_drop 24 ((((((words1.drop 24).drop 24).drop 24).drop 24).drop 24).drop 24), List.all_append, w_t7, w_t8]
  rfl
set_option maxRecDepth 65536 in
theorem w_rest : rest_1_c.before args0 about1 = true := by decide +kernel
set_option maxRecDepth 65536 in
theorem w_case : (Jvm.Cond.and given_1 narrow_1).before args0 about1 = true := by decide +kernel
theorem w_applies : (headSpec (Jvm.Cond.code x code maxLocals ret :: tables_1) room_1).applies x e0.platform about1 = true :=
  (Spec.applies_iff w_frames).mpr ⟨w_running, w_runnable, w_alone, w_named, w_hears, w_ripe, w_room, w_tables⟩
theorem atStart : AtStart classFile x code maxLocals ret World_1 tables_1 room_1 Calls_1 rest_1 Pre_1 launch0 p0 e0 about1 theMethod args0 below0 :=
  ⟨lists_1, trivial, launch0.admits_env _ _ _, launch0.least_env, fairChoices_fair.cas, fairChoices_fair.clock, w_frames, w_args, w_heap, w_applies, trivial, w_rest, w_case⟩
end start1
theorem witness_1 : WitnessClaimed_1 := ⟨start1.p0, start1.e0, start1.about1, start1.theMethod, start1.args0, start1.below0, start1.atStart⟩
end Jvm.Pilot.@@N@@
