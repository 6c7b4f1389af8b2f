import JvmDerived
import JvmDerived.Pilot.@@N@@Statement
import JvmDerived.Pilot.@@N@@Code
set_option linter.unusedVariables false
set_option linter.unusedSimpArgs false
namespace Jvm.RoadKit
open Sem ClassFile Op Lib Jvm.Stand Jvm.Free Jvm.LawKit
section New
variable {p : Program} {l : Launch} {e : Env} {R : Room} {s : State} {m : MethodId} {args : Array Value} {below : List Frame} {meth : Method} {c : Code} {T : State} {locs : List Loc} {cells slots : Nat}
theorem retI (X : Stand p l e R s m args below meth c T locs cells slots) (hx : p.tables.exec = Jvm.exec) {pc : Nat} {Ls : Array Slot} {z : Int32} {rest : List Value} (hret : meth.sig.returnType = some .int) (hd : decode c.code pc = .ok (.ireturn, 1)) {fs : List Frame}
    (hl : ∀ (f : JFrame) (acts : List Action), f.method = m → f.locked = none → f.entered = [] → (doReturn e (T.setTop f) acts (some (.int z))).1 = T.setFrames fs) : Steps p.tables e below (T.setTop (mkF m pc Ls (.int z :: rest))) (T.setFrames fs) := by
  have hm' : T.vm.method? m = some meth := X.method'
  have hn : narrow .int (.int z) = .int z := rfl
  show Steps p.tables e below (T.setTop { method := m, pc := pc, locals := Ls, stack := _ :: rest, locked := none }) _
  jvm_step X.here [X.here.top, hx, hd, hm', hret, hn]
  first | (intro acts; rw [hl _ acts rfl rfl rfl]) | rw [hl _ _ rfl rfl rfl]
  exact Steps.refl _
end New
end Jvm.RoadKit
namespace Jvm.Pilot.@@N@@
open Jvm Jvm.ClassFile Sem Op Lib Jvm.Free Jvm.Stand Jvm.LawKit Jvm.RoadKit Bundle Jvm.Pilot.@@N@@.Jvm.D
/-- from this frame the run comes to its end, and Q is said of what it leaves -/
def own_Dn (p : Program) (e : Env) (below : List Frame) (s : State) (Q : Option Value → Heap → List Loc → Prop) (k n : Nat) (T : State) (g : JFrame) : Prop :=
  ∃ s₂ o, Steps p.tables e below (T.setTop g) s₂ ∧ s₂.status = .running ∧ Ended s₂ below o ∧ ∃ v L, o = .returned v ∧ Q v s₂.heap L ∧ FrameEnd s o s₂ L k n
theorem own_go {p : Program} {e : Env} {below : List Frame} {s : State} {Q : Option Value → Heap → List Loc → Prop} {k n : Nat} {T T' : State} {g g' : JFrame}
    (h : ∀ t, Steps p.tables e below (T'.setTop g') t → Steps p.tables e below (T.setTop g) t) (d : own_Dn p e below s Q k n T' g') : own_Dn p e below s Q k n T g := by
  obtain ⟨s₂, o, h1, h2⟩ := d
  exact ⟨s₂, o, h _ h1, h2⟩
theorem own_as {p : Program} {e : Env} {below : List Frame} {s : State} {Q : Option Value → Heap → List Loc → Prop} {k n : Nat} {T : State} {g g' : JFrame}
    (h : g = g') (d : own_Dn p e below s Q k n T g') : own_Dn p e below s Q k n T g := h ▸ d
theorem own_ret {p : Program} {l : Launch} {e : Env} {R : Room} {s : State} {m : MethodId} {args : Array Value} {below : List Frame} {meth : Method} {c : Code} {T : State} {locs : List Loc} {cells slots : Nat}
    {Q : Option Value → Heap → List Loc → Prop} {k n : Nat} {g : JFrame} (X : Stand p l e R s m args below meth c T locs cells slots) (hlocks : meth.locks = false) (v : Option Value) (hv : meth.sig.returnType = none → v = none)
    (hr : ∀ fs : List Frame, (∀ (f : JFrame) (acts : List Action), f.method = m → f.locked = none → f.entered = [] → (doReturn e (T.setTop f) acts v).1 = T.setFrames fs) → Steps p.tables e below (T.setTop g) (T.setFrames fs))
    (hQ : Q v T.heap locs) (hk : cells ≤ k) (hn : slots ≤ n) : own_Dn p e below s Q k n T g := by
  obtain ⟨fs, h1, hrun, hended, hW, hsame⟩ := X.leave (v := v) hv hlocks
  exact ⟨_, _, hr fs h1, hrun, hended, _, _, rfl, hQ, ⟨_, rfl⟩, hW, hsame.mono hk hn⟩
theorem own_ln1 : (-1 : Int32).toInt = -1 := by decide
theorem own_l0 : (0 : Int32).toInt = 0 := by decide
theorem own_l1 : (1 : Int32).toInt = 1 := by decide
theorem own_l2 : (2 : Int32).toInt = 2 := by decide
theorem own_l3 : (3 : Int32).toInt = 3 := by decide
theorem own_l4 : (4 : Int32).toInt = 4 := by decide
theorem own_l5 : (5 : Int32).toInt = 5 := by decide
theorem own_l255 : (255 : Int32).toInt = 255 := by decide
theorem own_l2147483647 : (2147483647 : Int32).toInt = 2147483647 := by decide
theorem own_and1 (z : Int32) (h : z.toInt = 1 ∨ z.toInt = 0) : (z &&& (1 : Int32)).toInt = z.toInt ∧ (z &&& (0 : Int32)).toInt = 0 := by
  have h' : z = (1 : Int32) ∨ z = (0 : Int32) := by simp only [← Int32.toInt_inj]; exact h
  rcases h' with rfl | rfl <;> decide
theorem own_if {P : Prop} [Decidable P] (z : Int32) (h : (z.toInt = 1 ∧ P) ∨ (z.toInt = 0 ∧ ¬ P)) : nar .boolean z = if P then 1 else 0 := by
  have h' : (z = (1 : Int32) ∧ P) ∨ (z = (0 : Int32) ∧ ¬ P) := by simp only [← Int32.toInt_inj]; exact h
  rcases h' with ⟨rfl, p⟩ | ⟨rfl, p⟩
  · rw [if_pos p]; rfl
  · rw [if_neg p]; rfl
theorem own_if0 {P : Prop} [Decidable P] : ((if P then (1 : Int32) else 0) = (0 : Int32)) ↔ ¬ P := by
  by_cases h : P
  · rw [if_pos h]; simp [h]
  · rw [if_neg h]; simp [h]
theorem own_if1 {P : Prop} [Decidable P] : ((if P then (1 : Int32) else 0) = (1 : Int32)) ↔ P := by
  by_cases h : P
  · rw [if_pos h]; simp [h]
  · rw [if_neg h]; simp [h]
theorem own_d1_0 : decode method_2_code 0 = .ok (.iload_n 0, 1) := by decide +kernel
theorem own_d1_1 : decode method_2_code 1 = .ok (.iconst 1, 1) := by decide +kernel
theorem own_d1_2 : decode method_2_code 2 = .ok (.iand, 1) := by decide +kernel
theorem own_d1_3 : decode method_2_code 3 = .ok (.ifCond .eq 5, 3) := by decide +kernel
theorem own_d1_6 : decode method_2_code 6 = .ok (.iconst (-1), 1) := by decide +kernel
theorem own_d1_7 : decode method_2_code 7 = .ok (.ireturn, 1) := by decide +kernel
theorem own_d1_8 : decode method_2_code 8 = .ok (.iload_n 0, 1) := by decide +kernel
theorem own_d1_9 : decode method_2_code 9 = .ok (.iconst 1, 1) := by decide +kernel
theorem own_d1_10 : decode method_2_code 10 = .ok (.ishr, 1) := by decide +kernel
theorem own_d1_11 : decode method_2_code 11 = .ok (.i2b, 1) := by decide +kernel
theorem own_d1_12 : decode method_2_code 12 = .ok (.ireturn, 1) := by decide +kernel
theorem own_pn1 : plainName "com/example/carrier_name_resolver/carriernameresolver/card/CardBytesIsUnusedPinLaw" = true := by first | (simp [plainName, overriddenIn]; done) | decide +kernel
theorem own_ef1 (m : MethodId) (u : Int32) : entryFrame m #[(.int u)] 1 = mkF m 0 #[.val (.int u)] [] := by first | (simp [entryFrame, mkF, argsToLocals, Value.category]; done) | rfl
def own_Q1 (Z : State) (u : Int32) (h0 : Heap) (n0 : Nat) (v : Option Value) (h : Heap) (L : List Loc) : Prop := (∃ z : Int32, v = some (.int z)) ∧ Fr n0 L ∧ h = h0
set_option maxRecDepth 65536 in
set_option maxHeartbeats 40000000 in
theorem own_rm1 (l : Launch) (Z : State) (a0 : Array Value) (hw : ∀ d ∈ tables_1, d.before a0 Z = true) (ws : List Jvm.Cond) (u : Int32) (h0 : Heap) (n0 : Nat) (Zs : n0 ≤ h0.size)  :
    MetFree l (⟨"com/example/carrier_name_resolver/carriernameresolver/card/CardBytesIsUnusedPinLaw", "byteOf", "(I)B"⟩ : MethodName) (head1 (Jvm.Cond.code (⟨"com/example/carrier_name_resolver/carriernameresolver/card/CardBytesIsUnusedPinLaw", "byteOf", "(I)B"⟩ : MethodName) method_2_code 1 (some .byte) :: ws) ({ frames := 0, cells := 0, slots := 0, locals := 0 } : Room)) (fun aA_ U => aA_ = #[(.int u)] ∧ Z.Warmed39 U.vm ∧ U.heap = h0) (fun _ _ _ _ _ => True) (fun _ U o U' => ∃ v L, o = .returned v ∧ own_Q1 Z u h0 n0 v U'.heap L ∧ FrameEnd U o U' L ({ frames := 0, cells := 0, slots := 0, locals := 0 } : Room).cells ({ frames := 0, cells := 0, slots := 0, locals := 0 } : Room).slots) := by
  refine MetFree.of_bodySF (plainFor_of_name own_pn1) hisR ?_
  intro p e s m args below meth c s₁ Bd hml0 hP hK
  obtain ⟨rfl, hZ, hh⟩ := hP
  have hx := Bd.exec
  have hby := Bd.bytes
  have hml : c.maxLocals = 1 := hml0
  have hown : s.vm.findClass "com/example/carrier_name_resolver/carriernameresolver/card/CardBytesIsUnusedPinLaw" = some m.cls := findClass_of_methodNamed Bd.named
  have hnm := (name_of_methodNamed Bd.named Bd.method).1
  have X0 : Stand p l e ({ frames := 0, cells := 0, slots := 0, locals := 0 } : Room) s m #[(.int u)] below meth c s₁ [] 0 0 := Stand.of_body Bd
  have e0 : s₁.heap = h0 := by rw [← hh, Bd.state]; rfl
  have NF := Fr.nil n0
  rw [own_ef1 m u]
  show own_Dn p e below s (own_Q1 Z u h0 n0) 0 0 s₁ (mkF m 0 #[.val (.int u)] [])
  refine own_go (T' := s₁) (g' := (mkF m 1 #[.val (.int u)] [(.int u)])) (fun _ k => XS.iloadN X0.here hx rfl (hb hby own_d1_0) rfl k) ?_
  refine own_go (T' := s₁) (g' := (mkF m 2 #[.val (.int u)] [(.int (1 : Int32)), (.int u)])) (fun _ k => XS.iconst X0.here hx rfl (hb hby own_d1_1) k) ?_
  refine own_go (T' := s₁) (g' := (mkF m 3 #[.val (.int u)] [(.int (u &&& (1 : Int32)))])) (fun _ k => XS.iand X0.here hx rfl (hb hby own_d1_2) rfl k) ?_
  by_cases c1 : (u &&& (1 : Int32)) = (0 : Int32)
  · refine own_go (T' := s₁) (g' := (mkF m 8 #[.val (.int u)] [])) (fun _ k => XS.ifYes X0.here hx rfl (pc0 := 3) (pc' := 8) rfl (hb hby own_d1_3) rfl ((if0 _ _).trans (teq c1).1) (by decide) (by decide) k) ?_
    refine own_go (T' := s₁) (g' := (mkF m 9 #[.val (.int u)] [(.int u)])) (fun _ k => XS.iloadN X0.here hx rfl (hb hby own_d1_8) rfl k) ?_
    refine own_go (T' := s₁) (g' := (mkF m 10 #[.val (.int u)] [(.int (1 : Int32)), (.int u)])) (fun _ k => XS.iconst X0.here hx rfl (hb hby own_d1_9) k) ?_
    refine own_go (T' := s₁) (g' := (mkF m 11 #[.val (.int u)] [(.int (u >>> ((1 : Int32) &&& 31)))])) (fun _ k => XS.ishr X0.here hx rfl (hb hby own_d1_10) rfl k) ?_
    refine own_go (T' := s₁) (g' := (mkF m 12 #[.val (.int u)] [(.int ((u >>> ((1 : Int32) &&& 31)).toInt8.toInt32))])) (fun _ k => XS.i2b X0.here hx rfl (hb hby own_d1_11) rfl k) ?_
    refine own_ret X0 Bd.notSynchronized (some (.int (nar .byte ((u >>> ((1 : Int32) &&& 31)).toInt8.toInt32)))) (fun h => by rw [Bd.returns] at h; cases h) (fun fs hr => retN X0 hx (t := .byte) Bd.returns (by simp) (hb hby own_d1_12) hr) ?_ (by decide) (by decide)
    show (own_Q1 Z u h0 n0) (some (.int (nar .byte ((u >>> ((1 : Int32) &&& 31)).toInt8.toInt32)))) s₁.heap _
    rw [e0]
    exact ⟨⟨_, rfl⟩, NF, rfl⟩
  · refine own_go (T' := s₁) (g' := (mkF m 6 #[.val (.int u)] [])) (fun _ k => XS.ifNo X0.here hx rfl (hb hby own_d1_3) rfl ((if0 _ _).trans (feq c1).1) k) ?_
    refine own_go (T' := s₁) (g' := (mkF m 7 #[.val (.int u)] [(.int (-1 : Int32))])) (fun _ k => XS.iconst X0.here hx rfl (hb hby own_d1_6) k) ?_
    refine own_ret X0 Bd.notSynchronized (some (.int (-1 : Int32))) (fun h => by rw [Bd.returns] at h; cases h) (fun fs hr => retN X0 hx (t := .byte) Bd.returns (by simp) (hb hby own_d1_7) hr) ?_ (by decide) (by decide)
    show (own_Q1 Z u h0 n0) (some (.int (-1 : Int32))) s₁.heap _
    rw [e0]
    exact ⟨⟨_, rfl⟩, NF, rfl⟩
theorem own_d2_0 : decode method_3_code 0 = .ok (.iload_n 1, 1) := by decide +kernel
theorem own_d2_1 : decode method_3_code 1 = .ok (.iload_n 3, 1) := by decide +kernel
theorem own_d2_2 : decode method_3_code 2 = .ok (.if_icmp .gt 21, 3) := by decide +kernel
theorem own_d2_5 : decode method_3_code 5 = .ok (.iload_n 3, 1) := by decide +kernel
theorem own_d2_6 : decode method_3_code 6 = .ok (.iload_n 2, 1) := by decide +kernel
theorem own_d2_7 : decode method_3_code 7 = .ok (.if_icmp .ge 16, 3) := by decide +kernel
theorem own_d2_10 : decode method_3_code 10 = .ok (.aload_n 0, 1) := by decide +kernel
theorem own_d2_11 : decode method_3_code 11 = .ok (.iload_n 3, 1) := by decide +kernel
theorem own_d2_12 : decode method_3_code 12 = .ok (.baload, 1) := by decide +kernel
theorem own_d2_13 : decode method_3_code 13 = .ok (.iconst (-1), 1) := by decide +kernel
theorem own_d2_14 : decode method_3_code 14 = .ok (.if_icmp .ne 7, 3) := by decide +kernel
theorem own_d2_17 : decode method_3_code 17 = .ok (.iconst 1, 1) := by decide +kernel
theorem own_d2_18 : decode method_3_code 18 = .ok (.goto 4, 3) := by decide +kernel
theorem own_d2_21 : decode method_3_code 21 = .ok (.iconst 0, 1) := by decide +kernel
theorem own_d2_22 : decode method_3_code 22 = .ok (.ireturn, 1) := by decide +kernel
theorem own_d2_23 : decode method_3_code 23 = .ok (.iconst 1, 1) := by decide +kernel
theorem own_d2_24 : decode method_3_code 24 = .ok (.ireturn, 1) := by decide +kernel
theorem own_pn2 : plainName "com/example/carrier_name_resolver/carriernameresolver/card/CardBytesIsUnusedPinLaw" = true := by first | (simp [plainName, overriddenIn]; done) | decide +kernel
theorem own_ef2 (m : MethodId) (a : Addr) (f : Int32) (t : Int32) (i : Int32) : entryFrame m #[(.ref a), (.int f), (.int t), (.int i)] 4 = mkF m 0 #[.val (.ref a), .val (.int f), .val (.int t), .val (.int i)] [] := by first | (simp [entryFrame, mkF, argsToLocals, Value.category]; done) | rfl
def own_Q2 (Z : State) (a : Addr) (f : Int32) (t : Int32) (i : Int32) (ka : ClassId) (y0 : Int32) (y1 : Int32) (y2 : Int32) (y3 : Int32) (yv : Int32) (h0 : Heap) (n0 : Nat) (v : Option Value) (h : Heap) (L : List Loc) : Prop := v = some (.int (if (f.toInt ≤ i.toInt ∧ i.toInt < t.toInt → yv.toInt = -1) then 1 else 0)) ∧ Fr n0 L ∧ h = h0
set_option maxRecDepth 65536 in
set_option maxHeartbeats 40000000 in
theorem own_rm2 (l : Launch) (Z : State) (a0 : Array Value) (hw : ∀ d ∈ tables_1, d.before a0 Z = true) (ws : List Jvm.Cond) (a : Addr) (f : Int32) (t : Int32) (i : Int32) (ka : ClassId) (y0 : Int32) (y1 : Int32) (y2 : Int32) (y3 : Int32) (yv : Int32) (h0 : Heap) (n0 : Nat) (Zs : n0 ≤ h0.size) (V_a : Arv Z h0 a ka .byte (4 : Int32) [Value.int y0, Value.int y1, Value.int y2, Value.int y3] (.int (0 : Int32))) (hi : 0 ≤ i.toInt ∧ i.toInt < 4) (hy : List.getD [Value.int y0, Value.int y1, Value.int y2, Value.int y3] i.toNatClampNeg (.int (0 : Int32)) = .int yv) :
    MetFree l (⟨"com/example/carrier_name_resolver/carriernameresolver/card/CardBytesIsUnusedPinLaw", "okAt", "([BIII)Z"⟩ : MethodName) (head1 (Jvm.Cond.code (⟨"com/example/carrier_name_resolver/carriernameresolver/card/CardBytesIsUnusedPinLaw", "okAt", "([BIII)Z"⟩ : MethodName) method_3_code 4 (some .boolean) :: ws) ({ frames := 0, cells := 0, slots := 0, locals := 0 } : Room)) (fun aA_ U => aA_ = #[(.ref a), (.int f), (.int t), (.int i)] ∧ Z.Warmed39 U.vm ∧ U.heap = h0) (fun _ _ _ _ _ => True) (fun _ U o U' => ∃ v L, o = .returned v ∧ own_Q2 Z a f t i ka y0 y1 y2 y3 yv h0 n0 v U'.heap L ∧ FrameEnd U o U' L ({ frames := 0, cells := 0, slots := 0, locals := 0 } : Room).cells ({ frames := 0, cells := 0, slots := 0, locals := 0 } : Room).slots) := by
  refine MetFree.of_bodySF (plainFor_of_name own_pn2) hisR ?_
  intro p e s m args below meth c s₁ Bd hml0 hP hK
  obtain ⟨rfl, hZ, hh⟩ := hP
  have hx := Bd.exec
  have hby := Bd.bytes
  have hml : c.maxLocals = 4 := hml0
  have hown : s.vm.findClass "com/example/carrier_name_resolver/carriernameresolver/card/CardBytesIsUnusedPinLaw" = some m.cls := findClass_of_methodNamed Bd.named
  have hnm := (name_of_methodNamed Bd.named Bd.method).1
  have X0 : Stand p l e ({ frames := 0, cells := 0, slots := 0, locals := 0 } : Room) s m #[(.ref a), (.int f), (.int t), (.int i)] below meth c s₁ [] 0 0 := Stand.of_body Bd
  have e0 : s₁.heap = h0 := by rw [← hh, Bd.state]; rfl
  have NF := Fr.nil n0
  rw [own_ef2 m a f t i]
  show own_Dn p e below s (own_Q2 Z a f t i ka y0 y1 y2 y3 yv h0 n0) 0 0 s₁ (mkF m 0 #[.val (.ref a), .val (.int f), .val (.int t), .val (.int i)] [])
  refine own_go (T' := s₁) (g' := (mkF m 1 #[.val (.ref a), .val (.int f), .val (.int t), .val (.int i)] [(.int f)])) (fun _ k => XS.iloadN X0.here hx rfl (hb hby own_d2_0) rfl k) ?_
  refine own_go (T' := s₁) (g' := (mkF m 2 #[.val (.ref a), .val (.int f), .val (.int t), .val (.int i)] [(.int i), (.int f)])) (fun _ k => XS.iloadN X0.here hx rfl (hb hby own_d2_1) rfl k) ?_
  by_cases c1 : i < f
  · refine own_go (T' := s₁) (g' := (mkF m 23 #[.val (.ref a), .val (.int f), .val (.int t), .val (.int i)] [])) (fun _ k => XS.icmpYes X0.here hx rfl (pc0 := 2) (pc' := 23) rfl (hb hby own_d2_2) rfl (tlt c1).2.2.1 (by decide) (by decide) k) ?_
    refine own_go (T' := s₁) (g' := (mkF m 24 #[.val (.ref a), .val (.int f), .val (.int t), .val (.int i)] [(.int (1 : Int32))])) (fun _ k => XS.iconst X0.here hx rfl (hb hby own_d2_23) k) ?_
    refine own_ret X0 Bd.notSynchronized (some (.int (1 : Int32))) (fun h => by rw [Bd.returns] at h; cases h) (fun fs hr => retN X0 hx (t := .boolean) Bd.returns (by simp) (hb hby own_d2_24) hr) ?_ (by decide) (by decide)
    show (own_Q2 Z a f t i ka y0 y1 y2 y3 yv h0 n0) (some (.int (1 : Int32))) s₁.heap _
    rw [e0]
    exact ⟨by rw [if_pos (by (try simp only [own_ln1, own_l0, own_l1, own_l2, own_l3, own_l4, own_l5, own_l255, own_l2147483647, Int32.lt_iff_toInt_lt, ← Int32.toInt_inj, Int64.lt_iff_toInt_lt, ← Int64.toInt_inj, and_true, true_and, and_false, false_and, or_true, true_or, or_false, false_or, not_true_eq_false, not_false_eq_true, ne_eq, true_implies, false_implies, implies_true] at c1 ⊢) <;> omega)], NF, rfl⟩
  · refine own_go (T' := s₁) (g' := (mkF m 5 #[.val (.ref a), .val (.int f), .val (.int t), .val (.int i)] [])) (fun _ k => XS.icmpNo X0.here hx rfl (hb hby own_d2_2) rfl (flt c1).2.2.1 k) ?_
    refine own_go (T' := s₁) (g' := (mkF m 6 #[.val (.ref a), .val (.int f), .val (.int t), .val (.int i)] [(.int i)])) (fun _ k => XS.iloadN X0.here hx rfl (hb hby own_d2_5) rfl k) ?_
    refine own_go (T' := s₁) (g' := (mkF m 7 #[.val (.ref a), .val (.int f), .val (.int t), .val (.int i)] [(.int t), (.int i)])) (fun _ k => XS.iloadN X0.here hx rfl (hb hby own_d2_6) rfl k) ?_
    by_cases c2 : i < t
    · refine own_go (T' := s₁) (g' := (mkF m 10 #[.val (.ref a), .val (.int f), .val (.int t), .val (.int i)] [])) (fun _ k => XS.icmpNo X0.here hx rfl (hb hby own_d2_7) rfl (tlt c2).2.1 k) ?_
      refine own_go (T' := s₁) (g' := (mkF m 11 #[.val (.ref a), .val (.int f), .val (.int t), .val (.int i)] [(.ref a)])) (fun _ k => XS.aloadN X0.here hx rfl (hb hby own_d2_10) rfl rfl k) ?_
      refine own_go (T' := s₁) (g' := (mkF m 12 #[.val (.ref a), .val (.int f), .val (.int t), .val (.int i)] [(.int i), (.ref a)])) (fun _ k => XS.iloadN X0.here hx rfl (hb hby own_d2_11) rfl k) ?_
      obtain ⟨c_3, Ar_3, q_3, S_3, N_3, H_3, G_3⟩ := id V_a
      have hin_3 : ¬ (i < 0 ∨ c_3.slots.size ≤ (i).toNatClampNeg) := inb_of S_3 ⟨by (try simp only [own_ln1, own_l0, own_l1, own_l2, own_l3, own_l4, own_l5, own_l255, own_l2147483647, Int32.lt_iff_toInt_lt, ← Int32.toInt_inj, Int64.lt_iff_toInt_lt, ← Int64.toInt_inj, and_true, true_and, and_false, false_and, or_true, true_or, or_false, false_or, not_true_eq_false, not_false_eq_true, ne_eq, true_implies, false_implies, implies_true] at hi ⊢) <;> omega, by (try simp only [own_ln1, own_l0, own_l1, own_l2, own_l3, own_l4, own_l5, own_l255, own_l2147483647, Int32.lt_iff_toInt_lt, ← Int32.toInt_inj, Int64.lt_iff_toInt_lt, ← Int64.toInt_inj, and_true, true_and, and_false, false_and, or_true, true_or, or_false, false_or, not_true_eq_false, not_false_eq_true, ne_eq, true_implies, false_implies, implies_true] at hi ⊢) <;> omega⟩
      have hat_3 : c_3.slots[(i).toNatClampNeg]? = some (.int yv) := H_3.at hin_3 hy
      refine own_go (T' := s₁) (g' := (mkF m 13 #[.val (.ref a), .val (.int f), .val (.int t), .val (.int i)] [(.int yv)])) (fun _ k => X0.baloadBytes hx (j := i) (v := (.int yv)) (by rw [e0]; exact Ar_3.1) (State.isArrayOf_alike hZ.alike Ar_3.2.1) Ar_3.2.2 hin_3 hat_3 (g := (mkF m 12 #[.val (.ref a), .val (.int f), .val (.int t), .val (.int i)] [(.int i), (.ref a)])) rfl rfl (hb hby own_d2_12) _ k) ?_
      refine own_go (T' := s₁) (g' := (mkF m 14 #[.val (.ref a), .val (.int f), .val (.int t), .val (.int i)] [(.int (-1 : Int32)), (.int yv)])) (fun _ k => XS.iconst X0.here hx rfl (hb hby own_d2_13) k) ?_
      by_cases c4 : yv = (-1 : Int32)
      · refine own_go (T' := s₁) (g' := (mkF m 17 #[.val (.ref a), .val (.int f), .val (.int t), .val (.int i)] [])) (fun _ k => XS.icmpNo X0.here hx rfl (hb hby own_d2_14) rfl (teq c4).2 k) ?_
        refine own_go (T' := s₁) (g' := (mkF m 18 #[.val (.ref a), .val (.int f), .val (.int t), .val (.int i)] [(.int (1 : Int32))])) (fun _ k => XS.iconst X0.here hx rfl (hb hby own_d2_17) k) ?_
        refine own_go (T' := s₁) (g' := (mkF m 22 #[.val (.ref a), .val (.int f), .val (.int t), .val (.int i)] [(.int (1 : Int32))])) (fun _ k => XS.goto X0.here hx rfl (pc0 := 18) (pc' := 22) rfl (hb hby own_d2_18) (by decide) (by decide) k) ?_
        refine own_ret X0 Bd.notSynchronized (some (.int (1 : Int32))) (fun h => by rw [Bd.returns] at h; cases h) (fun fs hr => retN X0 hx (t := .boolean) Bd.returns (by simp) (hb hby own_d2_22) hr) ?_ (by decide) (by decide)
        show (own_Q2 Z a f t i ka y0 y1 y2 y3 yv h0 n0) (some (.int (1 : Int32))) s₁.heap _
        rw [e0]
        exact ⟨by rw [if_pos (by (try simp only [own_ln1, own_l0, own_l1, own_l2, own_l3, own_l4, own_l5, own_l255, own_l2147483647, Int32.lt_iff_toInt_lt, ← Int32.toInt_inj, Int64.lt_iff_toInt_lt, ← Int64.toInt_inj, and_true, true_and, and_false, false_and, or_true, true_or, or_false, false_or, not_true_eq_false, not_false_eq_true, ne_eq, true_implies, false_implies, implies_true] at c1 c2 c4 ⊢) <;> omega)], NF, rfl⟩
      · refine own_go (T' := s₁) (g' := (mkF m 21 #[.val (.ref a), .val (.int f), .val (.int t), .val (.int i)] [])) (fun _ k => XS.icmpYes X0.here hx rfl (pc0 := 14) (pc' := 21) rfl (hb hby own_d2_14) rfl (feq c4).2 (by decide) (by decide) k) ?_
        refine own_go (T' := s₁) (g' := (mkF m 22 #[.val (.ref a), .val (.int f), .val (.int t), .val (.int i)] [(.int (0 : Int32))])) (fun _ k => XS.iconst X0.here hx rfl (hb hby own_d2_21) k) ?_
        refine own_ret X0 Bd.notSynchronized (some (.int (0 : Int32))) (fun h => by rw [Bd.returns] at h; cases h) (fun fs hr => retN X0 hx (t := .boolean) Bd.returns (by simp) (hb hby own_d2_22) hr) ?_ (by decide) (by decide)
        show (own_Q2 Z a f t i ka y0 y1 y2 y3 yv h0 n0) (some (.int (0 : Int32))) s₁.heap _
        rw [e0]
        exact ⟨by rw [if_neg (by (try simp only [own_ln1, own_l0, own_l1, own_l2, own_l3, own_l4, own_l5, own_l255, own_l2147483647, Int32.lt_iff_toInt_lt, ← Int32.toInt_inj, Int64.lt_iff_toInt_lt, ← Int64.toInt_inj, and_true, true_and, and_false, false_and, or_true, true_or, or_false, false_or, not_true_eq_false, not_false_eq_true, ne_eq, true_implies, false_implies, implies_true] at c1 c2 c4 ⊢) <;> omega)], NF, rfl⟩
    · refine own_go (T' := s₁) (g' := (mkF m 23 #[.val (.ref a), .val (.int f), .val (.int t), .val (.int i)] [])) (fun _ k => XS.icmpYes X0.here hx rfl (pc0 := 7) (pc' := 23) rfl (hb hby own_d2_7) rfl (flt c2).2.1 (by decide) (by decide) k) ?_
      refine own_go (T' := s₁) (g' := (mkF m 24 #[.val (.ref a), .val (.int f), .val (.int t), .val (.int i)] [(.int (1 : Int32))])) (fun _ k => XS.iconst X0.here hx rfl (hb hby own_d2_23) k) ?_
      refine own_ret X0 Bd.notSynchronized (some (.int (1 : Int32))) (fun h => by rw [Bd.returns] at h; cases h) (fun fs hr => retN X0 hx (t := .boolean) Bd.returns (by simp) (hb hby own_d2_24) hr) ?_ (by decide) (by decide)
      show (own_Q2 Z a f t i ka y0 y1 y2 y3 yv h0 n0) (some (.int (1 : Int32))) s₁.heap _
      rw [e0]
      exact ⟨by rw [if_pos (by (try simp only [own_ln1, own_l0, own_l1, own_l2, own_l3, own_l4, own_l5, own_l255, own_l2147483647, Int32.lt_iff_toInt_lt, ← Int32.toInt_inj, Int64.lt_iff_toInt_lt, ← Int64.toInt_inj, and_true, true_and, and_false, false_and, or_true, true_or, or_false, false_or, not_true_eq_false, not_false_eq_true, ne_eq, true_implies, false_implies, implies_true] at c1 c2 ⊢) <;> omega)], NF, rfl⟩
theorem own_d3_0 : decode prog_7_method_2_code 0 = .ok (.iconst 1, 1) := by decide +kernel
theorem own_d3_1 : decode prog_7_method_2_code 1 = .ok (.istore_n 3, 1) := by decide +kernel
theorem own_d3_2 : decode prog_7_method_2_code 2 = .ok (.iload_n 1, 1) := by decide +kernel
theorem own_d3_3 : decode prog_7_method_2_code 3 = .ok (.istore 4, 2) := by decide +kernel
theorem own_d3_5 : decode prog_7_method_2_code 5 = .ok (.iload 4, 2) := by decide +kernel
theorem own_d3_7 : decode prog_7_method_2_code 7 = .ok (.iload_n 2, 1) := by decide +kernel
theorem own_d3_8 : decode prog_7_method_2_code 8 = .ok (.if_icmp .ge 31, 3) := by decide +kernel
theorem own_d3_11 : decode prog_7_method_2_code 11 = .ok (.iload_n 3, 1) := by decide +kernel
theorem own_d3_12 : decode prog_7_method_2_code 12 = .ok (.aload_n 0, 1) := by decide +kernel
theorem own_d3_13 : decode prog_7_method_2_code 13 = .ok (.iload 4, 2) := by decide +kernel
theorem own_d3_15 : decode prog_7_method_2_code 15 = .ok (.baload, 1) := by decide +kernel
theorem own_d3_16 : decode prog_7_method_2_code 16 = .ok (.sipush 255, 3) := by decide +kernel
theorem own_d3_19 : decode prog_7_method_2_code 19 = .ok (.iand, 1) := by decide +kernel
theorem own_d3_20 : decode prog_7_method_2_code 20 = .ok (.sipush 255, 3) := by decide +kernel
theorem own_d3_23 : decode prog_7_method_2_code 23 = .ok (.if_icmp .ne 7, 3) := by decide +kernel
theorem own_d3_26 : decode prog_7_method_2_code 26 = .ok (.iconst 1, 1) := by decide +kernel
theorem own_d3_27 : decode prog_7_method_2_code 27 = .ok (.goto 4, 3) := by decide +kernel
theorem own_d3_30 : decode prog_7_method_2_code 30 = .ok (.iconst 0, 1) := by decide +kernel
theorem own_d3_31 : decode prog_7_method_2_code 31 = .ok (.iand, 1) := by decide +kernel
theorem own_d3_32 : decode prog_7_method_2_code 32 = .ok (.istore_n 3, 1) := by decide +kernel
theorem own_d3_33 : decode prog_7_method_2_code 33 = .ok (.iinc 4 1, 3) := by decide +kernel
theorem own_d3_36 : decode prog_7_method_2_code 36 = .ok (.goto (-31), 3) := by decide +kernel
theorem own_d3_39 : decode prog_7_method_2_code 39 = .ok (.iload_n 3, 1) := by decide +kernel
theorem own_d3_40 : decode prog_7_method_2_code 40 = .ok (.ireturn, 1) := by decide +kernel
theorem own_pn3 : plainName "com/example/carrier_name_resolver/carriernameresolver/card/CardBytes" = true := by first | (simp [plainName, overriddenIn]; done) | decide +kernel
theorem own_ef3 (m : MethodId) (a : Addr) (f : Int32) (t : Int32) : entryFrame m #[(.ref a), (.int f), (.int t)] 5 = mkF m 0 #[.val (.ref a), .val (.int f), .val (.int t), .unset, .unset] [] := by first | (simp [entryFrame, mkF, argsToLocals, Value.category]; done) | rfl
def own_Q3 (Z : State) (a : Addr) (f : Int32) (t : Int32) (ka : ClassId) (y0 : Int32) (y1 : Int32) (y2 : Int32) (y3 : Int32) (h0 : Heap) (n0 : Nat) (v : Option Value) (h : Heap) (L : List Loc) : Prop := v = some (.int (if ((f.toInt ≤ 0 ∧ 0 < t.toInt → y0.toInt = -1) ∧ (f.toInt ≤ 1 ∧ 1 < t.toInt → y1.toInt = -1) ∧ (f.toInt ≤ 2 ∧ 2 < t.toInt → y2.toInt = -1) ∧ (f.toInt ≤ 3 ∧ 3 < t.toInt → y3.toInt = -1)) then 1 else 0)) ∧ Fr n0 L ∧ h = h0
set_option maxRecDepth 65536 in
set_option maxHeartbeats 40000000 in
theorem own_rm3 (l : Launch) (Z : State) (a0 : Array Value) (hw : ∀ d ∈ tables_1, d.before a0 Z = true) (ws : List Jvm.Cond) (a : Addr) (f : Int32) (t : Int32) (ka : ClassId) (y0 : Int32) (y1 : Int32) (y2 : Int32) (y3 : Int32) (h0 : Heap) (n0 : Nat) (Zs : n0 ≤ h0.size) (V_a : Arv Z h0 a ka .byte (4 : Int32) [Value.int y0, Value.int y1, Value.int y2, Value.int y3] (.int (0 : Int32))) (hf : 0 ≤ f.toInt ∧ f.toInt ≤ 4 ∧ 0 ≤ t.toInt ∧ t.toInt ≤ 4) (hB : (-128 ≤ y0.toInt ∧ y0.toInt < 128) ∧ (-128 ≤ y1.toInt ∧ y1.toInt < 128) ∧ (-128 ≤ y2.toInt ∧ y2.toInt < 128) ∧ (-128 ≤ y3.toInt ∧ y3.toInt < 128)) :
    MetFree l (⟨"com/example/carrier_name_resolver/carriernameresolver/card/CardBytes", "isUnused", "([BII)Z"⟩ : MethodName) (head1 (Jvm.Cond.code (⟨"com/example/carrier_name_resolver/carriernameresolver/card/CardBytes", "isUnused", "([BII)Z"⟩ : MethodName) prog_7_method_2_code 5 (some .boolean) :: ws) ({ frames := 0, cells := 0, slots := 0, locals := 0 } : Room)) (fun aA_ U => aA_ = #[(.ref a), (.int f), (.int t)] ∧ Z.Warmed39 U.vm ∧ U.heap = h0) (fun _ _ _ _ _ => True) (fun _ U o U' => ∃ v L, o = .returned v ∧ own_Q3 Z a f t ka y0 y1 y2 y3 h0 n0 v U'.heap L ∧ FrameEnd U o U' L ({ frames := 0, cells := 0, slots := 0, locals := 0 } : Room).cells ({ frames := 0, cells := 0, slots := 0, locals := 0 } : Room).slots) := by
  refine MetFree.of_bodySF (plainFor_of_name own_pn3) hisR ?_
  intro p e s m args below meth c s₁ Bd hml0 hP hK
  obtain ⟨rfl, hZ, hh⟩ := hP
  have hx := Bd.exec
  have hby := Bd.bytes
  have hml : c.maxLocals = 5 := hml0
  have hown : s.vm.findClass "com/example/carrier_name_resolver/carriernameresolver/card/CardBytes" = some m.cls := findClass_of_methodNamed Bd.named
  have hnm := (name_of_methodNamed Bd.named Bd.method).1
  have X0 : Stand p l e ({ frames := 0, cells := 0, slots := 0, locals := 0 } : Room) s m #[(.ref a), (.int f), (.int t)] below meth c s₁ [] 0 0 := Stand.of_body Bd
  have e0 : s₁.heap = h0 := by rw [← hh, Bd.state]; rfl
  have NF := Fr.nil n0
  rw [own_ef3 m a f t]
  show own_Dn p e below s (own_Q3 Z a f t ka y0 y1 y2 y3 h0 n0) 0 0 s₁ (mkF m 0 #[.val (.ref a), .val (.int f), .val (.int t), .unset, .unset] [])
  refine own_go (T' := s₁) (g' := (mkF m 1 #[.val (.ref a), .val (.int f), .val (.int t), .unset, .unset] [(.int (1 : Int32))])) (fun _ k => XS.iconst X0.here hx rfl (hb hby own_d3_0) k) ?_
  refine own_go (T' := s₁) (g' := (mkF m 2 #[.val (.ref a), .val (.int f), .val (.int t), .val (.int (1 : Int32)), .unset] [])) (fun _ k => XS.istoreN X0.here hx rfl (hb hby own_d3_1) rfl (l' := #[.val (.ref a), .val (.int f), .val (.int t), .val (.int (1 : Int32)), .unset]) rfl k) ?_
  refine own_go (T' := s₁) (g' := (mkF m 3 #[.val (.ref a), .val (.int f), .val (.int t), .val (.int (1 : Int32)), .unset] [(.int f)])) (fun _ k => XS.iloadN X0.here hx rfl (hb hby own_d3_2) rfl k) ?_
  refine own_go (T' := s₁) (g' := (mkF m 5 #[.val (.ref a), .val (.int f), .val (.int t), .val (.int (1 : Int32)), .val (.int f)] [])) (fun _ k => XS.istore X0.here hx rfl (hb hby own_d3_3) rfl (l' := #[.val (.ref a), .val (.int f), .val (.int t), .val (.int (1 : Int32)), .val (.int f)]) rfl k) ?_
  have LP : ∀ (k : Nat) (i z : Int32), 4 - i.toInt < k → (f.toInt ≤ i.toInt ∧ i.toInt ≤ 4 ∧ (i.toInt ≤ t.toInt ∨ i.toInt = f.toInt) ∧ ((z.toInt = 1 ∧ ((f.toInt ≤ 0 ∧ 0 < i.toInt → y0.toInt = -1) ∧ (f.toInt ≤ 1 ∧ 1 < i.toInt → y1.toInt = -1) ∧ (f.toInt ≤ 2 ∧ 2 < i.toInt → y2.toInt = -1) ∧ (f.toInt ≤ 3 ∧ 3 < i.toInt → y3.toInt = -1))) ∨ (z.toInt = 0 ∧ ¬ ((f.toInt ≤ 0 ∧ 0 < i.toInt → y0.toInt = -1) ∧ (f.toInt ≤ 1 ∧ 1 < i.toInt → y1.toInt = -1) ∧ (f.toInt ≤ 2 ∧ 2 < i.toInt → y2.toInt = -1) ∧ (f.toInt ≤ 3 ∧ 3 < i.toInt → y3.toInt = -1))))) → own_Dn p e below s (own_Q3 Z a f t ka y0 y1 y2 y3 h0 n0) 0 0 s₁ (mkF m 5 #[.val (.ref a), .val (.int f), .val (.int t), .val (.int z), .val (.int i)] []) := by
    intro k
    induction k with
    | zero => intro i z hk hI; exfalso; omega
    | succ k ih =>
      intro i z hk hI
      refine own_go (T' := s₁) (g' := (mkF m 7 #[.val (.ref a), .val (.int f), .val (.int t), .val (.int z), .val (.int i)] [(.int i)])) (fun _ k => XS.iload X0.here hx rfl (hb hby own_d3_5) rfl k) ?_
      refine own_go (T' := s₁) (g' := (mkF m 8 #[.val (.ref a), .val (.int f), .val (.int t), .val (.int z), .val (.int i)] [(.int t), (.int i)])) (fun _ k => XS.iloadN X0.here hx rfl (hb hby own_d3_7) rfl k) ?_
      by_cases c1 : i < t
      · refine own_go (T' := s₁) (g' := (mkF m 11 #[.val (.ref a), .val (.int f), .val (.int t), .val (.int z), .val (.int i)] [])) (fun _ k => XS.icmpNo X0.here hx rfl (hb hby own_d3_8) rfl (tlt c1).2.1 k) ?_
        refine own_go (T' := s₁) (g' := (mkF m 12 #[.val (.ref a), .val (.int f), .val (.int t), .val (.int z), .val (.int i)] [(.int z)])) (fun _ k => XS.iloadN X0.here hx rfl (hb hby own_d3_11) rfl k) ?_
        refine own_go (T' := s₁) (g' := (mkF m 13 #[.val (.ref a), .val (.int f), .val (.int t), .val (.int z), .val (.int i)] [(.ref a), (.int z)])) (fun _ k => XS.aloadN X0.here hx rfl (hb hby own_d3_12) rfl rfl k) ?_
        refine own_go (T' := s₁) (g' := (mkF m 15 #[.val (.ref a), .val (.int f), .val (.int t), .val (.int z), .val (.int i)] [(.int i), (.ref a), (.int z)])) (fun _ k => XS.iload X0.here hx rfl (hb hby own_d3_13) rfl k) ?_
        obtain ⟨yv, hy, hyi⟩ : ∃ yv : Int32, List.getD [Value.int y0, Value.int y1, Value.int y2, Value.int y3] i.toNatClampNeg (.int (0 : Int32)) = .int yv ∧ ((i.toInt = 0 → yv = y0) ∧ (i.toInt = 1 → yv = y1) ∧ (i.toInt = 2 → yv = y2) ∧ (i.toInt = 3 → yv = y3)) := by
          have hh : i = (0 : Int32) ∨ i = (1 : Int32) ∨ i = (2 : Int32) ∨ i = (3 : Int32) := by (try simp only [own_ln1, own_l0, own_l1, own_l2, own_l3, own_l4, own_l5, own_l255, own_l2147483647, Int32.lt_iff_toInt_lt, ← Int32.toInt_inj, Int64.lt_iff_toInt_lt, ← Int64.toInt_inj, and_true, true_and, and_false, false_and, or_true, true_or, or_false, false_or, not_true_eq_false, not_false_eq_true, ne_eq, true_implies, false_implies, implies_true] at hI c1 ⊢) <;> omega
          rcases hh with rfl | rfl | rfl | rfl
          · exact ⟨_, rfl, fun _ => rfl, fun h => absurd h (by decide), fun h => absurd h (by decide), fun h => absurd h (by decide)⟩
          · exact ⟨_, rfl, fun h => absurd h (by decide), fun _ => rfl, fun h => absurd h (by decide), fun h => absurd h (by decide)⟩
          · exact ⟨_, rfl, fun h => absurd h (by decide), fun h => absurd h (by decide), fun _ => rfl, fun h => absurd h (by decide)⟩
          · exact ⟨_, rfl, fun h => absurd h (by decide), fun h => absurd h (by decide), fun h => absurd h (by decide), fun _ => rfl⟩
        have hyB : -128 ≤ yv.toInt ∧ yv.toInt < 128 ∧ ((i.toInt = 0 → yv.toInt = y0.toInt) ∧ (i.toInt = 1 → yv.toInt = y1.toInt) ∧ (i.toInt = 2 → yv.toInt = y2.toInt) ∧ (i.toInt = 3 → yv.toInt = y3.toInt)) := by
          obtain ⟨m0, m1, m2, m3⟩ := hyi
          have hh : i.toInt = 0 ∨ i.toInt = 1 ∨ i.toInt = 2 ∨ i.toInt = 3 := by (try simp only [own_ln1, own_l0, own_l1, own_l2, own_l3, own_l4, own_l5, own_l255, own_l2147483647, Int32.lt_iff_toInt_lt, ← Int32.toInt_inj, Int64.lt_iff_toInt_lt, ← Int64.toInt_inj, and_true, true_and, and_false, false_and, or_true, true_or, or_false, false_or, not_true_eq_false, not_false_eq_true, ne_eq, true_implies, false_implies, implies_true] at hI c1 ⊢) <;> omega
          rcases hh with q | q | q | q
          · rw [m0 q]; omega
          · rw [m1 q]; omega
          · rw [m2 q]; omega
          · rw [m3 q]; omega
        have hyM := c_mask yv (255 : Int32) 8 (by decide) (by decide)
        simp only [own_ln1, own_l0, own_l1, own_l2, own_l3, own_l4, own_l5, own_l255, own_l2147483647, Nat.reducePow, Int.cast_ofNat_Int] at hyM
        obtain ⟨c_2, Ar_2, q_2, S_2, N_2, H_2, G_2⟩ := id V_a
        have hin_2 : ¬ (i < 0 ∨ c_2.slots.size ≤ (i).toNatClampNeg) := inb_of S_2 ⟨by (try simp only [own_ln1, own_l0, own_l1, own_l2, own_l3, own_l4, own_l5, own_l255, own_l2147483647, Int32.lt_iff_toInt_lt, ← Int32.toInt_inj, Int64.lt_iff_toInt_lt, ← Int64.toInt_inj, and_true, true_and, and_false, false_and, or_true, true_or, or_false, false_or, not_true_eq_false, not_false_eq_true, ne_eq, true_implies, false_implies, implies_true] at hI c1 ⊢) <;> omega, by (try simp only [own_ln1, own_l0, own_l1, own_l2, own_l3, own_l4, own_l5, own_l255, own_l2147483647, Int32.lt_iff_toInt_lt, ← Int32.toInt_inj, Int64.lt_iff_toInt_lt, ← Int64.toInt_inj, and_true, true_and, and_false, false_and, or_true, true_or, or_false, false_or, not_true_eq_false, not_false_eq_true, ne_eq, true_implies, false_implies, implies_true] at hI c1 ⊢) <;> omega⟩
        have hat_2 : c_2.slots[(i).toNatClampNeg]? = some (.int yv) := H_2.at hin_2 hy
        refine own_go (T' := s₁) (g' := (mkF m 16 #[.val (.ref a), .val (.int f), .val (.int t), .val (.int z), .val (.int i)] [(.int yv), (.int z)])) (fun _ k => X0.baloadBytes hx (j := i) (v := (.int yv)) (by rw [e0]; exact Ar_2.1) (State.isArrayOf_alike hZ.alike Ar_2.2.1) Ar_2.2.2 hin_2 hat_2 (g := (mkF m 15 #[.val (.ref a), .val (.int f), .val (.int t), .val (.int z), .val (.int i)] [(.int i), (.ref a), (.int z)])) rfl rfl (hb hby own_d3_15) _ k) ?_
        refine own_go (T' := s₁) (g' := (mkF m 19 #[.val (.ref a), .val (.int f), .val (.int t), .val (.int z), .val (.int i)] [(.int (255 : Int32)), (.int yv), (.int z)])) (fun _ k => XS.sipush X0.here hx rfl (hb hby own_d3_16) k) ?_
        refine own_go (T' := s₁) (g' := (mkF m 20 #[.val (.ref a), .val (.int f), .val (.int t), .val (.int z), .val (.int i)] [(.int (yv &&& (255 : Int32))), (.int z)])) (fun _ k => XS.iand X0.here hx rfl (hb hby own_d3_19) rfl k) ?_
        refine own_go (T' := s₁) (g' := (mkF m 23 #[.val (.ref a), .val (.int f), .val (.int t), .val (.int z), .val (.int i)] [(.int (255 : Int32)), (.int (yv &&& (255 : Int32))), (.int z)])) (fun _ k => XS.sipush X0.here hx rfl (hb hby own_d3_20) k) ?_
        by_cases c3 : (yv &&& (255 : Int32)) = (255 : Int32)
        · refine own_go (T' := s₁) (g' := (mkF m 26 #[.val (.ref a), .val (.int f), .val (.int t), .val (.int z), .val (.int i)] [(.int z)])) (fun _ k => XS.icmpNo X0.here hx rfl (hb hby own_d3_23) rfl (teq c3).2 k) ?_
          refine own_go (T' := s₁) (g' := (mkF m 27 #[.val (.ref a), .val (.int f), .val (.int t), .val (.int z), .val (.int i)] [(.int (1 : Int32)), (.int z)])) (fun _ k => XS.iconst X0.here hx rfl (hb hby own_d3_26) k) ?_
          refine own_go (T' := s₁) (g' := (mkF m 31 #[.val (.ref a), .val (.int f), .val (.int t), .val (.int z), .val (.int i)] [(.int (1 : Int32)), (.int z)])) (fun _ k => XS.goto X0.here hx rfl (pc0 := 27) (pc' := 31) rfl (hb hby own_d3_27) (by decide) (by decide) k) ?_
          refine own_go (T' := s₁) (g' := (mkF m 32 #[.val (.ref a), .val (.int f), .val (.int t), .val (.int z), .val (.int i)] [(.int (z &&& (1 : Int32)))])) (fun _ k => XS.iand X0.here hx rfl (hb hby own_d3_31) rfl k) ?_
          refine own_go (T' := s₁) (g' := (mkF m 33 #[.val (.ref a), .val (.int f), .val (.int t), .val (.int (z &&& (1 : Int32))), .val (.int i)] [])) (fun _ k => XS.istoreN X0.here hx rfl (hb hby own_d3_32) rfl (l' := #[.val (.ref a), .val (.int f), .val (.int t), .val (.int (z &&& (1 : Int32))), .val (.int i)]) rfl k) ?_
          refine own_go (T' := s₁) (g' := (mkF m 36 #[.val (.ref a), .val (.int f), .val (.int t), .val (.int (z &&& (1 : Int32))), .val (.int (i + (1 : Int32)))] [])) (fun _ k => XS.iinc X0.here hx rfl (hb hby own_d3_33) rfl (l' := #[.val (.ref a), .val (.int f), .val (.int t), .val (.int (z &&& (1 : Int32))), .val (.int (i + (1 : Int32)))]) rfl k) ?_
          refine own_go (T' := s₁) (g' := (mkF m 5 #[.val (.ref a), .val (.int f), .val (.int t), .val (.int (z &&& (1 : Int32))), .val (.int (i + (1 : Int32)))] [])) (fun _ k => XS.goto X0.here hx rfl (pc0 := 36) (pc' := 5) rfl (hb hby own_d3_36) (by decide) (by decide) k) ?_
          have f8 := c_iadd i (1 : Int32)
          have r8 := rng32 (i + (1 : Int32))
          simp only [own_ln1, own_l0, own_l1, own_l2, own_l3, own_l4, own_l5, own_l255, own_l2147483647] at f8
          refine ih _ _ (by (try simp only [own_ln1, own_l0, own_l1, own_l2, own_l3, own_l4, own_l5, own_l255, own_l2147483647, Int32.lt_iff_toInt_lt, ← Int32.toInt_inj, Int64.lt_iff_toInt_lt, ← Int64.toInt_inj, and_true, true_and, and_false, false_and, or_true, true_or, or_false, false_or, not_true_eq_false, not_false_eq_true, ne_eq, true_implies, false_implies, implies_true] at hI c1 c3 ⊢) <;> omega) ?_
          have hz1 := own_and1 z (by (try simp only [own_ln1, own_l0, own_l1, own_l2, own_l3, own_l4, own_l5, own_l255, own_l2147483647, Int32.lt_iff_toInt_lt, ← Int32.toInt_inj, Int64.lt_iff_toInt_lt, ← Int64.toInt_inj, and_true, true_and, and_false, false_and, or_true, true_or, or_false, false_or, not_true_eq_false, not_false_eq_true, ne_eq, true_implies, false_implies, implies_true] at hI c1 c3 ⊢) <;> omega)
          (try simp only [own_ln1, own_l0, own_l1, own_l2, own_l3, own_l4, own_l5, own_l255, own_l2147483647, Int32.lt_iff_toInt_lt, ← Int32.toInt_inj, Int64.lt_iff_toInt_lt, ← Int64.toInt_inj, and_true, true_and, and_false, false_and, or_true, true_or, or_false, false_or, not_true_eq_false, not_false_eq_true, ne_eq, true_implies, false_implies, implies_true] at hI c1 c3 hz1 ⊢) <;> omega
        · refine own_go (T' := s₁) (g' := (mkF m 30 #[.val (.ref a), .val (.int f), .val (.int t), .val (.int z), .val (.int i)] [(.int z)])) (fun _ k => XS.icmpYes X0.here hx rfl (pc0 := 23) (pc' := 30) rfl (hb hby own_d3_23) rfl (feq c3).2 (by decide) (by decide) k) ?_
          refine own_go (T' := s₁) (g' := (mkF m 31 #[.val (.ref a), .val (.int f), .val (.int t), .val (.int z), .val (.int i)] [(.int (0 : Int32)), (.int z)])) (fun _ k => XS.iconst X0.here hx rfl (hb hby own_d3_30) k) ?_
          refine own_go (T' := s₁) (g' := (mkF m 32 #[.val (.ref a), .val (.int f), .val (.int t), .val (.int z), .val (.int i)] [(.int (z &&& (0 : Int32)))])) (fun _ k => XS.iand X0.here hx rfl (hb hby own_d3_31) rfl k) ?_
          refine own_go (T' := s₁) (g' := (mkF m 33 #[.val (.ref a), .val (.int f), .val (.int t), .val (.int (z &&& (0 : Int32))), .val (.int i)] [])) (fun _ k => XS.istoreN X0.here hx rfl (hb hby own_d3_32) rfl (l' := #[.val (.ref a), .val (.int f), .val (.int t), .val (.int (z &&& (0 : Int32))), .val (.int i)]) rfl k) ?_
          refine own_go (T' := s₁) (g' := (mkF m 36 #[.val (.ref a), .val (.int f), .val (.int t), .val (.int (z &&& (0 : Int32))), .val (.int (i + (1 : Int32)))] [])) (fun _ k => XS.iinc X0.here hx rfl (hb hby own_d3_33) rfl (l' := #[.val (.ref a), .val (.int f), .val (.int t), .val (.int (z &&& (0 : Int32))), .val (.int (i + (1 : Int32)))]) rfl k) ?_
          refine own_go (T' := s₁) (g' := (mkF m 5 #[.val (.ref a), .val (.int f), .val (.int t), .val (.int (z &&& (0 : Int32))), .val (.int (i + (1 : Int32)))] [])) (fun _ k => XS.goto X0.here hx rfl (pc0 := 36) (pc' := 5) rfl (hb hby own_d3_36) (by decide) (by decide) k) ?_
          have f8 := c_iadd i (1 : Int32)
          have r8 := rng32 (i + (1 : Int32))
          simp only [own_ln1, own_l0, own_l1, own_l2, own_l3, own_l4, own_l5, own_l255, own_l2147483647] at f8
          refine ih _ _ (by (try simp only [own_ln1, own_l0, own_l1, own_l2, own_l3, own_l4, own_l5, own_l255, own_l2147483647, Int32.lt_iff_toInt_lt, ← Int32.toInt_inj, Int64.lt_iff_toInt_lt, ← Int64.toInt_inj, and_true, true_and, and_false, false_and, or_true, true_or, or_false, false_or, not_true_eq_false, not_false_eq_true, ne_eq, true_implies, false_implies, implies_true] at hI c1 c3 ⊢) <;> omega) ?_
          have hz1 := own_and1 z (by (try simp only [own_ln1, own_l0, own_l1, own_l2, own_l3, own_l4, own_l5, own_l255, own_l2147483647, Int32.lt_iff_toInt_lt, ← Int32.toInt_inj, Int64.lt_iff_toInt_lt, ← Int64.toInt_inj, and_true, true_and, and_false, false_and, or_true, true_or, or_false, false_or, not_true_eq_false, not_false_eq_true, ne_eq, true_implies, false_implies, implies_true] at hI c1 c3 ⊢) <;> omega)
          (try simp only [own_ln1, own_l0, own_l1, own_l2, own_l3, own_l4, own_l5, own_l255, own_l2147483647, Int32.lt_iff_toInt_lt, ← Int32.toInt_inj, Int64.lt_iff_toInt_lt, ← Int64.toInt_inj, and_true, true_and, and_false, false_and, or_true, true_or, or_false, false_or, not_true_eq_false, not_false_eq_true, ne_eq, true_implies, false_implies, implies_true] at hI c1 c3 hz1 ⊢) <;> omega
      · refine own_go (T' := s₁) (g' := (mkF m 39 #[.val (.ref a), .val (.int f), .val (.int t), .val (.int z), .val (.int i)] [])) (fun _ k => XS.icmpYes X0.here hx rfl (pc0 := 8) (pc' := 39) rfl (hb hby own_d3_8) rfl (flt c1).2.1 (by decide) (by decide) k) ?_
        refine own_go (T' := s₁) (g' := (mkF m 40 #[.val (.ref a), .val (.int f), .val (.int t), .val (.int z), .val (.int i)] [(.int z)])) (fun _ k => XS.iloadN X0.here hx rfl (hb hby own_d3_39) rfl k) ?_
        refine own_ret X0 Bd.notSynchronized (some (.int (nar .boolean z))) (fun h => by rw [Bd.returns] at h; cases h) (fun fs hr => retN X0 hx (t := .boolean) Bd.returns (by simp) (hb hby own_d3_40) hr) ?_ (by decide) (by decide)
        show (own_Q3 Z a f t ka y0 y1 y2 y3 h0 n0) (some (.int (nar .boolean z))) s₁.heap _
        rw [e0]
        refine ⟨congrArg (fun x => some (Value.int x)) (own_if z ?_), NF, rfl⟩
        (try simp only [own_ln1, own_l0, own_l1, own_l2, own_l3, own_l4, own_l5, own_l255, own_l2147483647, Int32.lt_iff_toInt_lt, ← Int32.toInt_inj, Int64.lt_iff_toInt_lt, ← Int64.toInt_inj, and_true, true_and, and_false, false_and, or_true, true_or, or_false, false_or, not_true_eq_false, not_false_eq_true, ne_eq, true_implies, false_implies, implies_true] at hI c1 ⊢) <;> omega
  exact LP 5 f (1 : Int32) (by (try simp only [own_ln1, own_l0, own_l1, own_l2, own_l3, own_l4, own_l5, own_l255, own_l2147483647, Int32.lt_iff_toInt_lt, ← Int32.toInt_inj, Int64.lt_iff_toInt_lt, ← Int64.toInt_inj, and_true, true_and, and_false, false_and, or_true, true_or, or_false, false_or, not_true_eq_false, not_false_eq_true, ne_eq, true_implies, false_implies, implies_true] at hf ⊢) <;> omega) (by (try simp only [own_ln1, own_l0, own_l1, own_l2, own_l3, own_l4, own_l5, own_l255, own_l2147483647, Int32.lt_iff_toInt_lt, ← Int32.toInt_inj, Int64.lt_iff_toInt_lt, ← Int64.toInt_inj, and_true, true_and, and_false, false_and, or_true, true_or, or_false, false_or, not_true_eq_false, not_false_eq_true, ne_eq, true_implies, false_implies, implies_true] at hf ⊢) <;> omega)
theorem own_pn0 : plainName "com/example/carrier_name_resolver/carriernameresolver/card/CardBytesIsUnusedPinLaw" = true := by first | (simp [plainName, overriddenIn]; done) | decide +kernel
theorem own_pd0_0 : parseMethodDescriptor "(I)B" = some ⟨[.int], some .byte⟩ := by decide +kernel
theorem own_pd0_1 : parseMethodDescriptor "([BIII)Z" = some ⟨[(.array .byte), .int, .int, .int], some .boolean⟩ := by decide +kernel
theorem own_pd0_2 : parseMethodDescriptor "([BII)Z" = some ⟨[(.array .byte), .int, .int], some .boolean⟩ := by decide +kernel
theorem own_ef0 (m : MethodId) (i0 : Int32) (i1 : Int32) (i2 : Int32) (i3 : Int32) (i4 : Int32) (i5 : Int32) : entryFrame m #[(.int i0), (.int i1), (.int i2), (.int i3), (.int i4), (.int i5)] maxLocals = mkF m 0 #[.val (.int i0), .val (.int i1), .val (.int i2), .val (.int i3), .val (.int i4), .val (.int i5), .unset, .unset, .unset, .unset, .unset] [] := by first | (simp [entryFrame, mkF, argsToLocals, Value.category, maxLocals]; done) | rfl
def own_Q0 (Z : State) (i0 : Int32) (i1 : Int32) (i2 : Int32) (i3 : Int32) (i4 : Int32) (i5 : Int32) (h0 : Heap) (n0 : Nat) (v : Option Value) (h : Heap) (L : List Loc) : Prop := v = some (.int 1) ∧ Fr n0 L
set_option maxRecDepth 65536 in
set_option maxHeartbeats 40000000 in
theorem own_rm0 (l : Launch) (Z : State) (a0 : Array Value) (hw : ∀ d ∈ tables_1, d.before a0 Z = true) (ws : List Jvm.Cond) (i0 : Int32) (i1 : Int32) (i2 : Int32) (i3 : Int32) (i4 : Int32) (i5 : Int32) (h0 : Heap) (n0 : Nat) (Zs : n0 ≤ h0.size)  :
    MetFree l x (head1 (Jvm.Cond.code x code maxLocals ret :: ws) room_1) (fun aA_ U => aA_ = #[(.int i0), (.int i1), (.int i2), (.int i3), (.int i4), (.int i5)] ∧ Z.Warmed39 U.vm ∧ U.heap = h0) (fun _ _ _ _ _ => True) (fun _ U o U' => ∃ v L, o = .returned v ∧ own_Q0 Z i0 i1 i2 i3 i4 i5 h0 n0 v U'.heap L ∧ FrameEnd U o U' L room_1.cells room_1.slots) := by
  refine MetFree.of_bodySF (plainFor_of_name own_pn0) hisR ?_
  intro p e s m args below meth c s₁ Bd hml0 hP hK
  obtain ⟨rfl, hZ, hh⟩ := hP
  have hx := Bd.exec
  have hby := Bd.bytes
  have hml : c.maxLocals = 11 := hml0
  have hown : s.vm.findClass "com/example/carrier_name_resolver/carriernameresolver/card/CardBytesIsUnusedPinLaw" = some m.cls := findClass_of_methodNamed Bd.named
  have hnm := (name_of_methodNamed Bd.named Bd.method).1
  have X0 : Stand p l e room_1 s m #[(.int i0), (.int i1), (.int i2), (.int i3), (.int i4), (.int i5)] below meth c s₁ [] 0 0 := Stand.of_body Bd
  have e0 : s₁.heap = h0 := by rw [← hh, Bd.state]; rfl
  have NF := Fr.nil n0
  rw [own_ef0 m i0 i1 i2 i3 i4 i5]
  show own_Dn p e below s (own_Q0 Z i0 i1 i2 i3 i4 i5 h0 n0) room_1.cells room_1.slots s₁ (mkF m 0 #[.val (.int i0), .val (.int i1), .val (.int i2), .val (.int i3), .val (.int i4), .val (.int i5), .unset, .unset, .unset, .unset, .unset] [])
  refine own_go (T' := s₁) (g' := (mkF m 1 #[.val (.int i0), .val (.int i1), .val (.int i2), .val (.int i3), .val (.int i4), .val (.int i5), .unset, .unset, .unset, .unset, .unset] [(.int (4 : Int32))])) (fun _ k => XS.iconst X0.here hx rfl (hb hby at_0) k) ?_
  obtain ⟨T1, h1, k1, X1, e1, E1, A1, st1⟩ := newP X0 hx hZ (hw _ (List.mem_of_getElem? (i := 0) rfl)) e0 (g := (mkF m 1 #[.val (.int i0), .val (.int i1), .val (.int i2), .val (.int i3), .val (.int i4), .val (.int i5), .unset, .unset, .unset, .unset, .unset] [(.int (4 : Int32))])) rfl (hb hby at_1) rfl (by decide) (cap := 4) (by decide) (by decide) (by decide) (by decide)
  obtain ⟨b1, g1⟩ : ∃ z, z = h0.size := ⟨_, rfl⟩
  rw [← g1] at A1 st1
  have g_b1 : n0 ≤ b1 := Nat.le_trans Zs (Nat.le_of_eq g1.symm)
  have Zs := Nat.le_trans Zs E1.1
  have V_b1 : Arv Z h1 b1 k1 .byte (4 : Int32) [(.int (0 : Int32)), (.int (0 : Int32)), (.int (0 : Int32)), (.int (0 : Int32))] (.int (0 : Int32)) := (Arv.new A1 (by decide)).pad (pad_rep [] (.int (0 : Int32)) 4)
  refine own_go (T' := T1) (g' := (mkF m 3 #[.val (.int i0), .val (.int i1), .val (.int i2), .val (.int i3), .val (.int i4), .val (.int i5), .unset, .unset, .unset, .unset, .unset] [(.ref b1)])) (fun _ k => st1 _ k) ?_
  refine own_go (T' := T1) (g' := (mkF m 5 #[.val (.int i0), .val (.int i1), .val (.int i2), .val (.int i3), .val (.int i4), .val (.int i5), .val (.ref b1), .unset, .unset, .unset, .unset] [])) (fun _ k => XS.astore X1.here hx rfl (hb hby at_3) rfl rfl (l' := #[.val (.int i0), .val (.int i1), .val (.int i2), .val (.int i3), .val (.int i4), .val (.int i5), .val (.ref b1), .unset, .unset, .unset, .unset]) rfl k) ?_
  refine own_go (T' := T1) (g' := (mkF m 7 #[.val (.int i0), .val (.int i1), .val (.int i2), .val (.int i3), .val (.int i4), .val (.int i5), .val (.ref b1), .unset, .unset, .unset, .unset] [(.ref b1)])) (fun _ k => XS.aload X1.here hx rfl (hb hby at_5) rfl rfl k) ?_
  refine own_go (T' := T1) (g' := (mkF m 8 #[.val (.int i0), .val (.int i1), .val (.int i2), .val (.int i3), .val (.int i4), .val (.int i5), .val (.ref b1), .unset, .unset, .unset, .unset] [(.int (0 : Int32)), (.ref b1)])) (fun _ k => XS.iconst X1.here hx rfl (hb hby at_7) k) ?_
  refine own_go (T' := T1) (g' := (mkF m 9 #[.val (.int i0), .val (.int i1), .val (.int i2), .val (.int i3), .val (.int i4), .val (.int i5), .val (.ref b1), .unset, .unset, .unset, .unset] [(.int i0), (.int (0 : Int32)), (.ref b1)])) (fun _ k => XS.iloadN X1.here hx rfl (hb hby at_8) rfl k) ?_
  obtain ⟨_, _, ⟨T2, L2, k2, n2⟩, -, X2, ⟨Lc2, hQ2, l2, y2, z2⟩, st2⟩ := Jvm.LawKit.callS X1 hx (y := (⟨"com/example/carrier_name_resolver/carriernameresolver/card/CardBytesIsUnusedPinLaw", "byteOf", "(I)B"⟩ : MethodName)) hown (mvT hZ (hw _ (List.mem_of_getElem? (i := 1) rfl))) (mvT hZ (hw _ (List.mem_of_getElem? (i := 2) rfl))) (mvT hZ (hw _ (List.mem_of_getElem? (i := 3) rfl))) (mvT hZ (hw _ (List.mem_of_getElem? (i := 4) rfl))) (by decide) (backOf (W := 2) (own_rm1 l Z a0 hw [] i0 h1 n0 Zs) hZ (hw _ (List.mem_of_getElem? (i := 4) rfl)) (hw _ (List.mem_of_getElem? (i := 3) rfl)) (by decide) (by decide)) (g := (mkF m 9 #[.val (.int i0), .val (.int i1), .val (.int i2), .val (.int i3), .val (.int i4), .val (.int i5), .val (.ref b1), .unset, .unset, .unset, .unset] [(.int i0), (.int (0 : Int32)), (.ref b1)])) rfl (by rw [hml]; rfl) (argsL := [(.int i0)]) (rest := [(.int (0 : Int32)), (.ref b1)]) (lenOf own_pd0_0 rfl) rfl (by show 2 * 0 + _ ≤ _; exact Nat.le_of_eq rfl) (hb hby at_9) (fun _ _ => ⟨rfl, e1, (by decide : 1 + 0 ≤ _), (by decide : 4 + 0 ≤ _)⟩)
  dsimp only [Pt.U, Pt.locs, Pt.cells, Pt.slots] at X2 l2 y2 z2 st2 hQ2
  subst l2 y2 z2
  obtain ⟨⟨zz2, rfl⟩, NQ2, eq2⟩ := hQ2
  have NF := Fr.app NF NQ2
  refine own_go (T' := T2) (g' := (mkF m 12 #[.val (.int i0), .val (.int i1), .val (.int i2), .val (.int i3), .val (.int i4), .val (.int i5), .val (.ref b1), .unset, .unset, .unset, .unset] [(.int zz2), (.int (0 : Int32)), (.ref b1)])) (fun _ k => st2 _ k) ?_
  obtain ⟨c_3, Ar_3, q_3, S_3, N_3, H_3, G_3⟩ := id V_b1
  have hin_3 : ¬ ((0 : Int32) < 0 ∨ c_3.slots.size ≤ ((0 : Int32)).toNatClampNeg) := inb_of S_3 ⟨by decide, by decide⟩
  obtain ⟨T3, h3, X3, e3, W3, st3⟩ := stB X2 hx hZ eq2 Ar_3 (j := (0 : Int32)) hin_3 (g := (mkF m 12 #[.val (.int i0), .val (.int i1), .val (.int i2), .val (.int i3), .val (.int i4), .val (.int i5), .val (.ref b1), .unset, .unset, .unset, .unset] [(.int zz2), (.int (0 : Int32)), (.ref b1)])) rfl rfl (hb hby at_12)
  have Zs := Nat.le_trans Zs (Keep.of_wr W3).1
  have V_b1 := Arv.set Ar_3 q_3 S_3 N_3 H_3 G_3 (fits_nar_byte _) W3 0 rfl (Nat.le_of_ble_eq_true rfl)
  have NF := Fr.snoc X3 NF g_b1
  refine own_go (T' := T3) (g' := (mkF m 13 #[.val (.int i0), .val (.int i1), .val (.int i2), .val (.int i3), .val (.int i4), .val (.int i5), .val (.ref b1), .unset, .unset, .unset, .unset] [])) (fun _ k => st3 _ k) ?_
  refine own_go (T' := T3) (g' := (mkF m 15 #[.val (.int i0), .val (.int i1), .val (.int i2), .val (.int i3), .val (.int i4), .val (.int i5), .val (.ref b1), .unset, .unset, .unset, .unset] [(.ref b1)])) (fun _ k => XS.aload X3.here hx rfl (hb hby at_13) rfl rfl k) ?_
  refine own_go (T' := T3) (g' := (mkF m 16 #[.val (.int i0), .val (.int i1), .val (.int i2), .val (.int i3), .val (.int i4), .val (.int i5), .val (.ref b1), .unset, .unset, .unset, .unset] [(.int (1 : Int32)), (.ref b1)])) (fun _ k => XS.iconst X3.here hx rfl (hb hby at_15) k) ?_
  refine own_go (T' := T3) (g' := (mkF m 17 #[.val (.int i0), .val (.int i1), .val (.int i2), .val (.int i3), .val (.int i4), .val (.int i5), .val (.ref b1), .unset, .unset, .unset, .unset] [(.int i1), (.int (1 : Int32)), (.ref b1)])) (fun _ k => XS.iloadN X3.here hx rfl (hb hby at_16) rfl k) ?_
  obtain ⟨_, _, ⟨T4, L4, k4, n4⟩, -, X4, ⟨Lc4, hQ4, l4, y4, z4⟩, st4⟩ := Jvm.LawKit.callS X3 hx (y := (⟨"com/example/carrier_name_resolver/carriernameresolver/card/CardBytesIsUnusedPinLaw", "byteOf", "(I)B"⟩ : MethodName)) hown (mvT hZ (hw _ (List.mem_of_getElem? (i := 1) rfl))) (mvT hZ (hw _ (List.mem_of_getElem? (i := 2) rfl))) (mvT hZ (hw _ (List.mem_of_getElem? (i := 3) rfl))) (mvT hZ (hw _ (List.mem_of_getElem? (i := 4) rfl))) (by decide) (backOf (W := 2) (own_rm1 l Z a0 hw [] i1 h3 n0 Zs) hZ (hw _ (List.mem_of_getElem? (i := 4) rfl)) (hw _ (List.mem_of_getElem? (i := 3) rfl)) (by decide) (by decide)) (g := (mkF m 17 #[.val (.int i0), .val (.int i1), .val (.int i2), .val (.int i3), .val (.int i4), .val (.int i5), .val (.ref b1), .unset, .unset, .unset, .unset] [(.int i1), (.int (1 : Int32)), (.ref b1)])) rfl (by rw [hml]; rfl) (argsL := [(.int i1)]) (rest := [(.int (1 : Int32)), (.ref b1)]) (lenOf own_pd0_0 rfl) rfl (by show 2 * 0 + _ ≤ _; exact Nat.le_of_eq rfl) (hb hby at_17) (fun _ _ => ⟨rfl, e3, (by decide : 1 + 0 ≤ _), (by decide : 4 + 0 ≤ _)⟩)
  dsimp only [Pt.U, Pt.locs, Pt.cells, Pt.slots] at X4 l4 y4 z4 st4 hQ4
  subst l4 y4 z4
  obtain ⟨⟨zz4, rfl⟩, NQ4, eq4⟩ := hQ4
  have NF := Fr.app NF NQ4
  refine own_go (T' := T4) (g' := (mkF m 20 #[.val (.int i0), .val (.int i1), .val (.int i2), .val (.int i3), .val (.int i4), .val (.int i5), .val (.ref b1), .unset, .unset, .unset, .unset] [(.int zz4), (.int (1 : Int32)), (.ref b1)])) (fun _ k => st4 _ k) ?_
  obtain ⟨c_5, Ar_5, q_5, S_5, N_5, H_5, G_5⟩ := id V_b1
  have hin_5 : ¬ ((1 : Int32) < 0 ∨ c_5.slots.size ≤ ((1 : Int32)).toNatClampNeg) := inb_of S_5 ⟨by decide, by decide⟩
  obtain ⟨T5, h5, X5, e5, W5, st5⟩ := stB X4 hx hZ eq4 Ar_5 (j := (1 : Int32)) hin_5 (g := (mkF m 20 #[.val (.int i0), .val (.int i1), .val (.int i2), .val (.int i3), .val (.int i4), .val (.int i5), .val (.ref b1), .unset, .unset, .unset, .unset] [(.int zz4), (.int (1 : Int32)), (.ref b1)])) rfl rfl (hb hby at_20)
  have Zs := Nat.le_trans Zs (Keep.of_wr W5).1
  have V_b1 := Arv.set Ar_5 q_5 S_5 N_5 H_5 G_5 (fits_nar_byte _) W5 1 rfl (Nat.le_of_ble_eq_true rfl)
  have NF := Fr.snoc X5 NF g_b1
  refine own_go (T' := T5) (g' := (mkF m 21 #[.val (.int i0), .val (.int i1), .val (.int i2), .val (.int i3), .val (.int i4), .val (.int i5), .val (.ref b1), .unset, .unset, .unset, .unset] [])) (fun _ k => st5 _ k) ?_
  refine own_go (T' := T5) (g' := (mkF m 23 #[.val (.int i0), .val (.int i1), .val (.int i2), .val (.int i3), .val (.int i4), .val (.int i5), .val (.ref b1), .unset, .unset, .unset, .unset] [(.ref b1)])) (fun _ k => XS.aload X5.here hx rfl (hb hby at_21) rfl rfl k) ?_
  refine own_go (T' := T5) (g' := (mkF m 24 #[.val (.int i0), .val (.int i1), .val (.int i2), .val (.int i3), .val (.int i4), .val (.int i5), .val (.ref b1), .unset, .unset, .unset, .unset] [(.int (2 : Int32)), (.ref b1)])) (fun _ k => XS.iconst X5.here hx rfl (hb hby at_23) k) ?_
  refine own_go (T' := T5) (g' := (mkF m 25 #[.val (.int i0), .val (.int i1), .val (.int i2), .val (.int i3), .val (.int i4), .val (.int i5), .val (.ref b1), .unset, .unset, .unset, .unset] [(.int i2), (.int (2 : Int32)), (.ref b1)])) (fun _ k => XS.iloadN X5.here hx rfl (hb hby at_24) rfl k) ?_
  obtain ⟨_, _, ⟨T6, L6, k6, n6⟩, -, X6, ⟨Lc6, hQ6, l6, y6, z6⟩, st6⟩ := Jvm.LawKit.callS X5 hx (y := (⟨"com/example/carrier_name_resolver/carriernameresolver/card/CardBytesIsUnusedPinLaw", "byteOf", "(I)B"⟩ : MethodName)) hown (mvT hZ (hw _ (List.mem_of_getElem? (i := 1) rfl))) (mvT hZ (hw _ (List.mem_of_getElem? (i := 2) rfl))) (mvT hZ (hw _ (List.mem_of_getElem? (i := 3) rfl))) (mvT hZ (hw _ (List.mem_of_getElem? (i := 4) rfl))) (by decide) (backOf (W := 2) (own_rm1 l Z a0 hw [] i2 h5 n0 Zs) hZ (hw _ (List.mem_of_getElem? (i := 4) rfl)) (hw _ (List.mem_of_getElem? (i := 3) rfl)) (by decide) (by decide)) (g := (mkF m 25 #[.val (.int i0), .val (.int i1), .val (.int i2), .val (.int i3), .val (.int i4), .val (.int i5), .val (.ref b1), .unset, .unset, .unset, .unset] [(.int i2), (.int (2 : Int32)), (.ref b1)])) rfl (by rw [hml]; rfl) (argsL := [(.int i2)]) (rest := [(.int (2 : Int32)), (.ref b1)]) (lenOf own_pd0_0 rfl) rfl (by show 2 * 0 + _ ≤ _; exact Nat.le_of_eq rfl) (hb hby at_25) (fun _ _ => ⟨rfl, e5, (by decide : 1 + 0 ≤ _), (by decide : 4 + 0 ≤ _)⟩)
  dsimp only [Pt.U, Pt.locs, Pt.cells, Pt.slots] at X6 l6 y6 z6 st6 hQ6
  subst l6 y6 z6
  obtain ⟨⟨zz6, rfl⟩, NQ6, eq6⟩ := hQ6
  have NF := Fr.app NF NQ6
  refine own_go (T' := T6) (g' := (mkF m 28 #[.val (.int i0), .val (.int i1), .val (.int i2), .val (.int i3), .val (.int i4), .val (.int i5), .val (.ref b1), .unset, .unset, .unset, .unset] [(.int zz6), (.int (2 : Int32)), (.ref b1)])) (fun _ k => st6 _ k) ?_
  obtain ⟨c_7, Ar_7, q_7, S_7, N_7, H_7, G_7⟩ := id V_b1
  have hin_7 : ¬ ((2 : Int32) < 0 ∨ c_7.slots.size ≤ ((2 : Int32)).toNatClampNeg) := inb_of S_7 ⟨by decide, by decide⟩
  obtain ⟨T7, h7, X7, e7, W7, st7⟩ := stB X6 hx hZ eq6 Ar_7 (j := (2 : Int32)) hin_7 (g := (mkF m 28 #[.val (.int i0), .val (.int i1), .val (.int i2), .val (.int i3), .val (.int i4), .val (.int i5), .val (.ref b1), .unset, .unset, .unset, .unset] [(.int zz6), (.int (2 : Int32)), (.ref b1)])) rfl rfl (hb hby at_28)
  have Zs := Nat.le_trans Zs (Keep.of_wr W7).1
  have V_b1 := Arv.set Ar_7 q_7 S_7 N_7 H_7 G_7 (fits_nar_byte _) W7 2 rfl (Nat.le_of_ble_eq_true rfl)
  have NF := Fr.snoc X7 NF g_b1
  refine own_go (T' := T7) (g' := (mkF m 29 #[.val (.int i0), .val (.int i1), .val (.int i2), .val (.int i3), .val (.int i4), .val (.int i5), .val (.ref b1), .unset, .unset, .unset, .unset] [])) (fun _ k => st7 _ k) ?_
  refine own_go (T' := T7) (g' := (mkF m 31 #[.val (.int i0), .val (.int i1), .val (.int i2), .val (.int i3), .val (.int i4), .val (.int i5), .val (.ref b1), .unset, .unset, .unset, .unset] [(.ref b1)])) (fun _ k => XS.aload X7.here hx rfl (hb hby at_29) rfl rfl k) ?_
  refine own_go (T' := T7) (g' := (mkF m 32 #[.val (.int i0), .val (.int i1), .val (.int i2), .val (.int i3), .val (.int i4), .val (.int i5), .val (.ref b1), .unset, .unset, .unset, .unset] [(.int (3 : Int32)), (.ref b1)])) (fun _ k => XS.iconst X7.here hx rfl (hb hby at_31) k) ?_
  refine own_go (T' := T7) (g' := (mkF m 33 #[.val (.int i0), .val (.int i1), .val (.int i2), .val (.int i3), .val (.int i4), .val (.int i5), .val (.ref b1), .unset, .unset, .unset, .unset] [(.int i3), (.int (3 : Int32)), (.ref b1)])) (fun _ k => XS.iloadN X7.here hx rfl (hb hby at_32) rfl k) ?_
  obtain ⟨_, _, ⟨T8, L8, k8, n8⟩, -, X8, ⟨Lc8, hQ8, l8, y8, z8⟩, st8⟩ := Jvm.LawKit.callS X7 hx (y := (⟨"com/example/carrier_name_resolver/carriernameresolver/card/CardBytesIsUnusedPinLaw", "byteOf", "(I)B"⟩ : MethodName)) hown (mvT hZ (hw _ (List.mem_of_getElem? (i := 1) rfl))) (mvT hZ (hw _ (List.mem_of_getElem? (i := 2) rfl))) (mvT hZ (hw _ (List.mem_of_getElem? (i := 3) rfl))) (mvT hZ (hw _ (List.mem_of_getElem? (i := 4) rfl))) (by decide) (backOf (W := 2) (own_rm1 l Z a0 hw [] i3 h7 n0 Zs) hZ (hw _ (List.mem_of_getElem? (i := 4) rfl)) (hw _ (List.mem_of_getElem? (i := 3) rfl)) (by decide) (by decide)) (g := (mkF m 33 #[.val (.int i0), .val (.int i1), .val (.int i2), .val (.int i3), .val (.int i4), .val (.int i5), .val (.ref b1), .unset, .unset, .unset, .unset] [(.int i3), (.int (3 : Int32)), (.ref b1)])) rfl (by rw [hml]; rfl) (argsL := [(.int i3)]) (rest := [(.int (3 : Int32)), (.ref b1)]) (lenOf own_pd0_0 rfl) rfl (by show 2 * 0 + _ ≤ _; exact Nat.le_of_eq rfl) (hb hby at_33) (fun _ _ => ⟨rfl, e7, (by decide : 1 + 0 ≤ _), (by decide : 4 + 0 ≤ _)⟩)
  dsimp only [Pt.U, Pt.locs, Pt.cells, Pt.slots] at X8 l8 y8 z8 st8 hQ8
  subst l8 y8 z8
  obtain ⟨⟨zz8, rfl⟩, NQ8, eq8⟩ := hQ8
  have NF := Fr.app NF NQ8
  refine own_go (T' := T8) (g' := (mkF m 36 #[.val (.int i0), .val (.int i1), .val (.int i2), .val (.int i3), .val (.int i4), .val (.int i5), .val (.ref b1), .unset, .unset, .unset, .unset] [(.int zz8), (.int (3 : Int32)), (.ref b1)])) (fun _ k => st8 _ k) ?_
  obtain ⟨c_9, Ar_9, q_9, S_9, N_9, H_9, G_9⟩ := id V_b1
  have hin_9 : ¬ ((3 : Int32) < 0 ∨ c_9.slots.size ≤ ((3 : Int32)).toNatClampNeg) := inb_of S_9 ⟨by decide, by decide⟩
  obtain ⟨T9, h9, X9, e9, W9, st9⟩ := stB X8 hx hZ eq8 Ar_9 (j := (3 : Int32)) hin_9 (g := (mkF m 36 #[.val (.int i0), .val (.int i1), .val (.int i2), .val (.int i3), .val (.int i4), .val (.int i5), .val (.ref b1), .unset, .unset, .unset, .unset] [(.int zz8), (.int (3 : Int32)), (.ref b1)])) rfl rfl (hb hby at_36)
  have Zs := Nat.le_trans Zs (Keep.of_wr W9).1
  have V_b1 := Arv.set Ar_9 q_9 S_9 N_9 H_9 G_9 (fits_nar_byte _) W9 3 rfl (Nat.le_of_ble_eq_true rfl)
  have NF := Fr.snoc X9 NF g_b1
  refine own_go (T' := T9) (g' := (mkF m 37 #[.val (.int i0), .val (.int i1), .val (.int i2), .val (.int i3), .val (.int i4), .val (.int i5), .val (.ref b1), .unset, .unset, .unset, .unset] [])) (fun _ k => st9 _ k) ?_
  refine own_go (T' := T9) (g' := (mkF m 39 #[.val (.int i0), .val (.int i1), .val (.int i2), .val (.int i3), .val (.int i4), .val (.int i5), .val (.ref b1), .unset, .unset, .unset, .unset] [(.int i4)])) (fun _ k => XS.iload X9.here hx rfl (hb hby at_37) rfl k) ?_
  refine own_go (T' := T9) (g' := (mkF m 41 #[.val (.int i0), .val (.int i1), .val (.int i2), .val (.int i3), .val (.int i4), .val (.int i5), .val (.ref b1), .unset, .unset, .unset, .unset] [(.int (2147483647 : Int32)), (.int i4)])) (fun _ k => X9.ldcInt hx hown (mvT hZ (hw _ (List.mem_of_getElem? (i := 5) rfl))) (g := (mkF m 39 #[.val (.int i0), .val (.int i1), .val (.int i2), .val (.int i3), .val (.int i4), .val (.int i5), .val (.ref b1), .unset, .unset, .unset, .unset] [(.int i4)])) rfl (hb hby at_39) _ k) ?_
  refine own_go (T' := T9) (g' := (mkF m 42 #[.val (.int i0), .val (.int i1), .val (.int i2), .val (.int i3), .val (.int i4), .val (.int i5), .val (.ref b1), .unset, .unset, .unset, .unset] [(.int (i4 &&& (2147483647 : Int32)))])) (fun _ k => XS.iand X9.here hx rfl (hb hby at_41) rfl k) ?_
  refine own_go (T' := T9) (g' := (mkF m 43 #[.val (.int i0), .val (.int i1), .val (.int i2), .val (.int i3), .val (.int i4), .val (.int i5), .val (.ref b1), .unset, .unset, .unset, .unset] [(.int (5 : Int32)), (.int (i4 &&& (2147483647 : Int32)))])) (fun _ k => XS.iconst X9.here hx rfl (hb hby at_42) k) ?_
  refine own_go (T' := T9) (g' := (mkF m 44 #[.val (.int i0), .val (.int i1), .val (.int i2), .val (.int i3), .val (.int i4), .val (.int i5), .val (.ref b1), .unset, .unset, .unset, .unset] [(.int ((i4 &&& (2147483647 : Int32)) % (5 : Int32)))])) (fun _ k => iremM X9 hx rfl (hb hby at_43) rfl (by decide) k) ?_
  refine own_go (T' := T9) (g' := (mkF m 46 #[.val (.int i0), .val (.int i1), .val (.int i2), .val (.int i3), .val (.int i4), .val (.int i5), .val (.ref b1), .val (.int ((i4 &&& (2147483647 : Int32)) % (5 : Int32))), .unset, .unset, .unset] [])) (fun _ k => XS.istore X9.here hx rfl (hb hby at_44) rfl (l' := #[.val (.int i0), .val (.int i1), .val (.int i2), .val (.int i3), .val (.int i4), .val (.int i5), .val (.ref b1), .val (.int ((i4 &&& (2147483647 : Int32)) % (5 : Int32))), .unset, .unset, .unset]) rfl k) ?_
  refine own_go (T' := T9) (g' := (mkF m 48 #[.val (.int i0), .val (.int i1), .val (.int i2), .val (.int i3), .val (.int i4), .val (.int i5), .val (.ref b1), .val (.int ((i4 &&& (2147483647 : Int32)) % (5 : Int32))), .unset, .unset, .unset] [(.int i5)])) (fun _ k => XS.iload X9.here hx rfl (hb hby at_46) rfl k) ?_
  refine own_go (T' := T9) (g' := (mkF m 50 #[.val (.int i0), .val (.int i1), .val (.int i2), .val (.int i3), .val (.int i4), .val (.int i5), .val (.ref b1), .val (.int ((i4 &&& (2147483647 : Int32)) % (5 : Int32))), .unset, .unset, .unset] [(.int (2147483647 : Int32)), (.int i5)])) (fun _ k => X9.ldcInt hx hown (mvT hZ (hw _ (List.mem_of_getElem? (i := 5) rfl))) (g := (mkF m 48 #[.val (.int i0), .val (.int i1), .val (.int i2), .val (.int i3), .val (.int i4), .val (.int i5), .val (.ref b1), .val (.int ((i4 &&& (2147483647 : Int32)) % (5 : Int32))), .unset, .unset, .unset] [(.int i5)])) rfl (hb hby at_48) _ k) ?_
  refine own_go (T' := T9) (g' := (mkF m 51 #[.val (.int i0), .val (.int i1), .val (.int i2), .val (.int i3), .val (.int i4), .val (.int i5), .val (.ref b1), .val (.int ((i4 &&& (2147483647 : Int32)) % (5 : Int32))), .unset, .unset, .unset] [(.int (i5 &&& (2147483647 : Int32)))])) (fun _ k => XS.iand X9.here hx rfl (hb hby at_50) rfl k) ?_
  refine own_go (T' := T9) (g' := (mkF m 52 #[.val (.int i0), .val (.int i1), .val (.int i2), .val (.int i3), .val (.int i4), .val (.int i5), .val (.ref b1), .val (.int ((i4 &&& (2147483647 : Int32)) % (5 : Int32))), .unset, .unset, .unset] [(.int (5 : Int32)), (.int (i5 &&& (2147483647 : Int32)))])) (fun _ k => XS.iconst X9.here hx rfl (hb hby at_51) k) ?_
  refine own_go (T' := T9) (g' := (mkF m 53 #[.val (.int i0), .val (.int i1), .val (.int i2), .val (.int i3), .val (.int i4), .val (.int i5), .val (.ref b1), .val (.int ((i4 &&& (2147483647 : Int32)) % (5 : Int32))), .unset, .unset, .unset] [(.int ((i5 &&& (2147483647 : Int32)) % (5 : Int32)))])) (fun _ k => iremM X9 hx rfl (hb hby at_52) rfl (by decide) k) ?_
  refine own_go (T' := T9) (g' := (mkF m 55 #[.val (.int i0), .val (.int i1), .val (.int i2), .val (.int i3), .val (.int i4), .val (.int i5), .val (.ref b1), .val (.int ((i4 &&& (2147483647 : Int32)) % (5 : Int32))), .val (.int ((i5 &&& (2147483647 : Int32)) % (5 : Int32))), .unset, .unset] [])) (fun _ k => XS.istore X9.here hx rfl (hb hby at_53) rfl (l' := #[.val (.int i0), .val (.int i1), .val (.int i2), .val (.int i3), .val (.int i4), .val (.int i5), .val (.ref b1), .val (.int ((i4 &&& (2147483647 : Int32)) % (5 : Int32))), .val (.int ((i5 &&& (2147483647 : Int32)) % (5 : Int32))), .unset, .unset]) rfl k) ?_
  have hft : 0 ≤ (((i4 &&& (2147483647 : Int32)) % (5 : Int32))).toInt ∧ (((i4 &&& (2147483647 : Int32)) % (5 : Int32))).toInt ≤ 4 ∧ 0 ≤ (((i5 &&& (2147483647 : Int32)) % (5 : Int32))).toInt ∧ (((i5 &&& (2147483647 : Int32)) % (5 : Int32))).toInt ≤ 4 := by
    have m1 := c_mask i4 (2147483647 : Int32) 31 (by decide) (by decide)
    have m2 := c_mask i5 (2147483647 : Int32) 31 (by decide) (by decide)
    have d1 := c_irem (i4 &&& (2147483647 : Int32)) (5 : Int32) 5 (by decide)
    have d2 := c_irem (i5 &&& (2147483647 : Int32)) (5 : Int32) 5 (by decide)
    omega
  have hB : (-128 ≤ ((zz2.toInt8.toInt32)).toInt ∧ ((zz2.toInt8.toInt32)).toInt < 128) ∧ (-128 ≤ ((zz4.toInt8.toInt32)).toInt ∧ ((zz4.toInt8.toInt32)).toInt < 128) ∧ (-128 ≤ ((zz6.toInt8.toInt32)).toInt ∧ ((zz6.toInt8.toInt32)).toInt < 128) ∧ (-128 ≤ ((zz8.toInt8.toInt32)).toInt ∧ ((zz8.toInt8.toInt32)).toInt < 128) := by
    have k0 := c_i2b zz2
    have k1 := c_i2b zz4
    have k2 := c_i2b zz6
    have k3 := c_i2b zz8
    omega
  generalize hF : ((i4 &&& (2147483647 : Int32)) % (5 : Int32)) = F at *
  generalize hT : ((i5 &&& (2147483647 : Int32)) % (5 : Int32)) = T at *
  refine own_go (T' := T9) (g' := (mkF m 57 #[.val (.int i0), .val (.int i1), .val (.int i2), .val (.int i3), .val (.int i4), .val (.int i5), .val (.ref b1), .val (.int F), .val (.int T), .unset, .unset] [(.ref b1)])) (fun _ k => XS.aload X9.here hx rfl (hb hby at_55) rfl rfl k) ?_
  refine own_go (T' := T9) (g' := (mkF m 59 #[.val (.int i0), .val (.int i1), .val (.int i2), .val (.int i3), .val (.int i4), .val (.int i5), .val (.ref b1), .val (.int F), .val (.int T), .unset, .unset] [(.int F), (.ref b1)])) (fun _ k => XS.iload X9.here hx rfl (hb hby at_57) rfl k) ?_
  refine own_go (T' := T9) (g' := (mkF m 61 #[.val (.int i0), .val (.int i1), .val (.int i2), .val (.int i3), .val (.int i4), .val (.int i5), .val (.ref b1), .val (.int F), .val (.int T), .unset, .unset] [(.int T), (.int F), (.ref b1)])) (fun _ k => XS.iload X9.here hx rfl (hb hby at_59) rfl k) ?_
  refine own_go (T' := T9) (g' := (mkF m 62 #[.val (.int i0), .val (.int i1), .val (.int i2), .val (.int i3), .val (.int i4), .val (.int i5), .val (.ref b1), .val (.int F), .val (.int T), .unset, .unset] [(.int (0 : Int32)), (.int T), (.int F), (.ref b1)])) (fun _ k => XS.iconst X9.here hx rfl (hb hby at_61) k) ?_
  obtain ⟨_, _, ⟨T10, L10, k10, n10⟩, -, X10, ⟨Lc10, hQ10, l10, y10, z10⟩, st10⟩ := Jvm.LawKit.callS X9 hx (y := (⟨"com/example/carrier_name_resolver/carriernameresolver/card/CardBytesIsUnusedPinLaw", "okAt", "([BIII)Z"⟩ : MethodName)) hown (mvT hZ (hw _ (List.mem_of_getElem? (i := 6) rfl))) (mvT hZ (hw _ (List.mem_of_getElem? (i := 7) rfl))) (mvT hZ (hw _ (List.mem_of_getElem? (i := 3) rfl))) (mvT hZ (hw _ (List.mem_of_getElem? (i := 8) rfl))) (by decide) (backOf (W := 0) (own_rm2 l Z a0 hw [] b1 F T (0 : Int32) k1 _ _ _ _ _ h9 n0 Zs V_b1 (by decide) rfl) hZ (hw _ (List.mem_of_getElem? (i := 8) rfl)) (hw _ (List.mem_of_getElem? (i := 3) rfl)) (by decide) (by decide)) (g := (mkF m 62 #[.val (.int i0), .val (.int i1), .val (.int i2), .val (.int i3), .val (.int i4), .val (.int i5), .val (.ref b1), .val (.int F), .val (.int T), .unset, .unset] [(.int (0 : Int32)), (.int T), (.int F), (.ref b1)])) rfl (by rw [hml]; rfl) (argsL := [(.ref b1), (.int F), (.int T), (.int (0 : Int32))]) (rest := []) (lenOf own_pd0_1 rfl) rfl (by show 2 * 0 + _ ≤ _; exact Nat.le_of_eq rfl) (hb hby at_62) (fun _ _ => ⟨rfl, e9, (by decide : 1 + 0 ≤ _), (by decide : 4 + 0 ≤ _)⟩)
  dsimp only [Pt.U, Pt.locs, Pt.cells, Pt.slots] at X10 l10 y10 z10 st10 hQ10
  subst l10 y10 z10
  obtain ⟨rfl, NQ10, eq10⟩ := hQ10
  have NF := Fr.app NF NQ10
  refine own_go (T' := T10) (g' := (mkF m 65 #[.val (.int i0), .val (.int i1), .val (.int i2), .val (.int i3), .val (.int i4), .val (.int i5), .val (.ref b1), .val (.int F), .val (.int T), .unset, .unset] [(.int (if (F.toInt ≤ (0 : Int32).toInt ∧ (0 : Int32).toInt < T.toInt → ((zz2.toInt8.toInt32)).toInt = -1) then (1 : Int32) else 0))])) (fun _ k => st10 _ k) ?_
  by_cases c11 : (if (F.toInt ≤ (0 : Int32).toInt ∧ (0 : Int32).toInt < T.toInt → ((zz2.toInt8.toInt32)).toInt = -1) then (1 : Int32) else 0) = (0 : Int32)
  · refine own_go (T' := T10) (g' := (mkF m 111 #[.val (.int i0), .val (.int i1), .val (.int i2), .val (.int i3), .val (.int i4), .val (.int i5), .val (.ref b1), .val (.int F), .val (.int T), .unset, .unset] [])) (fun _ k => XS.ifYes X10.here hx rfl (pc0 := 65) (pc' := 111) rfl (hb hby at_65) rfl ((if0 _ _).trans (teq c11).1) (by decide) (by decide) k) ?_
    refine own_go (T' := T10) (g' := (mkF m 112 #[.val (.int i0), .val (.int i1), .val (.int i2), .val (.int i3), .val (.int i4), .val (.int i5), .val (.ref b1), .val (.int F), .val (.int T), .unset, .unset] [(.int (0 : Int32))])) (fun _ k => XS.iconst X10.here hx rfl (hb hby at_111) k) ?_
    refine own_go (T' := T10) (g' := (mkF m 114 #[.val (.int i0), .val (.int i1), .val (.int i2), .val (.int i3), .val (.int i4), .val (.int i5), .val (.ref b1), .val (.int F), .val (.int T), .val (.int (0 : Int32)), .unset] [])) (fun _ k => XS.istore X10.here hx rfl (hb hby at_112) rfl (l' := #[.val (.int i0), .val (.int i1), .val (.int i2), .val (.int i3), .val (.int i4), .val (.int i5), .val (.ref b1), .val (.int F), .val (.int T), .val (.int (0 : Int32)), .unset]) rfl k) ?_
    refine own_go (T' := T10) (g' := (mkF m 116 #[.val (.int i0), .val (.int i1), .val (.int i2), .val (.int i3), .val (.int i4), .val (.int i5), .val (.ref b1), .val (.int F), .val (.int T), .val (.int (0 : Int32)), .unset] [(.ref b1)])) (fun _ k => XS.aload X10.here hx rfl (hb hby at_114) rfl rfl k) ?_
    refine own_go (T' := T10) (g' := (mkF m 118 #[.val (.int i0), .val (.int i1), .val (.int i2), .val (.int i3), .val (.int i4), .val (.int i5), .val (.ref b1), .val (.int F), .val (.int T), .val (.int (0 : Int32)), .unset] [(.int F), (.ref b1)])) (fun _ k => XS.iload X10.here hx rfl (hb hby at_116) rfl k) ?_
    refine own_go (T' := T10) (g' := (mkF m 120 #[.val (.int i0), .val (.int i1), .val (.int i2), .val (.int i3), .val (.int i4), .val (.int i5), .val (.ref b1), .val (.int F), .val (.int T), .val (.int (0 : Int32)), .unset] [(.int T), (.int F), (.ref b1)])) (fun _ k => XS.iload X10.here hx rfl (hb hby at_118) rfl k) ?_
    obtain ⟨_, _, ⟨T12, L12, k12, n12⟩, -, X12, ⟨Lc12, hQ12, l12, y12, z12⟩, st12⟩ := Jvm.LawKit.callS X10 hx (y := (⟨"com/example/carrier_name_resolver/carriernameresolver/card/CardBytes", "isUnused", "([BII)Z"⟩ : MethodName)) hown (mvT hZ (hw _ (List.mem_of_getElem? (i := 9) rfl))) (mvT hZ (hw _ (List.mem_of_getElem? (i := 10) rfl))) (mvT hZ (hw _ (List.mem_of_getElem? (i := 11) rfl))) (mvT hZ (hw _ (List.mem_of_getElem? (i := 12) rfl))) (by decide) (backOf (W := 0) (own_rm3 l Z a0 hw [] b1 F T k1 _ _ _ _ h9 n0 Zs V_b1 hft hB) hZ (hw _ (List.mem_of_getElem? (i := 12) rfl)) (hw _ (List.mem_of_getElem? (i := 11) rfl)) (by decide) (by decide)) (g := (mkF m 120 #[.val (.int i0), .val (.int i1), .val (.int i2), .val (.int i3), .val (.int i4), .val (.int i5), .val (.ref b1), .val (.int F), .val (.int T), .val (.int (0 : Int32)), .unset] [(.int T), (.int F), (.ref b1)])) rfl (by rw [hml]; rfl) (argsL := [(.ref b1), (.int F), (.int T)]) (rest := []) (lenOf own_pd0_2 rfl) rfl (by show 2 * 0 + _ ≤ _; exact Nat.le_of_eq rfl) (hb hby at_120) (fun _ _ => ⟨rfl, eq10, (by decide : 1 + 0 ≤ _), (by decide : 4 + 0 ≤ _)⟩)
    dsimp only [Pt.U, Pt.locs, Pt.cells, Pt.slots] at X12 l12 y12 z12 st12 hQ12
    subst l12 y12 z12
    obtain ⟨rfl, NQ12, eq12⟩ := hQ12
    have NF := Fr.app NF NQ12
    refine own_go (T' := T12) (g' := (mkF m 123 #[.val (.int i0), .val (.int i1), .val (.int i2), .val (.int i3), .val (.int i4), .val (.int i5), .val (.ref b1), .val (.int F), .val (.int T), .val (.int (0 : Int32)), .unset] [(.int (if ((F.toInt ≤ 0 ∧ 0 < T.toInt → ((zz2.toInt8.toInt32)).toInt = -1) ∧ (F.toInt ≤ 1 ∧ 1 < T.toInt → ((zz4.toInt8.toInt32)).toInt = -1) ∧ (F.toInt ≤ 2 ∧ 2 < T.toInt → ((zz6.toInt8.toInt32)).toInt = -1) ∧ (F.toInt ≤ 3 ∧ 3 < T.toInt → ((zz8.toInt8.toInt32)).toInt = -1)) then (1 : Int32) else 0))])) (fun _ k => st12 _ k) ?_
    refine own_go (T' := T12) (g' := (mkF m 125 #[.val (.int i0), .val (.int i1), .val (.int i2), .val (.int i3), .val (.int i4), .val (.int i5), .val (.ref b1), .val (.int F), .val (.int T), .val (.int (0 : Int32)), .val (.int (if ((F.toInt ≤ 0 ∧ 0 < T.toInt → ((zz2.toInt8.toInt32)).toInt = -1) ∧ (F.toInt ≤ 1 ∧ 1 < T.toInt → ((zz4.toInt8.toInt32)).toInt = -1) ∧ (F.toInt ≤ 2 ∧ 2 < T.toInt → ((zz6.toInt8.toInt32)).toInt = -1) ∧ (F.toInt ≤ 3 ∧ 3 < T.toInt → ((zz8.toInt8.toInt32)).toInt = -1)) then (1 : Int32) else 0))] [])) (fun _ k => XS.istore X12.here hx rfl (hb hby at_123) rfl (l' := #[.val (.int i0), .val (.int i1), .val (.int i2), .val (.int i3), .val (.int i4), .val (.int i5), .val (.ref b1), .val (.int F), .val (.int T), .val (.int (0 : Int32)), .val (.int (if ((F.toInt ≤ 0 ∧ 0 < T.toInt → ((zz2.toInt8.toInt32)).toInt = -1) ∧ (F.toInt ≤ 1 ∧ 1 < T.toInt → ((zz4.toInt8.toInt32)).toInt = -1) ∧ (F.toInt ≤ 2 ∧ 2 < T.toInt → ((zz6.toInt8.toInt32)).toInt = -1) ∧ (F.toInt ≤ 3 ∧ 3 < T.toInt → ((zz8.toInt8.toInt32)).toInt = -1)) then (1 : Int32) else 0))]) rfl k) ?_
    refine own_go (T' := T12) (g' := (mkF m 127 #[.val (.int i0), .val (.int i1), .val (.int i2), .val (.int i3), .val (.int i4), .val (.int i5), .val (.ref b1), .val (.int F), .val (.int T), .val (.int (0 : Int32)), .val (.int (if ((F.toInt ≤ 0 ∧ 0 < T.toInt → ((zz2.toInt8.toInt32)).toInt = -1) ∧ (F.toInt ≤ 1 ∧ 1 < T.toInt → ((zz4.toInt8.toInt32)).toInt = -1) ∧ (F.toInt ≤ 2 ∧ 2 < T.toInt → ((zz6.toInt8.toInt32)).toInt = -1) ∧ (F.toInt ≤ 3 ∧ 3 < T.toInt → ((zz8.toInt8.toInt32)).toInt = -1)) then (1 : Int32) else 0))] [(.int (if ((F.toInt ≤ 0 ∧ 0 < T.toInt → ((zz2.toInt8.toInt32)).toInt = -1) ∧ (F.toInt ≤ 1 ∧ 1 < T.toInt → ((zz4.toInt8.toInt32)).toInt = -1) ∧ (F.toInt ≤ 2 ∧ 2 < T.toInt → ((zz6.toInt8.toInt32)).toInt = -1) ∧ (F.toInt ≤ 3 ∧ 3 < T.toInt → ((zz8.toInt8.toInt32)).toInt = -1)) then (1 : Int32) else 0))])) (fun _ k => XS.iload X12.here hx rfl (hb hby at_125) rfl k) ?_
    refine own_go (T' := T12) (g' := (mkF m 129 #[.val (.int i0), .val (.int i1), .val (.int i2), .val (.int i3), .val (.int i4), .val (.int i5), .val (.ref b1), .val (.int F), .val (.int T), .val (.int (0 : Int32)), .val (.int (if ((F.toInt ≤ 0 ∧ 0 < T.toInt → ((zz2.toInt8.toInt32)).toInt = -1) ∧ (F.toInt ≤ 1 ∧ 1 < T.toInt → ((zz4.toInt8.toInt32)).toInt = -1) ∧ (F.toInt ≤ 2 ∧ 2 < T.toInt → ((zz6.toInt8.toInt32)).toInt = -1) ∧ (F.toInt ≤ 3 ∧ 3 < T.toInt → ((zz8.toInt8.toInt32)).toInt = -1)) then (1 : Int32) else 0))] [(.int (0 : Int32)), (.int (if ((F.toInt ≤ 0 ∧ 0 < T.toInt → ((zz2.toInt8.toInt32)).toInt = -1) ∧ (F.toInt ≤ 1 ∧ 1 < T.toInt → ((zz4.toInt8.toInt32)).toInt = -1) ∧ (F.toInt ≤ 2 ∧ 2 < T.toInt → ((zz6.toInt8.toInt32)).toInt = -1) ∧ (F.toInt ≤ 3 ∧ 3 < T.toInt → ((zz8.toInt8.toInt32)).toInt = -1)) then (1 : Int32) else 0))])) (fun _ k => XS.iload X12.here hx rfl (hb hby at_127) rfl k) ?_
    have hq : (if ((F.toInt ≤ 0 ∧ 0 < T.toInt → ((zz2.toInt8.toInt32)).toInt = -1) ∧ (F.toInt ≤ 1 ∧ 1 < T.toInt → ((zz4.toInt8.toInt32)).toInt = -1) ∧ (F.toInt ≤ 2 ∧ 2 < T.toInt → ((zz6.toInt8.toInt32)).toInt = -1) ∧ (F.toInt ≤ 3 ∧ 3 < T.toInt → ((zz8.toInt8.toInt32)).toInt = -1)) then (1 : Int32) else 0) = (0 : Int32) := by
      simp only [own_if1, own_if0, own_ln1, own_l0, own_l1, own_l2, own_l3, own_l4, own_l5, own_l255, own_l2147483647, Decidable.not_not] at c11
      first | (rw [if_pos (by omega)]) | (rw [if_neg (by omega)])
    refine own_go (T' := T12) (g' := (mkF m 132 #[.val (.int i0), .val (.int i1), .val (.int i2), .val (.int i3), .val (.int i4), .val (.int i5), .val (.ref b1), .val (.int F), .val (.int T), .val (.int (0 : Int32)), .val (.int (if ((F.toInt ≤ 0 ∧ 0 < T.toInt → ((zz2.toInt8.toInt32)).toInt = -1) ∧ (F.toInt ≤ 1 ∧ 1 < T.toInt → ((zz4.toInt8.toInt32)).toInt = -1) ∧ (F.toInt ≤ 2 ∧ 2 < T.toInt → ((zz6.toInt8.toInt32)).toInt = -1) ∧ (F.toInt ≤ 3 ∧ 3 < T.toInt → ((zz8.toInt8.toInt32)).toInt = -1)) then (1 : Int32) else 0))] [])) (fun _ k => XS.icmpNo X12.here hx rfl (hb hby at_129) rfl (teq hq).2 k) ?_
    refine own_go (T' := T12) (g' := (mkF m 133 #[.val (.int i0), .val (.int i1), .val (.int i2), .val (.int i3), .val (.int i4), .val (.int i5), .val (.ref b1), .val (.int F), .val (.int T), .val (.int (0 : Int32)), .val (.int (if ((F.toInt ≤ 0 ∧ 0 < T.toInt → ((zz2.toInt8.toInt32)).toInt = -1) ∧ (F.toInt ≤ 1 ∧ 1 < T.toInt → ((zz4.toInt8.toInt32)).toInt = -1) ∧ (F.toInt ≤ 2 ∧ 2 < T.toInt → ((zz6.toInt8.toInt32)).toInt = -1) ∧ (F.toInt ≤ 3 ∧ 3 < T.toInt → ((zz8.toInt8.toInt32)).toInt = -1)) then (1 : Int32) else 0))] [(.int (1 : Int32))])) (fun _ k => XS.iconst X12.here hx rfl (hb hby at_132) k) ?_
    refine own_go (T' := T12) (g' := (mkF m 137 #[.val (.int i0), .val (.int i1), .val (.int i2), .val (.int i3), .val (.int i4), .val (.int i5), .val (.ref b1), .val (.int F), .val (.int T), .val (.int (0 : Int32)), .val (.int (if ((F.toInt ≤ 0 ∧ 0 < T.toInt → ((zz2.toInt8.toInt32)).toInt = -1) ∧ (F.toInt ≤ 1 ∧ 1 < T.toInt → ((zz4.toInt8.toInt32)).toInt = -1) ∧ (F.toInt ≤ 2 ∧ 2 < T.toInt → ((zz6.toInt8.toInt32)).toInt = -1) ∧ (F.toInt ≤ 3 ∧ 3 < T.toInt → ((zz8.toInt8.toInt32)).toInt = -1)) then (1 : Int32) else 0))] [(.int (1 : Int32))])) (fun _ k => XS.goto X12.here hx rfl (pc0 := 133) (pc' := 137) rfl (hb hby at_133) (by decide) (by decide) k) ?_
    refine own_ret X12 Bd.notSynchronized (some (.int (1 : Int32))) (fun h => by rw [Bd.returns] at h; cases h) (fun fs hr => retN X12 hx (t := .boolean) Bd.returns (by simp) (hb hby at_137) hr) ?_ (by decide) (by decide)
    show (own_Q0 Z i0 i1 i2 i3 i4 i5 h0 n0) (some (.int (1 : Int32))) T12.heap _
    rw [eq12]
    exact ⟨rfl, NF⟩
  · refine own_go (T' := T10) (g' := (mkF m 68 #[.val (.int i0), .val (.int i1), .val (.int i2), .val (.int i3), .val (.int i4), .val (.int i5), .val (.ref b1), .val (.int F), .val (.int T), .unset, .unset] [])) (fun _ k => XS.ifNo X10.here hx rfl (hb hby at_65) rfl ((if0 _ _).trans (feq c11).1) k) ?_
    refine own_go (T' := T10) (g' := (mkF m 70 #[.val (.int i0), .val (.int i1), .val (.int i2), .val (.int i3), .val (.int i4), .val (.int i5), .val (.ref b1), .val (.int F), .val (.int T), .unset, .unset] [(.ref b1)])) (fun _ k => XS.aload X10.here hx rfl (hb hby at_68) rfl rfl k) ?_
    refine own_go (T' := T10) (g' := (mkF m 72 #[.val (.int i0), .val (.int i1), .val (.int i2), .val (.int i3), .val (.int i4), .val (.int i5), .val (.ref b1), .val (.int F), .val (.int T), .unset, .unset] [(.int F), (.ref b1)])) (fun _ k => XS.iload X10.here hx rfl (hb hby at_70) rfl k) ?_
    refine own_go (T' := T10) (g' := (mkF m 74 #[.val (.int i0), .val (.int i1), .val (.int i2), .val (.int i3), .val (.int i4), .val (.int i5), .val (.ref b1), .val (.int F), .val (.int T), .unset, .unset] [(.int T), (.int F), (.ref b1)])) (fun _ k => XS.iload X10.here hx rfl (hb hby at_72) rfl k) ?_
    refine own_go (T' := T10) (g' := (mkF m 75 #[.val (.int i0), .val (.int i1), .val (.int i2), .val (.int i3), .val (.int i4), .val (.int i5), .val (.ref b1), .val (.int F), .val (.int T), .unset, .unset] [(.int (1 : Int32)), (.int T), (.int F), (.ref b1)])) (fun _ k => XS.iconst X10.here hx rfl (hb hby at_74) k) ?_
    obtain ⟨_, _, ⟨T13, L13, k13, n13⟩, -, X13, ⟨Lc13, hQ13, l13, y13, z13⟩, st13⟩ := Jvm.LawKit.callS X10 hx (y := (⟨"com/example/carrier_name_resolver/carriernameresolver/card/CardBytesIsUnusedPinLaw", "okAt", "([BIII)Z"⟩ : MethodName)) hown (mvT hZ (hw _ (List.mem_of_getElem? (i := 6) rfl))) (mvT hZ (hw _ (List.mem_of_getElem? (i := 7) rfl))) (mvT hZ (hw _ (List.mem_of_getElem? (i := 3) rfl))) (mvT hZ (hw _ (List.mem_of_getElem? (i := 8) rfl))) (by decide) (backOf (W := 0) (own_rm2 l Z a0 hw [] b1 F T (1 : Int32) k1 _ _ _ _ _ h9 n0 Zs V_b1 (by decide) rfl) hZ (hw _ (List.mem_of_getElem? (i := 8) rfl)) (hw _ (List.mem_of_getElem? (i := 3) rfl)) (by decide) (by decide)) (g := (mkF m 75 #[.val (.int i0), .val (.int i1), .val (.int i2), .val (.int i3), .val (.int i4), .val (.int i5), .val (.ref b1), .val (.int F), .val (.int T), .unset, .unset] [(.int (1 : Int32)), (.int T), (.int F), (.ref b1)])) rfl (by rw [hml]; rfl) (argsL := [(.ref b1), (.int F), (.int T), (.int (1 : Int32))]) (rest := []) (lenOf own_pd0_1 rfl) rfl (by show 2 * 0 + _ ≤ _; exact Nat.le_of_eq rfl) (hb hby at_75) (fun _ _ => ⟨rfl, eq10, (by decide : 1 + 0 ≤ _), (by decide : 4 + 0 ≤ _)⟩)
    dsimp only [Pt.U, Pt.locs, Pt.cells, Pt.slots] at X13 l13 y13 z13 st13 hQ13
    subst l13 y13 z13
    obtain ⟨rfl, NQ13, eq13⟩ := hQ13
    have NF := Fr.app NF NQ13
    refine own_go (T' := T13) (g' := (mkF m 78 #[.val (.int i0), .val (.int i1), .val (.int i2), .val (.int i3), .val (.int i4), .val (.int i5), .val (.ref b1), .val (.int F), .val (.int T), .unset, .unset] [(.int (if (F.toInt ≤ (1 : Int32).toInt ∧ (1 : Int32).toInt < T.toInt → ((zz4.toInt8.toInt32)).toInt = -1) then (1 : Int32) else 0))])) (fun _ k => st13 _ k) ?_
    by_cases c14 : (if (F.toInt ≤ (1 : Int32).toInt ∧ (1 : Int32).toInt < T.toInt → ((zz4.toInt8.toInt32)).toInt = -1) then (1 : Int32) else 0) = (0 : Int32)
    · refine own_go (T' := T13) (g' := (mkF m 111 #[.val (.int i0), .val (.int i1), .val (.int i2), .val (.int i3), .val (.int i4), .val (.int i5), .val (.ref b1), .val (.int F), .val (.int T), .unset, .unset] [])) (fun _ k => XS.ifYes X13.here hx rfl (pc0 := 78) (pc' := 111) rfl (hb hby at_78) rfl ((if0 _ _).trans (teq c14).1) (by decide) (by decide) k) ?_
      refine own_go (T' := T13) (g' := (mkF m 112 #[.val (.int i0), .val (.int i1), .val (.int i2), .val (.int i3), .val (.int i4), .val (.int i5), .val (.ref b1), .val (.int F), .val (.int T), .unset, .unset] [(.int (0 : Int32))])) (fun _ k => XS.iconst X13.here hx rfl (hb hby at_111) k) ?_
      refine own_go (T' := T13) (g' := (mkF m 114 #[.val (.int i0), .val (.int i1), .val (.int i2), .val (.int i3), .val (.int i4), .val (.int i5), .val (.ref b1), .val (.int F), .val (.int T), .val (.int (0 : Int32)), .unset] [])) (fun _ k => XS.istore X13.here hx rfl (hb hby at_112) rfl (l' := #[.val (.int i0), .val (.int i1), .val (.int i2), .val (.int i3), .val (.int i4), .val (.int i5), .val (.ref b1), .val (.int F), .val (.int T), .val (.int (0 : Int32)), .unset]) rfl k) ?_
      refine own_go (T' := T13) (g' := (mkF m 116 #[.val (.int i0), .val (.int i1), .val (.int i2), .val (.int i3), .val (.int i4), .val (.int i5), .val (.ref b1), .val (.int F), .val (.int T), .val (.int (0 : Int32)), .unset] [(.ref b1)])) (fun _ k => XS.aload X13.here hx rfl (hb hby at_114) rfl rfl k) ?_
      refine own_go (T' := T13) (g' := (mkF m 118 #[.val (.int i0), .val (.int i1), .val (.int i2), .val (.int i3), .val (.int i4), .val (.int i5), .val (.ref b1), .val (.int F), .val (.int T), .val (.int (0 : Int32)), .unset] [(.int F), (.ref b1)])) (fun _ k => XS.iload X13.here hx rfl (hb hby at_116) rfl k) ?_
      refine own_go (T' := T13) (g' := (mkF m 120 #[.val (.int i0), .val (.int i1), .val (.int i2), .val (.int i3), .val (.int i4), .val (.int i5), .val (.ref b1), .val (.int F), .val (.int T), .val (.int (0 : Int32)), .unset] [(.int T), (.int F), (.ref b1)])) (fun _ k => XS.iload X13.here hx rfl (hb hby at_118) rfl k) ?_
      obtain ⟨_, _, ⟨T15, L15, k15, n15⟩, -, X15, ⟨Lc15, hQ15, l15, y15, z15⟩, st15⟩ := Jvm.LawKit.callS X13 hx (y := (⟨"com/example/carrier_name_resolver/carriernameresolver/card/CardBytes", "isUnused", "([BII)Z"⟩ : MethodName)) hown (mvT hZ (hw _ (List.mem_of_getElem? (i := 9) rfl))) (mvT hZ (hw _ (List.mem_of_getElem? (i := 10) rfl))) (mvT hZ (hw _ (List.mem_of_getElem? (i := 11) rfl))) (mvT hZ (hw _ (List.mem_of_getElem? (i := 12) rfl))) (by decide) (backOf (W := 0) (own_rm3 l Z a0 hw [] b1 F T k1 _ _ _ _ h9 n0 Zs V_b1 hft hB) hZ (hw _ (List.mem_of_getElem? (i := 12) rfl)) (hw _ (List.mem_of_getElem? (i := 11) rfl)) (by decide) (by decide)) (g := (mkF m 120 #[.val (.int i0), .val (.int i1), .val (.int i2), .val (.int i3), .val (.int i4), .val (.int i5), .val (.ref b1), .val (.int F), .val (.int T), .val (.int (0 : Int32)), .unset] [(.int T), (.int F), (.ref b1)])) rfl (by rw [hml]; rfl) (argsL := [(.ref b1), (.int F), (.int T)]) (rest := []) (lenOf own_pd0_2 rfl) rfl (by show 2 * 0 + _ ≤ _; exact Nat.le_of_eq rfl) (hb hby at_120) (fun _ _ => ⟨rfl, eq13, (by decide : 1 + 0 ≤ _), (by decide : 4 + 0 ≤ _)⟩)
      dsimp only [Pt.U, Pt.locs, Pt.cells, Pt.slots] at X15 l15 y15 z15 st15 hQ15
      subst l15 y15 z15
      obtain ⟨rfl, NQ15, eq15⟩ := hQ15
      have NF := Fr.app NF NQ15
      refine own_go (T' := T15) (g' := (mkF m 123 #[.val (.int i0), .val (.int i1), .val (.int i2), .val (.int i3), .val (.int i4), .val (.int i5), .val (.ref b1), .val (.int F), .val (.int T), .val (.int (0 : Int32)), .unset] [(.int (if ((F.toInt ≤ 0 ∧ 0 < T.toInt → ((zz2.toInt8.toInt32)).toInt = -1) ∧ (F.toInt ≤ 1 ∧ 1 < T.toInt → ((zz4.toInt8.toInt32)).toInt = -1) ∧ (F.toInt ≤ 2 ∧ 2 < T.toInt → ((zz6.toInt8.toInt32)).toInt = -1) ∧ (F.toInt ≤ 3 ∧ 3 < T.toInt → ((zz8.toInt8.toInt32)).toInt = -1)) then (1 : Int32) else 0))])) (fun _ k => st15 _ k) ?_
      refine own_go (T' := T15) (g' := (mkF m 125 #[.val (.int i0), .val (.int i1), .val (.int i2), .val (.int i3), .val (.int i4), .val (.int i5), .val (.ref b1), .val (.int F), .val (.int T), .val (.int (0 : Int32)), .val (.int (if ((F.toInt ≤ 0 ∧ 0 < T.toInt → ((zz2.toInt8.toInt32)).toInt = -1) ∧ (F.toInt ≤ 1 ∧ 1 < T.toInt → ((zz4.toInt8.toInt32)).toInt = -1) ∧ (F.toInt ≤ 2 ∧ 2 < T.toInt → ((zz6.toInt8.toInt32)).toInt = -1) ∧ (F.toInt ≤ 3 ∧ 3 < T.toInt → ((zz8.toInt8.toInt32)).toInt = -1)) then (1 : Int32) else 0))] [])) (fun _ k => XS.istore X15.here hx rfl (hb hby at_123) rfl (l' := #[.val (.int i0), .val (.int i1), .val (.int i2), .val (.int i3), .val (.int i4), .val (.int i5), .val (.ref b1), .val (.int F), .val (.int T), .val (.int (0 : Int32)), .val (.int (if ((F.toInt ≤ 0 ∧ 0 < T.toInt → ((zz2.toInt8.toInt32)).toInt = -1) ∧ (F.toInt ≤ 1 ∧ 1 < T.toInt → ((zz4.toInt8.toInt32)).toInt = -1) ∧ (F.toInt ≤ 2 ∧ 2 < T.toInt → ((zz6.toInt8.toInt32)).toInt = -1) ∧ (F.toInt ≤ 3 ∧ 3 < T.toInt → ((zz8.toInt8.toInt32)).toInt = -1)) then (1 : Int32) else 0))]) rfl k) ?_
      refine own_go (T' := T15) (g' := (mkF m 127 #[.val (.int i0), .val (.int i1), .val (.int i2), .val (.int i3), .val (.int i4), .val (.int i5), .val (.ref b1), .val (.int F), .val (.int T), .val (.int (0 : Int32)), .val (.int (if ((F.toInt ≤ 0 ∧ 0 < T.toInt → ((zz2.toInt8.toInt32)).toInt = -1) ∧ (F.toInt ≤ 1 ∧ 1 < T.toInt → ((zz4.toInt8.toInt32)).toInt = -1) ∧ (F.toInt ≤ 2 ∧ 2 < T.toInt → ((zz6.toInt8.toInt32)).toInt = -1) ∧ (F.toInt ≤ 3 ∧ 3 < T.toInt → ((zz8.toInt8.toInt32)).toInt = -1)) then (1 : Int32) else 0))] [(.int (if ((F.toInt ≤ 0 ∧ 0 < T.toInt → ((zz2.toInt8.toInt32)).toInt = -1) ∧ (F.toInt ≤ 1 ∧ 1 < T.toInt → ((zz4.toInt8.toInt32)).toInt = -1) ∧ (F.toInt ≤ 2 ∧ 2 < T.toInt → ((zz6.toInt8.toInt32)).toInt = -1) ∧ (F.toInt ≤ 3 ∧ 3 < T.toInt → ((zz8.toInt8.toInt32)).toInt = -1)) then (1 : Int32) else 0))])) (fun _ k => XS.iload X15.here hx rfl (hb hby at_125) rfl k) ?_
      refine own_go (T' := T15) (g' := (mkF m 129 #[.val (.int i0), .val (.int i1), .val (.int i2), .val (.int i3), .val (.int i4), .val (.int i5), .val (.ref b1), .val (.int F), .val (.int T), .val (.int (0 : Int32)), .val (.int (if ((F.toInt ≤ 0 ∧ 0 < T.toInt → ((zz2.toInt8.toInt32)).toInt = -1) ∧ (F.toInt ≤ 1 ∧ 1 < T.toInt → ((zz4.toInt8.toInt32)).toInt = -1) ∧ (F.toInt ≤ 2 ∧ 2 < T.toInt → ((zz6.toInt8.toInt32)).toInt = -1) ∧ (F.toInt ≤ 3 ∧ 3 < T.toInt → ((zz8.toInt8.toInt32)).toInt = -1)) then (1 : Int32) else 0))] [(.int (0 : Int32)), (.int (if ((F.toInt ≤ 0 ∧ 0 < T.toInt → ((zz2.toInt8.toInt32)).toInt = -1) ∧ (F.toInt ≤ 1 ∧ 1 < T.toInt → ((zz4.toInt8.toInt32)).toInt = -1) ∧ (F.toInt ≤ 2 ∧ 2 < T.toInt → ((zz6.toInt8.toInt32)).toInt = -1) ∧ (F.toInt ≤ 3 ∧ 3 < T.toInt → ((zz8.toInt8.toInt32)).toInt = -1)) then (1 : Int32) else 0))])) (fun _ k => XS.iload X15.here hx rfl (hb hby at_127) rfl k) ?_
      have hq : (if ((F.toInt ≤ 0 ∧ 0 < T.toInt → ((zz2.toInt8.toInt32)).toInt = -1) ∧ (F.toInt ≤ 1 ∧ 1 < T.toInt → ((zz4.toInt8.toInt32)).toInt = -1) ∧ (F.toInt ≤ 2 ∧ 2 < T.toInt → ((zz6.toInt8.toInt32)).toInt = -1) ∧ (F.toInt ≤ 3 ∧ 3 < T.toInt → ((zz8.toInt8.toInt32)).toInt = -1)) then (1 : Int32) else 0) = (0 : Int32) := by
        simp only [own_if1, own_if0, own_ln1, own_l0, own_l1, own_l2, own_l3, own_l4, own_l5, own_l255, own_l2147483647, Decidable.not_not] at c11 c14
        first | (rw [if_pos (by omega)]) | (rw [if_neg (by omega)])
      refine own_go (T' := T15) (g' := (mkF m 132 #[.val (.int i0), .val (.int i1), .val (.int i2), .val (.int i3), .val (.int i4), .val (.int i5), .val (.ref b1), .val (.int F), .val (.int T), .val (.int (0 : Int32)), .val (.int (if ((F.toInt ≤ 0 ∧ 0 < T.toInt → ((zz2.toInt8.toInt32)).toInt = -1) ∧ (F.toInt ≤ 1 ∧ 1 < T.toInt → ((zz4.toInt8.toInt32)).toInt = -1) ∧ (F.toInt ≤ 2 ∧ 2 < T.toInt → ((zz6.toInt8.toInt32)).toInt = -1) ∧ (F.toInt ≤ 3 ∧ 3 < T.toInt → ((zz8.toInt8.toInt32)).toInt = -1)) then (1 : Int32) else 0))] [])) (fun _ k => XS.icmpNo X15.here hx rfl (hb hby at_129) rfl (teq hq).2 k) ?_
      refine own_go (T' := T15) (g' := (mkF m 133 #[.val (.int i0), .val (.int i1), .val (.int i2), .val (.int i3), .val (.int i4), .val (.int i5), .val (.ref b1), .val (.int F), .val (.int T), .val (.int (0 : Int32)), .val (.int (if ((F.toInt ≤ 0 ∧ 0 < T.toInt → ((zz2.toInt8.toInt32)).toInt = -1) ∧ (F.toInt ≤ 1 ∧ 1 < T.toInt → ((zz4.toInt8.toInt32)).toInt = -1) ∧ (F.toInt ≤ 2 ∧ 2 < T.toInt → ((zz6.toInt8.toInt32)).toInt = -1) ∧ (F.toInt ≤ 3 ∧ 3 < T.toInt → ((zz8.toInt8.toInt32)).toInt = -1)) then (1 : Int32) else 0))] [(.int (1 : Int32))])) (fun _ k => XS.iconst X15.here hx rfl (hb hby at_132) k) ?_
      refine own_go (T' := T15) (g' := (mkF m 137 #[.val (.int i0), .val (.int i1), .val (.int i2), .val (.int i3), .val (.int i4), .val (.int i5), .val (.ref b1), .val (.int F), .val (.int T), .val (.int (0 : Int32)), .val (.int (if ((F.toInt ≤ 0 ∧ 0 < T.toInt → ((zz2.toInt8.toInt32)).toInt = -1) ∧ (F.toInt ≤ 1 ∧ 1 < T.toInt → ((zz4.toInt8.toInt32)).toInt = -1) ∧ (F.toInt ≤ 2 ∧ 2 < T.toInt → ((zz6.toInt8.toInt32)).toInt = -1) ∧ (F.toInt ≤ 3 ∧ 3 < T.toInt → ((zz8.toInt8.toInt32)).toInt = -1)) then (1 : Int32) else 0))] [(.int (1 : Int32))])) (fun _ k => XS.goto X15.here hx rfl (pc0 := 133) (pc' := 137) rfl (hb hby at_133) (by decide) (by decide) k) ?_
      refine own_ret X15 Bd.notSynchronized (some (.int (1 : Int32))) (fun h => by rw [Bd.returns] at h; cases h) (fun fs hr => retN X15 hx (t := .boolean) Bd.returns (by simp) (hb hby at_137) hr) ?_ (by decide) (by decide)
      show (own_Q0 Z i0 i1 i2 i3 i4 i5 h0 n0) (some (.int (1 : Int32))) T15.heap _
      rw [eq15]
      exact ⟨rfl, NF⟩
    · refine own_go (T' := T13) (g' := (mkF m 81 #[.val (.int i0), .val (.int i1), .val (.int i2), .val (.int i3), .val (.int i4), .val (.int i5), .val (.ref b1), .val (.int F), .val (.int T), .unset, .unset] [])) (fun _ k => XS.ifNo X13.here hx rfl (hb hby at_78) rfl ((if0 _ _).trans (feq c14).1) k) ?_
      refine own_go (T' := T13) (g' := (mkF m 83 #[.val (.int i0), .val (.int i1), .val (.int i2), .val (.int i3), .val (.int i4), .val (.int i5), .val (.ref b1), .val (.int F), .val (.int T), .unset, .unset] [(.ref b1)])) (fun _ k => XS.aload X13.here hx rfl (hb hby at_81) rfl rfl k) ?_
      refine own_go (T' := T13) (g' := (mkF m 85 #[.val (.int i0), .val (.int i1), .val (.int i2), .val (.int i3), .val (.int i4), .val (.int i5), .val (.ref b1), .val (.int F), .val (.int T), .unset, .unset] [(.int F), (.ref b1)])) (fun _ k => XS.iload X13.here hx rfl (hb hby at_83) rfl k) ?_
      refine own_go (T' := T13) (g' := (mkF m 87 #[.val (.int i0), .val (.int i1), .val (.int i2), .val (.int i3), .val (.int i4), .val (.int i5), .val (.ref b1), .val (.int F), .val (.int T), .unset, .unset] [(.int T), (.int F), (.ref b1)])) (fun _ k => XS.iload X13.here hx rfl (hb hby at_85) rfl k) ?_
      refine own_go (T' := T13) (g' := (mkF m 88 #[.val (.int i0), .val (.int i1), .val (.int i2), .val (.int i3), .val (.int i4), .val (.int i5), .val (.ref b1), .val (.int F), .val (.int T), .unset, .unset] [(.int (2 : Int32)), (.int T), (.int F), (.ref b1)])) (fun _ k => XS.iconst X13.here hx rfl (hb hby at_87) k) ?_
      obtain ⟨_, _, ⟨T16, L16, k16, n16⟩, -, X16, ⟨Lc16, hQ16, l16, y16, z16⟩, st16⟩ := Jvm.LawKit.callS X13 hx (y := (⟨"com/example/carrier_name_resolver/carriernameresolver/card/CardBytesIsUnusedPinLaw", "okAt", "([BIII)Z"⟩ : MethodName)) hown (mvT hZ (hw _ (List.mem_of_getElem? (i := 6) rfl))) (mvT hZ (hw _ (List.mem_of_getElem? (i := 7) rfl))) (mvT hZ (hw _ (List.mem_of_getElem? (i := 3) rfl))) (mvT hZ (hw _ (List.mem_of_getElem? (i := 8) rfl))) (by decide) (backOf (W := 0) (own_rm2 l Z a0 hw [] b1 F T (2 : Int32) k1 _ _ _ _ _ h9 n0 Zs V_b1 (by decide) rfl) hZ (hw _ (List.mem_of_getElem? (i := 8) rfl)) (hw _ (List.mem_of_getElem? (i := 3) rfl)) (by decide) (by decide)) (g := (mkF m 88 #[.val (.int i0), .val (.int i1), .val (.int i2), .val (.int i3), .val (.int i4), .val (.int i5), .val (.ref b1), .val (.int F), .val (.int T), .unset, .unset] [(.int (2 : Int32)), (.int T), (.int F), (.ref b1)])) rfl (by rw [hml]; rfl) (argsL := [(.ref b1), (.int F), (.int T), (.int (2 : Int32))]) (rest := []) (lenOf own_pd0_1 rfl) rfl (by show 2 * 0 + _ ≤ _; exact Nat.le_of_eq rfl) (hb hby at_88) (fun _ _ => ⟨rfl, eq13, (by decide : 1 + 0 ≤ _), (by decide : 4 + 0 ≤ _)⟩)
      dsimp only [Pt.U, Pt.locs, Pt.cells, Pt.slots] at X16 l16 y16 z16 st16 hQ16
      subst l16 y16 z16
      obtain ⟨rfl, NQ16, eq16⟩ := hQ16
      have NF := Fr.app NF NQ16
      refine own_go (T' := T16) (g' := (mkF m 91 #[.val (.int i0), .val (.int i1), .val (.int i2), .val (.int i3), .val (.int i4), .val (.int i5), .val (.ref b1), .val (.int F), .val (.int T), .unset, .unset] [(.int (if (F.toInt ≤ (2 : Int32).toInt ∧ (2 : Int32).toInt < T.toInt → ((zz6.toInt8.toInt32)).toInt = -1) then (1 : Int32) else 0))])) (fun _ k => st16 _ k) ?_
      by_cases c17 : (if (F.toInt ≤ (2 : Int32).toInt ∧ (2 : Int32).toInt < T.toInt → ((zz6.toInt8.toInt32)).toInt = -1) then (1 : Int32) else 0) = (0 : Int32)
      · refine own_go (T' := T16) (g' := (mkF m 111 #[.val (.int i0), .val (.int i1), .val (.int i2), .val (.int i3), .val (.int i4), .val (.int i5), .val (.ref b1), .val (.int F), .val (.int T), .unset, .unset] [])) (fun _ k => XS.ifYes X16.here hx rfl (pc0 := 91) (pc' := 111) rfl (hb hby at_91) rfl ((if0 _ _).trans (teq c17).1) (by decide) (by decide) k) ?_
        refine own_go (T' := T16) (g' := (mkF m 112 #[.val (.int i0), .val (.int i1), .val (.int i2), .val (.int i3), .val (.int i4), .val (.int i5), .val (.ref b1), .val (.int F), .val (.int T), .unset, .unset] [(.int (0 : Int32))])) (fun _ k => XS.iconst X16.here hx rfl (hb hby at_111) k) ?_
        refine own_go (T' := T16) (g' := (mkF m 114 #[.val (.int i0), .val (.int i1), .val (.int i2), .val (.int i3), .val (.int i4), .val (.int i5), .val (.ref b1), .val (.int F), .val (.int T), .val (.int (0 : Int32)), .unset] [])) (fun _ k => XS.istore X16.here hx rfl (hb hby at_112) rfl (l' := #[.val (.int i0), .val (.int i1), .val (.int i2), .val (.int i3), .val (.int i4), .val (.int i5), .val (.ref b1), .val (.int F), .val (.int T), .val (.int (0 : Int32)), .unset]) rfl k) ?_
        refine own_go (T' := T16) (g' := (mkF m 116 #[.val (.int i0), .val (.int i1), .val (.int i2), .val (.int i3), .val (.int i4), .val (.int i5), .val (.ref b1), .val (.int F), .val (.int T), .val (.int (0 : Int32)), .unset] [(.ref b1)])) (fun _ k => XS.aload X16.here hx rfl (hb hby at_114) rfl rfl k) ?_
        refine own_go (T' := T16) (g' := (mkF m 118 #[.val (.int i0), .val (.int i1), .val (.int i2), .val (.int i3), .val (.int i4), .val (.int i5), .val (.ref b1), .val (.int F), .val (.int T), .val (.int (0 : Int32)), .unset] [(.int F), (.ref b1)])) (fun _ k => XS.iload X16.here hx rfl (hb hby at_116) rfl k) ?_
        refine own_go (T' := T16) (g' := (mkF m 120 #[.val (.int i0), .val (.int i1), .val (.int i2), .val (.int i3), .val (.int i4), .val (.int i5), .val (.ref b1), .val (.int F), .val (.int T), .val (.int (0 : Int32)), .unset] [(.int T), (.int F), (.ref b1)])) (fun _ k => XS.iload X16.here hx rfl (hb hby at_118) rfl k) ?_
        obtain ⟨_, _, ⟨T18, L18, k18, n18⟩, -, X18, ⟨Lc18, hQ18, l18, y18, z18⟩, st18⟩ := Jvm.LawKit.callS X16 hx (y := (⟨"com/example/carrier_name_resolver/carriernameresolver/card/CardBytes", "isUnused", "([BII)Z"⟩ : MethodName)) hown (mvT hZ (hw _ (List.mem_of_getElem? (i := 9) rfl))) (mvT hZ (hw _ (List.mem_of_getElem? (i := 10) rfl))) (mvT hZ (hw _ (List.mem_of_getElem? (i := 11) rfl))) (mvT hZ (hw _ (List.mem_of_getElem? (i := 12) rfl))) (by decide) (backOf (W := 0) (own_rm3 l Z a0 hw [] b1 F T k1 _ _ _ _ h9 n0 Zs V_b1 hft hB) hZ (hw _ (List.mem_of_getElem? (i := 12) rfl)) (hw _ (List.mem_of_getElem? (i := 11) rfl)) (by decide) (by decide)) (g := (mkF m 120 #[.val (.int i0), .val (.int i1), .val (.int i2), .val (.int i3), .val (.int i4), .val (.int i5), .val (.ref b1), .val (.int F), .val (.int T), .val (.int (0 : Int32)), .unset] [(.int T), (.int F), (.ref b1)])) rfl (by rw [hml]; rfl) (argsL := [(.ref b1), (.int F), (.int T)]) (rest := []) (lenOf own_pd0_2 rfl) rfl (by show 2 * 0 + _ ≤ _; exact Nat.le_of_eq rfl) (hb hby at_120) (fun _ _ => ⟨rfl, eq16, (by decide : 1 + 0 ≤ _), (by decide : 4 + 0 ≤ _)⟩)
        dsimp only [Pt.U, Pt.locs, Pt.cells, Pt.slots] at X18 l18 y18 z18 st18 hQ18
        subst l18 y18 z18
        obtain ⟨rfl, NQ18, eq18⟩ := hQ18
        have NF := Fr.app NF NQ18
        refine own_go (T' := T18) (g' := (mkF m 123 #[.val (.int i0), .val (.int i1), .val (.int i2), .val (.int i3), .val (.int i4), .val (.int i5), .val (.ref b1), .val (.int F), .val (.int T), .val (.int (0 : Int32)), .unset] [(.int (if ((F.toInt ≤ 0 ∧ 0 < T.toInt → ((zz2.toInt8.toInt32)).toInt = -1) ∧ (F.toInt ≤ 1 ∧ 1 < T.toInt → ((zz4.toInt8.toInt32)).toInt = -1) ∧ (F.toInt ≤ 2 ∧ 2 < T.toInt → ((zz6.toInt8.toInt32)).toInt = -1) ∧ (F.toInt ≤ 3 ∧ 3 < T.toInt → ((zz8.toInt8.toInt32)).toInt = -1)) then (1 : Int32) else 0))])) (fun _ k => st18 _ k) ?_
        refine own_go (T' := T18) (g' := (mkF m 125 #[.val (.int i0), .val (.int i1), .val (.int i2), .val (.int i3), .val (.int i4), .val (.int i5), .val (.ref b1), .val (.int F), .val (.int T), .val (.int (0 : Int32)), .val (.int (if ((F.toInt ≤ 0 ∧ 0 < T.toInt → ((zz2.toInt8.toInt32)).toInt = -1) ∧ (F.toInt ≤ 1 ∧ 1 < T.toInt → ((zz4.toInt8.toInt32)).toInt = -1) ∧ (F.toInt ≤ 2 ∧ 2 < T.toInt → ((zz6.toInt8.toInt32)).toInt = -1) ∧ (F.toInt ≤ 3 ∧ 3 < T.toInt → ((zz8.toInt8.toInt32)).toInt = -1)) then (1 : Int32) else 0))] [])) (fun _ k => XS.istore X18.here hx rfl (hb hby at_123) rfl (l' := #[.val (.int i0), .val (.int i1), .val (.int i2), .val (.int i3), .val (.int i4), .val (.int i5), .val (.ref b1), .val (.int F), .val (.int T), .val (.int (0 : Int32)), .val (.int (if ((F.toInt ≤ 0 ∧ 0 < T.toInt → ((zz2.toInt8.toInt32)).toInt = -1) ∧ (F.toInt ≤ 1 ∧ 1 < T.toInt → ((zz4.toInt8.toInt32)).toInt = -1) ∧ (F.toInt ≤ 2 ∧ 2 < T.toInt → ((zz6.toInt8.toInt32)).toInt = -1) ∧ (F.toInt ≤ 3 ∧ 3 < T.toInt → ((zz8.toInt8.toInt32)).toInt = -1)) then (1 : Int32) else 0))]) rfl k) ?_
        refine own_go (T' := T18) (g' := (mkF m 127 #[.val (.int i0), .val (.int i1), .val (.int i2), .val (.int i3), .val (.int i4), .val (.int i5), .val (.ref b1), .val (.int F), .val (.int T), .val (.int (0 : Int32)), .val (.int (if ((F.toInt ≤ 0 ∧ 0 < T.toInt → ((zz2.toInt8.toInt32)).toInt = -1) ∧ (F.toInt ≤ 1 ∧ 1 < T.toInt → ((zz4.toInt8.toInt32)).toInt = -1) ∧ (F.toInt ≤ 2 ∧ 2 < T.toInt → ((zz6.toInt8.toInt32)).toInt = -1) ∧ (F.toInt ≤ 3 ∧ 3 < T.toInt → ((zz8.toInt8.toInt32)).toInt = -1)) then (1 : Int32) else 0))] [(.int (if ((F.toInt ≤ 0 ∧ 0 < T.toInt → ((zz2.toInt8.toInt32)).toInt = -1) ∧ (F.toInt ≤ 1 ∧ 1 < T.toInt → ((zz4.toInt8.toInt32)).toInt = -1) ∧ (F.toInt ≤ 2 ∧ 2 < T.toInt → ((zz6.toInt8.toInt32)).toInt = -1) ∧ (F.toInt ≤ 3 ∧ 3 < T.toInt → ((zz8.toInt8.toInt32)).toInt = -1)) then (1 : Int32) else 0))])) (fun _ k => XS.iload X18.here hx rfl (hb hby at_125) rfl k) ?_
        refine own_go (T' := T18) (g' := (mkF m 129 #[.val (.int i0), .val (.int i1), .val (.int i2), .val (.int i3), .val (.int i4), .val (.int i5), .val (.ref b1), .val (.int F), .val (.int T), .val (.int (0 : Int32)), .val (.int (if ((F.toInt ≤ 0 ∧ 0 < T.toInt → ((zz2.toInt8.toInt32)).toInt = -1) ∧ (F.toInt ≤ 1 ∧ 1 < T.toInt → ((zz4.toInt8.toInt32)).toInt = -1) ∧ (F.toInt ≤ 2 ∧ 2 < T.toInt → ((zz6.toInt8.toInt32)).toInt = -1) ∧ (F.toInt ≤ 3 ∧ 3 < T.toInt → ((zz8.toInt8.toInt32)).toInt = -1)) then (1 : Int32) else 0))] [(.int (0 : Int32)), (.int (if ((F.toInt ≤ 0 ∧ 0 < T.toInt → ((zz2.toInt8.toInt32)).toInt = -1) ∧ (F.toInt ≤ 1 ∧ 1 < T.toInt → ((zz4.toInt8.toInt32)).toInt = -1) ∧ (F.toInt ≤ 2 ∧ 2 < T.toInt → ((zz6.toInt8.toInt32)).toInt = -1) ∧ (F.toInt ≤ 3 ∧ 3 < T.toInt → ((zz8.toInt8.toInt32)).toInt = -1)) then (1 : Int32) else 0))])) (fun _ k => XS.iload X18.here hx rfl (hb hby at_127) rfl k) ?_
        have hq : (if ((F.toInt ≤ 0 ∧ 0 < T.toInt → ((zz2.toInt8.toInt32)).toInt = -1) ∧ (F.toInt ≤ 1 ∧ 1 < T.toInt → ((zz4.toInt8.toInt32)).toInt = -1) ∧ (F.toInt ≤ 2 ∧ 2 < T.toInt → ((zz6.toInt8.toInt32)).toInt = -1) ∧ (F.toInt ≤ 3 ∧ 3 < T.toInt → ((zz8.toInt8.toInt32)).toInt = -1)) then (1 : Int32) else 0) = (0 : Int32) := by
          simp only [own_if1, own_if0, own_ln1, own_l0, own_l1, own_l2, own_l3, own_l4, own_l5, own_l255, own_l2147483647, Decidable.not_not] at c11 c14 c17
          first | (rw [if_pos (by omega)]) | (rw [if_neg (by omega)])
        refine own_go (T' := T18) (g' := (mkF m 132 #[.val (.int i0), .val (.int i1), .val (.int i2), .val (.int i3), .val (.int i4), .val (.int i5), .val (.ref b1), .val (.int F), .val (.int T), .val (.int (0 : Int32)), .val (.int (if ((F.toInt ≤ 0 ∧ 0 < T.toInt → ((zz2.toInt8.toInt32)).toInt = -1) ∧ (F.toInt ≤ 1 ∧ 1 < T.toInt → ((zz4.toInt8.toInt32)).toInt = -1) ∧ (F.toInt ≤ 2 ∧ 2 < T.toInt → ((zz6.toInt8.toInt32)).toInt = -1) ∧ (F.toInt ≤ 3 ∧ 3 < T.toInt → ((zz8.toInt8.toInt32)).toInt = -1)) then (1 : Int32) else 0))] [])) (fun _ k => XS.icmpNo X18.here hx rfl (hb hby at_129) rfl (teq hq).2 k) ?_
        refine own_go (T' := T18) (g' := (mkF m 133 #[.val (.int i0), .val (.int i1), .val (.int i2), .val (.int i3), .val (.int i4), .val (.int i5), .val (.ref b1), .val (.int F), .val (.int T), .val (.int (0 : Int32)), .val (.int (if ((F.toInt ≤ 0 ∧ 0 < T.toInt → ((zz2.toInt8.toInt32)).toInt = -1) ∧ (F.toInt ≤ 1 ∧ 1 < T.toInt → ((zz4.toInt8.toInt32)).toInt = -1) ∧ (F.toInt ≤ 2 ∧ 2 < T.toInt → ((zz6.toInt8.toInt32)).toInt = -1) ∧ (F.toInt ≤ 3 ∧ 3 < T.toInt → ((zz8.toInt8.toInt32)).toInt = -1)) then (1 : Int32) else 0))] [(.int (1 : Int32))])) (fun _ k => XS.iconst X18.here hx rfl (hb hby at_132) k) ?_
        refine own_go (T' := T18) (g' := (mkF m 137 #[.val (.int i0), .val (.int i1), .val (.int i2), .val (.int i3), .val (.int i4), .val (.int i5), .val (.ref b1), .val (.int F), .val (.int T), .val (.int (0 : Int32)), .val (.int (if ((F.toInt ≤ 0 ∧ 0 < T.toInt → ((zz2.toInt8.toInt32)).toInt = -1) ∧ (F.toInt ≤ 1 ∧ 1 < T.toInt → ((zz4.toInt8.toInt32)).toInt = -1) ∧ (F.toInt ≤ 2 ∧ 2 < T.toInt → ((zz6.toInt8.toInt32)).toInt = -1) ∧ (F.toInt ≤ 3 ∧ 3 < T.toInt → ((zz8.toInt8.toInt32)).toInt = -1)) then (1 : Int32) else 0))] [(.int (1 : Int32))])) (fun _ k => XS.goto X18.here hx rfl (pc0 := 133) (pc' := 137) rfl (hb hby at_133) (by decide) (by decide) k) ?_
        refine own_ret X18 Bd.notSynchronized (some (.int (1 : Int32))) (fun h => by rw [Bd.returns] at h; cases h) (fun fs hr => retN X18 hx (t := .boolean) Bd.returns (by simp) (hb hby at_137) hr) ?_ (by decide) (by decide)
        show (own_Q0 Z i0 i1 i2 i3 i4 i5 h0 n0) (some (.int (1 : Int32))) T18.heap _
        rw [eq18]
        exact ⟨rfl, NF⟩
      · refine own_go (T' := T16) (g' := (mkF m 94 #[.val (.int i0), .val (.int i1), .val (.int i2), .val (.int i3), .val (.int i4), .val (.int i5), .val (.ref b1), .val (.int F), .val (.int T), .unset, .unset] [])) (fun _ k => XS.ifNo X16.here hx rfl (hb hby at_91) rfl ((if0 _ _).trans (feq c17).1) k) ?_
        refine own_go (T' := T16) (g' := (mkF m 96 #[.val (.int i0), .val (.int i1), .val (.int i2), .val (.int i3), .val (.int i4), .val (.int i5), .val (.ref b1), .val (.int F), .val (.int T), .unset, .unset] [(.ref b1)])) (fun _ k => XS.aload X16.here hx rfl (hb hby at_94) rfl rfl k) ?_
        refine own_go (T' := T16) (g' := (mkF m 98 #[.val (.int i0), .val (.int i1), .val (.int i2), .val (.int i3), .val (.int i4), .val (.int i5), .val (.ref b1), .val (.int F), .val (.int T), .unset, .unset] [(.int F), (.ref b1)])) (fun _ k => XS.iload X16.here hx rfl (hb hby at_96) rfl k) ?_
        refine own_go (T' := T16) (g' := (mkF m 100 #[.val (.int i0), .val (.int i1), .val (.int i2), .val (.int i3), .val (.int i4), .val (.int i5), .val (.ref b1), .val (.int F), .val (.int T), .unset, .unset] [(.int T), (.int F), (.ref b1)])) (fun _ k => XS.iload X16.here hx rfl (hb hby at_98) rfl k) ?_
        refine own_go (T' := T16) (g' := (mkF m 101 #[.val (.int i0), .val (.int i1), .val (.int i2), .val (.int i3), .val (.int i4), .val (.int i5), .val (.ref b1), .val (.int F), .val (.int T), .unset, .unset] [(.int (3 : Int32)), (.int T), (.int F), (.ref b1)])) (fun _ k => XS.iconst X16.here hx rfl (hb hby at_100) k) ?_
        obtain ⟨_, _, ⟨T19, L19, k19, n19⟩, -, X19, ⟨Lc19, hQ19, l19, y19, z19⟩, st19⟩ := Jvm.LawKit.callS X16 hx (y := (⟨"com/example/carrier_name_resolver/carriernameresolver/card/CardBytesIsUnusedPinLaw", "okAt", "([BIII)Z"⟩ : MethodName)) hown (mvT hZ (hw _ (List.mem_of_getElem? (i := 6) rfl))) (mvT hZ (hw _ (List.mem_of_getElem? (i := 7) rfl))) (mvT hZ (hw _ (List.mem_of_getElem? (i := 3) rfl))) (mvT hZ (hw _ (List.mem_of_getElem? (i := 8) rfl))) (by decide) (backOf (W := 0) (own_rm2 l Z a0 hw [] b1 F T (3 : Int32) k1 _ _ _ _ _ h9 n0 Zs V_b1 (by decide) rfl) hZ (hw _ (List.mem_of_getElem? (i := 8) rfl)) (hw _ (List.mem_of_getElem? (i := 3) rfl)) (by decide) (by decide)) (g := (mkF m 101 #[.val (.int i0), .val (.int i1), .val (.int i2), .val (.int i3), .val (.int i4), .val (.int i5), .val (.ref b1), .val (.int F), .val (.int T), .unset, .unset] [(.int (3 : Int32)), (.int T), (.int F), (.ref b1)])) rfl (by rw [hml]; rfl) (argsL := [(.ref b1), (.int F), (.int T), (.int (3 : Int32))]) (rest := []) (lenOf own_pd0_1 rfl) rfl (by show 2 * 0 + _ ≤ _; exact Nat.le_of_eq rfl) (hb hby at_101) (fun _ _ => ⟨rfl, eq16, (by decide : 1 + 0 ≤ _), (by decide : 4 + 0 ≤ _)⟩)
        dsimp only [Pt.U, Pt.locs, Pt.cells, Pt.slots] at X19 l19 y19 z19 st19 hQ19
        subst l19 y19 z19
        obtain ⟨rfl, NQ19, eq19⟩ := hQ19
        have NF := Fr.app NF NQ19
        refine own_go (T' := T19) (g' := (mkF m 104 #[.val (.int i0), .val (.int i1), .val (.int i2), .val (.int i3), .val (.int i4), .val (.int i5), .val (.ref b1), .val (.int F), .val (.int T), .unset, .unset] [(.int (if (F.toInt ≤ (3 : Int32).toInt ∧ (3 : Int32).toInt < T.toInt → ((zz8.toInt8.toInt32)).toInt = -1) then (1 : Int32) else 0))])) (fun _ k => st19 _ k) ?_
        by_cases c20 : (if (F.toInt ≤ (3 : Int32).toInt ∧ (3 : Int32).toInt < T.toInt → ((zz8.toInt8.toInt32)).toInt = -1) then (1 : Int32) else 0) = (0 : Int32)
        · refine own_go (T' := T19) (g' := (mkF m 111 #[.val (.int i0), .val (.int i1), .val (.int i2), .val (.int i3), .val (.int i4), .val (.int i5), .val (.ref b1), .val (.int F), .val (.int T), .unset, .unset] [])) (fun _ k => XS.ifYes X19.here hx rfl (pc0 := 104) (pc' := 111) rfl (hb hby at_104) rfl ((if0 _ _).trans (teq c20).1) (by decide) (by decide) k) ?_
          refine own_go (T' := T19) (g' := (mkF m 112 #[.val (.int i0), .val (.int i1), .val (.int i2), .val (.int i3), .val (.int i4), .val (.int i5), .val (.ref b1), .val (.int F), .val (.int T), .unset, .unset] [(.int (0 : Int32))])) (fun _ k => XS.iconst X19.here hx rfl (hb hby at_111) k) ?_
          refine own_go (T' := T19) (g' := (mkF m 114 #[.val (.int i0), .val (.int i1), .val (.int i2), .val (.int i3), .val (.int i4), .val (.int i5), .val (.ref b1), .val (.int F), .val (.int T), .val (.int (0 : Int32)), .unset] [])) (fun _ k => XS.istore X19.here hx rfl (hb hby at_112) rfl (l' := #[.val (.int i0), .val (.int i1), .val (.int i2), .val (.int i3), .val (.int i4), .val (.int i5), .val (.ref b1), .val (.int F), .val (.int T), .val (.int (0 : Int32)), .unset]) rfl k) ?_
          refine own_go (T' := T19) (g' := (mkF m 116 #[.val (.int i0), .val (.int i1), .val (.int i2), .val (.int i3), .val (.int i4), .val (.int i5), .val (.ref b1), .val (.int F), .val (.int T), .val (.int (0 : Int32)), .unset] [(.ref b1)])) (fun _ k => XS.aload X19.here hx rfl (hb hby at_114) rfl rfl k) ?_
          refine own_go (T' := T19) (g' := (mkF m 118 #[.val (.int i0), .val (.int i1), .val (.int i2), .val (.int i3), .val (.int i4), .val (.int i5), .val (.ref b1), .val (.int F), .val (.int T), .val (.int (0 : Int32)), .unset] [(.int F), (.ref b1)])) (fun _ k => XS.iload X19.here hx rfl (hb hby at_116) rfl k) ?_
          refine own_go (T' := T19) (g' := (mkF m 120 #[.val (.int i0), .val (.int i1), .val (.int i2), .val (.int i3), .val (.int i4), .val (.int i5), .val (.ref b1), .val (.int F), .val (.int T), .val (.int (0 : Int32)), .unset] [(.int T), (.int F), (.ref b1)])) (fun _ k => XS.iload X19.here hx rfl (hb hby at_118) rfl k) ?_
          obtain ⟨_, _, ⟨T21, L21, k21, n21⟩, -, X21, ⟨Lc21, hQ21, l21, y21, z21⟩, st21⟩ := Jvm.LawKit.callS X19 hx (y := (⟨"com/example/carrier_name_resolver/carriernameresolver/card/CardBytes", "isUnused", "([BII)Z"⟩ : MethodName)) hown (mvT hZ (hw _ (List.mem_of_getElem? (i := 9) rfl))) (mvT hZ (hw _ (List.mem_of_getElem? (i := 10) rfl))) (mvT hZ (hw _ (List.mem_of_getElem? (i := 11) rfl))) (mvT hZ (hw _ (List.mem_of_getElem? (i := 12) rfl))) (by decide) (backOf (W := 0) (own_rm3 l Z a0 hw [] b1 F T k1 _ _ _ _ h9 n0 Zs V_b1 hft hB) hZ (hw _ (List.mem_of_getElem? (i := 12) rfl)) (hw _ (List.mem_of_getElem? (i := 11) rfl)) (by decide) (by decide)) (g := (mkF m 120 #[.val (.int i0), .val (.int i1), .val (.int i2), .val (.int i3), .val (.int i4), .val (.int i5), .val (.ref b1), .val (.int F), .val (.int T), .val (.int (0 : Int32)), .unset] [(.int T), (.int F), (.ref b1)])) rfl (by rw [hml]; rfl) (argsL := [(.ref b1), (.int F), (.int T)]) (rest := []) (lenOf own_pd0_2 rfl) rfl (by show 2 * 0 + _ ≤ _; exact Nat.le_of_eq rfl) (hb hby at_120) (fun _ _ => ⟨rfl, eq19, (by decide : 1 + 0 ≤ _), (by decide : 4 + 0 ≤ _)⟩)
          dsimp only [Pt.U, Pt.locs, Pt.cells, Pt.slots] at X21 l21 y21 z21 st21 hQ21
          subst l21 y21 z21
          obtain ⟨rfl, NQ21, eq21⟩ := hQ21
          have NF := Fr.app NF NQ21
          refine own_go (T' := T21) (g' := (mkF m 123 #[.val (.int i0), .val (.int i1), .val (.int i2), .val (.int i3), .val (.int i4), .val (.int i5), .val (.ref b1), .val (.int F), .val (.int T), .val (.int (0 : Int32)), .unset] [(.int (if ((F.toInt ≤ 0 ∧ 0 < T.toInt → ((zz2.toInt8.toInt32)).toInt = -1) ∧ (F.toInt ≤ 1 ∧ 1 < T.toInt → ((zz4.toInt8.toInt32)).toInt = -1) ∧ (F.toInt ≤ 2 ∧ 2 < T.toInt → ((zz6.toInt8.toInt32)).toInt = -1) ∧ (F.toInt ≤ 3 ∧ 3 < T.toInt → ((zz8.toInt8.toInt32)).toInt = -1)) then (1 : Int32) else 0))])) (fun _ k => st21 _ k) ?_
          refine own_go (T' := T21) (g' := (mkF m 125 #[.val (.int i0), .val (.int i1), .val (.int i2), .val (.int i3), .val (.int i4), .val (.int i5), .val (.ref b1), .val (.int F), .val (.int T), .val (.int (0 : Int32)), .val (.int (if ((F.toInt ≤ 0 ∧ 0 < T.toInt → ((zz2.toInt8.toInt32)).toInt = -1) ∧ (F.toInt ≤ 1 ∧ 1 < T.toInt → ((zz4.toInt8.toInt32)).toInt = -1) ∧ (F.toInt ≤ 2 ∧ 2 < T.toInt → ((zz6.toInt8.toInt32)).toInt = -1) ∧ (F.toInt ≤ 3 ∧ 3 < T.toInt → ((zz8.toInt8.toInt32)).toInt = -1)) then (1 : Int32) else 0))] [])) (fun _ k => XS.istore X21.here hx rfl (hb hby at_123) rfl (l' := #[.val (.int i0), .val (.int i1), .val (.int i2), .val (.int i3), .val (.int i4), .val (.int i5), .val (.ref b1), .val (.int F), .val (.int T), .val (.int (0 : Int32)), .val (.int (if ((F.toInt ≤ 0 ∧ 0 < T.toInt → ((zz2.toInt8.toInt32)).toInt = -1) ∧ (F.toInt ≤ 1 ∧ 1 < T.toInt → ((zz4.toInt8.toInt32)).toInt = -1) ∧ (F.toInt ≤ 2 ∧ 2 < T.toInt → ((zz6.toInt8.toInt32)).toInt = -1) ∧ (F.toInt ≤ 3 ∧ 3 < T.toInt → ((zz8.toInt8.toInt32)).toInt = -1)) then (1 : Int32) else 0))]) rfl k) ?_
          refine own_go (T' := T21) (g' := (mkF m 127 #[.val (.int i0), .val (.int i1), .val (.int i2), .val (.int i3), .val (.int i4), .val (.int i5), .val (.ref b1), .val (.int F), .val (.int T), .val (.int (0 : Int32)), .val (.int (if ((F.toInt ≤ 0 ∧ 0 < T.toInt → ((zz2.toInt8.toInt32)).toInt = -1) ∧ (F.toInt ≤ 1 ∧ 1 < T.toInt → ((zz4.toInt8.toInt32)).toInt = -1) ∧ (F.toInt ≤ 2 ∧ 2 < T.toInt → ((zz6.toInt8.toInt32)).toInt = -1) ∧ (F.toInt ≤ 3 ∧ 3 < T.toInt → ((zz8.toInt8.toInt32)).toInt = -1)) then (1 : Int32) else 0))] [(.int (if ((F.toInt ≤ 0 ∧ 0 < T.toInt → ((zz2.toInt8.toInt32)).toInt = -1) ∧ (F.toInt ≤ 1 ∧ 1 < T.toInt → ((zz4.toInt8.toInt32)).toInt = -1) ∧ (F.toInt ≤ 2 ∧ 2 < T.toInt → ((zz6.toInt8.toInt32)).toInt = -1) ∧ (F.toInt ≤ 3 ∧ 3 < T.toInt → ((zz8.toInt8.toInt32)).toInt = -1)) then (1 : Int32) else 0))])) (fun _ k => XS.iload X21.here hx rfl (hb hby at_125) rfl k) ?_
          refine own_go (T' := T21) (g' := (mkF m 129 #[.val (.int i0), .val (.int i1), .val (.int i2), .val (.int i3), .val (.int i4), .val (.int i5), .val (.ref b1), .val (.int F), .val (.int T), .val (.int (0 : Int32)), .val (.int (if ((F.toInt ≤ 0 ∧ 0 < T.toInt → ((zz2.toInt8.toInt32)).toInt = -1) ∧ (F.toInt ≤ 1 ∧ 1 < T.toInt → ((zz4.toInt8.toInt32)).toInt = -1) ∧ (F.toInt ≤ 2 ∧ 2 < T.toInt → ((zz6.toInt8.toInt32)).toInt = -1) ∧ (F.toInt ≤ 3 ∧ 3 < T.toInt → ((zz8.toInt8.toInt32)).toInt = -1)) then (1 : Int32) else 0))] [(.int (0 : Int32)), (.int (if ((F.toInt ≤ 0 ∧ 0 < T.toInt → ((zz2.toInt8.toInt32)).toInt = -1) ∧ (F.toInt ≤ 1 ∧ 1 < T.toInt → ((zz4.toInt8.toInt32)).toInt = -1) ∧ (F.toInt ≤ 2 ∧ 2 < T.toInt → ((zz6.toInt8.toInt32)).toInt = -1) ∧ (F.toInt ≤ 3 ∧ 3 < T.toInt → ((zz8.toInt8.toInt32)).toInt = -1)) then (1 : Int32) else 0))])) (fun _ k => XS.iload X21.here hx rfl (hb hby at_127) rfl k) ?_
          have hq : (if ((F.toInt ≤ 0 ∧ 0 < T.toInt → ((zz2.toInt8.toInt32)).toInt = -1) ∧ (F.toInt ≤ 1 ∧ 1 < T.toInt → ((zz4.toInt8.toInt32)).toInt = -1) ∧ (F.toInt ≤ 2 ∧ 2 < T.toInt → ((zz6.toInt8.toInt32)).toInt = -1) ∧ (F.toInt ≤ 3 ∧ 3 < T.toInt → ((zz8.toInt8.toInt32)).toInt = -1)) then (1 : Int32) else 0) = (0 : Int32) := by
            simp only [own_if1, own_if0, own_ln1, own_l0, own_l1, own_l2, own_l3, own_l4, own_l5, own_l255, own_l2147483647, Decidable.not_not] at c11 c14 c17 c20
            first | (rw [if_pos (by omega)]) | (rw [if_neg (by omega)])
          refine own_go (T' := T21) (g' := (mkF m 132 #[.val (.int i0), .val (.int i1), .val (.int i2), .val (.int i3), .val (.int i4), .val (.int i5), .val (.ref b1), .val (.int F), .val (.int T), .val (.int (0 : Int32)), .val (.int (if ((F.toInt ≤ 0 ∧ 0 < T.toInt → ((zz2.toInt8.toInt32)).toInt = -1) ∧ (F.toInt ≤ 1 ∧ 1 < T.toInt → ((zz4.toInt8.toInt32)).toInt = -1) ∧ (F.toInt ≤ 2 ∧ 2 < T.toInt → ((zz6.toInt8.toInt32)).toInt = -1) ∧ (F.toInt ≤ 3 ∧ 3 < T.toInt → ((zz8.toInt8.toInt32)).toInt = -1)) then (1 : Int32) else 0))] [])) (fun _ k => XS.icmpNo X21.here hx rfl (hb hby at_129) rfl (teq hq).2 k) ?_
          refine own_go (T' := T21) (g' := (mkF m 133 #[.val (.int i0), .val (.int i1), .val (.int i2), .val (.int i3), .val (.int i4), .val (.int i5), .val (.ref b1), .val (.int F), .val (.int T), .val (.int (0 : Int32)), .val (.int (if ((F.toInt ≤ 0 ∧ 0 < T.toInt → ((zz2.toInt8.toInt32)).toInt = -1) ∧ (F.toInt ≤ 1 ∧ 1 < T.toInt → ((zz4.toInt8.toInt32)).toInt = -1) ∧ (F.toInt ≤ 2 ∧ 2 < T.toInt → ((zz6.toInt8.toInt32)).toInt = -1) ∧ (F.toInt ≤ 3 ∧ 3 < T.toInt → ((zz8.toInt8.toInt32)).toInt = -1)) then (1 : Int32) else 0))] [(.int (1 : Int32))])) (fun _ k => XS.iconst X21.here hx rfl (hb hby at_132) k) ?_
          refine own_go (T' := T21) (g' := (mkF m 137 #[.val (.int i0), .val (.int i1), .val (.int i2), .val (.int i3), .val (.int i4), .val (.int i5), .val (.ref b1), .val (.int F), .val (.int T), .val (.int (0 : Int32)), .val (.int (if ((F.toInt ≤ 0 ∧ 0 < T.toInt → ((zz2.toInt8.toInt32)).toInt = -1) ∧ (F.toInt ≤ 1 ∧ 1 < T.toInt → ((zz4.toInt8.toInt32)).toInt = -1) ∧ (F.toInt ≤ 2 ∧ 2 < T.toInt → ((zz6.toInt8.toInt32)).toInt = -1) ∧ (F.toInt ≤ 3 ∧ 3 < T.toInt → ((zz8.toInt8.toInt32)).toInt = -1)) then (1 : Int32) else 0))] [(.int (1 : Int32))])) (fun _ k => XS.goto X21.here hx rfl (pc0 := 133) (pc' := 137) rfl (hb hby at_133) (by decide) (by decide) k) ?_
          refine own_ret X21 Bd.notSynchronized (some (.int (1 : Int32))) (fun h => by rw [Bd.returns] at h; cases h) (fun fs hr => retN X21 hx (t := .boolean) Bd.returns (by simp) (hb hby at_137) hr) ?_ (by decide) (by decide)
          show (own_Q0 Z i0 i1 i2 i3 i4 i5 h0 n0) (some (.int (1 : Int32))) T21.heap _
          rw [eq21]
          exact ⟨rfl, NF⟩
        · refine own_go (T' := T19) (g' := (mkF m 107 #[.val (.int i0), .val (.int i1), .val (.int i2), .val (.int i3), .val (.int i4), .val (.int i5), .val (.ref b1), .val (.int F), .val (.int T), .unset, .unset] [])) (fun _ k => XS.ifNo X19.here hx rfl (hb hby at_104) rfl ((if0 _ _).trans (feq c20).1) k) ?_
          refine own_go (T' := T19) (g' := (mkF m 108 #[.val (.int i0), .val (.int i1), .val (.int i2), .val (.int i3), .val (.int i4), .val (.int i5), .val (.ref b1), .val (.int F), .val (.int T), .unset, .unset] [(.int (1 : Int32))])) (fun _ k => XS.iconst X19.here hx rfl (hb hby at_107) k) ?_
          refine own_go (T' := T19) (g' := (mkF m 112 #[.val (.int i0), .val (.int i1), .val (.int i2), .val (.int i3), .val (.int i4), .val (.int i5), .val (.ref b1), .val (.int F), .val (.int T), .unset, .unset] [(.int (1 : Int32))])) (fun _ k => XS.goto X19.here hx rfl (pc0 := 108) (pc' := 112) rfl (hb hby at_108) (by decide) (by decide) k) ?_
          refine own_go (T' := T19) (g' := (mkF m 114 #[.val (.int i0), .val (.int i1), .val (.int i2), .val (.int i3), .val (.int i4), .val (.int i5), .val (.ref b1), .val (.int F), .val (.int T), .val (.int (1 : Int32)), .unset] [])) (fun _ k => XS.istore X19.here hx rfl (hb hby at_112) rfl (l' := #[.val (.int i0), .val (.int i1), .val (.int i2), .val (.int i3), .val (.int i4), .val (.int i5), .val (.ref b1), .val (.int F), .val (.int T), .val (.int (1 : Int32)), .unset]) rfl k) ?_
          refine own_go (T' := T19) (g' := (mkF m 116 #[.val (.int i0), .val (.int i1), .val (.int i2), .val (.int i3), .val (.int i4), .val (.int i5), .val (.ref b1), .val (.int F), .val (.int T), .val (.int (1 : Int32)), .unset] [(.ref b1)])) (fun _ k => XS.aload X19.here hx rfl (hb hby at_114) rfl rfl k) ?_
          refine own_go (T' := T19) (g' := (mkF m 118 #[.val (.int i0), .val (.int i1), .val (.int i2), .val (.int i3), .val (.int i4), .val (.int i5), .val (.ref b1), .val (.int F), .val (.int T), .val (.int (1 : Int32)), .unset] [(.int F), (.ref b1)])) (fun _ k => XS.iload X19.here hx rfl (hb hby at_116) rfl k) ?_
          refine own_go (T' := T19) (g' := (mkF m 120 #[.val (.int i0), .val (.int i1), .val (.int i2), .val (.int i3), .val (.int i4), .val (.int i5), .val (.ref b1), .val (.int F), .val (.int T), .val (.int (1 : Int32)), .unset] [(.int T), (.int F), (.ref b1)])) (fun _ k => XS.iload X19.here hx rfl (hb hby at_118) rfl k) ?_
          obtain ⟨_, _, ⟨T22, L22, k22, n22⟩, -, X22, ⟨Lc22, hQ22, l22, y22, z22⟩, st22⟩ := Jvm.LawKit.callS X19 hx (y := (⟨"com/example/carrier_name_resolver/carriernameresolver/card/CardBytes", "isUnused", "([BII)Z"⟩ : MethodName)) hown (mvT hZ (hw _ (List.mem_of_getElem? (i := 9) rfl))) (mvT hZ (hw _ (List.mem_of_getElem? (i := 10) rfl))) (mvT hZ (hw _ (List.mem_of_getElem? (i := 11) rfl))) (mvT hZ (hw _ (List.mem_of_getElem? (i := 12) rfl))) (by decide) (backOf (W := 0) (own_rm3 l Z a0 hw [] b1 F T k1 _ _ _ _ h9 n0 Zs V_b1 hft hB) hZ (hw _ (List.mem_of_getElem? (i := 12) rfl)) (hw _ (List.mem_of_getElem? (i := 11) rfl)) (by decide) (by decide)) (g := (mkF m 120 #[.val (.int i0), .val (.int i1), .val (.int i2), .val (.int i3), .val (.int i4), .val (.int i5), .val (.ref b1), .val (.int F), .val (.int T), .val (.int (1 : Int32)), .unset] [(.int T), (.int F), (.ref b1)])) rfl (by rw [hml]; rfl) (argsL := [(.ref b1), (.int F), (.int T)]) (rest := []) (lenOf own_pd0_2 rfl) rfl (by show 2 * 0 + _ ≤ _; exact Nat.le_of_eq rfl) (hb hby at_120) (fun _ _ => ⟨rfl, eq19, (by decide : 1 + 0 ≤ _), (by decide : 4 + 0 ≤ _)⟩)
          dsimp only [Pt.U, Pt.locs, Pt.cells, Pt.slots] at X22 l22 y22 z22 st22 hQ22
          subst l22 y22 z22
          obtain ⟨rfl, NQ22, eq22⟩ := hQ22
          have NF := Fr.app NF NQ22
          refine own_go (T' := T22) (g' := (mkF m 123 #[.val (.int i0), .val (.int i1), .val (.int i2), .val (.int i3), .val (.int i4), .val (.int i5), .val (.ref b1), .val (.int F), .val (.int T), .val (.int (1 : Int32)), .unset] [(.int (if ((F.toInt ≤ 0 ∧ 0 < T.toInt → ((zz2.toInt8.toInt32)).toInt = -1) ∧ (F.toInt ≤ 1 ∧ 1 < T.toInt → ((zz4.toInt8.toInt32)).toInt = -1) ∧ (F.toInt ≤ 2 ∧ 2 < T.toInt → ((zz6.toInt8.toInt32)).toInt = -1) ∧ (F.toInt ≤ 3 ∧ 3 < T.toInt → ((zz8.toInt8.toInt32)).toInt = -1)) then (1 : Int32) else 0))])) (fun _ k => st22 _ k) ?_
          refine own_go (T' := T22) (g' := (mkF m 125 #[.val (.int i0), .val (.int i1), .val (.int i2), .val (.int i3), .val (.int i4), .val (.int i5), .val (.ref b1), .val (.int F), .val (.int T), .val (.int (1 : Int32)), .val (.int (if ((F.toInt ≤ 0 ∧ 0 < T.toInt → ((zz2.toInt8.toInt32)).toInt = -1) ∧ (F.toInt ≤ 1 ∧ 1 < T.toInt → ((zz4.toInt8.toInt32)).toInt = -1) ∧ (F.toInt ≤ 2 ∧ 2 < T.toInt → ((zz6.toInt8.toInt32)).toInt = -1) ∧ (F.toInt ≤ 3 ∧ 3 < T.toInt → ((zz8.toInt8.toInt32)).toInt = -1)) then (1 : Int32) else 0))] [])) (fun _ k => XS.istore X22.here hx rfl (hb hby at_123) rfl (l' := #[.val (.int i0), .val (.int i1), .val (.int i2), .val (.int i3), .val (.int i4), .val (.int i5), .val (.ref b1), .val (.int F), .val (.int T), .val (.int (1 : Int32)), .val (.int (if ((F.toInt ≤ 0 ∧ 0 < T.toInt → ((zz2.toInt8.toInt32)).toInt = -1) ∧ (F.toInt ≤ 1 ∧ 1 < T.toInt → ((zz4.toInt8.toInt32)).toInt = -1) ∧ (F.toInt ≤ 2 ∧ 2 < T.toInt → ((zz6.toInt8.toInt32)).toInt = -1) ∧ (F.toInt ≤ 3 ∧ 3 < T.toInt → ((zz8.toInt8.toInt32)).toInt = -1)) then (1 : Int32) else 0))]) rfl k) ?_
          refine own_go (T' := T22) (g' := (mkF m 127 #[.val (.int i0), .val (.int i1), .val (.int i2), .val (.int i3), .val (.int i4), .val (.int i5), .val (.ref b1), .val (.int F), .val (.int T), .val (.int (1 : Int32)), .val (.int (if ((F.toInt ≤ 0 ∧ 0 < T.toInt → ((zz2.toInt8.toInt32)).toInt = -1) ∧ (F.toInt ≤ 1 ∧ 1 < T.toInt → ((zz4.toInt8.toInt32)).toInt = -1) ∧ (F.toInt ≤ 2 ∧ 2 < T.toInt → ((zz6.toInt8.toInt32)).toInt = -1) ∧ (F.toInt ≤ 3 ∧ 3 < T.toInt → ((zz8.toInt8.toInt32)).toInt = -1)) then (1 : Int32) else 0))] [(.int (if ((F.toInt ≤ 0 ∧ 0 < T.toInt → ((zz2.toInt8.toInt32)).toInt = -1) ∧ (F.toInt ≤ 1 ∧ 1 < T.toInt → ((zz4.toInt8.toInt32)).toInt = -1) ∧ (F.toInt ≤ 2 ∧ 2 < T.toInt → ((zz6.toInt8.toInt32)).toInt = -1) ∧ (F.toInt ≤ 3 ∧ 3 < T.toInt → ((zz8.toInt8.toInt32)).toInt = -1)) then (1 : Int32) else 0))])) (fun _ k => XS.iload X22.here hx rfl (hb hby at_125) rfl k) ?_
          refine own_go (T' := T22) (g' := (mkF m 129 #[.val (.int i0), .val (.int i1), .val (.int i2), .val (.int i3), .val (.int i4), .val (.int i5), .val (.ref b1), .val (.int F), .val (.int T), .val (.int (1 : Int32)), .val (.int (if ((F.toInt ≤ 0 ∧ 0 < T.toInt → ((zz2.toInt8.toInt32)).toInt = -1) ∧ (F.toInt ≤ 1 ∧ 1 < T.toInt → ((zz4.toInt8.toInt32)).toInt = -1) ∧ (F.toInt ≤ 2 ∧ 2 < T.toInt → ((zz6.toInt8.toInt32)).toInt = -1) ∧ (F.toInt ≤ 3 ∧ 3 < T.toInt → ((zz8.toInt8.toInt32)).toInt = -1)) then (1 : Int32) else 0))] [(.int (1 : Int32)), (.int (if ((F.toInt ≤ 0 ∧ 0 < T.toInt → ((zz2.toInt8.toInt32)).toInt = -1) ∧ (F.toInt ≤ 1 ∧ 1 < T.toInt → ((zz4.toInt8.toInt32)).toInt = -1) ∧ (F.toInt ≤ 2 ∧ 2 < T.toInt → ((zz6.toInt8.toInt32)).toInt = -1) ∧ (F.toInt ≤ 3 ∧ 3 < T.toInt → ((zz8.toInt8.toInt32)).toInt = -1)) then (1 : Int32) else 0))])) (fun _ k => XS.iload X22.here hx rfl (hb hby at_127) rfl k) ?_
          have hq : (if ((F.toInt ≤ 0 ∧ 0 < T.toInt → ((zz2.toInt8.toInt32)).toInt = -1) ∧ (F.toInt ≤ 1 ∧ 1 < T.toInt → ((zz4.toInt8.toInt32)).toInt = -1) ∧ (F.toInt ≤ 2 ∧ 2 < T.toInt → ((zz6.toInt8.toInt32)).toInt = -1) ∧ (F.toInt ≤ 3 ∧ 3 < T.toInt → ((zz8.toInt8.toInt32)).toInt = -1)) then (1 : Int32) else 0) = (1 : Int32) := by
            simp only [own_if1, own_if0, own_ln1, own_l0, own_l1, own_l2, own_l3, own_l4, own_l5, own_l255, own_l2147483647, Decidable.not_not] at c11 c14 c17 c20
            first | (rw [if_pos (by omega)]) | (rw [if_neg (by omega)])
          refine own_go (T' := T22) (g' := (mkF m 132 #[.val (.int i0), .val (.int i1), .val (.int i2), .val (.int i3), .val (.int i4), .val (.int i5), .val (.ref b1), .val (.int F), .val (.int T), .val (.int (1 : Int32)), .val (.int (if ((F.toInt ≤ 0 ∧ 0 < T.toInt → ((zz2.toInt8.toInt32)).toInt = -1) ∧ (F.toInt ≤ 1 ∧ 1 < T.toInt → ((zz4.toInt8.toInt32)).toInt = -1) ∧ (F.toInt ≤ 2 ∧ 2 < T.toInt → ((zz6.toInt8.toInt32)).toInt = -1) ∧ (F.toInt ≤ 3 ∧ 3 < T.toInt → ((zz8.toInt8.toInt32)).toInt = -1)) then (1 : Int32) else 0))] [])) (fun _ k => XS.icmpNo X22.here hx rfl (hb hby at_129) rfl (teq hq).2 k) ?_
          refine own_go (T' := T22) (g' := (mkF m 133 #[.val (.int i0), .val (.int i1), .val (.int i2), .val (.int i3), .val (.int i4), .val (.int i5), .val (.ref b1), .val (.int F), .val (.int T), .val (.int (1 : Int32)), .val (.int (if ((F.toInt ≤ 0 ∧ 0 < T.toInt → ((zz2.toInt8.toInt32)).toInt = -1) ∧ (F.toInt ≤ 1 ∧ 1 < T.toInt → ((zz4.toInt8.toInt32)).toInt = -1) ∧ (F.toInt ≤ 2 ∧ 2 < T.toInt → ((zz6.toInt8.toInt32)).toInt = -1) ∧ (F.toInt ≤ 3 ∧ 3 < T.toInt → ((zz8.toInt8.toInt32)).toInt = -1)) then (1 : Int32) else 0))] [(.int (1 : Int32))])) (fun _ k => XS.iconst X22.here hx rfl (hb hby at_132) k) ?_
          refine own_go (T' := T22) (g' := (mkF m 137 #[.val (.int i0), .val (.int i1), .val (.int i2), .val (.int i3), .val (.int i4), .val (.int i5), .val (.ref b1), .val (.int F), .val (.int T), .val (.int (1 : Int32)), .val (.int (if ((F.toInt ≤ 0 ∧ 0 < T.toInt → ((zz2.toInt8.toInt32)).toInt = -1) ∧ (F.toInt ≤ 1 ∧ 1 < T.toInt → ((zz4.toInt8.toInt32)).toInt = -1) ∧ (F.toInt ≤ 2 ∧ 2 < T.toInt → ((zz6.toInt8.toInt32)).toInt = -1) ∧ (F.toInt ≤ 3 ∧ 3 < T.toInt → ((zz8.toInt8.toInt32)).toInt = -1)) then (1 : Int32) else 0))] [(.int (1 : Int32))])) (fun _ k => XS.goto X22.here hx rfl (pc0 := 133) (pc' := 137) rfl (hb hby at_133) (by decide) (by decide) k) ?_
          refine own_ret X22 Bd.notSynchronized (some (.int (1 : Int32))) (fun h => by rw [Bd.returns] at h; cases h) (fun fs hr => retN X22 hx (t := .boolean) Bd.returns (by simp) (hb hby at_137) hr) ?_ (by decide) (by decide)
          show (own_Q0 Z i0 i1 i2 i3 i4 i5 h0 n0) (some (.int (1 : Int32))) T22.heap _
          rw [eq22]
          exact ⟨rfl, NF⟩
set_option maxRecDepth 65536 in
set_option maxHeartbeats 40000000 in
theorem own_comes {Post : Tables → Env → Array Value → State → Outcome → State → Prop} (hpost : ∀ tb e args s v u, (limb_1_1.after args s (.returned v) u = true ∧ limb_1_2.after args s (.returned v) u = true ∧ True) → FrameEnd s (.returned v) u (Jvm.fieldLocs frame_1_writes args s ++ Jvm.arrayLocs frame_1_arrays args s ++ Jvm.staticLocs frame_1_statics s) 16 128 → Post tb e args s (.returned v) u) :
    ArmFor flags0 classFile x code maxLocals ret World_1 tables_1 room_1 Calls_1 rest_1 Pre_1 Post := by
  intro l hfl _ _ p e ha hc hk s m args below hf hA hF happ hP
  obtain ⟨hcalls, hrest, hpre⟩ := hP
  obtain ⟨-, -, -, hnamed, -, -, -, hat⟩ := (Spec.applies_iff hf).mp happ
  obtain ⟨hg, hn⟩ := and_e (Cond.before_iff.mp (show (Jvm.Cond.and given_1 narrow_1).before args s = true from hpre))
  obtain ⟨gg1, gg2⟩ := and_e hg
  obtain ⟨gg3, gg4⟩ := and_e gg2
  obtain ⟨gg5, gg6⟩ := and_e gg4
  obtain ⟨gg7, gg8⟩ := and_e gg6
  obtain ⟨gg9, gg10⟩ := and_e gg8
  obtain ⟨gg11, gg12⟩ := and_e gg10
  obtain ⟨w0, w1, w2, w3, w4, w5, rfl⟩ : ∃ w0 w1 w2 w3 w4 w5 : Value, args = #[w0, w1, w2, w3, w4, w5] := by
    have hs : args.size = 6 := by simpa [Cond.value, given_1] using gg1
    obtain ⟨L⟩ := args
    match L, hs with
    | [w0, w1, w2, w3, w4, w5], _ => exact ⟨w0, w1, w2, w3, w4, w5, rfl⟩
  have hw := fun d (hd : d ∈ tables_1) => atoms_spec (ws := Jvm.Cond.code x code maxLocals ret :: tables_1) hat d (List.mem_cons_of_mem _ hd)
  have hfit : Fit s := fun {y c} hc i hi => by
    obtain ⟨ha, rfl⟩ := Array.getElem?_eq_some_iff.mp hc
    have q := List.all_eq_true.mp ((Array.all_eq_true_iff_forall_mem.mp hF) _ (Array.getElem_mem ha)) i (List.mem_range.mpr hi)
    simpa [Array.getElem?_eq_getElem hi] using q
  obtain ⟨i0, ei0⟩ := is_v gg3
  obtain rfl : w0 = (.int i0) := Option.some.inj ei0
  obtain ⟨i1, ei1⟩ := is_v gg5
  obtain rfl : w1 = (.int i1) := Option.some.inj ei1
  obtain ⟨i2, ei2⟩ := is_v gg7
  obtain rfl : w2 = (.int i2) := Option.some.inj ei2
  obtain ⟨i3, ei3⟩ := is_v gg9
  obtain rfl : w3 = (.int i3) := Option.some.inj ei3
  obtain ⟨i4, ei4⟩ := is_v gg11
  obtain rfl : w4 = (.int i4) := Option.some.inj ei4
  obtain ⟨i5, ei5⟩ := is_v gg12
  obtain rfl : w5 = (.int i5) := Option.some.inj ei5
  obtain ⟨n, o, h1, h2, h3, _, L, rfl, ⟨rfl, N⟩, hq⟩ := own_rm0 l s _ hw tables_1 i0 i1 i2 i3 i4 i5 s.heap s.heap.size (Nat.le_refl _)  p e ha hc hk s m _ below hf ((Spec.applies_iff_loose hf).mp happ).1 ⟨rfl, State.Warmed39.refl s, rfl⟩ trivial
  refine ⟨n, _, h1, h2, h3, hpost _ _ _ _ _ _ ⟨Cond.after_iff.mpr rfl, Cond.after_iff.mpr (eq_i res_at (Term.int_eval (1)) rfl), trivial⟩ ⟨hq.1, hq.2.1, (hq.2.2.sift fun y hy => Or.inr (N y hy)).mono (by decide) (by decide)⟩⟩
theorem main_1_1 : Claimed_1_1 := own_comes fun _ _ _ _ _ _ h hF => ⟨h.1, hF⟩
theorem main_1_2 : Claimed_1_2 := own_comes fun _ _ _ _ _ _ h hF => ⟨h.2.1, hF⟩
end Jvm.Pilot.@@N@@
namespace Jvm.Pilot.@@N@@
open Jvm Jvm.ClassFile Sem Op Lib Jvm.Free Jvm.Stand Jvm.Pilot.@@N@@.Jvm.D
/-! MADE BY PROGRAM (witnessworld.py) out of the Statement's table words and the real class files: 9 classes; the members and pool entries that the words name. The judged class is class 1, her method 3. -/
namespace start1
open Jvm.ClassFile
def u (s : String) : CpInfo := .utf8 (stringToUtf16 s)
/-- a pool by its gaps: so many unusable entries, then the entry; so many at the end -/
def gap : Nat → List CpInfo → List CpInfo
  | 0, r => r
  | n + 1, r => .unusable :: gap n r
def poolList (es : List (Nat × CpInfo)) (last : Nat) : List CpInfo := es.foldr (fun e r => gap e.1 (e.2 :: r)) (gap last [])
def pool (es : List (Nat × CpInfo)) (last : Nat) : Array CpInfo := ⟨poolList es last⟩
def fileOf (pool : Array CpInfo) (this : Nat) (attrs : Array Attribute := #[]) (ms : Array MethodInfo := #[]) (fl : Nat := 33) (sup : Nat := 0) (ifs : Array Nat := #[]) (fds : Array FieldInfo := #[]) : ClassFile where
  minorVersion := 0
  majorVersion := 65
  constantPool := pool
  accessFlags := fl
  thisClass := this
  superClass := sup
  interfaces := ifs
  fields := fds
  methods := ms
  attributes := attrs
def plain (name : String) (sup : Option ClassId) : Class where
  name := name
  kind := .ordinary
  loader := none
  accessFlags := 33
  super := sup
  interfaces := #[]
  cf := none
  fields := #[]
  methods := #[]
  instanceTypes := #[]
  staticTypes := #[]
  resolved := #[]
  callSites := []
  init := .initialized
  statics := none
  mirror := none

def pool0 : Array CpInfo := pool [(5, u "<init>"), (0, u "()V"), (1, .class_ 10), (1, u "java/lang/Object")] 113

def k0m0 : Method := { name := "<init>", desc := "()V", sig := { parameters := [], returnType := none }, accessFlags := 1, code := none }
/-- java/lang/Object -/
def k0 : Class := { plain "java/lang/Object" none with
  accessFlags := 33
  interfaces := #[]
  cf := some (fileOf pool0 8 #[] #[{ accessFlags := 1, nameIndex := 5, descriptorIndex := 6, attributes := #[] }] 33 0 #[] #[])
  fields := #[]
  methods := #[k0m0]
  instanceTypes := #[]
  staticTypes := #[]
  resolved := Array.replicate 124 none
  statics := none }

def pool1 : Array CpInfo := pool [(2, .class_ 4), (1, u "java/lang/Object"), (0, u "<init>"), (0, u "()V"), (0, .methodref 8 9), (0, .class_ 10), (0, .nameAndType 11 12), (0, u "com/example/carrier_name_resolver/carriernameresolver/card/CardBytesIsUnusedPinLaw"), (0, u "byteOf"), (0, u "(I)B"), (0, .integer 2147483647), (0, .methodref 8 15), (0, .nameAndType 16 17), (0, u "okAt"), (0, u "([BIII)Z"), (0, .methodref 19 20), (0, .class_ 21), (0, .nameAndType 22 23), (0, u "com/example/carrier_name_resolver/carriernameresolver/card/CardBytes"), (0, u "isUnused"), (0, u "([BII)Z"), (3, u "law"), (0, u "(IIIIII)Z")] 4

def k1m0 : Method := { name := "<init>", desc := "()V", sig := { parameters := [], returnType := none }, accessFlags := 2, code := none }
def k1c1 : Code := { maxStack := 2, maxLocals := 1, code := method_2_code, exceptionTable := #[], attributes := #[] }
def k1m1 : Method := { name := "byteOf", desc := "(I)B", sig := { parameters := [.int], returnType := some .byte }, accessFlags := 10, code := some k1c1 }
def k1c2 : Code := { maxStack := 2, maxLocals := 4, code := method_3_code, exceptionTable := #[], attributes := #[] }
def k1m2 : Method := { name := "okAt", desc := "([BIII)Z", sig := { parameters := [(.array .byte), .int, .int, .int], returnType := some .boolean }, accessFlags := 10, code := some k1c2 }
def k1c3 : Code := { maxStack := 4, maxLocals := 11, code := code, exceptionTable := #[], attributes := #[] }
def k1m3 : Method := { name := "law", desc := "(IIIIII)Z", sig := { parameters := [.int, .int, .int, .int, .int, .int], returnType := some .boolean }, accessFlags := 9, code := some k1c3 }
/-- com/example/carrier_name_resolver/carriernameresolver/card/CardBytesIsUnusedPinLaw -/
def k1 : Class := { plain "com/example/carrier_name_resolver/carriernameresolver/card/CardBytesIsUnusedPinLaw" (some 0) with
  accessFlags := 49
  interfaces := #[]
  cf := some (fileOf pool1 8 #[] #[{ accessFlags := 2, nameIndex := 5, descriptorIndex := 6, attributes := #[] }, { accessFlags := 10, nameIndex := 11, descriptorIndex := 12, attributes := #[] }, { accessFlags := 10, nameIndex := 16, descriptorIndex := 17, attributes := #[] }, { accessFlags := 9, nameIndex := 27, descriptorIndex := 28, attributes := #[] }] 49 2 #[] #[])
  fields := #[]
  methods := #[k1m0, k1m1, k1m2, k1m3]
  instanceTypes := #[]
  staticTypes := #[]
  resolved := Array.replicate 33 none
  statics := none }

def pool2 : Array CpInfo := pool [(2, .class_ 4), (1, u "java/lang/Object"), (0, u "<init>"), (0, u "()V"), (0, .class_ 8), (0, u "com/example/carrier_name_resolver/carriernameresolver/card/CardBytes"), (0, u "UNUSED"), (0, u "I"), (4, u "isUnused"), (0, u "([BII)Z")] 7

def k2m0 : Method := { name := "<init>", desc := "()V", sig := { parameters := [], returnType := none }, accessFlags := 2, code := none }
def k2c1 : Code := { maxStack := 3, maxLocals := 5, code := prog_7_method_2_code, exceptionTable := #[], attributes := #[] }
def k2m1 : Method := { name := "isUnused", desc := "([BII)Z", sig := { parameters := [(.array .byte), .int, .int], returnType := some .boolean }, accessFlags := 8, code := some k2c1 }
/-- com/example/carrier_name_resolver/carriernameresolver/card/CardBytes -/
def k2 : Class := { plain "com/example/carrier_name_resolver/carriernameresolver/card/CardBytes" (some 0) with
  accessFlags := 32
  interfaces := #[]
  cf := some (fileOf pool2 7 #[] #[{ accessFlags := 2, nameIndex := 5, descriptorIndex := 6, attributes := #[] }, { accessFlags := 8, nameIndex := 15, descriptorIndex := 16, attributes := #[] }] 32 2 #[] #[{ accessFlags := 26, nameIndex := 9, descriptorIndex := 10, attributes := #[] }])
  fields := #[{ name := "UNUSED", type := .int, accessFlags := 26, slot := 0, constantValue := 0 }]
  methods := #[k2m0, k2m1]
  instanceTypes := #[]
  staticTypes := #[.int]
  resolved := Array.replicate 24 none
  statics := none }

def pool3 : Array CpInfo := pool [(1, u "java/lang/Cloneable"), (0, .class_ 1), (0, u "java/lang/Object"), (0, .class_ 3)] 3

/-- java/lang/Cloneable -/
def k3 : Class := { plain "java/lang/Cloneable" (some 0) with
  accessFlags := 1537
  interfaces := #[]
  cf := some (fileOf pool3 2 #[] #[] 1537 4 #[] #[])
  fields := #[]
  methods := #[]
  instanceTypes := #[]
  staticTypes := #[]
  resolved := Array.replicate 8 none
  statics := none }

def pool4 : Array CpInfo := pool [(1, u "java/io/Serializable"), (0, .class_ 1), (0, u "java/lang/Object"), (0, .class_ 3)] 3

/-- java/io/Serializable -/
def k4 : Class := { plain "java/io/Serializable" (some 0) with
  accessFlags := 1537
  interfaces := #[]
  cf := some (fileOf pool4 2 #[] #[] 1537 4 #[] #[])
  fields := #[]
  methods := #[]
  instanceTypes := #[]
  staticTypes := #[]
  resolved := Array.replicate 8 none
  statics := none }

/-- the primitive byte -/
def k5 : Class := { plain "byte" none with kind := .primitive 'B', accessFlags := 0x411 }
/-- [B -/
def k6 : Class := { plain "[B" (some 0) with kind := .array 5 .byte, interfaces := #[3, 4], accessFlags := 1041 }

/-- the primitive int -/
def k7 : Class := { plain "int" none with kind := .primitive 'I', accessFlags := 0x411 }
/-- [I -/
def k8 : Class := { plain "[I" (some 0) with kind := .array 7 .int, interfaces := #[3, 4], accessFlags := 1041 }

def heap : Heap := #[]
def classes : Array Class := #[k0, k1, k2, k3, k4, k5, k6, k7, k8]
def interned : List (Array UInt16 × Addr) := []
def slotsUsed : Nat := 0
def theMethod : MethodId := ⟨1, 3⟩
def args0 : Array Value := #[.int 0, .int 1, .int 2, .int 3, .int 4, .int 5]
def aboutOver (below : List Frame) : State where
  vm := { classes := classes, interned := interned.toArray }
  heap := heap
  slotsUsed := slotsUsed
  threads := #[{ frames := .invoking theMethod args0 :: below }]
def below0 : List Frame := [.native { method := ⟨0, 0⟩, args := #[] }]
def about1 : State := aboutOver below0
def p0 : Program := .bare "" "" ""
def e0 : Env := launch0.env 0 0 0
theorem w_frames : about1.frames = Frame.invoking theMethod args0 :: below0 := rfl
set_option maxRecDepth 65536 in
theorem w_args : argsFit about1.vm theMethod args0 = true := by decide +kernel
set_option maxRecDepth 65536 in
theorem w_heap : heapFits about1 = true := by decide +kernel
set_option maxRecDepth 65536 in
theorem w_runnable : about1.curStatus? = some .runnable := by decide +kernel
set_option maxRecDepth 65536 in
theorem w_alone : about1.alone = true := by decide +kernel
set_option maxRecDepth 65536 in
theorem w_named : about1.methodNamed? x = some theMethod := by decide +kernel
set_option maxRecDepth 65536 in
theorem w_hears : about1.hears theMethod below0 = true := by decide +kernel
set_option maxRecDepth 65536 in
theorem w_ripe : about1.ripe theMethod args0 below0 = true := by decide +kernel
theorem w_running : about1.status = .running := rfl
set_option maxRecDepth 65536 in
theorem w_room : about1.hasRoom e0.platform room_1 = true :=
  launch0.hasRoom_least _ room_1 (by decide +kernel) (by decide +kernel) (by decide +kernel) (by decide +kernel) (by decide +kernel) (by decide +kernel)
theorem allAtoms_all (ts : List Jvm.Cond) (a : Array Jvm.Value) (st : Jvm.State) : (allAtoms ts).before a st = ts.all (fun c => c.before a st) := by
  induction ts with
  | nil => rfl
  | cons c t ih =>
    show (Jvm.Cond.and c (allAtoms t)).before a st = _
    rw [Jvm.Cond.before_and, ih, List.all_cons]
def words1 : List Jvm.Cond := Jvm.Cond.code x code maxLocals ret :: tables_1
/-- a 'code' word, met by the world's own term for the bytes: nothing is compared byte by byte -/
theorem code_word {y : MethodName} {bytes : ByteArray} {mx : Nat} {rt : Option FieldType} {a : Array Value} {s : State} {m : MethodId} {meth : Method} {c : Code} (h1 : s.methodNamed? y = some m) (h2 : s.vm.method? m = some meth) (h3 : meth.code = some c) (h4 : c.code = bytes)
    (h5 : (c.maxLocals == mx && c.exceptionTable.isEmpty && decide (c.maxStack ≤ mostOperands) && decide (meth.sig.returnType = rt) && !meth.locks && decide (parseMethodDescriptor y.desc = some meth.sig)) = true) : (Jvm.Cond.code y bytes mx rt).before a s = true := by
  simp only [Bool.and_eq_true, beq_iff_eq, Bool.not_eq_true', decide_eq_true_eq] at h5
  obtain ⟨⟨⟨⟨⟨g1, g2⟩, g3⟩, g4⟩, g5⟩, g6⟩ := h5
  simp [Cond.before, Cond.holds, Cond.value, h1, h2, h3, h4, g1, g2, g3, g4, g5, g6]
def isCode : Jvm.Cond → Bool
  | .code _ _ _ _ => true
  | _ => false
theorem all_split {L : List Jvm.Cond} {P : Jvm.Cond → Bool} (h1 : L.all (fun c => isCode c || P c) = true) (h2 : ∀ c ∈ L.filter isCode, P c = true) : L.all P = true := by
  refine List.all_eq_true.mpr fun c hc => ?_
  have h := List.all_eq_true.mp h1 c hc
  rcases Bool.eq_false_or_eq_true (isCode c) with hi | hi
  · exact h2 c (List.mem_filter.mpr ⟨hc, hi⟩)
  · simpa [hi] using h
set_option maxRecDepth 65536 in
theorem w_c0 : (Jvm.Cond.code x code maxLocals ret).before args0 about1 = true := code_word (m := ⟨1, 3⟩) (meth := k1m3) (c := k1c3) (by decide +kernel) rfl rfl rfl (by decide +kernel)
set_option maxRecDepth 65536 in
theorem w_c1 : (Jvm.Cond.code ({ cls := "com/example/carrier_name_resolver/carriernameresolver/card/CardBytesIsUnusedPinLaw", name := "byteOf", desc := "(I)B" } : Jvm.MethodName) method_2_code (1 : Nat) (Option.some Jvm.ClassFile.FieldType.byte)).before args0 about1 = true := code_word (m := ⟨1, 1⟩) (meth := k1m1) (c := k1c1) (by decide +kernel) rfl rfl rfl (by decide +kernel)
set_option maxRecDepth 65536 in
theorem w_c2 : (Jvm.Cond.code ({ cls := "com/example/carrier_name_resolver/carriernameresolver/card/CardBytesIsUnusedPinLaw", name := "okAt", desc := "([BIII)Z" } : Jvm.MethodName) method_3_code (4 : Nat) (Option.some Jvm.ClassFile.FieldType.boolean)).before args0 about1 = true := code_word (m := ⟨1, 2⟩) (meth := k1m2) (c := k1c2) (by decide +kernel) rfl rfl rfl (by decide +kernel)
set_option maxRecDepth 65536 in
theorem w_c3 : (Jvm.Cond.code ({ cls := "com/example/carrier_name_resolver/carriernameresolver/card/CardBytes", name := "isUnused", desc := "([BII)Z" } : Jvm.MethodName) prog_7_method_2_code (5 : Nat) (Option.some Jvm.ClassFile.FieldType.boolean)).before args0 about1 = true := code_word (m := ⟨2, 1⟩) (meth := k2m1) (c := k2c1) (by decide +kernel) rfl rfl rfl (by decide +kernel)
def codes1 : List Jvm.Cond := [Jvm.Cond.code x code maxLocals ret, Jvm.Cond.code ({ cls := "com/example/carrier_name_resolver/carriernameresolver/card/CardBytesIsUnusedPinLaw", name := "byteOf", desc := "(I)B" } : Jvm.MethodName) method_2_code (1 : Nat) (Option.some Jvm.ClassFile.FieldType.byte), Jvm.Cond.code ({ cls := "com/example/carrier_name_resolver/carriernameresolver/card/CardBytesIsUnusedPinLaw", name := "okAt", desc := "([BIII)Z" } : Jvm.MethodName) method_3_code (4 : Nat) (Option.some Jvm.ClassFile.FieldType.boolean), Jvm.Cond.code ({ cls := "com/example/carrier_name_resolver/carriernameresolver/card/CardBytes", name := "isUnused", desc := "([BII)Z" } : Jvm.MethodName) prog_7_method_2_code (5 : Nat) (Option.some Jvm.ClassFile.FieldType.boolean)]
set_option maxRecDepth 65536 in
theorem codes_eq : words1.filter isCode = codes1 := rfl
theorem w_codes : ∀ c ∈ words1.filter isCode, c.before args0 about1 = true := by
  rw [codes_eq]
  intro c hc
  simp only [codes1, List.mem_cons, List.not_mem_nil, or_false] at hc
  rcases hc with rfl | rfl | rfl | rfl
  · exact w_c0
  · exact w_c1
  · exact w_c2
  · exact w_c3
set_option maxRecDepth 65536 in
theorem w_t1 : words1.all (fun c => isCode c || c.before args0 about1) = true := by decide +kernel
theorem w_tables : (allAtoms (Jvm.Cond.code x code maxLocals ret :: tables_1)).before args0 about1 = true := by
  rw [allAtoms_all]
  show words1.all (fun c => c.before args0 about1) = true
  refine all_split ?_ w_codes
  rw [w_t1]
set_option maxRecDepth 65536 in
theorem w_case : (Jvm.Cond.and given_1 narrow_1).before args0 about1 = true := by decide +kernel
theorem w_applies : (headSpec (Jvm.Cond.code x code maxLocals ret :: tables_1) room_1).applies x e0.platform about1 = true :=
  (Spec.applies_iff w_frames).mpr ⟨w_running, w_runnable, w_alone, w_named, w_hears, w_ripe, w_room, w_tables⟩
theorem atStart : AtStart classFile x code maxLocals ret World_1 tables_1 room_1 Calls_1 rest_1 Pre_1 launch0 p0 e0 about1 theMethod args0 below0 :=
  ⟨lists_1, trivial, launch0.admits_env _ _ _, launch0.least_env, fairChoices_fair.cas, fairChoices_fair.clock, w_frames, w_args, w_heap, w_applies, trivial, trivial, w_case⟩
end start1
theorem witness_1 : WitnessClaimed_1 := ⟨start1.p0, start1.e0, start1.about1, start1.theMethod, start1.args0, start1.below0, start1.atStart⟩
end Jvm.Pilot.@@N@@
