import JvmDerived
import JvmDerived.Pilot.@@N@@Statement
import JvmDerived.Pilot.@@N@@Code
set_option linter.unusedVariables false
set_option linter.unusedSimpArgs false
namespace Jvm.RoadKit
open Sem ClassFile Op Lib Jvm.Stand Jvm.Free Jvm.LawKit
section New
variable {p : Program} {l : Launch} {e : Env} {R : Room} {s : State} {m : MethodId} {args : Array Value} {below : List Frame} {meth : Method} {c : Code} {T : State} {locs : List Loc} {cells slots : Nat}
theorem retI (X : Stand p l e R s m args below meth c T locs cells slots) (hx : p.tables.exec = Jvm.exec) {pc : Nat} {Ls : Array Slot} {z : Int32} {rest : List Value} (hret : meth.sig.returnType = some .int) (hd : decode c.code pc = .ok (.ireturn, 1)) {fs : List Frame}
    (hl : ∀ (f : JFrame) (acts : List Action), f.method = m → f.locked = none → f.entered = [] → (doReturn e (T.setTop f) acts (some (.int z))).1 = T.setFrames fs) : Steps p.tables e below (T.setTop (mkF m pc Ls (.int z :: rest))) (T.setFrames fs) := by
  have hm' : T.vm.method? m = some meth := X.method'
  have hn : narrow .int (.int z) = .int z := rfl
  show Steps p.tables e below (T.setTop { method := m, pc := pc, locals := Ls, stack := _ :: rest, locked := none }) _
  jvm_step X.here [X.here.top, hx, hd, hm', hret, hn]
  first | (intro acts; rw [hl _ acts rfl rfl rfl]) | rw [hl _ _ rfl rfl rfl]
  exact Steps.refl _
end New
end Jvm.RoadKit
namespace Jvm.Pilot.@@N@@
open Jvm Jvm.ClassFile Sem Op Lib Jvm.Free Jvm.Stand Jvm.LawKit Jvm.RoadKit Bundle Jvm.Pilot.@@N@@.Jvm.D
/-- from this frame the run comes to its end, and Q is said of what it leaves -/
def own_Dn (p : Program) (e : Env) (below : List Frame) (s : State) (Q : Option Value → Heap → List Loc → Prop) (k n : Nat) (T : State) (g : JFrame) : Prop :=
  ∃ s₂ o, Steps p.tables e below (T.setTop g) s₂ ∧ s₂.status = .running ∧ Ended s₂ below o ∧ ∃ v L, o = .returned v ∧ Q v s₂.heap L ∧ FrameEnd s o s₂ L k n
theorem own_go {p : Program} {e : Env} {below : List Frame} {s : State} {Q : Option Value → Heap → List Loc → Prop} {k n : Nat} {T T' : State} {g g' : JFrame}
    (h : ∀ t, Steps p.tables e below (T'.setTop g') t → Steps p.tables e below (T.setTop g) t) (d : own_Dn p e below s Q k n T' g') : own_Dn p e below s Q k n T g := by
  obtain ⟨s₂, o, h1, h2⟩ := d
  exact ⟨s₂, o, h _ h1, h2⟩
theorem own_as {p : Program} {e : Env} {below : List Frame} {s : State} {Q : Option Value → Heap → List Loc → Prop} {k n : Nat} {T : State} {g g' : JFrame}
    (h : g = g') (d : own_Dn p e below s Q k n T g') : own_Dn p e below s Q k n T g := h ▸ d
theorem own_ret {p : Program} {l : Launch} {e : Env} {R : Room} {s : State} {m : MethodId} {args : Array Value} {below : List Frame} {meth : Method} {c : Code} {T : State} {locs : List Loc} {cells slots : Nat}
    {Q : Option Value → Heap → List Loc → Prop} {k n : Nat} {g : JFrame} (X : Stand p l e R s m args below meth c T locs cells slots) (hlocks : meth.locks = false) (v : Option Value) (hv : meth.sig.returnType = none → v = none)
    (hr : ∀ fs : List Frame, (∀ (f : JFrame) (acts : List Action), f.method = m → f.locked = none → f.entered = [] → (doReturn e (T.setTop f) acts v).1 = T.setFrames fs) → Steps p.tables e below (T.setTop g) (T.setFrames fs))
    (hQ : Q v T.heap locs) (hk : cells ≤ k) (hn : slots ≤ n) : own_Dn p e below s Q k n T g := by
  obtain ⟨fs, h1, hrun, hended, hW, hsame⟩ := X.leave (v := v) hv hlocks
  exact ⟨_, _, hr fs h1, hrun, hended, _, _, rfl, hQ, ⟨_, rfl⟩, hW, hsame.mono hk hn⟩
theorem own_l0 : (0 : Int32).toInt = 0 := by decide
theorem own_l1 : (1 : Int32).toInt = 1 := by decide
theorem own_l2 : (2 : Int32).toInt = 2 := by decide
theorem own_l3 : (3 : Int32).toInt = 3 := by decide
theorem own_l9 : (9 : Int32).toInt = 9 := by decide
theorem own_l10 : (10 : Int32).toInt = 10 := by decide
theorem own_l13 : (13 : Int32).toInt = 13 := by decide
theorem own_l15 : (15 : Int32).toInt = 15 := by decide
theorem own_l31 : (31 : Int32).toInt = 31 := by decide
theorem own_l32 : (32 : Int32).toInt = 32 := by decide
theorem own_l126 : (126 : Int32).toInt = 126 := by decide
theorem own_l127 : (127 : Int32).toInt = 127 := by decide
theorem own_l133 : (133 : Int32).toInt = 133 := by decide
theorem own_l159 : (159 : Int32).toInt = 159 := by decide
theorem own_l160 : (160 : Int32).toInt = 160 := by decide
theorem own_l255 : (255 : Int32).toInt = 255 := by decide
theorem own_l2048 : (2048 : Int32).toInt = 2048 := by decide
theorem own_l55295 : (55295 : Int32).toInt = 55295 := by decide
theorem own_l55296 : (55296 : Int32).toInt = 55296 := by decide
theorem own_l57343 : (57343 : Int32).toInt = 57343 := by decide
theorem own_l57344 : (57344 : Int32).toInt = 57344 := by decide
theorem own_l65520 : (65520 : Int32).toInt = 65520 := by decide
theorem own_l65533 : (65533 : Int32).toInt = 65533 := by decide
theorem own_l65534 : (65534 : Int32).toInt = 65534 := by decide
theorem own_l65535 : (65535 : Int32).toInt = 65535 := by decide
theorem own_l65536 : (65536 : Int32).toInt = 65536 := by decide
theorem own_l1114096 : (1114096 : Int32).toInt = 1114096 := by decide
theorem own_l1114111 : (1114111 : Int32).toInt = 1114111 := by decide
theorem own_l1114112 : (1114112 : Int32).toInt = 1114112 := by decide
theorem own_l2147483647 : (2147483647 : Int32).toInt = 2147483647 := by decide
theorem own_d1_0 : decode method_2_code 0 = .ok (.iload_n 1, 1) := by decide +kernel
theorem own_d1_1 : decode method_2_code 1 = .ok (.ifCond .ne 14, 3) := by decide +kernel
theorem own_d1_4 : decode method_2_code 4 = .ok (.iload_n 0, 1) := by decide +kernel
theorem own_d1_5 : decode method_2_code 5 = .ok (.ldc 7, 2) := by decide +kernel
theorem own_d1_7 : decode method_2_code 7 = .ok (.iand, 1) := by decide +kernel
theorem own_d1_8 : decode method_2_code 8 = .ok (.ldc 8, 2) := by decide +kernel
theorem own_d1_10 : decode method_2_code 10 = .ok (.irem, 1) := by decide +kernel
theorem own_d1_11 : decode method_2_code 11 = .ok (.istore_n 2, 1) := by decide +kernel
theorem own_d1_12 : decode method_2_code 12 = .ok (.goto 41, 3) := by decide +kernel
theorem own_d1_15 : decode method_2_code 15 = .ok (.iload_n 1, 1) := by decide +kernel
theorem own_d1_16 : decode method_2_code 16 = .ok (.iconst 1, 1) := by decide +kernel
theorem own_d1_17 : decode method_2_code 17 = .ok (.if_icmp .ne 12, 3) := by decide +kernel
theorem own_d1_20 : decode method_2_code 20 = .ok (.iload_n 0, 1) := by decide +kernel
theorem own_d1_21 : decode method_2_code 21 = .ok (.sipush 255, 3) := by decide +kernel
theorem own_d1_24 : decode method_2_code 24 = .ok (.iand, 1) := by decide +kernel
theorem own_d1_25 : decode method_2_code 25 = .ok (.istore_n 2, 1) := by decide +kernel
theorem own_d1_26 : decode method_2_code 26 = .ok (.goto 27, 3) := by decide +kernel
theorem own_d1_29 : decode method_2_code 29 = .ok (.iload_n 1, 1) := by decide +kernel
theorem own_d1_30 : decode method_2_code 30 = .ok (.iconst 2, 1) := by decide +kernel
theorem own_d1_31 : decode method_2_code 31 = .ok (.if_icmp .ne 14, 3) := by decide +kernel
theorem own_d1_34 : decode method_2_code 34 = .ok (.ldc 9, 2) := by decide +kernel
theorem own_d1_36 : decode method_2_code 36 = .ok (.iload_n 0, 1) := by decide +kernel
theorem own_d1_37 : decode method_2_code 37 = .ok (.bipush 31, 2) := by decide +kernel
theorem own_d1_39 : decode method_2_code 39 = .ok (.iand, 1) := by decide +kernel
theorem own_d1_40 : decode method_2_code 40 = .ok (.iadd, 1) := by decide +kernel
theorem own_d1_41 : decode method_2_code 41 = .ok (.istore_n 2, 1) := by decide +kernel
theorem own_d1_42 : decode method_2_code 42 = .ok (.goto 11, 3) := by decide +kernel
theorem own_d1_45 : decode method_2_code 45 = .ok (.ldc 10, 2) := by decide +kernel
theorem own_d1_47 : decode method_2_code 47 = .ok (.iload_n 0, 1) := by decide +kernel
theorem own_d1_48 : decode method_2_code 48 = .ok (.bipush 15, 2) := by decide +kernel
theorem own_d1_50 : decode method_2_code 50 = .ok (.iand, 1) := by decide +kernel
theorem own_d1_51 : decode method_2_code 51 = .ok (.iadd, 1) := by decide +kernel
theorem own_d1_52 : decode method_2_code 52 = .ok (.istore_n 2, 1) := by decide +kernel
theorem own_d1_53 : decode method_2_code 53 = .ok (.iload_n 2, 1) := by decide +kernel
theorem own_d1_54 : decode method_2_code 54 = .ok (.ldc 11, 2) := by decide +kernel
theorem own_d1_56 : decode method_2_code 56 = .ok (.if_icmp .lt 15, 3) := by decide +kernel
theorem own_d1_59 : decode method_2_code 59 = .ok (.iload_n 2, 1) := by decide +kernel
theorem own_d1_60 : decode method_2_code 60 = .ok (.ldc 12, 2) := by decide +kernel
theorem own_d1_62 : decode method_2_code 62 = .ok (.if_icmp .gt 9, 3) := by decide +kernel
theorem own_d1_65 : decode method_2_code 65 = .ok (.iload_n 2, 1) := by decide +kernel
theorem own_d1_66 : decode method_2_code 66 = .ok (.sipush 2048, 3) := by decide +kernel
theorem own_d1_69 : decode method_2_code 69 = .ok (.iadd, 1) := by decide +kernel
theorem own_d1_70 : decode method_2_code 70 = .ok (.istore_n 2, 1) := by decide +kernel
theorem own_d1_71 : decode method_2_code 71 = .ok (.iload_n 2, 1) := by decide +kernel
theorem own_d1_72 : decode method_2_code 72 = .ok (.ireturn, 1) := by decide +kernel
theorem own_pn1 : plainName "com/example/tidy_sitemap/tidysitemap/read/XmlCharactersStandsAsIsPinLaw" = true := by first | (simp [plainName, overriddenIn]; done) | decide +kernel
theorem own_ef1 (m : MethodId) (u : Int32) (t : Int32) : entryFrame m #[(.int u), (.int t)] 3 = mkF m 0 #[.val (.int u), .val (.int t), .unset] [] := by first | (simp [entryFrame, mkF, argsToLocals, Value.category]; done) | rfl
def own_Q1 (Z : State) (u : Int32) (t : Int32) (h0 : Heap) (n0 : Nat) (v : Option Value) (h : Heap) (L : List Loc) : Prop := ∃ z : Int32, v = some (.int z) ∧ Fr n0 L ∧ h = h0 ∧ 0 ≤ z.toInt ∧ z.toInt ≤ 1114111 ∧ ¬ (55296 ≤ z.toInt ∧ z.toInt ≤ 57343)
set_option maxRecDepth 65536 in
set_option maxHeartbeats 40000000 in
theorem own_rm1 (l : Launch) (Z : State) (a0 : Array Value) (hw : ∀ d ∈ tables_1, d.before a0 Z = true) (ws : List Jvm.Cond) (u : Int32) (t : Int32) (h0 : Heap) (n0 : Nat) (Zs : n0 ≤ h0.size)  :
    MetFree l (⟨"com/example/tidy_sitemap/tidysitemap/read/XmlCharactersStandsAsIsPinLaw", "draw", "(II)I"⟩ : MethodName) (head1 (Jvm.Cond.code (⟨"com/example/tidy_sitemap/tidysitemap/read/XmlCharactersStandsAsIsPinLaw", "draw", "(II)I"⟩ : MethodName) method_2_code 3 (some .int) :: ws) ({ frames := 0, cells := 0, slots := 0, locals := 0 } : Room)) (fun aA_ U => aA_ = #[(.int u), (.int t)] ∧ Z.Warmed39 U.vm ∧ U.heap = h0) (fun _ _ _ _ _ => True) (fun _ U o U' => ∃ v L, o = .returned v ∧ own_Q1 Z u t h0 n0 v U'.heap L ∧ FrameEnd U o U' L ({ frames := 0, cells := 0, slots := 0, locals := 0 } : Room).cells ({ frames := 0, cells := 0, slots := 0, locals := 0 } : Room).slots) := by
  refine MetFree.of_bodySF (plainFor_of_name own_pn1) hisR ?_
  intro p e s m args below meth c s₁ Bd hml0 hP hK
  obtain ⟨rfl, hZ, hh⟩ := hP
  have hx := Bd.exec
  have hby := Bd.bytes
  have hml : c.maxLocals = 3 := hml0
  have hown : s.vm.findClass "com/example/tidy_sitemap/tidysitemap/read/XmlCharactersStandsAsIsPinLaw" = some m.cls := findClass_of_methodNamed Bd.named
  have hnm := (name_of_methodNamed Bd.named Bd.method).1
  have X0 : Stand p l e ({ frames := 0, cells := 0, slots := 0, locals := 0 } : Room) s m #[(.int u), (.int t)] below meth c s₁ [] 0 0 := Stand.of_body Bd
  have e0 : s₁.heap = h0 := by rw [← hh, Bd.state]; rfl
  have NF := Fr.nil n0
  rw [own_ef1 m u t]
  show own_Dn p e below s (own_Q1 Z u t h0 n0) 0 0 s₁ (mkF m 0 #[.val (.int u), .val (.int t), .unset] [])
  have f1 := c_mask u (2147483647 : Int32) 31 (by decide) (by decide)
  have f2 := c_irem (u &&& (2147483647 : Int32)) (1114112 : Int32) 1114112 (by decide)
  have f3 := c_and u (255 : Int32) (by decide)
  have f4 := c_and u (31 : Int32) (by decide)
  have f5 := c_iadd (65520 : Int32) (u &&& (31 : Int32))
  have f6 := c_and u (15 : Int32) (by decide)
  have f7 := c_iadd (1114096 : Int32) (u &&& (15 : Int32))
  have r5 := rng32 ((65520 : Int32) + (u &&& (31 : Int32)))
  have r7 := rng32 ((1114096 : Int32) + (u &&& (15 : Int32)))
  simp only [own_l0, own_l1, own_l2, own_l3, own_l9, own_l10, own_l13, own_l15, own_l31, own_l32, own_l126, own_l127, own_l133, own_l159, own_l160, own_l255, own_l2048, own_l55295, own_l55296, own_l57343, own_l57344, own_l65520, own_l65533, own_l65534, own_l65535, own_l65536, own_l1114096, own_l1114111, own_l1114112, own_l2147483647] at f1 f2 f3 f4 f5 f6 f7
  have J3 : ∀ (z1 : Int32), (0 ≤ z1.toInt ∧ z1.toInt ≤ 1114111) → own_Dn p e below s (own_Q1 Z u t h0 n0) 0 0 s₁ (mkF m 53 #[.val (.int u), .val (.int t), .val (.int z1)] []) := by
    intro z1 hz2
    have f8 := c_iadd z1 (2048 : Int32)
    have r8 := rng32 (z1 + (2048 : Int32))
    simp only [own_l0, own_l1, own_l2, own_l3, own_l9, own_l10, own_l13, own_l15, own_l31, own_l32, own_l126, own_l127, own_l133, own_l159, own_l160, own_l255, own_l2048, own_l55295, own_l55296, own_l57343, own_l57344, own_l65520, own_l65533, own_l65534, own_l65535, own_l65536, own_l1114096, own_l1114111, own_l1114112, own_l2147483647] at f8
    refine own_go (T' := s₁) (g' := (mkF m 54 #[.val (.int u), .val (.int t), .val (.int z1)] [(.int z1)])) (fun _ k => XS.iloadN X0.here hx rfl (hb hby own_d1_53) rfl k) ?_
    refine own_go (T' := s₁) (g' := (mkF m 56 #[.val (.int u), .val (.int t), .val (.int z1)] [(.int (55296 : Int32)), (.int z1)])) (fun _ k => X0.ldcInt hx hown (mvT hZ (hw _ (List.mem_of_getElem? (i := 4) rfl))) (g := (mkF m 54 #[.val (.int u), .val (.int t), .val (.int z1)] [(.int z1)])) rfl (hb hby own_d1_54) _ k) ?_
    by_cases c4 : z1 < (55296 : Int32)
    · refine own_go (T' := s₁) (g' := (mkF m 71 #[.val (.int u), .val (.int t), .val (.int z1)] [])) (fun _ k => XS.icmpYes X0.here hx rfl (pc0 := 56) (pc' := 71) rfl (hb hby own_d1_56) rfl (tlt c4).1 (by decide) (by decide) k) ?_
      refine own_go (T' := s₁) (g' := (mkF m 72 #[.val (.int u), .val (.int t), .val (.int z1)] [(.int z1)])) (fun _ k => XS.iloadN X0.here hx rfl (hb hby own_d1_71) rfl k) ?_
      refine own_ret X0 Bd.notSynchronized (some (.int z1)) (fun h => by rw [Bd.returns] at h; cases h) (fun fs hr => retI X0 hx Bd.returns (hb hby own_d1_72) hr) ?_ (by decide) (by decide)
      show (own_Q1 Z u t h0 n0) (some (.int z1)) s₁.heap _
      rw [e0]
      exact ⟨_, rfl, NF, rfl, by (try simp only [own_l0, own_l1, own_l2, own_l3, own_l9, own_l10, own_l13, own_l15, own_l31, own_l32, own_l126, own_l127, own_l133, own_l159, own_l160, own_l255, own_l2048, own_l55295, own_l55296, own_l57343, own_l57344, own_l65520, own_l65533, own_l65534, own_l65535, own_l65536, own_l1114096, own_l1114111, own_l1114112, own_l2147483647, Int32.lt_iff_toInt_lt, ← Int32.toInt_inj, Int64.lt_iff_toInt_lt, ← Int64.toInt_inj, and_true, true_and, and_false, false_and, or_true, true_or, or_false, false_or, not_true_eq_false, not_false_eq_true, ne_eq, true_implies, false_implies, implies_true] at hz2 c4 ⊢) <;> omega⟩
    · refine own_go (T' := s₁) (g' := (mkF m 59 #[.val (.int u), .val (.int t), .val (.int z1)] [])) (fun _ k => XS.icmpNo X0.here hx rfl (hb hby own_d1_56) rfl (flt c4).1 k) ?_
      refine own_go (T' := s₁) (g' := (mkF m 60 #[.val (.int u), .val (.int t), .val (.int z1)] [(.int z1)])) (fun _ k => XS.iloadN X0.here hx rfl (hb hby own_d1_59) rfl k) ?_
      refine own_go (T' := s₁) (g' := (mkF m 62 #[.val (.int u), .val (.int t), .val (.int z1)] [(.int (57343 : Int32)), (.int z1)])) (fun _ k => X0.ldcInt hx hown (mvT hZ (hw _ (List.mem_of_getElem? (i := 17) rfl))) (g := (mkF m 60 #[.val (.int u), .val (.int t), .val (.int z1)] [(.int z1)])) rfl (hb hby own_d1_60) _ k) ?_
      by_cases c5 : (57343 : Int32) < z1
      · refine own_go (T' := s₁) (g' := (mkF m 71 #[.val (.int u), .val (.int t), .val (.int z1)] [])) (fun _ k => XS.icmpYes X0.here hx rfl (pc0 := 62) (pc' := 71) rfl (hb hby own_d1_62) rfl (tlt c5).2.2.1 (by decide) (by decide) k) ?_
        refine own_go (T' := s₁) (g' := (mkF m 72 #[.val (.int u), .val (.int t), .val (.int z1)] [(.int z1)])) (fun _ k => XS.iloadN X0.here hx rfl (hb hby own_d1_71) rfl k) ?_
        refine own_ret X0 Bd.notSynchronized (some (.int z1)) (fun h => by rw [Bd.returns] at h; cases h) (fun fs hr => retI X0 hx Bd.returns (hb hby own_d1_72) hr) ?_ (by decide) (by decide)
        show (own_Q1 Z u t h0 n0) (some (.int z1)) s₁.heap _
        rw [e0]
        exact ⟨_, rfl, NF, rfl, by (try simp only [own_l0, own_l1, own_l2, own_l3, own_l9, own_l10, own_l13, own_l15, own_l31, own_l32, own_l126, own_l127, own_l133, own_l159, own_l160, own_l255, own_l2048, own_l55295, own_l55296, own_l57343, own_l57344, own_l65520, own_l65533, own_l65534, own_l65535, own_l65536, own_l1114096, own_l1114111, own_l1114112, own_l2147483647, Int32.lt_iff_toInt_lt, ← Int32.toInt_inj, Int64.lt_iff_toInt_lt, ← Int64.toInt_inj, and_true, true_and, and_false, false_and, or_true, true_or, or_false, false_or, not_true_eq_false, not_false_eq_true, ne_eq, true_implies, false_implies, implies_true] at hz2 c4 c5 ⊢) <;> omega⟩
      · refine own_go (T' := s₁) (g' := (mkF m 65 #[.val (.int u), .val (.int t), .val (.int z1)] [])) (fun _ k => XS.icmpNo X0.here hx rfl (hb hby own_d1_62) rfl (flt c5).2.2.1 k) ?_
        refine own_go (T' := s₁) (g' := (mkF m 66 #[.val (.int u), .val (.int t), .val (.int z1)] [(.int z1)])) (fun _ k => XS.iloadN X0.here hx rfl (hb hby own_d1_65) rfl k) ?_
        refine own_go (T' := s₁) (g' := (mkF m 69 #[.val (.int u), .val (.int t), .val (.int z1)] [(.int (2048 : Int32)), (.int z1)])) (fun _ k => XS.sipush X0.here hx rfl (hb hby own_d1_66) k) ?_
        refine own_go (T' := s₁) (g' := (mkF m 70 #[.val (.int u), .val (.int t), .val (.int z1)] [(.int (z1 + (2048 : Int32)))])) (fun _ k => XS.iadd X0.here hx rfl (hb hby own_d1_69) rfl k) ?_
        refine own_go (T' := s₁) (g' := (mkF m 71 #[.val (.int u), .val (.int t), .val (.int (z1 + (2048 : Int32)))] [])) (fun _ k => XS.istoreN X0.here hx rfl (hb hby own_d1_70) rfl (l' := #[.val (.int u), .val (.int t), .val (.int (z1 + (2048 : Int32)))]) rfl k) ?_
        refine own_go (T' := s₁) (g' := (mkF m 72 #[.val (.int u), .val (.int t), .val (.int (z1 + (2048 : Int32)))] [(.int (z1 + (2048 : Int32)))])) (fun _ k => XS.iloadN X0.here hx rfl (hb hby own_d1_71) rfl k) ?_
        refine own_ret X0 Bd.notSynchronized (some (.int (z1 + (2048 : Int32)))) (fun h => by rw [Bd.returns] at h; cases h) (fun fs hr => retI X0 hx Bd.returns (hb hby own_d1_72) hr) ?_ (by decide) (by decide)
        show (own_Q1 Z u t h0 n0) (some (.int (z1 + (2048 : Int32)))) s₁.heap _
        rw [e0]
        exact ⟨_, rfl, NF, rfl, by (try simp only [own_l0, own_l1, own_l2, own_l3, own_l9, own_l10, own_l13, own_l15, own_l31, own_l32, own_l126, own_l127, own_l133, own_l159, own_l160, own_l255, own_l2048, own_l55295, own_l55296, own_l57343, own_l57344, own_l65520, own_l65533, own_l65534, own_l65535, own_l65536, own_l1114096, own_l1114111, own_l1114112, own_l2147483647, Int32.lt_iff_toInt_lt, ← Int32.toInt_inj, Int64.lt_iff_toInt_lt, ← Int64.toInt_inj, and_true, true_and, and_false, false_and, or_true, true_or, or_false, false_or, not_true_eq_false, not_false_eq_true, ne_eq, true_implies, false_implies, implies_true] at hz2 c4 c5 ⊢) <;> omega⟩
  refine own_go (T' := s₁) (g' := (mkF m 1 #[.val (.int u), .val (.int t), .unset] [(.int t)])) (fun _ k => XS.iloadN X0.here hx rfl (hb hby own_d1_0) rfl k) ?_
  by_cases c6 : t = (0 : Int32)
  · refine own_go (T' := s₁) (g' := (mkF m 4 #[.val (.int u), .val (.int t), .unset] [])) (fun _ k => XS.ifNo X0.here hx rfl (hb hby own_d1_1) rfl ((if0 _ _).trans (teq c6).2) k) ?_
    refine own_go (T' := s₁) (g' := (mkF m 5 #[.val (.int u), .val (.int t), .unset] [(.int u)])) (fun _ k => XS.iloadN X0.here hx rfl (hb hby own_d1_4) rfl k) ?_
    refine own_go (T' := s₁) (g' := (mkF m 7 #[.val (.int u), .val (.int t), .unset] [(.int (2147483647 : Int32)), (.int u)])) (fun _ k => X0.ldcInt hx hown (mvT hZ (hw _ (List.mem_of_getElem? (i := 14) rfl))) (g := (mkF m 5 #[.val (.int u), .val (.int t), .unset] [(.int u)])) rfl (hb hby own_d1_5) _ k) ?_
    refine own_go (T' := s₁) (g' := (mkF m 8 #[.val (.int u), .val (.int t), .unset] [(.int (u &&& (2147483647 : Int32)))])) (fun _ k => XS.iand X0.here hx rfl (hb hby own_d1_7) rfl k) ?_
    refine own_go (T' := s₁) (g' := (mkF m 10 #[.val (.int u), .val (.int t), .unset] [(.int (1114112 : Int32)), (.int (u &&& (2147483647 : Int32)))])) (fun _ k => X0.ldcInt hx hown (mvT hZ (hw _ (List.mem_of_getElem? (i := 15) rfl))) (g := (mkF m 8 #[.val (.int u), .val (.int t), .unset] [(.int (u &&& (2147483647 : Int32)))])) rfl (hb hby own_d1_8) _ k) ?_
    refine own_go (T' := s₁) (g' := (mkF m 11 #[.val (.int u), .val (.int t), .unset] [(.int ((u &&& (2147483647 : Int32)) % (1114112 : Int32)))])) (fun _ k => iremM X0 hx rfl (hb hby own_d1_10) rfl (by decide) k) ?_
    refine own_go (T' := s₁) (g' := (mkF m 12 #[.val (.int u), .val (.int t), .val (.int ((u &&& (2147483647 : Int32)) % (1114112 : Int32)))] [])) (fun _ k => XS.istoreN X0.here hx rfl (hb hby own_d1_11) rfl (l' := #[.val (.int u), .val (.int t), .val (.int ((u &&& (2147483647 : Int32)) % (1114112 : Int32)))]) rfl k) ?_
    refine own_go (T' := s₁) (g' := (mkF m 53 #[.val (.int u), .val (.int t), .val (.int ((u &&& (2147483647 : Int32)) % (1114112 : Int32)))] [])) (fun _ k => XS.goto X0.here hx rfl (pc0 := 12) (pc' := 53) rfl (hb hby own_d1_12) (by decide) (by decide) k) ?_
    exact J3 _ (by (try simp only [own_l0, own_l1, own_l2, own_l3, own_l9, own_l10, own_l13, own_l15, own_l31, own_l32, own_l126, own_l127, own_l133, own_l159, own_l160, own_l255, own_l2048, own_l55295, own_l55296, own_l57343, own_l57344, own_l65520, own_l65533, own_l65534, own_l65535, own_l65536, own_l1114096, own_l1114111, own_l1114112, own_l2147483647, Int32.lt_iff_toInt_lt, ← Int32.toInt_inj, Int64.lt_iff_toInt_lt, ← Int64.toInt_inj, and_true, true_and, and_false, false_and, or_true, true_or, or_false, false_or, not_true_eq_false, not_false_eq_true, ne_eq, true_implies, false_implies, implies_true] at c6 ⊢) <;> omega)
  · refine own_go (T' := s₁) (g' := (mkF m 15 #[.val (.int u), .val (.int t), .unset] [])) (fun _ k => XS.ifYes X0.here hx rfl (pc0 := 1) (pc' := 15) rfl (hb hby own_d1_1) rfl ((if0 _ _).trans (feq c6).2) (by decide) (by decide) k) ?_
    refine own_go (T' := s₁) (g' := (mkF m 16 #[.val (.int u), .val (.int t), .unset] [(.int t)])) (fun _ k => XS.iloadN X0.here hx rfl (hb hby own_d1_15) rfl k) ?_
    refine own_go (T' := s₁) (g' := (mkF m 17 #[.val (.int u), .val (.int t), .unset] [(.int (1 : Int32)), (.int t)])) (fun _ k => XS.iconst X0.here hx rfl (hb hby own_d1_16) k) ?_
    by_cases c7 : t = (1 : Int32)
    · refine own_go (T' := s₁) (g' := (mkF m 20 #[.val (.int u), .val (.int t), .unset] [])) (fun _ k => XS.icmpNo X0.here hx rfl (hb hby own_d1_17) rfl (teq c7).2 k) ?_
      refine own_go (T' := s₁) (g' := (mkF m 21 #[.val (.int u), .val (.int t), .unset] [(.int u)])) (fun _ k => XS.iloadN X0.here hx rfl (hb hby own_d1_20) rfl k) ?_
      refine own_go (T' := s₁) (g' := (mkF m 24 #[.val (.int u), .val (.int t), .unset] [(.int (255 : Int32)), (.int u)])) (fun _ k => XS.sipush X0.here hx rfl (hb hby own_d1_21) k) ?_
      refine own_go (T' := s₁) (g' := (mkF m 25 #[.val (.int u), .val (.int t), .unset] [(.int (u &&& (255 : Int32)))])) (fun _ k => XS.iand X0.here hx rfl (hb hby own_d1_24) rfl k) ?_
      refine own_go (T' := s₁) (g' := (mkF m 26 #[.val (.int u), .val (.int t), .val (.int (u &&& (255 : Int32)))] [])) (fun _ k => XS.istoreN X0.here hx rfl (hb hby own_d1_25) rfl (l' := #[.val (.int u), .val (.int t), .val (.int (u &&& (255 : Int32)))]) rfl k) ?_
      refine own_go (T' := s₁) (g' := (mkF m 53 #[.val (.int u), .val (.int t), .val (.int (u &&& (255 : Int32)))] [])) (fun _ k => XS.goto X0.here hx rfl (pc0 := 26) (pc' := 53) rfl (hb hby own_d1_26) (by decide) (by decide) k) ?_
      exact J3 _ (by (try simp only [own_l0, own_l1, own_l2, own_l3, own_l9, own_l10, own_l13, own_l15, own_l31, own_l32, own_l126, own_l127, own_l133, own_l159, own_l160, own_l255, own_l2048, own_l55295, own_l55296, own_l57343, own_l57344, own_l65520, own_l65533, own_l65534, own_l65535, own_l65536, own_l1114096, own_l1114111, own_l1114112, own_l2147483647, Int32.lt_iff_toInt_lt, ← Int32.toInt_inj, Int64.lt_iff_toInt_lt, ← Int64.toInt_inj, and_true, true_and, and_false, false_and, or_true, true_or, or_false, false_or, not_true_eq_false, not_false_eq_true, ne_eq, true_implies, false_implies, implies_true] at c6 c7 ⊢) <;> omega)
    · refine own_go (T' := s₁) (g' := (mkF m 29 #[.val (.int u), .val (.int t), .unset] [])) (fun _ k => XS.icmpYes X0.here hx rfl (pc0 := 17) (pc' := 29) rfl (hb hby own_d1_17) rfl (feq c7).2 (by decide) (by decide) k) ?_
      refine own_go (T' := s₁) (g' := (mkF m 30 #[.val (.int u), .val (.int t), .unset] [(.int t)])) (fun _ k => XS.iloadN X0.here hx rfl (hb hby own_d1_29) rfl k) ?_
      refine own_go (T' := s₁) (g' := (mkF m 31 #[.val (.int u), .val (.int t), .unset] [(.int (2 : Int32)), (.int t)])) (fun _ k => XS.iconst X0.here hx rfl (hb hby own_d1_30) k) ?_
      by_cases c8 : t = (2 : Int32)
      · refine own_go (T' := s₁) (g' := (mkF m 34 #[.val (.int u), .val (.int t), .unset] [])) (fun _ k => XS.icmpNo X0.here hx rfl (hb hby own_d1_31) rfl (teq c8).2 k) ?_
        refine own_go (T' := s₁) (g' := (mkF m 36 #[.val (.int u), .val (.int t), .unset] [(.int (65520 : Int32))])) (fun _ k => X0.ldcInt hx hown (mvT hZ (hw _ (List.mem_of_getElem? (i := 16) rfl))) (g := (mkF m 34 #[.val (.int u), .val (.int t), .unset] [])) rfl (hb hby own_d1_34) _ k) ?_
        refine own_go (T' := s₁) (g' := (mkF m 37 #[.val (.int u), .val (.int t), .unset] [(.int u), (.int (65520 : Int32))])) (fun _ k => XS.iloadN X0.here hx rfl (hb hby own_d1_36) rfl k) ?_
        refine own_go (T' := s₁) (g' := (mkF m 39 #[.val (.int u), .val (.int t), .unset] [(.int (31 : Int32)), (.int u), (.int (65520 : Int32))])) (fun _ k => XS.bipush X0.here hx rfl (hb hby own_d1_37) k) ?_
        refine own_go (T' := s₁) (g' := (mkF m 40 #[.val (.int u), .val (.int t), .unset] [(.int (u &&& (31 : Int32))), (.int (65520 : Int32))])) (fun _ k => XS.iand X0.here hx rfl (hb hby own_d1_39) rfl k) ?_
        refine own_go (T' := s₁) (g' := (mkF m 41 #[.val (.int u), .val (.int t), .unset] [(.int ((65520 : Int32) + (u &&& (31 : Int32))))])) (fun _ k => XS.iadd X0.here hx rfl (hb hby own_d1_40) rfl k) ?_
        refine own_go (T' := s₁) (g' := (mkF m 42 #[.val (.int u), .val (.int t), .val (.int ((65520 : Int32) + (u &&& (31 : Int32))))] [])) (fun _ k => XS.istoreN X0.here hx rfl (hb hby own_d1_41) rfl (l' := #[.val (.int u), .val (.int t), .val (.int ((65520 : Int32) + (u &&& (31 : Int32))))]) rfl k) ?_
        refine own_go (T' := s₁) (g' := (mkF m 53 #[.val (.int u), .val (.int t), .val (.int ((65520 : Int32) + (u &&& (31 : Int32))))] [])) (fun _ k => XS.goto X0.here hx rfl (pc0 := 42) (pc' := 53) rfl (hb hby own_d1_42) (by decide) (by decide) k) ?_
        exact J3 _ (by (try simp only [own_l0, own_l1, own_l2, own_l3, own_l9, own_l10, own_l13, own_l15, own_l31, own_l32, own_l126, own_l127, own_l133, own_l159, own_l160, own_l255, own_l2048, own_l55295, own_l55296, own_l57343, own_l57344, own_l65520, own_l65533, own_l65534, own_l65535, own_l65536, own_l1114096, own_l1114111, own_l1114112, own_l2147483647, Int32.lt_iff_toInt_lt, ← Int32.toInt_inj, Int64.lt_iff_toInt_lt, ← Int64.toInt_inj, and_true, true_and, and_false, false_and, or_true, true_or, or_false, false_or, not_true_eq_false, not_false_eq_true, ne_eq, true_implies, false_implies, implies_true] at c6 c7 c8 ⊢) <;> omega)
      · refine own_go (T' := s₁) (g' := (mkF m 45 #[.val (.int u), .val (.int t), .unset] [])) (fun _ k => XS.icmpYes X0.here hx rfl (pc0 := 31) (pc' := 45) rfl (hb hby own_d1_31) rfl (feq c8).2 (by decide) (by decide) k) ?_
        refine own_go (T' := s₁) (g' := (mkF m 47 #[.val (.int u), .val (.int t), .unset] [(.int (1114096 : Int32))])) (fun _ k => X0.ldcInt hx hown (mvT hZ (hw _ (List.mem_of_getElem? (i := 22) rfl))) (g := (mkF m 45 #[.val (.int u), .val (.int t), .unset] [])) rfl (hb hby own_d1_45) _ k) ?_
        refine own_go (T' := s₁) (g' := (mkF m 48 #[.val (.int u), .val (.int t), .unset] [(.int u), (.int (1114096 : Int32))])) (fun _ k => XS.iloadN X0.here hx rfl (hb hby own_d1_47) rfl k) ?_
        refine own_go (T' := s₁) (g' := (mkF m 50 #[.val (.int u), .val (.int t), .unset] [(.int (15 : Int32)), (.int u), (.int (1114096 : Int32))])) (fun _ k => XS.bipush X0.here hx rfl (hb hby own_d1_48) k) ?_
        refine own_go (T' := s₁) (g' := (mkF m 51 #[.val (.int u), .val (.int t), .unset] [(.int (u &&& (15 : Int32))), (.int (1114096 : Int32))])) (fun _ k => XS.iand X0.here hx rfl (hb hby own_d1_50) rfl k) ?_
        refine own_go (T' := s₁) (g' := (mkF m 52 #[.val (.int u), .val (.int t), .unset] [(.int ((1114096 : Int32) + (u &&& (15 : Int32))))])) (fun _ k => XS.iadd X0.here hx rfl (hb hby own_d1_51) rfl k) ?_
        refine own_go (T' := s₁) (g' := (mkF m 53 #[.val (.int u), .val (.int t), .val (.int ((1114096 : Int32) + (u &&& (15 : Int32))))] [])) (fun _ k => XS.istoreN X0.here hx rfl (hb hby own_d1_52) rfl (l' := #[.val (.int u), .val (.int t), .val (.int ((1114096 : Int32) + (u &&& (15 : Int32))))]) rfl k) ?_
        exact J3 _ (by (try simp only [own_l0, own_l1, own_l2, own_l3, own_l9, own_l10, own_l13, own_l15, own_l31, own_l32, own_l126, own_l127, own_l133, own_l159, own_l160, own_l255, own_l2048, own_l55295, own_l55296, own_l57343, own_l57344, own_l65520, own_l65533, own_l65534, own_l65535, own_l65536, own_l1114096, own_l1114111, own_l1114112, own_l2147483647, Int32.lt_iff_toInt_lt, ← Int32.toInt_inj, Int64.lt_iff_toInt_lt, ← Int64.toInt_inj, and_true, true_and, and_false, false_and, or_true, true_or, or_false, false_or, not_true_eq_false, not_false_eq_true, ne_eq, true_implies, false_implies, implies_true] at c6 c7 c8 ⊢) <;> omega)
theorem own_d2_0 : decode prog_53_method_7_code 0 = .ok (.iload_n 0, 1) := by decide +kernel
theorem own_d2_1 : decode prog_53_method_7_code 1 = .ok (.bipush 32, 2) := by decide +kernel
theorem own_d2_3 : decode prog_53_method_7_code 3 = .ok (.if_icmp .ge 30, 3) := by decide +kernel
theorem own_d2_6 : decode prog_53_method_7_code 6 = .ok (.iload_n 0, 1) := by decide +kernel
theorem own_d2_7 : decode prog_53_method_7_code 7 = .ok (.bipush 9, 2) := by decide +kernel
theorem own_d2_9 : decode prog_53_method_7_code 9 = .ok (.if_icmp .eq 15, 3) := by decide +kernel
theorem own_d2_12 : decode prog_53_method_7_code 12 = .ok (.iload_n 0, 1) := by decide +kernel
theorem own_d2_13 : decode prog_53_method_7_code 13 = .ok (.bipush 10, 2) := by decide +kernel
theorem own_d2_15 : decode prog_53_method_7_code 15 = .ok (.if_icmp .eq 9, 3) := by decide +kernel
theorem own_d2_18 : decode prog_53_method_7_code 18 = .ok (.iload_n 0, 1) := by decide +kernel
theorem own_d2_19 : decode prog_53_method_7_code 19 = .ok (.bipush 13, 2) := by decide +kernel
theorem own_d2_21 : decode prog_53_method_7_code 21 = .ok (.if_icmp .ne 7, 3) := by decide +kernel
theorem own_d2_24 : decode prog_53_method_7_code 24 = .ok (.iconst 1, 1) := by decide +kernel
theorem own_d2_25 : decode prog_53_method_7_code 25 = .ok (.goto 4, 3) := by decide +kernel
theorem own_d2_28 : decode prog_53_method_7_code 28 = .ok (.iconst 0, 1) := by decide +kernel
theorem own_d2_29 : decode prog_53_method_7_code 29 = .ok (.istore_n 2, 1) := by decide +kernel
theorem own_d2_30 : decode prog_53_method_7_code 30 = .ok (.goto 59, 3) := by decide +kernel
theorem own_d2_33 : decode prog_53_method_7_code 33 = .ok (.iload_n 0, 1) := by decide +kernel
theorem own_d2_34 : decode prog_53_method_7_code 34 = .ok (.bipush 127, 2) := by decide +kernel
theorem own_d2_36 : decode prog_53_method_7_code 36 = .ok (.if_icmp .ge 8, 3) := by decide +kernel
theorem own_d2_39 : decode prog_53_method_7_code 39 = .ok (.iconst 1, 1) := by decide +kernel
theorem own_d2_40 : decode prog_53_method_7_code 40 = .ok (.istore_n 2, 1) := by decide +kernel
theorem own_d2_41 : decode prog_53_method_7_code 41 = .ok (.goto 48, 3) := by decide +kernel
theorem own_d2_44 : decode prog_53_method_7_code 44 = .ok (.iload_n 0, 1) := by decide +kernel
theorem own_d2_45 : decode prog_53_method_7_code 45 = .ok (.sipush 159, 3) := by decide +kernel
theorem own_d2_48 : decode prog_53_method_7_code 48 = .ok (.if_icmp .gt 23, 3) := by decide +kernel
theorem own_d2_51 : decode prog_53_method_7_code 51 = .ok (.iload_n 1, 1) := by decide +kernel
theorem own_d2_52 : decode prog_53_method_7_code 52 = .ok (.ifCond .eq 10, 3) := by decide +kernel
theorem own_d2_55 : decode prog_53_method_7_code 55 = .ok (.iload_n 0, 1) := by decide +kernel
theorem own_d2_56 : decode prog_53_method_7_code 56 = .ok (.sipush 133, 3) := by decide +kernel
theorem own_d2_59 : decode prog_53_method_7_code 59 = .ok (.if_icmp .ne 7, 3) := by decide +kernel
theorem own_d2_62 : decode prog_53_method_7_code 62 = .ok (.iconst 1, 1) := by decide +kernel
theorem own_d2_63 : decode prog_53_method_7_code 63 = .ok (.goto 4, 3) := by decide +kernel
theorem own_d2_66 : decode prog_53_method_7_code 66 = .ok (.iconst 0, 1) := by decide +kernel
theorem own_d2_67 : decode prog_53_method_7_code 67 = .ok (.istore_n 2, 1) := by decide +kernel
theorem own_d2_68 : decode prog_53_method_7_code 68 = .ok (.goto 21, 3) := by decide +kernel
theorem own_d2_71 : decode prog_53_method_7_code 71 = .ok (.iload_n 0, 1) := by decide +kernel
theorem own_d2_72 : decode prog_53_method_7_code 72 = .ok (.ldc 26, 2) := by decide +kernel
theorem own_d2_74 : decode prog_53_method_7_code 74 = .ok (.if_icmp .eq 13, 3) := by decide +kernel
theorem own_d2_77 : decode prog_53_method_7_code 77 = .ok (.iload_n 0, 1) := by decide +kernel
theorem own_d2_78 : decode prog_53_method_7_code 78 = .ok (.ldc 27, 2) := by decide +kernel
theorem own_d2_80 : decode prog_53_method_7_code 80 = .ok (.if_icmp .eq 7, 3) := by decide +kernel
theorem own_d2_83 : decode prog_53_method_7_code 83 = .ok (.iconst 1, 1) := by decide +kernel
theorem own_d2_84 : decode prog_53_method_7_code 84 = .ok (.goto 4, 3) := by decide +kernel
theorem own_d2_87 : decode prog_53_method_7_code 87 = .ok (.iconst 0, 1) := by decide +kernel
theorem own_d2_88 : decode prog_53_method_7_code 88 = .ok (.istore_n 2, 1) := by decide +kernel
theorem own_d2_89 : decode prog_53_method_7_code 89 = .ok (.iload_n 2, 1) := by decide +kernel
theorem own_d2_90 : decode prog_53_method_7_code 90 = .ok (.ireturn, 1) := by decide +kernel
theorem own_pn2 : plainName "com/example/tidy_sitemap/tidysitemap/read/XmlCharacters" = true := by first | (simp [plainName, overriddenIn]; done) | decide +kernel
theorem own_ef2 (m : MethodId) (u : Int32) (t : Int32) : entryFrame m #[(.int u), (.int t)] 3 = mkF m 0 #[.val (.int u), .val (.int t), .unset] [] := by first | (simp [entryFrame, mkF, argsToLocals, Value.category]; done) | rfl
def own_Q2 (Z : State) (u : Int32) (t : Int32) (h0 : Heap) (n0 : Nat) (v : Option Value) (h : Heap) (L : List Loc) : Prop := v = some (.int (if (u.toInt = 9 ∨ u.toInt = 10 ∨ u.toInt = 13) ∨ ((57344 ≤ u.toInt ∧ u.toInt ≤ 65533) ∨ (65536 ≤ u.toInt ∧ u.toInt ≤ 1114111)) ∨ (t.toInt ≠ 0 ∧ (u.toInt = 133 ∨ (32 ≤ u.toInt ∧ u.toInt ≤ 126) ∨ (160 ≤ u.toInt ∧ u.toInt ≤ 55295))) ∨ (t.toInt = 0 ∧ 32 ≤ u.toInt ∧ u.toInt ≤ 55295) then 1 else 0)) ∧ Fr n0 L ∧ h = h0
set_option maxRecDepth 65536 in
set_option maxHeartbeats 40000000 in
theorem own_rm2 (l : Launch) (Z : State) (a0 : Array Value) (hw : ∀ d ∈ tables_1, d.before a0 Z = true) (ws : List Jvm.Cond) (u : Int32) (t : Int32) (h0 : Heap) (n0 : Nat) (Zs : n0 ≤ h0.size) (hr : 0 ≤ u.toInt ∧ u.toInt ≤ 1114111 ∧ ¬ (55296 ≤ u.toInt ∧ u.toInt ≤ 57343)) :
    MetFree l (⟨"com/example/tidy_sitemap/tidysitemap/read/XmlCharacters", "standsAsIs", "(IZ)Z"⟩ : MethodName) (head1 (Jvm.Cond.code (⟨"com/example/tidy_sitemap/tidysitemap/read/XmlCharacters", "standsAsIs", "(IZ)Z"⟩ : MethodName) prog_53_method_7_code 3 (some .boolean) :: ws) ({ frames := 0, cells := 0, slots := 0, locals := 0 } : Room)) (fun aA_ U => aA_ = #[(.int u), (.int t)] ∧ Z.Warmed39 U.vm ∧ U.heap = h0) (fun _ _ _ _ _ => True) (fun _ U o U' => ∃ v L, o = .returned v ∧ own_Q2 Z u t h0 n0 v U'.heap L ∧ FrameEnd U o U' L ({ frames := 0, cells := 0, slots := 0, locals := 0 } : Room).cells ({ frames := 0, cells := 0, slots := 0, locals := 0 } : Room).slots) := by
  refine MetFree.of_bodySF (plainFor_of_name own_pn2) hisR ?_
  intro p e s m args below meth c s₁ Bd hml0 hP hK
  obtain ⟨rfl, hZ, hh⟩ := hP
  have hx := Bd.exec
  have hby := Bd.bytes
  have hml : c.maxLocals = 3 := hml0
  have hown : s.vm.findClass "com/example/tidy_sitemap/tidysitemap/read/XmlCharacters" = some m.cls := findClass_of_methodNamed Bd.named
  have hnm := (name_of_methodNamed Bd.named Bd.method).1
  have X0 : Stand p l e ({ frames := 0, cells := 0, slots := 0, locals := 0 } : Room) s m #[(.int u), (.int t)] below meth c s₁ [] 0 0 := Stand.of_body Bd
  have e0 : s₁.heap = h0 := by rw [← hh, Bd.state]; rfl
  have NF := Fr.nil n0
  rw [own_ef2 m u t]
  show own_Dn p e below s (own_Q2 Z u t h0 n0) 0 0 s₁ (mkF m 0 #[.val (.int u), .val (.int t), .unset] [])
  refine own_go (T' := s₁) (g' := (mkF m 1 #[.val (.int u), .val (.int t), .unset] [(.int u)])) (fun _ k => XS.iloadN X0.here hx rfl (hb hby own_d2_0) rfl k) ?_
  refine own_go (T' := s₁) (g' := (mkF m 3 #[.val (.int u), .val (.int t), .unset] [(.int (32 : Int32)), (.int u)])) (fun _ k => XS.bipush X0.here hx rfl (hb hby own_d2_1) k) ?_
  by_cases c1 : u < (32 : Int32)
  · refine own_go (T' := s₁) (g' := (mkF m 6 #[.val (.int u), .val (.int t), .unset] [])) (fun _ k => XS.icmpNo X0.here hx rfl (hb hby own_d2_3) rfl (tlt c1).2.1 k) ?_
    refine own_go (T' := s₁) (g' := (mkF m 7 #[.val (.int u), .val (.int t), .unset] [(.int u)])) (fun _ k => XS.iloadN X0.here hx rfl (hb hby own_d2_6) rfl k) ?_
    refine own_go (T' := s₁) (g' := (mkF m 9 #[.val (.int u), .val (.int t), .unset] [(.int (9 : Int32)), (.int u)])) (fun _ k => XS.bipush X0.here hx rfl (hb hby own_d2_7) k) ?_
    by_cases c2 : u = (9 : Int32)
    · refine own_go (T' := s₁) (g' := (mkF m 24 #[.val (.int u), .val (.int t), .unset] [])) (fun _ k => XS.icmpYes X0.here hx rfl (pc0 := 9) (pc' := 24) rfl (hb hby own_d2_9) rfl (teq c2).1 (by decide) (by decide) k) ?_
      refine own_go (T' := s₁) (g' := (mkF m 25 #[.val (.int u), .val (.int t), .unset] [(.int (1 : Int32))])) (fun _ k => XS.iconst X0.here hx rfl (hb hby own_d2_24) k) ?_
      refine own_go (T' := s₁) (g' := (mkF m 29 #[.val (.int u), .val (.int t), .unset] [(.int (1 : Int32))])) (fun _ k => XS.goto X0.here hx rfl (pc0 := 25) (pc' := 29) rfl (hb hby own_d2_25) (by decide) (by decide) k) ?_
      refine own_go (T' := s₁) (g' := (mkF m 30 #[.val (.int u), .val (.int t), .val (.int (1 : Int32))] [])) (fun _ k => XS.istoreN X0.here hx rfl (hb hby own_d2_29) rfl (l' := #[.val (.int u), .val (.int t), .val (.int (1 : Int32))]) rfl k) ?_
      refine own_go (T' := s₁) (g' := (mkF m 89 #[.val (.int u), .val (.int t), .val (.int (1 : Int32))] [])) (fun _ k => XS.goto X0.here hx rfl (pc0 := 30) (pc' := 89) rfl (hb hby own_d2_30) (by decide) (by decide) k) ?_
      refine own_go (T' := s₁) (g' := (mkF m 90 #[.val (.int u), .val (.int t), .val (.int (1 : Int32))] [(.int (1 : Int32))])) (fun _ k => XS.iloadN X0.here hx rfl (hb hby own_d2_89) rfl k) ?_
      refine own_ret X0 Bd.notSynchronized (some (.int (1 : Int32))) (fun h => by rw [Bd.returns] at h; cases h) (fun fs hr => retN X0 hx (t := .boolean) Bd.returns (by simp) (hb hby own_d2_90) hr) ?_ (by decide) (by decide)
      show (own_Q2 Z u t h0 n0) (some (.int (1 : Int32))) s₁.heap _
      rw [e0]
      exact ⟨by rw [if_pos (by (try simp only [own_l0, own_l1, own_l2, own_l3, own_l9, own_l10, own_l13, own_l15, own_l31, own_l32, own_l126, own_l127, own_l133, own_l159, own_l160, own_l255, own_l2048, own_l55295, own_l55296, own_l57343, own_l57344, own_l65520, own_l65533, own_l65534, own_l65535, own_l65536, own_l1114096, own_l1114111, own_l1114112, own_l2147483647, Int32.lt_iff_toInt_lt, ← Int32.toInt_inj, Int64.lt_iff_toInt_lt, ← Int64.toInt_inj, and_true, true_and, and_false, false_and, or_true, true_or, or_false, false_or, not_true_eq_false, not_false_eq_true, ne_eq, true_implies, false_implies, implies_true] at c1 c2 ⊢) <;> omega)], NF, rfl⟩
    · refine own_go (T' := s₁) (g' := (mkF m 12 #[.val (.int u), .val (.int t), .unset] [])) (fun _ k => XS.icmpNo X0.here hx rfl (hb hby own_d2_9) rfl (feq c2).1 k) ?_
      refine own_go (T' := s₁) (g' := (mkF m 13 #[.val (.int u), .val (.int t), .unset] [(.int u)])) (fun _ k => XS.iloadN X0.here hx rfl (hb hby own_d2_12) rfl k) ?_
      refine own_go (T' := s₁) (g' := (mkF m 15 #[.val (.int u), .val (.int t), .unset] [(.int (10 : Int32)), (.int u)])) (fun _ k => XS.bipush X0.here hx rfl (hb hby own_d2_13) k) ?_
      by_cases c3 : u = (10 : Int32)
      · refine own_go (T' := s₁) (g' := (mkF m 24 #[.val (.int u), .val (.int t), .unset] [])) (fun _ k => XS.icmpYes X0.here hx rfl (pc0 := 15) (pc' := 24) rfl (hb hby own_d2_15) rfl (teq c3).1 (by decide) (by decide) k) ?_
        refine own_go (T' := s₁) (g' := (mkF m 25 #[.val (.int u), .val (.int t), .unset] [(.int (1 : Int32))])) (fun _ k => XS.iconst X0.here hx rfl (hb hby own_d2_24) k) ?_
        refine own_go (T' := s₁) (g' := (mkF m 29 #[.val (.int u), .val (.int t), .unset] [(.int (1 : Int32))])) (fun _ k => XS.goto X0.here hx rfl (pc0 := 25) (pc' := 29) rfl (hb hby own_d2_25) (by decide) (by decide) k) ?_
        refine own_go (T' := s₁) (g' := (mkF m 30 #[.val (.int u), .val (.int t), .val (.int (1 : Int32))] [])) (fun _ k => XS.istoreN X0.here hx rfl (hb hby own_d2_29) rfl (l' := #[.val (.int u), .val (.int t), .val (.int (1 : Int32))]) rfl k) ?_
        refine own_go (T' := s₁) (g' := (mkF m 89 #[.val (.int u), .val (.int t), .val (.int (1 : Int32))] [])) (fun _ k => XS.goto X0.here hx rfl (pc0 := 30) (pc' := 89) rfl (hb hby own_d2_30) (by decide) (by decide) k) ?_
        refine own_go (T' := s₁) (g' := (mkF m 90 #[.val (.int u), .val (.int t), .val (.int (1 : Int32))] [(.int (1 : Int32))])) (fun _ k => XS.iloadN X0.here hx rfl (hb hby own_d2_89) rfl k) ?_
        refine own_ret X0 Bd.notSynchronized (some (.int (1 : Int32))) (fun h => by rw [Bd.returns] at h; cases h) (fun fs hr => retN X0 hx (t := .boolean) Bd.returns (by simp) (hb hby own_d2_90) hr) ?_ (by decide) (by decide)
        show (own_Q2 Z u t h0 n0) (some (.int (1 : Int32))) s₁.heap _
        rw [e0]
        exact ⟨by rw [if_pos (by (try simp only [own_l0, own_l1, own_l2, own_l3, own_l9, own_l10, own_l13, own_l15, own_l31, own_l32, own_l126, own_l127, own_l133, own_l159, own_l160, own_l255, own_l2048, own_l55295, own_l55296, own_l57343, own_l57344, own_l65520, own_l65533, own_l65534, own_l65535, own_l65536, own_l1114096, own_l1114111, own_l1114112, own_l2147483647, Int32.lt_iff_toInt_lt, ← Int32.toInt_inj, Int64.lt_iff_toInt_lt, ← Int64.toInt_inj, and_true, true_and, and_false, false_and, or_true, true_or, or_false, false_or, not_true_eq_false, not_false_eq_true, ne_eq, true_implies, false_implies, implies_true] at c1 c2 c3 ⊢) <;> omega)], NF, rfl⟩
      · refine own_go (T' := s₁) (g' := (mkF m 18 #[.val (.int u), .val (.int t), .unset] [])) (fun _ k => XS.icmpNo X0.here hx rfl (hb hby own_d2_15) rfl (feq c3).1 k) ?_
        refine own_go (T' := s₁) (g' := (mkF m 19 #[.val (.int u), .val (.int t), .unset] [(.int u)])) (fun _ k => XS.iloadN X0.here hx rfl (hb hby own_d2_18) rfl k) ?_
        refine own_go (T' := s₁) (g' := (mkF m 21 #[.val (.int u), .val (.int t), .unset] [(.int (13 : Int32)), (.int u)])) (fun _ k => XS.bipush X0.here hx rfl (hb hby own_d2_19) k) ?_
        by_cases c4 : u = (13 : Int32)
        · refine own_go (T' := s₁) (g' := (mkF m 24 #[.val (.int u), .val (.int t), .unset] [])) (fun _ k => XS.icmpNo X0.here hx rfl (hb hby own_d2_21) rfl (teq c4).2 k) ?_
          refine own_go (T' := s₁) (g' := (mkF m 25 #[.val (.int u), .val (.int t), .unset] [(.int (1 : Int32))])) (fun _ k => XS.iconst X0.here hx rfl (hb hby own_d2_24) k) ?_
          refine own_go (T' := s₁) (g' := (mkF m 29 #[.val (.int u), .val (.int t), .unset] [(.int (1 : Int32))])) (fun _ k => XS.goto X0.here hx rfl (pc0 := 25) (pc' := 29) rfl (hb hby own_d2_25) (by decide) (by decide) k) ?_
          refine own_go (T' := s₁) (g' := (mkF m 30 #[.val (.int u), .val (.int t), .val (.int (1 : Int32))] [])) (fun _ k => XS.istoreN X0.here hx rfl (hb hby own_d2_29) rfl (l' := #[.val (.int u), .val (.int t), .val (.int (1 : Int32))]) rfl k) ?_
          refine own_go (T' := s₁) (g' := (mkF m 89 #[.val (.int u), .val (.int t), .val (.int (1 : Int32))] [])) (fun _ k => XS.goto X0.here hx rfl (pc0 := 30) (pc' := 89) rfl (hb hby own_d2_30) (by decide) (by decide) k) ?_
          refine own_go (T' := s₁) (g' := (mkF m 90 #[.val (.int u), .val (.int t), .val (.int (1 : Int32))] [(.int (1 : Int32))])) (fun _ k => XS.iloadN X0.here hx rfl (hb hby own_d2_89) rfl k) ?_
          refine own_ret X0 Bd.notSynchronized (some (.int (1 : Int32))) (fun h => by rw [Bd.returns] at h; cases h) (fun fs hr => retN X0 hx (t := .boolean) Bd.returns (by simp) (hb hby own_d2_90) hr) ?_ (by decide) (by decide)
          show (own_Q2 Z u t h0 n0) (some (.int (1 : Int32))) s₁.heap _
          rw [e0]
          exact ⟨by rw [if_pos (by (try simp only [own_l0, own_l1, own_l2, own_l3, own_l9, own_l10, own_l13, own_l15, own_l31, own_l32, own_l126, own_l127, own_l133, own_l159, own_l160, own_l255, own_l2048, own_l55295, own_l55296, own_l57343, own_l57344, own_l65520, own_l65533, own_l65534, own_l65535, own_l65536, own_l1114096, own_l1114111, own_l1114112, own_l2147483647, Int32.lt_iff_toInt_lt, ← Int32.toInt_inj, Int64.lt_iff_toInt_lt, ← Int64.toInt_inj, and_true, true_and, and_false, false_and, or_true, true_or, or_false, false_or, not_true_eq_false, not_false_eq_true, ne_eq, true_implies, false_implies, implies_true] at c1 c2 c3 c4 ⊢) <;> omega)], NF, rfl⟩
        · refine own_go (T' := s₁) (g' := (mkF m 28 #[.val (.int u), .val (.int t), .unset] [])) (fun _ k => XS.icmpYes X0.here hx rfl (pc0 := 21) (pc' := 28) rfl (hb hby own_d2_21) rfl (feq c4).2 (by decide) (by decide) k) ?_
          refine own_go (T' := s₁) (g' := (mkF m 29 #[.val (.int u), .val (.int t), .unset] [(.int (0 : Int32))])) (fun _ k => XS.iconst X0.here hx rfl (hb hby own_d2_28) k) ?_
          refine own_go (T' := s₁) (g' := (mkF m 30 #[.val (.int u), .val (.int t), .val (.int (0 : Int32))] [])) (fun _ k => XS.istoreN X0.here hx rfl (hb hby own_d2_29) rfl (l' := #[.val (.int u), .val (.int t), .val (.int (0 : Int32))]) rfl k) ?_
          refine own_go (T' := s₁) (g' := (mkF m 89 #[.val (.int u), .val (.int t), .val (.int (0 : Int32))] [])) (fun _ k => XS.goto X0.here hx rfl (pc0 := 30) (pc' := 89) rfl (hb hby own_d2_30) (by decide) (by decide) k) ?_
          refine own_go (T' := s₁) (g' := (mkF m 90 #[.val (.int u), .val (.int t), .val (.int (0 : Int32))] [(.int (0 : Int32))])) (fun _ k => XS.iloadN X0.here hx rfl (hb hby own_d2_89) rfl k) ?_
          refine own_ret X0 Bd.notSynchronized (some (.int (0 : Int32))) (fun h => by rw [Bd.returns] at h; cases h) (fun fs hr => retN X0 hx (t := .boolean) Bd.returns (by simp) (hb hby own_d2_90) hr) ?_ (by decide) (by decide)
          show (own_Q2 Z u t h0 n0) (some (.int (0 : Int32))) s₁.heap _
          rw [e0]
          exact ⟨by rw [if_neg (by (try simp only [own_l0, own_l1, own_l2, own_l3, own_l9, own_l10, own_l13, own_l15, own_l31, own_l32, own_l126, own_l127, own_l133, own_l159, own_l160, own_l255, own_l2048, own_l55295, own_l55296, own_l57343, own_l57344, own_l65520, own_l65533, own_l65534, own_l65535, own_l65536, own_l1114096, own_l1114111, own_l1114112, own_l2147483647, Int32.lt_iff_toInt_lt, ← Int32.toInt_inj, Int64.lt_iff_toInt_lt, ← Int64.toInt_inj, and_true, true_and, and_false, false_and, or_true, true_or, or_false, false_or, not_true_eq_false, not_false_eq_true, ne_eq, true_implies, false_implies, implies_true] at c1 c2 c3 c4 ⊢) <;> omega)], NF, rfl⟩
  · refine own_go (T' := s₁) (g' := (mkF m 33 #[.val (.int u), .val (.int t), .unset] [])) (fun _ k => XS.icmpYes X0.here hx rfl (pc0 := 3) (pc' := 33) rfl (hb hby own_d2_3) rfl (flt c1).2.1 (by decide) (by decide) k) ?_
    refine own_go (T' := s₁) (g' := (mkF m 34 #[.val (.int u), .val (.int t), .unset] [(.int u)])) (fun _ k => XS.iloadN X0.here hx rfl (hb hby own_d2_33) rfl k) ?_
    refine own_go (T' := s₁) (g' := (mkF m 36 #[.val (.int u), .val (.int t), .unset] [(.int (127 : Int32)), (.int u)])) (fun _ k => XS.bipush X0.here hx rfl (hb hby own_d2_34) k) ?_
    by_cases c5 : u < (127 : Int32)
    · refine own_go (T' := s₁) (g' := (mkF m 39 #[.val (.int u), .val (.int t), .unset] [])) (fun _ k => XS.icmpNo X0.here hx rfl (hb hby own_d2_36) rfl (tlt c5).2.1 k) ?_
      refine own_go (T' := s₁) (g' := (mkF m 40 #[.val (.int u), .val (.int t), .unset] [(.int (1 : Int32))])) (fun _ k => XS.iconst X0.here hx rfl (hb hby own_d2_39) k) ?_
      refine own_go (T' := s₁) (g' := (mkF m 41 #[.val (.int u), .val (.int t), .val (.int (1 : Int32))] [])) (fun _ k => XS.istoreN X0.here hx rfl (hb hby own_d2_40) rfl (l' := #[.val (.int u), .val (.int t), .val (.int (1 : Int32))]) rfl k) ?_
      refine own_go (T' := s₁) (g' := (mkF m 89 #[.val (.int u), .val (.int t), .val (.int (1 : Int32))] [])) (fun _ k => XS.goto X0.here hx rfl (pc0 := 41) (pc' := 89) rfl (hb hby own_d2_41) (by decide) (by decide) k) ?_
      refine own_go (T' := s₁) (g' := (mkF m 90 #[.val (.int u), .val (.int t), .val (.int (1 : Int32))] [(.int (1 : Int32))])) (fun _ k => XS.iloadN X0.here hx rfl (hb hby own_d2_89) rfl k) ?_
      refine own_ret X0 Bd.notSynchronized (some (.int (1 : Int32))) (fun h => by rw [Bd.returns] at h; cases h) (fun fs hr => retN X0 hx (t := .boolean) Bd.returns (by simp) (hb hby own_d2_90) hr) ?_ (by decide) (by decide)
      show (own_Q2 Z u t h0 n0) (some (.int (1 : Int32))) s₁.heap _
      rw [e0]
      exact ⟨by rw [if_pos (by (try simp only [own_l0, own_l1, own_l2, own_l3, own_l9, own_l10, own_l13, own_l15, own_l31, own_l32, own_l126, own_l127, own_l133, own_l159, own_l160, own_l255, own_l2048, own_l55295, own_l55296, own_l57343, own_l57344, own_l65520, own_l65533, own_l65534, own_l65535, own_l65536, own_l1114096, own_l1114111, own_l1114112, own_l2147483647, Int32.lt_iff_toInt_lt, ← Int32.toInt_inj, Int64.lt_iff_toInt_lt, ← Int64.toInt_inj, and_true, true_and, and_false, false_and, or_true, true_or, or_false, false_or, not_true_eq_false, not_false_eq_true, ne_eq, true_implies, false_implies, implies_true] at c1 c5 ⊢) <;> omega)], NF, rfl⟩
    · refine own_go (T' := s₁) (g' := (mkF m 44 #[.val (.int u), .val (.int t), .unset] [])) (fun _ k => XS.icmpYes X0.here hx rfl (pc0 := 36) (pc' := 44) rfl (hb hby own_d2_36) rfl (flt c5).2.1 (by decide) (by decide) k) ?_
      refine own_go (T' := s₁) (g' := (mkF m 45 #[.val (.int u), .val (.int t), .unset] [(.int u)])) (fun _ k => XS.iloadN X0.here hx rfl (hb hby own_d2_44) rfl k) ?_
      refine own_go (T' := s₁) (g' := (mkF m 48 #[.val (.int u), .val (.int t), .unset] [(.int (159 : Int32)), (.int u)])) (fun _ k => XS.sipush X0.here hx rfl (hb hby own_d2_45) k) ?_
      by_cases c6 : (159 : Int32) < u
      · refine own_go (T' := s₁) (g' := (mkF m 71 #[.val (.int u), .val (.int t), .unset] [])) (fun _ k => XS.icmpYes X0.here hx rfl (pc0 := 48) (pc' := 71) rfl (hb hby own_d2_48) rfl (tlt c6).2.2.1 (by decide) (by decide) k) ?_
        refine own_go (T' := s₁) (g' := (mkF m 72 #[.val (.int u), .val (.int t), .unset] [(.int u)])) (fun _ k => XS.iloadN X0.here hx rfl (hb hby own_d2_71) rfl k) ?_
        refine own_go (T' := s₁) (g' := (mkF m 74 #[.val (.int u), .val (.int t), .unset] [(.int (65534 : Int32)), (.int u)])) (fun _ k => X0.ldcInt hx hown (mvT hZ (hw _ (List.mem_of_getElem? (i := 18) rfl))) (g := (mkF m 72 #[.val (.int u), .val (.int t), .unset] [(.int u)])) rfl (hb hby own_d2_72) _ k) ?_
        by_cases c7 : u = (65534 : Int32)
        · refine own_go (T' := s₁) (g' := (mkF m 87 #[.val (.int u), .val (.int t), .unset] [])) (fun _ k => XS.icmpYes X0.here hx rfl (pc0 := 74) (pc' := 87) rfl (hb hby own_d2_74) rfl (teq c7).1 (by decide) (by decide) k) ?_
          refine own_go (T' := s₁) (g' := (mkF m 88 #[.val (.int u), .val (.int t), .unset] [(.int (0 : Int32))])) (fun _ k => XS.iconst X0.here hx rfl (hb hby own_d2_87) k) ?_
          refine own_go (T' := s₁) (g' := (mkF m 89 #[.val (.int u), .val (.int t), .val (.int (0 : Int32))] [])) (fun _ k => XS.istoreN X0.here hx rfl (hb hby own_d2_88) rfl (l' := #[.val (.int u), .val (.int t), .val (.int (0 : Int32))]) rfl k) ?_
          refine own_go (T' := s₁) (g' := (mkF m 90 #[.val (.int u), .val (.int t), .val (.int (0 : Int32))] [(.int (0 : Int32))])) (fun _ k => XS.iloadN X0.here hx rfl (hb hby own_d2_89) rfl k) ?_
          refine own_ret X0 Bd.notSynchronized (some (.int (0 : Int32))) (fun h => by rw [Bd.returns] at h; cases h) (fun fs hr => retN X0 hx (t := .boolean) Bd.returns (by simp) (hb hby own_d2_90) hr) ?_ (by decide) (by decide)
          show (own_Q2 Z u t h0 n0) (some (.int (0 : Int32))) s₁.heap _
          rw [e0]
          exact ⟨by rw [if_neg (by (try simp only [own_l0, own_l1, own_l2, own_l3, own_l9, own_l10, own_l13, own_l15, own_l31, own_l32, own_l126, own_l127, own_l133, own_l159, own_l160, own_l255, own_l2048, own_l55295, own_l55296, own_l57343, own_l57344, own_l65520, own_l65533, own_l65534, own_l65535, own_l65536, own_l1114096, own_l1114111, own_l1114112, own_l2147483647, Int32.lt_iff_toInt_lt, ← Int32.toInt_inj, Int64.lt_iff_toInt_lt, ← Int64.toInt_inj, and_true, true_and, and_false, false_and, or_true, true_or, or_false, false_or, not_true_eq_false, not_false_eq_true, ne_eq, true_implies, false_implies, implies_true] at c1 c5 c6 c7 ⊢) <;> omega)], NF, rfl⟩
        · refine own_go (T' := s₁) (g' := (mkF m 77 #[.val (.int u), .val (.int t), .unset] [])) (fun _ k => XS.icmpNo X0.here hx rfl (hb hby own_d2_74) rfl (feq c7).1 k) ?_
          refine own_go (T' := s₁) (g' := (mkF m 78 #[.val (.int u), .val (.int t), .unset] [(.int u)])) (fun _ k => XS.iloadN X0.here hx rfl (hb hby own_d2_77) rfl k) ?_
          refine own_go (T' := s₁) (g' := (mkF m 80 #[.val (.int u), .val (.int t), .unset] [(.int (65535 : Int32)), (.int u)])) (fun _ k => X0.ldcInt hx hown (mvT hZ (hw _ (List.mem_of_getElem? (i := 19) rfl))) (g := (mkF m 78 #[.val (.int u), .val (.int t), .unset] [(.int u)])) rfl (hb hby own_d2_78) _ k) ?_
          by_cases c8 : u = (65535 : Int32)
          · refine own_go (T' := s₁) (g' := (mkF m 87 #[.val (.int u), .val (.int t), .unset] [])) (fun _ k => XS.icmpYes X0.here hx rfl (pc0 := 80) (pc' := 87) rfl (hb hby own_d2_80) rfl (teq c8).1 (by decide) (by decide) k) ?_
            refine own_go (T' := s₁) (g' := (mkF m 88 #[.val (.int u), .val (.int t), .unset] [(.int (0 : Int32))])) (fun _ k => XS.iconst X0.here hx rfl (hb hby own_d2_87) k) ?_
            refine own_go (T' := s₁) (g' := (mkF m 89 #[.val (.int u), .val (.int t), .val (.int (0 : Int32))] [])) (fun _ k => XS.istoreN X0.here hx rfl (hb hby own_d2_88) rfl (l' := #[.val (.int u), .val (.int t), .val (.int (0 : Int32))]) rfl k) ?_
            refine own_go (T' := s₁) (g' := (mkF m 90 #[.val (.int u), .val (.int t), .val (.int (0 : Int32))] [(.int (0 : Int32))])) (fun _ k => XS.iloadN X0.here hx rfl (hb hby own_d2_89) rfl k) ?_
            refine own_ret X0 Bd.notSynchronized (some (.int (0 : Int32))) (fun h => by rw [Bd.returns] at h; cases h) (fun fs hr => retN X0 hx (t := .boolean) Bd.returns (by simp) (hb hby own_d2_90) hr) ?_ (by decide) (by decide)
            show (own_Q2 Z u t h0 n0) (some (.int (0 : Int32))) s₁.heap _
            rw [e0]
            exact ⟨by rw [if_neg (by (try simp only [own_l0, own_l1, own_l2, own_l3, own_l9, own_l10, own_l13, own_l15, own_l31, own_l32, own_l126, own_l127, own_l133, own_l159, own_l160, own_l255, own_l2048, own_l55295, own_l55296, own_l57343, own_l57344, own_l65520, own_l65533, own_l65534, own_l65535, own_l65536, own_l1114096, own_l1114111, own_l1114112, own_l2147483647, Int32.lt_iff_toInt_lt, ← Int32.toInt_inj, Int64.lt_iff_toInt_lt, ← Int64.toInt_inj, and_true, true_and, and_false, false_and, or_true, true_or, or_false, false_or, not_true_eq_false, not_false_eq_true, ne_eq, true_implies, false_implies, implies_true] at c1 c5 c6 c7 c8 ⊢) <;> omega)], NF, rfl⟩
          · refine own_go (T' := s₁) (g' := (mkF m 83 #[.val (.int u), .val (.int t), .unset] [])) (fun _ k => XS.icmpNo X0.here hx rfl (hb hby own_d2_80) rfl (feq c8).1 k) ?_
            refine own_go (T' := s₁) (g' := (mkF m 84 #[.val (.int u), .val (.int t), .unset] [(.int (1 : Int32))])) (fun _ k => XS.iconst X0.here hx rfl (hb hby own_d2_83) k) ?_
            refine own_go (T' := s₁) (g' := (mkF m 88 #[.val (.int u), .val (.int t), .unset] [(.int (1 : Int32))])) (fun _ k => XS.goto X0.here hx rfl (pc0 := 84) (pc' := 88) rfl (hb hby own_d2_84) (by decide) (by decide) k) ?_
            refine own_go (T' := s₁) (g' := (mkF m 89 #[.val (.int u), .val (.int t), .val (.int (1 : Int32))] [])) (fun _ k => XS.istoreN X0.here hx rfl (hb hby own_d2_88) rfl (l' := #[.val (.int u), .val (.int t), .val (.int (1 : Int32))]) rfl k) ?_
            refine own_go (T' := s₁) (g' := (mkF m 90 #[.val (.int u), .val (.int t), .val (.int (1 : Int32))] [(.int (1 : Int32))])) (fun _ k => XS.iloadN X0.here hx rfl (hb hby own_d2_89) rfl k) ?_
            refine own_ret X0 Bd.notSynchronized (some (.int (1 : Int32))) (fun h => by rw [Bd.returns] at h; cases h) (fun fs hr => retN X0 hx (t := .boolean) Bd.returns (by simp) (hb hby own_d2_90) hr) ?_ (by decide) (by decide)
            show (own_Q2 Z u t h0 n0) (some (.int (1 : Int32))) s₁.heap _
            rw [e0]
            exact ⟨by rw [if_pos (by (try simp only [own_l0, own_l1, own_l2, own_l3, own_l9, own_l10, own_l13, own_l15, own_l31, own_l32, own_l126, own_l127, own_l133, own_l159, own_l160, own_l255, own_l2048, own_l55295, own_l55296, own_l57343, own_l57344, own_l65520, own_l65533, own_l65534, own_l65535, own_l65536, own_l1114096, own_l1114111, own_l1114112, own_l2147483647, Int32.lt_iff_toInt_lt, ← Int32.toInt_inj, Int64.lt_iff_toInt_lt, ← Int64.toInt_inj, and_true, true_and, and_false, false_and, or_true, true_or, or_false, false_or, not_true_eq_false, not_false_eq_true, ne_eq, true_implies, false_implies, implies_true] at c1 c5 c6 c7 c8 ⊢) <;> omega)], NF, rfl⟩
      · refine own_go (T' := s₁) (g' := (mkF m 51 #[.val (.int u), .val (.int t), .unset] [])) (fun _ k => XS.icmpNo X0.here hx rfl (hb hby own_d2_48) rfl (flt c6).2.2.1 k) ?_
        refine own_go (T' := s₁) (g' := (mkF m 52 #[.val (.int u), .val (.int t), .unset] [(.int t)])) (fun _ k => XS.iloadN X0.here hx rfl (hb hby own_d2_51) rfl k) ?_
        by_cases c9 : t = (0 : Int32)
        · refine own_go (T' := s₁) (g' := (mkF m 62 #[.val (.int u), .val (.int t), .unset] [])) (fun _ k => XS.ifYes X0.here hx rfl (pc0 := 52) (pc' := 62) rfl (hb hby own_d2_52) rfl ((if0 _ _).trans (teq c9).1) (by decide) (by decide) k) ?_
          refine own_go (T' := s₁) (g' := (mkF m 63 #[.val (.int u), .val (.int t), .unset] [(.int (1 : Int32))])) (fun _ k => XS.iconst X0.here hx rfl (hb hby own_d2_62) k) ?_
          refine own_go (T' := s₁) (g' := (mkF m 67 #[.val (.int u), .val (.int t), .unset] [(.int (1 : Int32))])) (fun _ k => XS.goto X0.here hx rfl (pc0 := 63) (pc' := 67) rfl (hb hby own_d2_63) (by decide) (by decide) k) ?_
          refine own_go (T' := s₁) (g' := (mkF m 68 #[.val (.int u), .val (.int t), .val (.int (1 : Int32))] [])) (fun _ k => XS.istoreN X0.here hx rfl (hb hby own_d2_67) rfl (l' := #[.val (.int u), .val (.int t), .val (.int (1 : Int32))]) rfl k) ?_
          refine own_go (T' := s₁) (g' := (mkF m 89 #[.val (.int u), .val (.int t), .val (.int (1 : Int32))] [])) (fun _ k => XS.goto X0.here hx rfl (pc0 := 68) (pc' := 89) rfl (hb hby own_d2_68) (by decide) (by decide) k) ?_
          refine own_go (T' := s₁) (g' := (mkF m 90 #[.val (.int u), .val (.int t), .val (.int (1 : Int32))] [(.int (1 : Int32))])) (fun _ k => XS.iloadN X0.here hx rfl (hb hby own_d2_89) rfl k) ?_
          refine own_ret X0 Bd.notSynchronized (some (.int (1 : Int32))) (fun h => by rw [Bd.returns] at h; cases h) (fun fs hr => retN X0 hx (t := .boolean) Bd.returns (by simp) (hb hby own_d2_90) hr) ?_ (by decide) (by decide)
          show (own_Q2 Z u t h0 n0) (some (.int (1 : Int32))) s₁.heap _
          rw [e0]
          exact ⟨by rw [if_pos (by (try simp only [own_l0, own_l1, own_l2, own_l3, own_l9, own_l10, own_l13, own_l15, own_l31, own_l32, own_l126, own_l127, own_l133, own_l159, own_l160, own_l255, own_l2048, own_l55295, own_l55296, own_l57343, own_l57344, own_l65520, own_l65533, own_l65534, own_l65535, own_l65536, own_l1114096, own_l1114111, own_l1114112, own_l2147483647, Int32.lt_iff_toInt_lt, ← Int32.toInt_inj, Int64.lt_iff_toInt_lt, ← Int64.toInt_inj, and_true, true_and, and_false, false_and, or_true, true_or, or_false, false_or, not_true_eq_false, not_false_eq_true, ne_eq, true_implies, false_implies, implies_true] at c1 c5 c6 c9 ⊢) <;> omega)], NF, rfl⟩
        · refine own_go (T' := s₁) (g' := (mkF m 55 #[.val (.int u), .val (.int t), .unset] [])) (fun _ k => XS.ifNo X0.here hx rfl (hb hby own_d2_52) rfl ((if0 _ _).trans (feq c9).1) k) ?_
          refine own_go (T' := s₁) (g' := (mkF m 56 #[.val (.int u), .val (.int t), .unset] [(.int u)])) (fun _ k => XS.iloadN X0.here hx rfl (hb hby own_d2_55) rfl k) ?_
          refine own_go (T' := s₁) (g' := (mkF m 59 #[.val (.int u), .val (.int t), .unset] [(.int (133 : Int32)), (.int u)])) (fun _ k => XS.sipush X0.here hx rfl (hb hby own_d2_56) k) ?_
          by_cases c10 : u = (133 : Int32)
          · refine own_go (T' := s₁) (g' := (mkF m 62 #[.val (.int u), .val (.int t), .unset] [])) (fun _ k => XS.icmpNo X0.here hx rfl (hb hby own_d2_59) rfl (teq c10).2 k) ?_
            refine own_go (T' := s₁) (g' := (mkF m 63 #[.val (.int u), .val (.int t), .unset] [(.int (1 : Int32))])) (fun _ k => XS.iconst X0.here hx rfl (hb hby own_d2_62) k) ?_
            refine own_go (T' := s₁) (g' := (mkF m 67 #[.val (.int u), .val (.int t), .unset] [(.int (1 : Int32))])) (fun _ k => XS.goto X0.here hx rfl (pc0 := 63) (pc' := 67) rfl (hb hby own_d2_63) (by decide) (by decide) k) ?_
            refine own_go (T' := s₁) (g' := (mkF m 68 #[.val (.int u), .val (.int t), .val (.int (1 : Int32))] [])) (fun _ k => XS.istoreN X0.here hx rfl (hb hby own_d2_67) rfl (l' := #[.val (.int u), .val (.int t), .val (.int (1 : Int32))]) rfl k) ?_
            refine own_go (T' := s₁) (g' := (mkF m 89 #[.val (.int u), .val (.int t), .val (.int (1 : Int32))] [])) (fun _ k => XS.goto X0.here hx rfl (pc0 := 68) (pc' := 89) rfl (hb hby own_d2_68) (by decide) (by decide) k) ?_
            refine own_go (T' := s₁) (g' := (mkF m 90 #[.val (.int u), .val (.int t), .val (.int (1 : Int32))] [(.int (1 : Int32))])) (fun _ k => XS.iloadN X0.here hx rfl (hb hby own_d2_89) rfl k) ?_
            refine own_ret X0 Bd.notSynchronized (some (.int (1 : Int32))) (fun h => by rw [Bd.returns] at h; cases h) (fun fs hr => retN X0 hx (t := .boolean) Bd.returns (by simp) (hb hby own_d2_90) hr) ?_ (by decide) (by decide)
            show (own_Q2 Z u t h0 n0) (some (.int (1 : Int32))) s₁.heap _
            rw [e0]
            exact ⟨by rw [if_pos (by (try simp only [own_l0, own_l1, own_l2, own_l3, own_l9, own_l10, own_l13, own_l15, own_l31, own_l32, own_l126, own_l127, own_l133, own_l159, own_l160, own_l255, own_l2048, own_l55295, own_l55296, own_l57343, own_l57344, own_l65520, own_l65533, own_l65534, own_l65535, own_l65536, own_l1114096, own_l1114111, own_l1114112, own_l2147483647, Int32.lt_iff_toInt_lt, ← Int32.toInt_inj, Int64.lt_iff_toInt_lt, ← Int64.toInt_inj, and_true, true_and, and_false, false_and, or_true, true_or, or_false, false_or, not_true_eq_false, not_false_eq_true, ne_eq, true_implies, false_implies, implies_true] at c1 c5 c6 c9 c10 ⊢) <;> omega)], NF, rfl⟩
          · refine own_go (T' := s₁) (g' := (mkF m 66 #[.val (.int u), .val (.int t), .unset] [])) (fun _ k => XS.icmpYes X0.here hx rfl (pc0 := 59) (pc' := 66) rfl (hb hby own_d2_59) rfl (feq c10).2 (by decide) (by decide) k) ?_
            refine own_go (T' := s₁) (g' := (mkF m 67 #[.val (.int u), .val (.int t), .unset] [(.int (0 : Int32))])) (fun _ k => XS.iconst X0.here hx rfl (hb hby own_d2_66) k) ?_
            refine own_go (T' := s₁) (g' := (mkF m 68 #[.val (.int u), .val (.int t), .val (.int (0 : Int32))] [])) (fun _ k => XS.istoreN X0.here hx rfl (hb hby own_d2_67) rfl (l' := #[.val (.int u), .val (.int t), .val (.int (0 : Int32))]) rfl k) ?_
            refine own_go (T' := s₁) (g' := (mkF m 89 #[.val (.int u), .val (.int t), .val (.int (0 : Int32))] [])) (fun _ k => XS.goto X0.here hx rfl (pc0 := 68) (pc' := 89) rfl (hb hby own_d2_68) (by decide) (by decide) k) ?_
            refine own_go (T' := s₁) (g' := (mkF m 90 #[.val (.int u), .val (.int t), .val (.int (0 : Int32))] [(.int (0 : Int32))])) (fun _ k => XS.iloadN X0.here hx rfl (hb hby own_d2_89) rfl k) ?_
            refine own_ret X0 Bd.notSynchronized (some (.int (0 : Int32))) (fun h => by rw [Bd.returns] at h; cases h) (fun fs hr => retN X0 hx (t := .boolean) Bd.returns (by simp) (hb hby own_d2_90) hr) ?_ (by decide) (by decide)
            show (own_Q2 Z u t h0 n0) (some (.int (0 : Int32))) s₁.heap _
            rw [e0]
            exact ⟨by rw [if_neg (by (try simp only [own_l0, own_l1, own_l2, own_l3, own_l9, own_l10, own_l13, own_l15, own_l31, own_l32, own_l126, own_l127, own_l133, own_l159, own_l160, own_l255, own_l2048, own_l55295, own_l55296, own_l57343, own_l57344, own_l65520, own_l65533, own_l65534, own_l65535, own_l65536, own_l1114096, own_l1114111, own_l1114112, own_l2147483647, Int32.lt_iff_toInt_lt, ← Int32.toInt_inj, Int64.lt_iff_toInt_lt, ← Int64.toInt_inj, and_true, true_and, and_false, false_and, or_true, true_or, or_false, false_or, not_true_eq_false, not_false_eq_true, ne_eq, true_implies, false_implies, implies_true] at c1 c5 c6 c9 c10 ⊢) <;> omega)], NF, rfl⟩
theorem own_d3_0 : decode method_3_code 0 = .ok (.iload_n 0, 1) := by decide +kernel
theorem own_d3_1 : decode method_3_code 1 = .ok (.bipush 9, 2) := by decide +kernel
theorem own_d3_3 : decode method_3_code 3 = .ok (.if_icmp .eq 15, 3) := by decide +kernel
theorem own_d3_6 : decode method_3_code 6 = .ok (.iload_n 0, 1) := by decide +kernel
theorem own_d3_7 : decode method_3_code 7 = .ok (.bipush 10, 2) := by decide +kernel
theorem own_d3_9 : decode method_3_code 9 = .ok (.if_icmp .eq 9, 3) := by decide +kernel
theorem own_d3_12 : decode method_3_code 12 = .ok (.iload_n 0, 1) := by decide +kernel
theorem own_d3_13 : decode method_3_code 13 = .ok (.bipush 13, 2) := by decide +kernel
theorem own_d3_15 : decode method_3_code 15 = .ok (.if_icmp .ne 7, 3) := by decide +kernel
theorem own_d3_18 : decode method_3_code 18 = .ok (.iconst 1, 1) := by decide +kernel
theorem own_d3_19 : decode method_3_code 19 = .ok (.goto 4, 3) := by decide +kernel
theorem own_d3_22 : decode method_3_code 22 = .ok (.iconst 0, 1) := by decide +kernel
theorem own_d3_23 : decode method_3_code 23 = .ok (.istore_n 2, 1) := by decide +kernel
theorem own_d3_24 : decode method_3_code 24 = .ok (.iload_n 0, 1) := by decide +kernel
theorem own_d3_25 : decode method_3_code 25 = .ok (.ldc 13, 2) := by decide +kernel
theorem own_d3_27 : decode method_3_code 27 = .ok (.if_icmp .lt 9, 3) := by decide +kernel
theorem own_d3_30 : decode method_3_code 30 = .ok (.iload_n 0, 1) := by decide +kernel
theorem own_d3_31 : decode method_3_code 31 = .ok (.ldc 14, 2) := by decide +kernel
theorem own_d3_33 : decode method_3_code 33 = .ok (.if_icmp .le 15, 3) := by decide +kernel
theorem own_d3_36 : decode method_3_code 36 = .ok (.iload_n 0, 1) := by decide +kernel
theorem own_d3_37 : decode method_3_code 37 = .ok (.ldc 15, 2) := by decide +kernel
theorem own_d3_39 : decode method_3_code 39 = .ok (.if_icmp .lt 13, 3) := by decide +kernel
theorem own_d3_42 : decode method_3_code 42 = .ok (.iload_n 0, 1) := by decide +kernel
theorem own_d3_43 : decode method_3_code 43 = .ok (.ldc 16, 2) := by decide +kernel
theorem own_d3_45 : decode method_3_code 45 = .ok (.if_icmp .gt 7, 3) := by decide +kernel
theorem own_d3_48 : decode method_3_code 48 = .ok (.iconst 1, 1) := by decide +kernel
theorem own_d3_49 : decode method_3_code 49 = .ok (.goto 4, 3) := by decide +kernel
theorem own_d3_52 : decode method_3_code 52 = .ok (.iconst 0, 1) := by decide +kernel
theorem own_d3_53 : decode method_3_code 53 = .ok (.istore_n 3, 1) := by decide +kernel
theorem own_d3_54 : decode method_3_code 54 = .ok (.iload_n 1, 1) := by decide +kernel
theorem own_d3_55 : decode method_3_code 55 = .ok (.ifCond .eq 49, 3) := by decide +kernel
theorem own_d3_58 : decode method_3_code 58 = .ok (.iload_n 2, 1) := by decide +kernel
theorem own_d3_59 : decode method_3_code 59 = .ok (.ifCond .ne 39, 3) := by decide +kernel
theorem own_d3_62 : decode method_3_code 62 = .ok (.iload_n 0, 1) := by decide +kernel
theorem own_d3_63 : decode method_3_code 63 = .ok (.sipush 133, 3) := by decide +kernel
theorem own_d3_66 : decode method_3_code 66 = .ok (.if_icmp .eq 32, 3) := by decide +kernel
theorem own_d3_69 : decode method_3_code 69 = .ok (.iload_n 0, 1) := by decide +kernel
theorem own_d3_70 : decode method_3_code 70 = .ok (.bipush 32, 2) := by decide +kernel
theorem own_d3_72 : decode method_3_code 72 = .ok (.if_icmp .lt 9, 3) := by decide +kernel
theorem own_d3_75 : decode method_3_code 75 = .ok (.iload_n 0, 1) := by decide +kernel
theorem own_d3_76 : decode method_3_code 76 = .ok (.bipush 126, 2) := by decide +kernel
theorem own_d3_78 : decode method_3_code 78 = .ok (.if_icmp .le 20, 3) := by decide +kernel
theorem own_d3_81 : decode method_3_code 81 = .ok (.iload_n 0, 1) := by decide +kernel
theorem own_d3_82 : decode method_3_code 82 = .ok (.sipush 160, 3) := by decide +kernel
theorem own_d3_85 : decode method_3_code 85 = .ok (.if_icmp .lt 9, 3) := by decide +kernel
theorem own_d3_88 : decode method_3_code 88 = .ok (.iload_n 0, 1) := by decide +kernel
theorem own_d3_89 : decode method_3_code 89 = .ok (.ldc 17, 2) := by decide +kernel
theorem own_d3_91 : decode method_3_code 91 = .ok (.if_icmp .le 7, 3) := by decide +kernel
theorem own_d3_94 : decode method_3_code 94 = .ok (.iload_n 3, 1) := by decide +kernel
theorem own_d3_95 : decode method_3_code 95 = .ok (.ifCond .eq 7, 3) := by decide +kernel
theorem own_d3_98 : decode method_3_code 98 = .ok (.iconst 1, 1) := by decide +kernel
theorem own_d3_99 : decode method_3_code 99 = .ok (.goto 4, 3) := by decide +kernel
theorem own_d3_102 : decode method_3_code 102 = .ok (.iconst 0, 1) := by decide +kernel
theorem own_d3_103 : decode method_3_code 103 = .ok (.ireturn, 1) := by decide +kernel
theorem own_d3_104 : decode method_3_code 104 = .ok (.iload_n 2, 1) := by decide +kernel
theorem own_d3_105 : decode method_3_code 105 = .ok (.ifCond .ne 19, 3) := by decide +kernel
theorem own_d3_108 : decode method_3_code 108 = .ok (.iload_n 0, 1) := by decide +kernel
theorem own_d3_109 : decode method_3_code 109 = .ok (.bipush 32, 2) := by decide +kernel
theorem own_d3_111 : decode method_3_code 111 = .ok (.if_icmp .lt 9, 3) := by decide +kernel
theorem own_d3_114 : decode method_3_code 114 = .ok (.iload_n 0, 1) := by decide +kernel
theorem own_d3_115 : decode method_3_code 115 = .ok (.ldc 17, 2) := by decide +kernel
theorem own_d3_117 : decode method_3_code 117 = .ok (.if_icmp .le 7, 3) := by decide +kernel
theorem own_d3_120 : decode method_3_code 120 = .ok (.iload_n 3, 1) := by decide +kernel
theorem own_d3_121 : decode method_3_code 121 = .ok (.ifCond .eq 7, 3) := by decide +kernel
theorem own_d3_124 : decode method_3_code 124 = .ok (.iconst 1, 1) := by decide +kernel
theorem own_d3_125 : decode method_3_code 125 = .ok (.goto 4, 3) := by decide +kernel
theorem own_d3_128 : decode method_3_code 128 = .ok (.iconst 0, 1) := by decide +kernel
theorem own_d3_129 : decode method_3_code 129 = .ok (.ireturn, 1) := by decide +kernel
theorem own_pn3 : plainName "com/example/tidy_sitemap/tidysitemap/read/XmlCharactersStandsAsIsPinLaw" = true := by first | (simp [plainName, overriddenIn]; done) | decide +kernel
theorem own_ef3 (m : MethodId) (u : Int32) (t : Int32) : entryFrame m #[(.int u), (.int t)] 4 = mkF m 0 #[.val (.int u), .val (.int t), .unset, .unset] [] := by first | (simp [entryFrame, mkF, argsToLocals, Value.category]; done) | rfl
def own_Q3 (Z : State) (u : Int32) (t : Int32) (h0 : Heap) (n0 : Nat) (v : Option Value) (h : Heap) (L : List Loc) : Prop := v = some (.int (if (u.toInt = 9 ∨ u.toInt = 10 ∨ u.toInt = 13) ∨ ((57344 ≤ u.toInt ∧ u.toInt ≤ 65533) ∨ (65536 ≤ u.toInt ∧ u.toInt ≤ 1114111)) ∨ (t.toInt ≠ 0 ∧ (u.toInt = 133 ∨ (32 ≤ u.toInt ∧ u.toInt ≤ 126) ∨ (160 ≤ u.toInt ∧ u.toInt ≤ 55295))) ∨ (t.toInt = 0 ∧ 32 ≤ u.toInt ∧ u.toInt ≤ 55295) then 1 else 0)) ∧ Fr n0 L ∧ h = h0
set_option maxRecDepth 65536 in
set_option maxHeartbeats 40000000 in
theorem own_rm3 (l : Launch) (Z : State) (a0 : Array Value) (hw : ∀ d ∈ tables_1, d.before a0 Z = true) (ws : List Jvm.Cond) (u : Int32) (t : Int32) (h0 : Heap) (n0 : Nat) (Zs : n0 ≤ h0.size) (hr : 0 ≤ u.toInt ∧ u.toInt ≤ 1114111 ∧ ¬ (55296 ≤ u.toInt ∧ u.toInt ≤ 57343)) :
    MetFree l (⟨"com/example/tidy_sitemap/tidysitemap/read/XmlCharactersStandsAsIsPinLaw", "reference", "(IZ)Z"⟩ : MethodName) (head1 (Jvm.Cond.code (⟨"com/example/tidy_sitemap/tidysitemap/read/XmlCharactersStandsAsIsPinLaw", "reference", "(IZ)Z"⟩ : MethodName) method_3_code 4 (some .boolean) :: ws) ({ frames := 0, cells := 0, slots := 0, locals := 0 } : Room)) (fun aA_ U => aA_ = #[(.int u), (.int t)] ∧ Z.Warmed39 U.vm ∧ U.heap = h0) (fun _ _ _ _ _ => True) (fun _ U o U' => ∃ v L, o = .returned v ∧ own_Q3 Z u t h0 n0 v U'.heap L ∧ FrameEnd U o U' L ({ frames := 0, cells := 0, slots := 0, locals := 0 } : Room).cells ({ frames := 0, cells := 0, slots := 0, locals := 0 } : Room).slots) := by
  refine MetFree.of_bodySF (plainFor_of_name own_pn3) hisR ?_
  intro p e s m args below meth c s₁ Bd hml0 hP hK
  obtain ⟨rfl, hZ, hh⟩ := hP
  have hx := Bd.exec
  have hby := Bd.bytes
  have hml : c.maxLocals = 4 := hml0
  have hown : s.vm.findClass "com/example/tidy_sitemap/tidysitemap/read/XmlCharactersStandsAsIsPinLaw" = some m.cls := findClass_of_methodNamed Bd.named
  have hnm := (name_of_methodNamed Bd.named Bd.method).1
  have X0 : Stand p l e ({ frames := 0, cells := 0, slots := 0, locals := 0 } : Room) s m #[(.int u), (.int t)] below meth c s₁ [] 0 0 := Stand.of_body Bd
  have e0 : s₁.heap = h0 := by rw [← hh, Bd.state]; rfl
  have NF := Fr.nil n0
  rw [own_ef3 m u t]
  show own_Dn p e below s (own_Q3 Z u t h0 n0) 0 0 s₁ (mkF m 0 #[.val (.int u), .val (.int t), .unset, .unset] [])
  have J3 : ∀ (z1 : Int32), ((z1.toInt = 1 ∧ (u.toInt = 9 ∨ u.toInt = 10 ∨ u.toInt = 13)) ∨ (z1.toInt = 0 ∧ ¬ (u.toInt = 9 ∨ u.toInt = 10 ∨ u.toInt = 13))) → own_Dn p e below s (own_Q3 Z u t h0 n0) 0 0 s₁ (mkF m 24 #[.val (.int u), .val (.int t), .val (.int z1), .unset] []) := by
    intro z1 hz2
    have J6 : ∀ (z4 : Int32), ((z4.toInt = 1 ∧ ((57344 ≤ u.toInt ∧ u.toInt ≤ 65533) ∨ (65536 ≤ u.toInt ∧ u.toInt ≤ 1114111))) ∨ (z4.toInt = 0 ∧ ¬ ((57344 ≤ u.toInt ∧ u.toInt ≤ 65533) ∨ (65536 ≤ u.toInt ∧ u.toInt ≤ 1114111)))) → own_Dn p e below s (own_Q3 Z u t h0 n0) 0 0 s₁ (mkF m 54 #[.val (.int u), .val (.int t), .val (.int z1), .val (.int z4)] []) := by
      intro z4 hz5
      refine own_go (T' := s₁) (g' := (mkF m 55 #[.val (.int u), .val (.int t), .val (.int z1), .val (.int z4)] [(.int t)])) (fun _ k => XS.iloadN X0.here hx rfl (hb hby own_d3_54) rfl k) ?_
      by_cases c7 : t = (0 : Int32)
      · refine own_go (T' := s₁) (g' := (mkF m 104 #[.val (.int u), .val (.int t), .val (.int z1), .val (.int z4)] [])) (fun _ k => XS.ifYes X0.here hx rfl (pc0 := 55) (pc' := 104) rfl (hb hby own_d3_55) rfl ((if0 _ _).trans (teq c7).1) (by decide) (by decide) k) ?_
        refine own_go (T' := s₁) (g' := (mkF m 105 #[.val (.int u), .val (.int t), .val (.int z1), .val (.int z4)] [(.int z1)])) (fun _ k => XS.iloadN X0.here hx rfl (hb hby own_d3_104) rfl k) ?_
        by_cases c8 : z1 = (0 : Int32)
        · refine own_go (T' := s₁) (g' := (mkF m 108 #[.val (.int u), .val (.int t), .val (.int z1), .val (.int z4)] [])) (fun _ k => XS.ifNo X0.here hx rfl (hb hby own_d3_105) rfl ((if0 _ _).trans (teq c8).2) k) ?_
          refine own_go (T' := s₁) (g' := (mkF m 109 #[.val (.int u), .val (.int t), .val (.int z1), .val (.int z4)] [(.int u)])) (fun _ k => XS.iloadN X0.here hx rfl (hb hby own_d3_108) rfl k) ?_
          refine own_go (T' := s₁) (g' := (mkF m 111 #[.val (.int u), .val (.int t), .val (.int z1), .val (.int z4)] [(.int (32 : Int32)), (.int u)])) (fun _ k => XS.bipush X0.here hx rfl (hb hby own_d3_109) k) ?_
          by_cases c9 : u < (32 : Int32)
          · refine own_go (T' := s₁) (g' := (mkF m 120 #[.val (.int u), .val (.int t), .val (.int z1), .val (.int z4)] [])) (fun _ k => XS.icmpYes X0.here hx rfl (pc0 := 111) (pc' := 120) rfl (hb hby own_d3_111) rfl (tlt c9).1 (by decide) (by decide) k) ?_
            refine own_go (T' := s₁) (g' := (mkF m 121 #[.val (.int u), .val (.int t), .val (.int z1), .val (.int z4)] [(.int z4)])) (fun _ k => XS.iloadN X0.here hx rfl (hb hby own_d3_120) rfl k) ?_
            by_cases c10 : z4 = (0 : Int32)
            · refine own_go (T' := s₁) (g' := (mkF m 128 #[.val (.int u), .val (.int t), .val (.int z1), .val (.int z4)] [])) (fun _ k => XS.ifYes X0.here hx rfl (pc0 := 121) (pc' := 128) rfl (hb hby own_d3_121) rfl ((if0 _ _).trans (teq c10).1) (by decide) (by decide) k) ?_
              refine own_go (T' := s₁) (g' := (mkF m 129 #[.val (.int u), .val (.int t), .val (.int z1), .val (.int z4)] [(.int (0 : Int32))])) (fun _ k => XS.iconst X0.here hx rfl (hb hby own_d3_128) k) ?_
              refine own_ret X0 Bd.notSynchronized (some (.int (0 : Int32))) (fun h => by rw [Bd.returns] at h; cases h) (fun fs hr => retN X0 hx (t := .boolean) Bd.returns (by simp) (hb hby own_d3_129) hr) ?_ (by decide) (by decide)
              show (own_Q3 Z u t h0 n0) (some (.int (0 : Int32))) s₁.heap _
              rw [e0]
              exact ⟨by rw [if_neg (by (try simp only [own_l0, own_l1, own_l2, own_l3, own_l9, own_l10, own_l13, own_l15, own_l31, own_l32, own_l126, own_l127, own_l133, own_l159, own_l160, own_l255, own_l2048, own_l55295, own_l55296, own_l57343, own_l57344, own_l65520, own_l65533, own_l65534, own_l65535, own_l65536, own_l1114096, own_l1114111, own_l1114112, own_l2147483647, Int32.lt_iff_toInt_lt, ← Int32.toInt_inj, Int64.lt_iff_toInt_lt, ← Int64.toInt_inj, and_true, true_and, and_false, false_and, or_true, true_or, or_false, false_or, not_true_eq_false, not_false_eq_true, ne_eq, true_implies, false_implies, implies_true] at hz2 hz5 c7 c8 c9 c10 ⊢) <;> omega)], NF, rfl⟩
            · refine own_go (T' := s₁) (g' := (mkF m 124 #[.val (.int u), .val (.int t), .val (.int z1), .val (.int z4)] [])) (fun _ k => XS.ifNo X0.here hx rfl (hb hby own_d3_121) rfl ((if0 _ _).trans (feq c10).1) k) ?_
              refine own_go (T' := s₁) (g' := (mkF m 125 #[.val (.int u), .val (.int t), .val (.int z1), .val (.int z4)] [(.int (1 : Int32))])) (fun _ k => XS.iconst X0.here hx rfl (hb hby own_d3_124) k) ?_
              refine own_go (T' := s₁) (g' := (mkF m 129 #[.val (.int u), .val (.int t), .val (.int z1), .val (.int z4)] [(.int (1 : Int32))])) (fun _ k => XS.goto X0.here hx rfl (pc0 := 125) (pc' := 129) rfl (hb hby own_d3_125) (by decide) (by decide) k) ?_
              refine own_ret X0 Bd.notSynchronized (some (.int (1 : Int32))) (fun h => by rw [Bd.returns] at h; cases h) (fun fs hr => retN X0 hx (t := .boolean) Bd.returns (by simp) (hb hby own_d3_129) hr) ?_ (by decide) (by decide)
              show (own_Q3 Z u t h0 n0) (some (.int (1 : Int32))) s₁.heap _
              rw [e0]
              exact ⟨by rw [if_pos (by (try simp only [own_l0, own_l1, own_l2, own_l3, own_l9, own_l10, own_l13, own_l15, own_l31, own_l32, own_l126, own_l127, own_l133, own_l159, own_l160, own_l255, own_l2048, own_l55295, own_l55296, own_l57343, own_l57344, own_l65520, own_l65533, own_l65534, own_l65535, own_l65536, own_l1114096, own_l1114111, own_l1114112, own_l2147483647, Int32.lt_iff_toInt_lt, ← Int32.toInt_inj, Int64.lt_iff_toInt_lt, ← Int64.toInt_inj, and_true, true_and, and_false, false_and, or_true, true_or, or_false, false_or, not_true_eq_false, not_false_eq_true, ne_eq, true_implies, false_implies, implies_true] at hz2 hz5 c7 c8 c9 c10 ⊢) <;> omega)], NF, rfl⟩
          · refine own_go (T' := s₁) (g' := (mkF m 114 #[.val (.int u), .val (.int t), .val (.int z1), .val (.int z4)] [])) (fun _ k => XS.icmpNo X0.here hx rfl (hb hby own_d3_111) rfl (flt c9).1 k) ?_
            refine own_go (T' := s₁) (g' := (mkF m 115 #[.val (.int u), .val (.int t), .val (.int z1), .val (.int z4)] [(.int u)])) (fun _ k => XS.iloadN X0.here hx rfl (hb hby own_d3_114) rfl k) ?_
            refine own_go (T' := s₁) (g' := (mkF m 117 #[.val (.int u), .val (.int t), .val (.int z1), .val (.int z4)] [(.int (55295 : Int32)), (.int u)])) (fun _ k => X0.ldcInt hx hown (mvT hZ (hw _ (List.mem_of_getElem? (i := 21) rfl))) (g := (mkF m 115 #[.val (.int u), .val (.int t), .val (.int z1), .val (.int z4)] [(.int u)])) rfl (hb hby own_d3_115) _ k) ?_
            by_cases c11 : (55295 : Int32) < u
            · refine own_go (T' := s₁) (g' := (mkF m 120 #[.val (.int u), .val (.int t), .val (.int z1), .val (.int z4)] [])) (fun _ k => XS.icmpNo X0.here hx rfl (hb hby own_d3_117) rfl (tlt c11).2.2.2 k) ?_
              refine own_go (T' := s₁) (g' := (mkF m 121 #[.val (.int u), .val (.int t), .val (.int z1), .val (.int z4)] [(.int z4)])) (fun _ k => XS.iloadN X0.here hx rfl (hb hby own_d3_120) rfl k) ?_
              by_cases c12 : z4 = (0 : Int32)
              · refine own_go (T' := s₁) (g' := (mkF m 128 #[.val (.int u), .val (.int t), .val (.int z1), .val (.int z4)] [])) (fun _ k => XS.ifYes X0.here hx rfl (pc0 := 121) (pc' := 128) rfl (hb hby own_d3_121) rfl ((if0 _ _).trans (teq c12).1) (by decide) (by decide) k) ?_
                refine own_go (T' := s₁) (g' := (mkF m 129 #[.val (.int u), .val (.int t), .val (.int z1), .val (.int z4)] [(.int (0 : Int32))])) (fun _ k => XS.iconst X0.here hx rfl (hb hby own_d3_128) k) ?_
                refine own_ret X0 Bd.notSynchronized (some (.int (0 : Int32))) (fun h => by rw [Bd.returns] at h; cases h) (fun fs hr => retN X0 hx (t := .boolean) Bd.returns (by simp) (hb hby own_d3_129) hr) ?_ (by decide) (by decide)
                show (own_Q3 Z u t h0 n0) (some (.int (0 : Int32))) s₁.heap _
                rw [e0]
                exact ⟨by rw [if_neg (by (try simp only [own_l0, own_l1, own_l2, own_l3, own_l9, own_l10, own_l13, own_l15, own_l31, own_l32, own_l126, own_l127, own_l133, own_l159, own_l160, own_l255, own_l2048, own_l55295, own_l55296, own_l57343, own_l57344, own_l65520, own_l65533, own_l65534, own_l65535, own_l65536, own_l1114096, own_l1114111, own_l1114112, own_l2147483647, Int32.lt_iff_toInt_lt, ← Int32.toInt_inj, Int64.lt_iff_toInt_lt, ← Int64.toInt_inj, and_true, true_and, and_false, false_and, or_true, true_or, or_false, false_or, not_true_eq_false, not_false_eq_true, ne_eq, true_implies, false_implies, implies_true] at hz2 hz5 c7 c8 c9 c11 c12 ⊢) <;> omega)], NF, rfl⟩
              · refine own_go (T' := s₁) (g' := (mkF m 124 #[.val (.int u), .val (.int t), .val (.int z1), .val (.int z4)] [])) (fun _ k => XS.ifNo X0.here hx rfl (hb hby own_d3_121) rfl ((if0 _ _).trans (feq c12).1) k) ?_
                refine own_go (T' := s₁) (g' := (mkF m 125 #[.val (.int u), .val (.int t), .val (.int z1), .val (.int z4)] [(.int (1 : Int32))])) (fun _ k => XS.iconst X0.here hx rfl (hb hby own_d3_124) k) ?_
                refine own_go (T' := s₁) (g' := (mkF m 129 #[.val (.int u), .val (.int t), .val (.int z1), .val (.int z4)] [(.int (1 : Int32))])) (fun _ k => XS.goto X0.here hx rfl (pc0 := 125) (pc' := 129) rfl (hb hby own_d3_125) (by decide) (by decide) k) ?_
                refine own_ret X0 Bd.notSynchronized (some (.int (1 : Int32))) (fun h => by rw [Bd.returns] at h; cases h) (fun fs hr => retN X0 hx (t := .boolean) Bd.returns (by simp) (hb hby own_d3_129) hr) ?_ (by decide) (by decide)
                show (own_Q3 Z u t h0 n0) (some (.int (1 : Int32))) s₁.heap _
                rw [e0]
                exact ⟨by rw [if_pos (by (try simp only [own_l0, own_l1, own_l2, own_l3, own_l9, own_l10, own_l13, own_l15, own_l31, own_l32, own_l126, own_l127, own_l133, own_l159, own_l160, own_l255, own_l2048, own_l55295, own_l55296, own_l57343, own_l57344, own_l65520, own_l65533, own_l65534, own_l65535, own_l65536, own_l1114096, own_l1114111, own_l1114112, own_l2147483647, Int32.lt_iff_toInt_lt, ← Int32.toInt_inj, Int64.lt_iff_toInt_lt, ← Int64.toInt_inj, and_true, true_and, and_false, false_and, or_true, true_or, or_false, false_or, not_true_eq_false, not_false_eq_true, ne_eq, true_implies, false_implies, implies_true] at hz2 hz5 c7 c8 c9 c11 c12 ⊢) <;> omega)], NF, rfl⟩
            · refine own_go (T' := s₁) (g' := (mkF m 124 #[.val (.int u), .val (.int t), .val (.int z1), .val (.int z4)] [])) (fun _ k => XS.icmpYes X0.here hx rfl (pc0 := 117) (pc' := 124) rfl (hb hby own_d3_117) rfl (flt c11).2.2.2 (by decide) (by decide) k) ?_
              refine own_go (T' := s₁) (g' := (mkF m 125 #[.val (.int u), .val (.int t), .val (.int z1), .val (.int z4)] [(.int (1 : Int32))])) (fun _ k => XS.iconst X0.here hx rfl (hb hby own_d3_124) k) ?_
              refine own_go (T' := s₁) (g' := (mkF m 129 #[.val (.int u), .val (.int t), .val (.int z1), .val (.int z4)] [(.int (1 : Int32))])) (fun _ k => XS.goto X0.here hx rfl (pc0 := 125) (pc' := 129) rfl (hb hby own_d3_125) (by decide) (by decide) k) ?_
              refine own_ret X0 Bd.notSynchronized (some (.int (1 : Int32))) (fun h => by rw [Bd.returns] at h; cases h) (fun fs hr => retN X0 hx (t := .boolean) Bd.returns (by simp) (hb hby own_d3_129) hr) ?_ (by decide) (by decide)
              show (own_Q3 Z u t h0 n0) (some (.int (1 : Int32))) s₁.heap _
              rw [e0]
              exact ⟨by rw [if_pos (by (try simp only [own_l0, own_l1, own_l2, own_l3, own_l9, own_l10, own_l13, own_l15, own_l31, own_l32, own_l126, own_l127, own_l133, own_l159, own_l160, own_l255, own_l2048, own_l55295, own_l55296, own_l57343, own_l57344, own_l65520, own_l65533, own_l65534, own_l65535, own_l65536, own_l1114096, own_l1114111, own_l1114112, own_l2147483647, Int32.lt_iff_toInt_lt, ← Int32.toInt_inj, Int64.lt_iff_toInt_lt, ← Int64.toInt_inj, and_true, true_and, and_false, false_and, or_true, true_or, or_false, false_or, not_true_eq_false, not_false_eq_true, ne_eq, true_implies, false_implies, implies_true] at hz2 hz5 c7 c8 c9 c11 ⊢) <;> omega)], NF, rfl⟩
        · refine own_go (T' := s₁) (g' := (mkF m 124 #[.val (.int u), .val (.int t), .val (.int z1), .val (.int z4)] [])) (fun _ k => XS.ifYes X0.here hx rfl (pc0 := 105) (pc' := 124) rfl (hb hby own_d3_105) rfl ((if0 _ _).trans (feq c8).2) (by decide) (by decide) k) ?_
          refine own_go (T' := s₁) (g' := (mkF m 125 #[.val (.int u), .val (.int t), .val (.int z1), .val (.int z4)] [(.int (1 : Int32))])) (fun _ k => XS.iconst X0.here hx rfl (hb hby own_d3_124) k) ?_
          refine own_go (T' := s₁) (g' := (mkF m 129 #[.val (.int u), .val (.int t), .val (.int z1), .val (.int z4)] [(.int (1 : Int32))])) (fun _ k => XS.goto X0.here hx rfl (pc0 := 125) (pc' := 129) rfl (hb hby own_d3_125) (by decide) (by decide) k) ?_
          refine own_ret X0 Bd.notSynchronized (some (.int (1 : Int32))) (fun h => by rw [Bd.returns] at h; cases h) (fun fs hr => retN X0 hx (t := .boolean) Bd.returns (by simp) (hb hby own_d3_129) hr) ?_ (by decide) (by decide)
          show (own_Q3 Z u t h0 n0) (some (.int (1 : Int32))) s₁.heap _
          rw [e0]
          exact ⟨by rw [if_pos (by (try simp only [own_l0, own_l1, own_l2, own_l3, own_l9, own_l10, own_l13, own_l15, own_l31, own_l32, own_l126, own_l127, own_l133, own_l159, own_l160, own_l255, own_l2048, own_l55295, own_l55296, own_l57343, own_l57344, own_l65520, own_l65533, own_l65534, own_l65535, own_l65536, own_l1114096, own_l1114111, own_l1114112, own_l2147483647, Int32.lt_iff_toInt_lt, ← Int32.toInt_inj, Int64.lt_iff_toInt_lt, ← Int64.toInt_inj, and_true, true_and, and_false, false_and, or_true, true_or, or_false, false_or, not_true_eq_false, not_false_eq_true, ne_eq, true_implies, false_implies, implies_true] at hz2 hz5 c7 c8 ⊢) <;> omega)], NF, rfl⟩
      · refine own_go (T' := s₁) (g' := (mkF m 58 #[.val (.int u), .val (.int t), .val (.int z1), .val (.int z4)] [])) (fun _ k => XS.ifNo X0.here hx rfl (hb hby own_d3_55) rfl ((if0 _ _).trans (feq c7).1) k) ?_
        refine own_go (T' := s₁) (g' := (mkF m 59 #[.val (.int u), .val (.int t), .val (.int z1), .val (.int z4)] [(.int z1)])) (fun _ k => XS.iloadN X0.here hx rfl (hb hby own_d3_58) rfl k) ?_
        by_cases c13 : z1 = (0 : Int32)
        · refine own_go (T' := s₁) (g' := (mkF m 62 #[.val (.int u), .val (.int t), .val (.int z1), .val (.int z4)] [])) (fun _ k => XS.ifNo X0.here hx rfl (hb hby own_d3_59) rfl ((if0 _ _).trans (teq c13).2) k) ?_
          refine own_go (T' := s₁) (g' := (mkF m 63 #[.val (.int u), .val (.int t), .val (.int z1), .val (.int z4)] [(.int u)])) (fun _ k => XS.iloadN X0.here hx rfl (hb hby own_d3_62) rfl k) ?_
          refine own_go (T' := s₁) (g' := (mkF m 66 #[.val (.int u), .val (.int t), .val (.int z1), .val (.int z4)] [(.int (133 : Int32)), (.int u)])) (fun _ k => XS.sipush X0.here hx rfl (hb hby own_d3_63) k) ?_
          by_cases c14 : u = (133 : Int32)
          · refine own_go (T' := s₁) (g' := (mkF m 98 #[.val (.int u), .val (.int t), .val (.int z1), .val (.int z4)] [])) (fun _ k => XS.icmpYes X0.here hx rfl (pc0 := 66) (pc' := 98) rfl (hb hby own_d3_66) rfl (teq c14).1 (by decide) (by decide) k) ?_
            refine own_go (T' := s₁) (g' := (mkF m 99 #[.val (.int u), .val (.int t), .val (.int z1), .val (.int z4)] [(.int (1 : Int32))])) (fun _ k => XS.iconst X0.here hx rfl (hb hby own_d3_98) k) ?_
            refine own_go (T' := s₁) (g' := (mkF m 103 #[.val (.int u), .val (.int t), .val (.int z1), .val (.int z4)] [(.int (1 : Int32))])) (fun _ k => XS.goto X0.here hx rfl (pc0 := 99) (pc' := 103) rfl (hb hby own_d3_99) (by decide) (by decide) k) ?_
            refine own_ret X0 Bd.notSynchronized (some (.int (1 : Int32))) (fun h => by rw [Bd.returns] at h; cases h) (fun fs hr => retN X0 hx (t := .boolean) Bd.returns (by simp) (hb hby own_d3_103) hr) ?_ (by decide) (by decide)
            show (own_Q3 Z u t h0 n0) (some (.int (1 : Int32))) s₁.heap _
            rw [e0]
            exact ⟨by rw [if_pos (by (try simp only [own_l0, own_l1, own_l2, own_l3, own_l9, own_l10, own_l13, own_l15, own_l31, own_l32, own_l126, own_l127, own_l133, own_l159, own_l160, own_l255, own_l2048, own_l55295, own_l55296, own_l57343, own_l57344, own_l65520, own_l65533, own_l65534, own_l65535, own_l65536, own_l1114096, own_l1114111, own_l1114112, own_l2147483647, Int32.lt_iff_toInt_lt, ← Int32.toInt_inj, Int64.lt_iff_toInt_lt, ← Int64.toInt_inj, and_true, true_and, and_false, false_and, or_true, true_or, or_false, false_or, not_true_eq_false, not_false_eq_true, ne_eq, true_implies, false_implies, implies_true] at hz2 hz5 c7 c13 c14 ⊢) <;> omega)], NF, rfl⟩
          · refine own_go (T' := s₁) (g' := (mkF m 69 #[.val (.int u), .val (.int t), .val (.int z1), .val (.int z4)] [])) (fun _ k => XS.icmpNo X0.here hx rfl (hb hby own_d3_66) rfl (feq c14).1 k) ?_
            refine own_go (T' := s₁) (g' := (mkF m 70 #[.val (.int u), .val (.int t), .val (.int z1), .val (.int z4)] [(.int u)])) (fun _ k => XS.iloadN X0.here hx rfl (hb hby own_d3_69) rfl k) ?_
            refine own_go (T' := s₁) (g' := (mkF m 72 #[.val (.int u), .val (.int t), .val (.int z1), .val (.int z4)] [(.int (32 : Int32)), (.int u)])) (fun _ k => XS.bipush X0.here hx rfl (hb hby own_d3_70) k) ?_
            by_cases c15 : u < (32 : Int32)
            · refine own_go (T' := s₁) (g' := (mkF m 81 #[.val (.int u), .val (.int t), .val (.int z1), .val (.int z4)] [])) (fun _ k => XS.icmpYes X0.here hx rfl (pc0 := 72) (pc' := 81) rfl (hb hby own_d3_72) rfl (tlt c15).1 (by decide) (by decide) k) ?_
              refine own_go (T' := s₁) (g' := (mkF m 82 #[.val (.int u), .val (.int t), .val (.int z1), .val (.int z4)] [(.int u)])) (fun _ k => XS.iloadN X0.here hx rfl (hb hby own_d3_81) rfl k) ?_
              refine own_go (T' := s₁) (g' := (mkF m 85 #[.val (.int u), .val (.int t), .val (.int z1), .val (.int z4)] [(.int (160 : Int32)), (.int u)])) (fun _ k => XS.sipush X0.here hx rfl (hb hby own_d3_82) k) ?_
              by_cases c16 : u < (160 : Int32)
              · refine own_go (T' := s₁) (g' := (mkF m 94 #[.val (.int u), .val (.int t), .val (.int z1), .val (.int z4)] [])) (fun _ k => XS.icmpYes X0.here hx rfl (pc0 := 85) (pc' := 94) rfl (hb hby own_d3_85) rfl (tlt c16).1 (by decide) (by decide) k) ?_
                refine own_go (T' := s₁) (g' := (mkF m 95 #[.val (.int u), .val (.int t), .val (.int z1), .val (.int z4)] [(.int z4)])) (fun _ k => XS.iloadN X0.here hx rfl (hb hby own_d3_94) rfl k) ?_
                by_cases c17 : z4 = (0 : Int32)
                · refine own_go (T' := s₁) (g' := (mkF m 102 #[.val (.int u), .val (.int t), .val (.int z1), .val (.int z4)] [])) (fun _ k => XS.ifYes X0.here hx rfl (pc0 := 95) (pc' := 102) rfl (hb hby own_d3_95) rfl ((if0 _ _).trans (teq c17).1) (by decide) (by decide) k) ?_
                  refine own_go (T' := s₁) (g' := (mkF m 103 #[.val (.int u), .val (.int t), .val (.int z1), .val (.int z4)] [(.int (0 : Int32))])) (fun _ k => XS.iconst X0.here hx rfl (hb hby own_d3_102) k) ?_
                  refine own_ret X0 Bd.notSynchronized (some (.int (0 : Int32))) (fun h => by rw [Bd.returns] at h; cases h) (fun fs hr => retN X0 hx (t := .boolean) Bd.returns (by simp) (hb hby own_d3_103) hr) ?_ (by decide) (by decide)
                  show (own_Q3 Z u t h0 n0) (some (.int (0 : Int32))) s₁.heap _
                  rw [e0]
                  exact ⟨by rw [if_neg (by (try simp only [own_l0, own_l1, own_l2, own_l3, own_l9, own_l10, own_l13, own_l15, own_l31, own_l32, own_l126, own_l127, own_l133, own_l159, own_l160, own_l255, own_l2048, own_l55295, own_l55296, own_l57343, own_l57344, own_l65520, own_l65533, own_l65534, own_l65535, own_l65536, own_l1114096, own_l1114111, own_l1114112, own_l2147483647, Int32.lt_iff_toInt_lt, ← Int32.toInt_inj, Int64.lt_iff_toInt_lt, ← Int64.toInt_inj, and_true, true_and, and_false, false_and, or_true, true_or, or_false, false_or, not_true_eq_false, not_false_eq_true, ne_eq, true_implies, false_implies, implies_true] at hz2 hz5 c7 c13 c14 c15 c16 c17 ⊢) <;> omega)], NF, rfl⟩
                · refine own_go (T' := s₁) (g' := (mkF m 98 #[.val (.int u), .val (.int t), .val (.int z1), .val (.int z4)] [])) (fun _ k => XS.ifNo X0.here hx rfl (hb hby own_d3_95) rfl ((if0 _ _).trans (feq c17).1) k) ?_
                  refine own_go (T' := s₁) (g' := (mkF m 99 #[.val (.int u), .val (.int t), .val (.int z1), .val (.int z4)] [(.int (1 : Int32))])) (fun _ k => XS.iconst X0.here hx rfl (hb hby own_d3_98) k) ?_
                  refine own_go (T' := s₁) (g' := (mkF m 103 #[.val (.int u), .val (.int t), .val (.int z1), .val (.int z4)] [(.int (1 : Int32))])) (fun _ k => XS.goto X0.here hx rfl (pc0 := 99) (pc' := 103) rfl (hb hby own_d3_99) (by decide) (by decide) k) ?_
                  refine own_ret X0 Bd.notSynchronized (some (.int (1 : Int32))) (fun h => by rw [Bd.returns] at h; cases h) (fun fs hr => retN X0 hx (t := .boolean) Bd.returns (by simp) (hb hby own_d3_103) hr) ?_ (by decide) (by decide)
                  show (own_Q3 Z u t h0 n0) (some (.int (1 : Int32))) s₁.heap _
                  rw [e0]
                  exact ⟨by rw [if_pos (by (try simp only [own_l0, own_l1, own_l2, own_l3, own_l9, own_l10, own_l13, own_l15, own_l31, own_l32, own_l126, own_l127, own_l133, own_l159, own_l160, own_l255, own_l2048, own_l55295, own_l55296, own_l57343, own_l57344, own_l65520, own_l65533, own_l65534, own_l65535, own_l65536, own_l1114096, own_l1114111, own_l1114112, own_l2147483647, Int32.lt_iff_toInt_lt, ← Int32.toInt_inj, Int64.lt_iff_toInt_lt, ← Int64.toInt_inj, and_true, true_and, and_false, false_and, or_true, true_or, or_false, false_or, not_true_eq_false, not_false_eq_true, ne_eq, true_implies, false_implies, implies_true] at hz2 hz5 c7 c13 c14 c15 c16 c17 ⊢) <;> omega)], NF, rfl⟩
              · refine own_go (T' := s₁) (g' := (mkF m 88 #[.val (.int u), .val (.int t), .val (.int z1), .val (.int z4)] [])) (fun _ k => XS.icmpNo X0.here hx rfl (hb hby own_d3_85) rfl (flt c16).1 k) ?_
                refine own_go (T' := s₁) (g' := (mkF m 89 #[.val (.int u), .val (.int t), .val (.int z1), .val (.int z4)] [(.int u)])) (fun _ k => XS.iloadN X0.here hx rfl (hb hby own_d3_88) rfl k) ?_
                refine own_go (T' := s₁) (g' := (mkF m 91 #[.val (.int u), .val (.int t), .val (.int z1), .val (.int z4)] [(.int (55295 : Int32)), (.int u)])) (fun _ k => X0.ldcInt hx hown (mvT hZ (hw _ (List.mem_of_getElem? (i := 21) rfl))) (g := (mkF m 89 #[.val (.int u), .val (.int t), .val (.int z1), .val (.int z4)] [(.int u)])) rfl (hb hby own_d3_89) _ k) ?_
                by_cases c18 : (55295 : Int32) < u
                · refine own_go (T' := s₁) (g' := (mkF m 94 #[.val (.int u), .val (.int t), .val (.int z1), .val (.int z4)] [])) (fun _ k => XS.icmpNo X0.here hx rfl (hb hby own_d3_91) rfl (tlt c18).2.2.2 k) ?_
                  refine own_go (T' := s₁) (g' := (mkF m 95 #[.val (.int u), .val (.int t), .val (.int z1), .val (.int z4)] [(.int z4)])) (fun _ k => XS.iloadN X0.here hx rfl (hb hby own_d3_94) rfl k) ?_
                  by_cases c19 : z4 = (0 : Int32)
                  · refine own_go (T' := s₁) (g' := (mkF m 102 #[.val (.int u), .val (.int t), .val (.int z1), .val (.int z4)] [])) (fun _ k => XS.ifYes X0.here hx rfl (pc0 := 95) (pc' := 102) rfl (hb hby own_d3_95) rfl ((if0 _ _).trans (teq c19).1) (by decide) (by decide) k) ?_
                    refine own_go (T' := s₁) (g' := (mkF m 103 #[.val (.int u), .val (.int t), .val (.int z1), .val (.int z4)] [(.int (0 : Int32))])) (fun _ k => XS.iconst X0.here hx rfl (hb hby own_d3_102) k) ?_
                    refine own_ret X0 Bd.notSynchronized (some (.int (0 : Int32))) (fun h => by rw [Bd.returns] at h; cases h) (fun fs hr => retN X0 hx (t := .boolean) Bd.returns (by simp) (hb hby own_d3_103) hr) ?_ (by decide) (by decide)
                    show (own_Q3 Z u t h0 n0) (some (.int (0 : Int32))) s₁.heap _
                    rw [e0]
                    exact ⟨by rw [if_neg (by (try simp only [own_l0, own_l1, own_l2, own_l3, own_l9, own_l10, own_l13, own_l15, own_l31, own_l32, own_l126, own_l127, own_l133, own_l159, own_l160, own_l255, own_l2048, own_l55295, own_l55296, own_l57343, own_l57344, own_l65520, own_l65533, own_l65534, own_l65535, own_l65536, own_l1114096, own_l1114111, own_l1114112, own_l2147483647, Int32.lt_iff_toInt_lt, ← Int32.toInt_inj, Int64.lt_iff_toInt_lt, ← Int64.toInt_inj, and_true, true_and, and_false, false_and, or_true, true_or, or_false, false_or, not_true_eq_false, not_false_eq_true, ne_eq, true_implies, false_implies, implies_true] at hz2 hz5 c7 c13 c14 c15 c16 c18 c19 ⊢) <;> omega)], NF, rfl⟩
                  · refine own_go (T' := s₁) (g' := (mkF m 98 #[.val (.int u), .val (.int t), .val (.int z1), .val (.int z4)] [])) (fun _ k => XS.ifNo X0.here hx rfl (hb hby own_d3_95) rfl ((if0 _ _).trans (feq c19).1) k) ?_
                    refine own_go (T' := s₁) (g' := (mkF m 99 #[.val (.int u), .val (.int t), .val (.int z1), .val (.int z4)] [(.int (1 : Int32))])) (fun _ k => XS.iconst X0.here hx rfl (hb hby own_d3_98) k) ?_
                    refine own_go (T' := s₁) (g' := (mkF m 103 #[.val (.int u), .val (.int t), .val (.int z1), .val (.int z4)] [(.int (1 : Int32))])) (fun _ k => XS.goto X0.here hx rfl (pc0 := 99) (pc' := 103) rfl (hb hby own_d3_99) (by decide) (by decide) k) ?_
                    refine own_ret X0 Bd.notSynchronized (some (.int (1 : Int32))) (fun h => by rw [Bd.returns] at h; cases h) (fun fs hr => retN X0 hx (t := .boolean) Bd.returns (by simp) (hb hby own_d3_103) hr) ?_ (by decide) (by decide)
                    show (own_Q3 Z u t h0 n0) (some (.int (1 : Int32))) s₁.heap _
                    rw [e0]
                    exact ⟨by rw [if_pos (by (try simp only [own_l0, own_l1, own_l2, own_l3, own_l9, own_l10, own_l13, own_l15, own_l31, own_l32, own_l126, own_l127, own_l133, own_l159, own_l160, own_l255, own_l2048, own_l55295, own_l55296, own_l57343, own_l57344, own_l65520, own_l65533, own_l65534, own_l65535, own_l65536, own_l1114096, own_l1114111, own_l1114112, own_l2147483647, Int32.lt_iff_toInt_lt, ← Int32.toInt_inj, Int64.lt_iff_toInt_lt, ← Int64.toInt_inj, and_true, true_and, and_false, false_and, or_true, true_or, or_false, false_or, not_true_eq_false, not_false_eq_true, ne_eq, true_implies, false_implies, implies_true] at hz2 hz5 c7 c13 c14 c15 c16 c18 c19 ⊢) <;> omega)], NF, rfl⟩
                · refine own_go (T' := s₁) (g' := (mkF m 98 #[.val (.int u), .val (.int t), .val (.int z1), .val (.int z4)] [])) (fun _ k => XS.icmpYes X0.here hx rfl (pc0 := 91) (pc' := 98) rfl (hb hby own_d3_91) rfl (flt c18).2.2.2 (by decide) (by decide) k) ?_
                  refine own_go (T' := s₁) (g' := (mkF m 99 #[.val (.int u), .val (.int t), .val (.int z1), .val (.int z4)] [(.int (1 : Int32))])) (fun _ k => XS.iconst X0.here hx rfl (hb hby own_d3_98) k) ?_
                  refine own_go (T' := s₁) (g' := (mkF m 103 #[.val (.int u), .val (.int t), .val (.int z1), .val (.int z4)] [(.int (1 : Int32))])) (fun _ k => XS.goto X0.here hx rfl (pc0 := 99) (pc' := 103) rfl (hb hby own_d3_99) (by decide) (by decide) k) ?_
                  refine own_ret X0 Bd.notSynchronized (some (.int (1 : Int32))) (fun h => by rw [Bd.returns] at h; cases h) (fun fs hr => retN X0 hx (t := .boolean) Bd.returns (by simp) (hb hby own_d3_103) hr) ?_ (by decide) (by decide)
                  show (own_Q3 Z u t h0 n0) (some (.int (1 : Int32))) s₁.heap _
                  rw [e0]
                  exact ⟨by rw [if_pos (by (try simp only [own_l0, own_l1, own_l2, own_l3, own_l9, own_l10, own_l13, own_l15, own_l31, own_l32, own_l126, own_l127, own_l133, own_l159, own_l160, own_l255, own_l2048, own_l55295, own_l55296, own_l57343, own_l57344, own_l65520, own_l65533, own_l65534, own_l65535, own_l65536, own_l1114096, own_l1114111, own_l1114112, own_l2147483647, Int32.lt_iff_toInt_lt, ← Int32.toInt_inj, Int64.lt_iff_toInt_lt, ← Int64.toInt_inj, and_true, true_and, and_false, false_and, or_true, true_or, or_false, false_or, not_true_eq_false, not_false_eq_true, ne_eq, true_implies, false_implies, implies_true] at hz2 hz5 c7 c13 c14 c15 c16 c18 ⊢) <;> omega)], NF, rfl⟩
            · refine own_go (T' := s₁) (g' := (mkF m 75 #[.val (.int u), .val (.int t), .val (.int z1), .val (.int z4)] [])) (fun _ k => XS.icmpNo X0.here hx rfl (hb hby own_d3_72) rfl (flt c15).1 k) ?_
              refine own_go (T' := s₁) (g' := (mkF m 76 #[.val (.int u), .val (.int t), .val (.int z1), .val (.int z4)] [(.int u)])) (fun _ k => XS.iloadN X0.here hx rfl (hb hby own_d3_75) rfl k) ?_
              refine own_go (T' := s₁) (g' := (mkF m 78 #[.val (.int u), .val (.int t), .val (.int z1), .val (.int z4)] [(.int (126 : Int32)), (.int u)])) (fun _ k => XS.bipush X0.here hx rfl (hb hby own_d3_76) k) ?_
              by_cases c20 : (126 : Int32) < u
              · refine own_go (T' := s₁) (g' := (mkF m 81 #[.val (.int u), .val (.int t), .val (.int z1), .val (.int z4)] [])) (fun _ k => XS.icmpNo X0.here hx rfl (hb hby own_d3_78) rfl (tlt c20).2.2.2 k) ?_
                refine own_go (T' := s₁) (g' := (mkF m 82 #[.val (.int u), .val (.int t), .val (.int z1), .val (.int z4)] [(.int u)])) (fun _ k => XS.iloadN X0.here hx rfl (hb hby own_d3_81) rfl k) ?_
                refine own_go (T' := s₁) (g' := (mkF m 85 #[.val (.int u), .val (.int t), .val (.int z1), .val (.int z4)] [(.int (160 : Int32)), (.int u)])) (fun _ k => XS.sipush X0.here hx rfl (hb hby own_d3_82) k) ?_
                by_cases c21 : u < (160 : Int32)
                · refine own_go (T' := s₁) (g' := (mkF m 94 #[.val (.int u), .val (.int t), .val (.int z1), .val (.int z4)] [])) (fun _ k => XS.icmpYes X0.here hx rfl (pc0 := 85) (pc' := 94) rfl (hb hby own_d3_85) rfl (tlt c21).1 (by decide) (by decide) k) ?_
                  refine own_go (T' := s₁) (g' := (mkF m 95 #[.val (.int u), .val (.int t), .val (.int z1), .val (.int z4)] [(.int z4)])) (fun _ k => XS.iloadN X0.here hx rfl (hb hby own_d3_94) rfl k) ?_
                  by_cases c22 : z4 = (0 : Int32)
                  · refine own_go (T' := s₁) (g' := (mkF m 102 #[.val (.int u), .val (.int t), .val (.int z1), .val (.int z4)] [])) (fun _ k => XS.ifYes X0.here hx rfl (pc0 := 95) (pc' := 102) rfl (hb hby own_d3_95) rfl ((if0 _ _).trans (teq c22).1) (by decide) (by decide) k) ?_
                    refine own_go (T' := s₁) (g' := (mkF m 103 #[.val (.int u), .val (.int t), .val (.int z1), .val (.int z4)] [(.int (0 : Int32))])) (fun _ k => XS.iconst X0.here hx rfl (hb hby own_d3_102) k) ?_
                    refine own_ret X0 Bd.notSynchronized (some (.int (0 : Int32))) (fun h => by rw [Bd.returns] at h; cases h) (fun fs hr => retN X0 hx (t := .boolean) Bd.returns (by simp) (hb hby own_d3_103) hr) ?_ (by decide) (by decide)
                    show (own_Q3 Z u t h0 n0) (some (.int (0 : Int32))) s₁.heap _
                    rw [e0]
                    exact ⟨by rw [if_neg (by (try simp only [own_l0, own_l1, own_l2, own_l3, own_l9, own_l10, own_l13, own_l15, own_l31, own_l32, own_l126, own_l127, own_l133, own_l159, own_l160, own_l255, own_l2048, own_l55295, own_l55296, own_l57343, own_l57344, own_l65520, own_l65533, own_l65534, own_l65535, own_l65536, own_l1114096, own_l1114111, own_l1114112, own_l2147483647, Int32.lt_iff_toInt_lt, ← Int32.toInt_inj, Int64.lt_iff_toInt_lt, ← Int64.toInt_inj, and_true, true_and, and_false, false_and, or_true, true_or, or_false, false_or, not_true_eq_false, not_false_eq_true, ne_eq, true_implies, false_implies, implies_true] at hz2 hz5 c7 c13 c14 c15 c20 c21 c22 ⊢) <;> omega)], NF, rfl⟩
                  · refine own_go (T' := s₁) (g' := (mkF m 98 #[.val (.int u), .val (.int t), .val (.int z1), .val (.int z4)] [])) (fun _ k => XS.ifNo X0.here hx rfl (hb hby own_d3_95) rfl ((if0 _ _).trans (feq c22).1) k) ?_
                    refine own_go (T' := s₁) (g' := (mkF m 99 #[.val (.int u), .val (.int t), .val (.int z1), .val (.int z4)] [(.int (1 : Int32))])) (fun _ k => XS.iconst X0.here hx rfl (hb hby own_d3_98) k) ?_
                    refine own_go (T' := s₁) (g' := (mkF m 103 #[.val (.int u), .val (.int t), .val (.int z1), .val (.int z4)] [(.int (1 : Int32))])) (fun _ k => XS.goto X0.here hx rfl (pc0 := 99) (pc' := 103) rfl (hb hby own_d3_99) (by decide) (by decide) k) ?_
                    refine own_ret X0 Bd.notSynchronized (some (.int (1 : Int32))) (fun h => by rw [Bd.returns] at h; cases h) (fun fs hr => retN X0 hx (t := .boolean) Bd.returns (by simp) (hb hby own_d3_103) hr) ?_ (by decide) (by decide)
                    show (own_Q3 Z u t h0 n0) (some (.int (1 : Int32))) s₁.heap _
                    rw [e0]
                    exact ⟨by rw [if_pos (by (try simp only [own_l0, own_l1, own_l2, own_l3, own_l9, own_l10, own_l13, own_l15, own_l31, own_l32, own_l126, own_l127, own_l133, own_l159, own_l160, own_l255, own_l2048, own_l55295, own_l55296, own_l57343, own_l57344, own_l65520, own_l65533, own_l65534, own_l65535, own_l65536, own_l1114096, own_l1114111, own_l1114112, own_l2147483647, Int32.lt_iff_toInt_lt, ← Int32.toInt_inj, Int64.lt_iff_toInt_lt, ← Int64.toInt_inj, and_true, true_and, and_false, false_and, or_true, true_or, or_false, false_or, not_true_eq_false, not_false_eq_true, ne_eq, true_implies, false_implies, implies_true] at hz2 hz5 c7 c13 c14 c15 c20 c21 c22 ⊢) <;> omega)], NF, rfl⟩
                · refine own_go (T' := s₁) (g' := (mkF m 88 #[.val (.int u), .val (.int t), .val (.int z1), .val (.int z4)] [])) (fun _ k => XS.icmpNo X0.here hx rfl (hb hby own_d3_85) rfl (flt c21).1 k) ?_
                  refine own_go (T' := s₁) (g' := (mkF m 89 #[.val (.int u), .val (.int t), .val (.int z1), .val (.int z4)] [(.int u)])) (fun _ k => XS.iloadN X0.here hx rfl (hb hby own_d3_88) rfl k) ?_
                  refine own_go (T' := s₁) (g' := (mkF m 91 #[.val (.int u), .val (.int t), .val (.int z1), .val (.int z4)] [(.int (55295 : Int32)), (.int u)])) (fun _ k => X0.ldcInt hx hown (mvT hZ (hw _ (List.mem_of_getElem? (i := 21) rfl))) (g := (mkF m 89 #[.val (.int u), .val (.int t), .val (.int z1), .val (.int z4)] [(.int u)])) rfl (hb hby own_d3_89) _ k) ?_
                  by_cases c23 : (55295 : Int32) < u
                  · refine own_go (T' := s₁) (g' := (mkF m 94 #[.val (.int u), .val (.int t), .val (.int z1), .val (.int z4)] [])) (fun _ k => XS.icmpNo X0.here hx rfl (hb hby own_d3_91) rfl (tlt c23).2.2.2 k) ?_
                    refine own_go (T' := s₁) (g' := (mkF m 95 #[.val (.int u), .val (.int t), .val (.int z1), .val (.int z4)] [(.int z4)])) (fun _ k => XS.iloadN X0.here hx rfl (hb hby own_d3_94) rfl k) ?_
                    by_cases c24 : z4 = (0 : Int32)
                    · refine own_go (T' := s₁) (g' := (mkF m 102 #[.val (.int u), .val (.int t), .val (.int z1), .val (.int z4)] [])) (fun _ k => XS.ifYes X0.here hx rfl (pc0 := 95) (pc' := 102) rfl (hb hby own_d3_95) rfl ((if0 _ _).trans (teq c24).1) (by decide) (by decide) k) ?_
                      refine own_go (T' := s₁) (g' := (mkF m 103 #[.val (.int u), .val (.int t), .val (.int z1), .val (.int z4)] [(.int (0 : Int32))])) (fun _ k => XS.iconst X0.here hx rfl (hb hby own_d3_102) k) ?_
                      refine own_ret X0 Bd.notSynchronized (some (.int (0 : Int32))) (fun h => by rw [Bd.returns] at h; cases h) (fun fs hr => retN X0 hx (t := .boolean) Bd.returns (by simp) (hb hby own_d3_103) hr) ?_ (by decide) (by decide)
                      show (own_Q3 Z u t h0 n0) (some (.int (0 : Int32))) s₁.heap _
                      rw [e0]
                      exact ⟨by rw [if_neg (by (try simp only [own_l0, own_l1, own_l2, own_l3, own_l9, own_l10, own_l13, own_l15, own_l31, own_l32, own_l126, own_l127, own_l133, own_l159, own_l160, own_l255, own_l2048, own_l55295, own_l55296, own_l57343, own_l57344, own_l65520, own_l65533, own_l65534, own_l65535, own_l65536, own_l1114096, own_l1114111, own_l1114112, own_l2147483647, Int32.lt_iff_toInt_lt, ← Int32.toInt_inj, Int64.lt_iff_toInt_lt, ← Int64.toInt_inj, and_true, true_and, and_false, false_and, or_true, true_or, or_false, false_or, not_true_eq_false, not_false_eq_true, ne_eq, true_implies, false_implies, implies_true] at hz2 hz5 c7 c13 c14 c15 c20 c21 c23 c24 ⊢) <;> omega)], NF, rfl⟩
                    · refine own_go (T' := s₁) (g' := (mkF m 98 #[.val (.int u), .val (.int t), .val (.int z1), .val (.int z4)] [])) (fun _ k => XS.ifNo X0.here hx rfl (hb hby own_d3_95) rfl ((if0 _ _).trans (feq c24).1) k) ?_
                      refine own_go (T' := s₁) (g' := (mkF m 99 #[.val (.int u), .val (.int t), .val (.int z1), .val (.int z4)] [(.int (1 : Int32))])) (fun _ k => XS.iconst X0.here hx rfl (hb hby own_d3_98) k) ?_
                      refine own_go (T' := s₁) (g' := (mkF m 103 #[.val (.int u), .val (.int t), .val (.int z1), .val (.int z4)] [(.int (1 : Int32))])) (fun _ k => XS.goto X0.here hx rfl (pc0 := 99) (pc' := 103) rfl (hb hby own_d3_99) (by decide) (by decide) k) ?_
                      refine own_ret X0 Bd.notSynchronized (some (.int (1 : Int32))) (fun h => by rw [Bd.returns] at h; cases h) (fun fs hr => retN X0 hx (t := .boolean) Bd.returns (by simp) (hb hby own_d3_103) hr) ?_ (by decide) (by decide)
                      show (own_Q3 Z u t h0 n0) (some (.int (1 : Int32))) s₁.heap _
                      rw [e0]
                      exact ⟨by rw [if_pos (by (try simp only [own_l0, own_l1, own_l2, own_l3, own_l9, own_l10, own_l13, own_l15, own_l31, own_l32, own_l126, own_l127, own_l133, own_l159, own_l160, own_l255, own_l2048, own_l55295, own_l55296, own_l57343, own_l57344, own_l65520, own_l65533, own_l65534, own_l65535, own_l65536, own_l1114096, own_l1114111, own_l1114112, own_l2147483647, Int32.lt_iff_toInt_lt, ← Int32.toInt_inj, Int64.lt_iff_toInt_lt, ← Int64.toInt_inj, and_true, true_and, and_false, false_and, or_true, true_or, or_false, false_or, not_true_eq_false, not_false_eq_true, ne_eq, true_implies, false_implies, implies_true] at hz2 hz5 c7 c13 c14 c15 c20 c21 c23 c24 ⊢) <;> omega)], NF, rfl⟩
                  · refine own_go (T' := s₁) (g' := (mkF m 98 #[.val (.int u), .val (.int t), .val (.int z1), .val (.int z4)] [])) (fun _ k => XS.icmpYes X0.here hx rfl (pc0 := 91) (pc' := 98) rfl (hb hby own_d3_91) rfl (flt c23).2.2.2 (by decide) (by decide) k) ?_
                    refine own_go (T' := s₁) (g' := (mkF m 99 #[.val (.int u), .val (.int t), .val (.int z1), .val (.int z4)] [(.int (1 : Int32))])) (fun _ k => XS.iconst X0.here hx rfl (hb hby own_d3_98) k) ?_
                    refine own_go (T' := s₁) (g' := (mkF m 103 #[.val (.int u), .val (.int t), .val (.int z1), .val (.int z4)] [(.int (1 : Int32))])) (fun _ k => XS.goto X0.here hx rfl (pc0 := 99) (pc' := 103) rfl (hb hby own_d3_99) (by decide) (by decide) k) ?_
                    refine own_ret X0 Bd.notSynchronized (some (.int (1 : Int32))) (fun h => by rw [Bd.returns] at h; cases h) (fun fs hr => retN X0 hx (t := .boolean) Bd.returns (by simp) (hb hby own_d3_103) hr) ?_ (by decide) (by decide)
                    show (own_Q3 Z u t h0 n0) (some (.int (1 : Int32))) s₁.heap _
                    rw [e0]
                    exact ⟨by rw [if_pos (by (try simp only [own_l0, own_l1, own_l2, own_l3, own_l9, own_l10, own_l13, own_l15, own_l31, own_l32, own_l126, own_l127, own_l133, own_l159, own_l160, own_l255, own_l2048, own_l55295, own_l55296, own_l57343, own_l57344, own_l65520, own_l65533, own_l65534, own_l65535, own_l65536, own_l1114096, own_l1114111, own_l1114112, own_l2147483647, Int32.lt_iff_toInt_lt, ← Int32.toInt_inj, Int64.lt_iff_toInt_lt, ← Int64.toInt_inj, and_true, true_and, and_false, false_and, or_true, true_or, or_false, false_or, not_true_eq_false, not_false_eq_true, ne_eq, true_implies, false_implies, implies_true] at hz2 hz5 c7 c13 c14 c15 c20 c21 c23 ⊢) <;> omega)], NF, rfl⟩
              · refine own_go (T' := s₁) (g' := (mkF m 98 #[.val (.int u), .val (.int t), .val (.int z1), .val (.int z4)] [])) (fun _ k => XS.icmpYes X0.here hx rfl (pc0 := 78) (pc' := 98) rfl (hb hby own_d3_78) rfl (flt c20).2.2.2 (by decide) (by decide) k) ?_
                refine own_go (T' := s₁) (g' := (mkF m 99 #[.val (.int u), .val (.int t), .val (.int z1), .val (.int z4)] [(.int (1 : Int32))])) (fun _ k => XS.iconst X0.here hx rfl (hb hby own_d3_98) k) ?_
                refine own_go (T' := s₁) (g' := (mkF m 103 #[.val (.int u), .val (.int t), .val (.int z1), .val (.int z4)] [(.int (1 : Int32))])) (fun _ k => XS.goto X0.here hx rfl (pc0 := 99) (pc' := 103) rfl (hb hby own_d3_99) (by decide) (by decide) k) ?_
                refine own_ret X0 Bd.notSynchronized (some (.int (1 : Int32))) (fun h => by rw [Bd.returns] at h; cases h) (fun fs hr => retN X0 hx (t := .boolean) Bd.returns (by simp) (hb hby own_d3_103) hr) ?_ (by decide) (by decide)
                show (own_Q3 Z u t h0 n0) (some (.int (1 : Int32))) s₁.heap _
                rw [e0]
                exact ⟨by rw [if_pos (by (try simp only [own_l0, own_l1, own_l2, own_l3, own_l9, own_l10, own_l13, own_l15, own_l31, own_l32, own_l126, own_l127, own_l133, own_l159, own_l160, own_l255, own_l2048, own_l55295, own_l55296, own_l57343, own_l57344, own_l65520, own_l65533, own_l65534, own_l65535, own_l65536, own_l1114096, own_l1114111, own_l1114112, own_l2147483647, Int32.lt_iff_toInt_lt, ← Int32.toInt_inj, Int64.lt_iff_toInt_lt, ← Int64.toInt_inj, and_true, true_and, and_false, false_and, or_true, true_or, or_false, false_or, not_true_eq_false, not_false_eq_true, ne_eq, true_implies, false_implies, implies_true] at hz2 hz5 c7 c13 c14 c15 c20 ⊢) <;> omega)], NF, rfl⟩
        · refine own_go (T' := s₁) (g' := (mkF m 98 #[.val (.int u), .val (.int t), .val (.int z1), .val (.int z4)] [])) (fun _ k => XS.ifYes X0.here hx rfl (pc0 := 59) (pc' := 98) rfl (hb hby own_d3_59) rfl ((if0 _ _).trans (feq c13).2) (by decide) (by decide) k) ?_
          refine own_go (T' := s₁) (g' := (mkF m 99 #[.val (.int u), .val (.int t), .val (.int z1), .val (.int z4)] [(.int (1 : Int32))])) (fun _ k => XS.iconst X0.here hx rfl (hb hby own_d3_98) k) ?_
          refine own_go (T' := s₁) (g' := (mkF m 103 #[.val (.int u), .val (.int t), .val (.int z1), .val (.int z4)] [(.int (1 : Int32))])) (fun _ k => XS.goto X0.here hx rfl (pc0 := 99) (pc' := 103) rfl (hb hby own_d3_99) (by decide) (by decide) k) ?_
          refine own_ret X0 Bd.notSynchronized (some (.int (1 : Int32))) (fun h => by rw [Bd.returns] at h; cases h) (fun fs hr => retN X0 hx (t := .boolean) Bd.returns (by simp) (hb hby own_d3_103) hr) ?_ (by decide) (by decide)
          show (own_Q3 Z u t h0 n0) (some (.int (1 : Int32))) s₁.heap _
          rw [e0]
          exact ⟨by rw [if_pos (by (try simp only [own_l0, own_l1, own_l2, own_l3, own_l9, own_l10, own_l13, own_l15, own_l31, own_l32, own_l126, own_l127, own_l133, own_l159, own_l160, own_l255, own_l2048, own_l55295, own_l55296, own_l57343, own_l57344, own_l65520, own_l65533, own_l65534, own_l65535, own_l65536, own_l1114096, own_l1114111, own_l1114112, own_l2147483647, Int32.lt_iff_toInt_lt, ← Int32.toInt_inj, Int64.lt_iff_toInt_lt, ← Int64.toInt_inj, and_true, true_and, and_false, false_and, or_true, true_or, or_false, false_or, not_true_eq_false, not_false_eq_true, ne_eq, true_implies, false_implies, implies_true] at hz2 hz5 c7 c13 ⊢) <;> omega)], NF, rfl⟩
    refine own_go (T' := s₁) (g' := (mkF m 25 #[.val (.int u), .val (.int t), .val (.int z1), .unset] [(.int u)])) (fun _ k => XS.iloadN X0.here hx rfl (hb hby own_d3_24) rfl k) ?_
    refine own_go (T' := s₁) (g' := (mkF m 27 #[.val (.int u), .val (.int t), .val (.int z1), .unset] [(.int (57344 : Int32)), (.int u)])) (fun _ k => X0.ldcInt hx hown (mvT hZ (hw _ (List.mem_of_getElem? (i := 12) rfl))) (g := (mkF m 25 #[.val (.int u), .val (.int t), .val (.int z1), .unset] [(.int u)])) rfl (hb hby own_d3_25) _ k) ?_
    by_cases c25 : u < (57344 : Int32)
    · refine own_go (T' := s₁) (g' := (mkF m 36 #[.val (.int u), .val (.int t), .val (.int z1), .unset] [])) (fun _ k => XS.icmpYes X0.here hx rfl (pc0 := 27) (pc' := 36) rfl (hb hby own_d3_27) rfl (tlt c25).1 (by decide) (by decide) k) ?_
      refine own_go (T' := s₁) (g' := (mkF m 37 #[.val (.int u), .val (.int t), .val (.int z1), .unset] [(.int u)])) (fun _ k => XS.iloadN X0.here hx rfl (hb hby own_d3_36) rfl k) ?_
      refine own_go (T' := s₁) (g' := (mkF m 39 #[.val (.int u), .val (.int t), .val (.int z1), .unset] [(.int (65536 : Int32)), (.int u)])) (fun _ k => X0.ldcInt hx hown (mvT hZ (hw _ (List.mem_of_getElem? (i := 13) rfl))) (g := (mkF m 37 #[.val (.int u), .val (.int t), .val (.int z1), .unset] [(.int u)])) rfl (hb hby own_d3_37) _ k) ?_
      by_cases c26 : u < (65536 : Int32)
      · refine own_go (T' := s₁) (g' := (mkF m 52 #[.val (.int u), .val (.int t), .val (.int z1), .unset] [])) (fun _ k => XS.icmpYes X0.here hx rfl (pc0 := 39) (pc' := 52) rfl (hb hby own_d3_39) rfl (tlt c26).1 (by decide) (by decide) k) ?_
        refine own_go (T' := s₁) (g' := (mkF m 53 #[.val (.int u), .val (.int t), .val (.int z1), .unset] [(.int (0 : Int32))])) (fun _ k => XS.iconst X0.here hx rfl (hb hby own_d3_52) k) ?_
        refine own_go (T' := s₁) (g' := (mkF m 54 #[.val (.int u), .val (.int t), .val (.int z1), .val (.int (0 : Int32))] [])) (fun _ k => XS.istoreN X0.here hx rfl (hb hby own_d3_53) rfl (l' := #[.val (.int u), .val (.int t), .val (.int z1), .val (.int (0 : Int32))]) rfl k) ?_
        exact J6 _ (by (try simp only [own_l0, own_l1, own_l2, own_l3, own_l9, own_l10, own_l13, own_l15, own_l31, own_l32, own_l126, own_l127, own_l133, own_l159, own_l160, own_l255, own_l2048, own_l55295, own_l55296, own_l57343, own_l57344, own_l65520, own_l65533, own_l65534, own_l65535, own_l65536, own_l1114096, own_l1114111, own_l1114112, own_l2147483647, Int32.lt_iff_toInt_lt, ← Int32.toInt_inj, Int64.lt_iff_toInt_lt, ← Int64.toInt_inj, and_true, true_and, and_false, false_and, or_true, true_or, or_false, false_or, not_true_eq_false, not_false_eq_true, ne_eq, true_implies, false_implies, implies_true] at hz2 c25 c26 ⊢) <;> omega)
      · refine own_go (T' := s₁) (g' := (mkF m 42 #[.val (.int u), .val (.int t), .val (.int z1), .unset] [])) (fun _ k => XS.icmpNo X0.here hx rfl (hb hby own_d3_39) rfl (flt c26).1 k) ?_
        refine own_go (T' := s₁) (g' := (mkF m 43 #[.val (.int u), .val (.int t), .val (.int z1), .unset] [(.int u)])) (fun _ k => XS.iloadN X0.here hx rfl (hb hby own_d3_42) rfl k) ?_
        refine own_go (T' := s₁) (g' := (mkF m 45 #[.val (.int u), .val (.int t), .val (.int z1), .unset] [(.int (1114111 : Int32)), (.int u)])) (fun _ k => X0.ldcInt hx hown (mvT hZ (hw _ (List.mem_of_getElem? (i := 23) rfl))) (g := (mkF m 43 #[.val (.int u), .val (.int t), .val (.int z1), .unset] [(.int u)])) rfl (hb hby own_d3_43) _ k) ?_
        by_cases c27 : (1114111 : Int32) < u
        · refine own_go (T' := s₁) (g' := (mkF m 52 #[.val (.int u), .val (.int t), .val (.int z1), .unset] [])) (fun _ k => XS.icmpYes X0.here hx rfl (pc0 := 45) (pc' := 52) rfl (hb hby own_d3_45) rfl (tlt c27).2.2.1 (by decide) (by decide) k) ?_
          refine own_go (T' := s₁) (g' := (mkF m 53 #[.val (.int u), .val (.int t), .val (.int z1), .unset] [(.int (0 : Int32))])) (fun _ k => XS.iconst X0.here hx rfl (hb hby own_d3_52) k) ?_
          refine own_go (T' := s₁) (g' := (mkF m 54 #[.val (.int u), .val (.int t), .val (.int z1), .val (.int (0 : Int32))] [])) (fun _ k => XS.istoreN X0.here hx rfl (hb hby own_d3_53) rfl (l' := #[.val (.int u), .val (.int t), .val (.int z1), .val (.int (0 : Int32))]) rfl k) ?_
          exact J6 _ (by (try simp only [own_l0, own_l1, own_l2, own_l3, own_l9, own_l10, own_l13, own_l15, own_l31, own_l32, own_l126, own_l127, own_l133, own_l159, own_l160, own_l255, own_l2048, own_l55295, own_l55296, own_l57343, own_l57344, own_l65520, own_l65533, own_l65534, own_l65535, own_l65536, own_l1114096, own_l1114111, own_l1114112, own_l2147483647, Int32.lt_iff_toInt_lt, ← Int32.toInt_inj, Int64.lt_iff_toInt_lt, ← Int64.toInt_inj, and_true, true_and, and_false, false_and, or_true, true_or, or_false, false_or, not_true_eq_false, not_false_eq_true, ne_eq, true_implies, false_implies, implies_true] at hz2 c25 c26 c27 ⊢) <;> omega)
        · refine own_go (T' := s₁) (g' := (mkF m 48 #[.val (.int u), .val (.int t), .val (.int z1), .unset] [])) (fun _ k => XS.icmpNo X0.here hx rfl (hb hby own_d3_45) rfl (flt c27).2.2.1 k) ?_
          refine own_go (T' := s₁) (g' := (mkF m 49 #[.val (.int u), .val (.int t), .val (.int z1), .unset] [(.int (1 : Int32))])) (fun _ k => XS.iconst X0.here hx rfl (hb hby own_d3_48) k) ?_
          refine own_go (T' := s₁) (g' := (mkF m 53 #[.val (.int u), .val (.int t), .val (.int z1), .unset] [(.int (1 : Int32))])) (fun _ k => XS.goto X0.here hx rfl (pc0 := 49) (pc' := 53) rfl (hb hby own_d3_49) (by decide) (by decide) k) ?_
          refine own_go (T' := s₁) (g' := (mkF m 54 #[.val (.int u), .val (.int t), .val (.int z1), .val (.int (1 : Int32))] [])) (fun _ k => XS.istoreN X0.here hx rfl (hb hby own_d3_53) rfl (l' := #[.val (.int u), .val (.int t), .val (.int z1), .val (.int (1 : Int32))]) rfl k) ?_
          exact J6 _ (by (try simp only [own_l0, own_l1, own_l2, own_l3, own_l9, own_l10, own_l13, own_l15, own_l31, own_l32, own_l126, own_l127, own_l133, own_l159, own_l160, own_l255, own_l2048, own_l55295, own_l55296, own_l57343, own_l57344, own_l65520, own_l65533, own_l65534, own_l65535, own_l65536, own_l1114096, own_l1114111, own_l1114112, own_l2147483647, Int32.lt_iff_toInt_lt, ← Int32.toInt_inj, Int64.lt_iff_toInt_lt, ← Int64.toInt_inj, and_true, true_and, and_false, false_and, or_true, true_or, or_false, false_or, not_true_eq_false, not_false_eq_true, ne_eq, true_implies, false_implies, implies_true] at hz2 c25 c26 c27 ⊢) <;> omega)
    · refine own_go (T' := s₁) (g' := (mkF m 30 #[.val (.int u), .val (.int t), .val (.int z1), .unset] [])) (fun _ k => XS.icmpNo X0.here hx rfl (hb hby own_d3_27) rfl (flt c25).1 k) ?_
      refine own_go (T' := s₁) (g' := (mkF m 31 #[.val (.int u), .val (.int t), .val (.int z1), .unset] [(.int u)])) (fun _ k => XS.iloadN X0.here hx rfl (hb hby own_d3_30) rfl k) ?_
      refine own_go (T' := s₁) (g' := (mkF m 33 #[.val (.int u), .val (.int t), .val (.int z1), .unset] [(.int (65533 : Int32)), (.int u)])) (fun _ k => X0.ldcInt hx hown (mvT hZ (hw _ (List.mem_of_getElem? (i := 20) rfl))) (g := (mkF m 31 #[.val (.int u), .val (.int t), .val (.int z1), .unset] [(.int u)])) rfl (hb hby own_d3_31) _ k) ?_
      by_cases c28 : (65533 : Int32) < u
      · refine own_go (T' := s₁) (g' := (mkF m 36 #[.val (.int u), .val (.int t), .val (.int z1), .unset] [])) (fun _ k => XS.icmpNo X0.here hx rfl (hb hby own_d3_33) rfl (tlt c28).2.2.2 k) ?_
        refine own_go (T' := s₁) (g' := (mkF m 37 #[.val (.int u), .val (.int t), .val (.int z1), .unset] [(.int u)])) (fun _ k => XS.iloadN X0.here hx rfl (hb hby own_d3_36) rfl k) ?_
        refine own_go (T' := s₁) (g' := (mkF m 39 #[.val (.int u), .val (.int t), .val (.int z1), .unset] [(.int (65536 : Int32)), (.int u)])) (fun _ k => X0.ldcInt hx hown (mvT hZ (hw _ (List.mem_of_getElem? (i := 13) rfl))) (g := (mkF m 37 #[.val (.int u), .val (.int t), .val (.int z1), .unset] [(.int u)])) rfl (hb hby own_d3_37) _ k) ?_
        by_cases c29 : u < (65536 : Int32)
        · refine own_go (T' := s₁) (g' := (mkF m 52 #[.val (.int u), .val (.int t), .val (.int z1), .unset] [])) (fun _ k => XS.icmpYes X0.here hx rfl (pc0 := 39) (pc' := 52) rfl (hb hby own_d3_39) rfl (tlt c29).1 (by decide) (by decide) k) ?_
          refine own_go (T' := s₁) (g' := (mkF m 53 #[.val (.int u), .val (.int t), .val (.int z1), .unset] [(.int (0 : Int32))])) (fun _ k => XS.iconst X0.here hx rfl (hb hby own_d3_52) k) ?_
          refine own_go (T' := s₁) (g' := (mkF m 54 #[.val (.int u), .val (.int t), .val (.int z1), .val (.int (0 : Int32))] [])) (fun _ k => XS.istoreN X0.here hx rfl (hb hby own_d3_53) rfl (l' := #[.val (.int u), .val (.int t), .val (.int z1), .val (.int (0 : Int32))]) rfl k) ?_
          exact J6 _ (by (try simp only [own_l0, own_l1, own_l2, own_l3, own_l9, own_l10, own_l13, own_l15, own_l31, own_l32, own_l126, own_l127, own_l133, own_l159, own_l160, own_l255, own_l2048, own_l55295, own_l55296, own_l57343, own_l57344, own_l65520, own_l65533, own_l65534, own_l65535, own_l65536, own_l1114096, own_l1114111, own_l1114112, own_l2147483647, Int32.lt_iff_toInt_lt, ← Int32.toInt_inj, Int64.lt_iff_toInt_lt, ← Int64.toInt_inj, and_true, true_and, and_false, false_and, or_true, true_or, or_false, false_or, not_true_eq_false, not_false_eq_true, ne_eq, true_implies, false_implies, implies_true] at hz2 c25 c28 c29 ⊢) <;> omega)
        · refine own_go (T' := s₁) (g' := (mkF m 42 #[.val (.int u), .val (.int t), .val (.int z1), .unset] [])) (fun _ k => XS.icmpNo X0.here hx rfl (hb hby own_d3_39) rfl (flt c29).1 k) ?_
          refine own_go (T' := s₁) (g' := (mkF m 43 #[.val (.int u), .val (.int t), .val (.int z1), .unset] [(.int u)])) (fun _ k => XS.iloadN X0.here hx rfl (hb hby own_d3_42) rfl k) ?_
          refine own_go (T' := s₁) (g' := (mkF m 45 #[.val (.int u), .val (.int t), .val (.int z1), .unset] [(.int (1114111 : Int32)), (.int u)])) (fun _ k => X0.ldcInt hx hown (mvT hZ (hw _ (List.mem_of_getElem? (i := 23) rfl))) (g := (mkF m 43 #[.val (.int u), .val (.int t), .val (.int z1), .unset] [(.int u)])) rfl (hb hby own_d3_43) _ k) ?_
          by_cases c30 : (1114111 : Int32) < u
          · refine own_go (T' := s₁) (g' := (mkF m 52 #[.val (.int u), .val (.int t), .val (.int z1), .unset] [])) (fun _ k => XS.icmpYes X0.here hx rfl (pc0 := 45) (pc' := 52) rfl (hb hby own_d3_45) rfl (tlt c30).2.2.1 (by decide) (by decide) k) ?_
            refine own_go (T' := s₁) (g' := (mkF m 53 #[.val (.int u), .val (.int t), .val (.int z1), .unset] [(.int (0 : Int32))])) (fun _ k => XS.iconst X0.here hx rfl (hb hby own_d3_52) k) ?_
            refine own_go (T' := s₁) (g' := (mkF m 54 #[.val (.int u), .val (.int t), .val (.int z1), .val (.int (0 : Int32))] [])) (fun _ k => XS.istoreN X0.here hx rfl (hb hby own_d3_53) rfl (l' := #[.val (.int u), .val (.int t), .val (.int z1), .val (.int (0 : Int32))]) rfl k) ?_
            exact J6 _ (by (try simp only [own_l0, own_l1, own_l2, own_l3, own_l9, own_l10, own_l13, own_l15, own_l31, own_l32, own_l126, own_l127, own_l133, own_l159, own_l160, own_l255, own_l2048, own_l55295, own_l55296, own_l57343, own_l57344, own_l65520, own_l65533, own_l65534, own_l65535, own_l65536, own_l1114096, own_l1114111, own_l1114112, own_l2147483647, Int32.lt_iff_toInt_lt, ← Int32.toInt_inj, Int64.lt_iff_toInt_lt, ← Int64.toInt_inj, and_true, true_and, and_false, false_and, or_true, true_or, or_false, false_or, not_true_eq_false, not_false_eq_true, ne_eq, true_implies, false_implies, implies_true] at hz2 c25 c28 c29 c30 ⊢) <;> omega)
          · refine own_go (T' := s₁) (g' := (mkF m 48 #[.val (.int u), .val (.int t), .val (.int z1), .unset] [])) (fun _ k => XS.icmpNo X0.here hx rfl (hb hby own_d3_45) rfl (flt c30).2.2.1 k) ?_
            refine own_go (T' := s₁) (g' := (mkF m 49 #[.val (.int u), .val (.int t), .val (.int z1), .unset] [(.int (1 : Int32))])) (fun _ k => XS.iconst X0.here hx rfl (hb hby own_d3_48) k) ?_
            refine own_go (T' := s₁) (g' := (mkF m 53 #[.val (.int u), .val (.int t), .val (.int z1), .unset] [(.int (1 : Int32))])) (fun _ k => XS.goto X0.here hx rfl (pc0 := 49) (pc' := 53) rfl (hb hby own_d3_49) (by decide) (by decide) k) ?_
            refine own_go (T' := s₁) (g' := (mkF m 54 #[.val (.int u), .val (.int t), .val (.int z1), .val (.int (1 : Int32))] [])) (fun _ k => XS.istoreN X0.here hx rfl (hb hby own_d3_53) rfl (l' := #[.val (.int u), .val (.int t), .val (.int z1), .val (.int (1 : Int32))]) rfl k) ?_
            exact J6 _ (by (try simp only [own_l0, own_l1, own_l2, own_l3, own_l9, own_l10, own_l13, own_l15, own_l31, own_l32, own_l126, own_l127, own_l133, own_l159, own_l160, own_l255, own_l2048, own_l55295, own_l55296, own_l57343, own_l57344, own_l65520, own_l65533, own_l65534, own_l65535, own_l65536, own_l1114096, own_l1114111, own_l1114112, own_l2147483647, Int32.lt_iff_toInt_lt, ← Int32.toInt_inj, Int64.lt_iff_toInt_lt, ← Int64.toInt_inj, and_true, true_and, and_false, false_and, or_true, true_or, or_false, false_or, not_true_eq_false, not_false_eq_true, ne_eq, true_implies, false_implies, implies_true] at hz2 c25 c28 c29 c30 ⊢) <;> omega)
      · refine own_go (T' := s₁) (g' := (mkF m 48 #[.val (.int u), .val (.int t), .val (.int z1), .unset] [])) (fun _ k => XS.icmpYes X0.here hx rfl (pc0 := 33) (pc' := 48) rfl (hb hby own_d3_33) rfl (flt c28).2.2.2 (by decide) (by decide) k) ?_
        refine own_go (T' := s₁) (g' := (mkF m 49 #[.val (.int u), .val (.int t), .val (.int z1), .unset] [(.int (1 : Int32))])) (fun _ k => XS.iconst X0.here hx rfl (hb hby own_d3_48) k) ?_
        refine own_go (T' := s₁) (g' := (mkF m 53 #[.val (.int u), .val (.int t), .val (.int z1), .unset] [(.int (1 : Int32))])) (fun _ k => XS.goto X0.here hx rfl (pc0 := 49) (pc' := 53) rfl (hb hby own_d3_49) (by decide) (by decide) k) ?_
        refine own_go (T' := s₁) (g' := (mkF m 54 #[.val (.int u), .val (.int t), .val (.int z1), .val (.int (1 : Int32))] [])) (fun _ k => XS.istoreN X0.here hx rfl (hb hby own_d3_53) rfl (l' := #[.val (.int u), .val (.int t), .val (.int z1), .val (.int (1 : Int32))]) rfl k) ?_
        exact J6 _ (by (try simp only [own_l0, own_l1, own_l2, own_l3, own_l9, own_l10, own_l13, own_l15, own_l31, own_l32, own_l126, own_l127, own_l133, own_l159, own_l160, own_l255, own_l2048, own_l55295, own_l55296, own_l57343, own_l57344, own_l65520, own_l65533, own_l65534, own_l65535, own_l65536, own_l1114096, own_l1114111, own_l1114112, own_l2147483647, Int32.lt_iff_toInt_lt, ← Int32.toInt_inj, Int64.lt_iff_toInt_lt, ← Int64.toInt_inj, and_true, true_and, and_false, false_and, or_true, true_or, or_false, false_or, not_true_eq_false, not_false_eq_true, ne_eq, true_implies, false_implies, implies_true] at hz2 c25 c28 ⊢) <;> omega)
  refine own_go (T' := s₁) (g' := (mkF m 1 #[.val (.int u), .val (.int t), .unset, .unset] [(.int u)])) (fun _ k => XS.iloadN X0.here hx rfl (hb hby own_d3_0) rfl k) ?_
  refine own_go (T' := s₁) (g' := (mkF m 3 #[.val (.int u), .val (.int t), .unset, .unset] [(.int (9 : Int32)), (.int u)])) (fun _ k => XS.bipush X0.here hx rfl (hb hby own_d3_1) k) ?_
  by_cases c31 : u = (9 : Int32)
  · refine own_go (T' := s₁) (g' := (mkF m 18 #[.val (.int u), .val (.int t), .unset, .unset] [])) (fun _ k => XS.icmpYes X0.here hx rfl (pc0 := 3) (pc' := 18) rfl (hb hby own_d3_3) rfl (teq c31).1 (by decide) (by decide) k) ?_
    refine own_go (T' := s₁) (g' := (mkF m 19 #[.val (.int u), .val (.int t), .unset, .unset] [(.int (1 : Int32))])) (fun _ k => XS.iconst X0.here hx rfl (hb hby own_d3_18) k) ?_
    refine own_go (T' := s₁) (g' := (mkF m 23 #[.val (.int u), .val (.int t), .unset, .unset] [(.int (1 : Int32))])) (fun _ k => XS.goto X0.here hx rfl (pc0 := 19) (pc' := 23) rfl (hb hby own_d3_19) (by decide) (by decide) k) ?_
    refine own_go (T' := s₁) (g' := (mkF m 24 #[.val (.int u), .val (.int t), .val (.int (1 : Int32)), .unset] [])) (fun _ k => XS.istoreN X0.here hx rfl (hb hby own_d3_23) rfl (l' := #[.val (.int u), .val (.int t), .val (.int (1 : Int32)), .unset]) rfl k) ?_
    exact J3 _ (by (try simp only [own_l0, own_l1, own_l2, own_l3, own_l9, own_l10, own_l13, own_l15, own_l31, own_l32, own_l126, own_l127, own_l133, own_l159, own_l160, own_l255, own_l2048, own_l55295, own_l55296, own_l57343, own_l57344, own_l65520, own_l65533, own_l65534, own_l65535, own_l65536, own_l1114096, own_l1114111, own_l1114112, own_l2147483647, Int32.lt_iff_toInt_lt, ← Int32.toInt_inj, Int64.lt_iff_toInt_lt, ← Int64.toInt_inj, and_true, true_and, and_false, false_and, or_true, true_or, or_false, false_or, not_true_eq_false, not_false_eq_true, ne_eq, true_implies, false_implies, implies_true] at c31 ⊢) <;> omega)
  · refine own_go (T' := s₁) (g' := (mkF m 6 #[.val (.int u), .val (.int t), .unset, .unset] [])) (fun _ k => XS.icmpNo X0.here hx rfl (hb hby own_d3_3) rfl (feq c31).1 k) ?_
    refine own_go (T' := s₁) (g' := (mkF m 7 #[.val (.int u), .val (.int t), .unset, .unset] [(.int u)])) (fun _ k => XS.iloadN X0.here hx rfl (hb hby own_d3_6) rfl k) ?_
    refine own_go (T' := s₁) (g' := (mkF m 9 #[.val (.int u), .val (.int t), .unset, .unset] [(.int (10 : Int32)), (.int u)])) (fun _ k => XS.bipush X0.here hx rfl (hb hby own_d3_7) k) ?_
    by_cases c32 : u = (10 : Int32)
    · refine own_go (T' := s₁) (g' := (mkF m 18 #[.val (.int u), .val (.int t), .unset, .unset] [])) (fun _ k => XS.icmpYes X0.here hx rfl (pc0 := 9) (pc' := 18) rfl (hb hby own_d3_9) rfl (teq c32).1 (by decide) (by decide) k) ?_
      refine own_go (T' := s₁) (g' := (mkF m 19 #[.val (.int u), .val (.int t), .unset, .unset] [(.int (1 : Int32))])) (fun _ k => XS.iconst X0.here hx rfl (hb hby own_d3_18) k) ?_
      refine own_go (T' := s₁) (g' := (mkF m 23 #[.val (.int u), .val (.int t), .unset, .unset] [(.int (1 : Int32))])) (fun _ k => XS.goto X0.here hx rfl (pc0 := 19) (pc' := 23) rfl (hb hby own_d3_19) (by decide) (by decide) k) ?_
      refine own_go (T' := s₁) (g' := (mkF m 24 #[.val (.int u), .val (.int t), .val (.int (1 : Int32)), .unset] [])) (fun _ k => XS.istoreN X0.here hx rfl (hb hby own_d3_23) rfl (l' := #[.val (.int u), .val (.int t), .val (.int (1 : Int32)), .unset]) rfl k) ?_
      exact J3 _ (by (try simp only [own_l0, own_l1, own_l2, own_l3, own_l9, own_l10, own_l13, own_l15, own_l31, own_l32, own_l126, own_l127, own_l133, own_l159, own_l160, own_l255, own_l2048, own_l55295, own_l55296, own_l57343, own_l57344, own_l65520, own_l65533, own_l65534, own_l65535, own_l65536, own_l1114096, own_l1114111, own_l1114112, own_l2147483647, Int32.lt_iff_toInt_lt, ← Int32.toInt_inj, Int64.lt_iff_toInt_lt, ← Int64.toInt_inj, and_true, true_and, and_false, false_and, or_true, true_or, or_false, false_or, not_true_eq_false, not_false_eq_true, ne_eq, true_implies, false_implies, implies_true] at c31 c32 ⊢) <;> omega)
    · refine own_go (T' := s₁) (g' := (mkF m 12 #[.val (.int u), .val (.int t), .unset, .unset] [])) (fun _ k => XS.icmpNo X0.here hx rfl (hb hby own_d3_9) rfl (feq c32).1 k) ?_
      refine own_go (T' := s₁) (g' := (mkF m 13 #[.val (.int u), .val (.int t), .unset, .unset] [(.int u)])) (fun _ k => XS.iloadN X0.here hx rfl (hb hby own_d3_12) rfl k) ?_
      refine own_go (T' := s₁) (g' := (mkF m 15 #[.val (.int u), .val (.int t), .unset, .unset] [(.int (13 : Int32)), (.int u)])) (fun _ k => XS.bipush X0.here hx rfl (hb hby own_d3_13) k) ?_
      by_cases c33 : u = (13 : Int32)
      · refine own_go (T' := s₁) (g' := (mkF m 18 #[.val (.int u), .val (.int t), .unset, .unset] [])) (fun _ k => XS.icmpNo X0.here hx rfl (hb hby own_d3_15) rfl (teq c33).2 k) ?_
        refine own_go (T' := s₁) (g' := (mkF m 19 #[.val (.int u), .val (.int t), .unset, .unset] [(.int (1 : Int32))])) (fun _ k => XS.iconst X0.here hx rfl (hb hby own_d3_18) k) ?_
        refine own_go (T' := s₁) (g' := (mkF m 23 #[.val (.int u), .val (.int t), .unset, .unset] [(.int (1 : Int32))])) (fun _ k => XS.goto X0.here hx rfl (pc0 := 19) (pc' := 23) rfl (hb hby own_d3_19) (by decide) (by decide) k) ?_
        refine own_go (T' := s₁) (g' := (mkF m 24 #[.val (.int u), .val (.int t), .val (.int (1 : Int32)), .unset] [])) (fun _ k => XS.istoreN X0.here hx rfl (hb hby own_d3_23) rfl (l' := #[.val (.int u), .val (.int t), .val (.int (1 : Int32)), .unset]) rfl k) ?_
        exact J3 _ (by (try simp only [own_l0, own_l1, own_l2, own_l3, own_l9, own_l10, own_l13, own_l15, own_l31, own_l32, own_l126, own_l127, own_l133, own_l159, own_l160, own_l255, own_l2048, own_l55295, own_l55296, own_l57343, own_l57344, own_l65520, own_l65533, own_l65534, own_l65535, own_l65536, own_l1114096, own_l1114111, own_l1114112, own_l2147483647, Int32.lt_iff_toInt_lt, ← Int32.toInt_inj, Int64.lt_iff_toInt_lt, ← Int64.toInt_inj, and_true, true_and, and_false, false_and, or_true, true_or, or_false, false_or, not_true_eq_false, not_false_eq_true, ne_eq, true_implies, false_implies, implies_true] at c31 c32 c33 ⊢) <;> omega)
      · refine own_go (T' := s₁) (g' := (mkF m 22 #[.val (.int u), .val (.int t), .unset, .unset] [])) (fun _ k => XS.icmpYes X0.here hx rfl (pc0 := 15) (pc' := 22) rfl (hb hby own_d3_15) rfl (feq c33).2 (by decide) (by decide) k) ?_
        refine own_go (T' := s₁) (g' := (mkF m 23 #[.val (.int u), .val (.int t), .unset, .unset] [(.int (0 : Int32))])) (fun _ k => XS.iconst X0.here hx rfl (hb hby own_d3_22) k) ?_
        refine own_go (T' := s₁) (g' := (mkF m 24 #[.val (.int u), .val (.int t), .val (.int (0 : Int32)), .unset] [])) (fun _ k => XS.istoreN X0.here hx rfl (hb hby own_d3_23) rfl (l' := #[.val (.int u), .val (.int t), .val (.int (0 : Int32)), .unset]) rfl k) ?_
        exact J3 _ (by (try simp only [own_l0, own_l1, own_l2, own_l3, own_l9, own_l10, own_l13, own_l15, own_l31, own_l32, own_l126, own_l127, own_l133, own_l159, own_l160, own_l255, own_l2048, own_l55295, own_l55296, own_l57343, own_l57344, own_l65520, own_l65533, own_l65534, own_l65535, own_l65536, own_l1114096, own_l1114111, own_l1114112, own_l2147483647, Int32.lt_iff_toInt_lt, ← Int32.toInt_inj, Int64.lt_iff_toInt_lt, ← Int64.toInt_inj, and_true, true_and, and_false, false_and, or_true, true_or, or_false, false_or, not_true_eq_false, not_false_eq_true, ne_eq, true_implies, false_implies, implies_true] at c31 c32 c33 ⊢) <;> omega)
theorem own_pn0 : plainName "com/example/tidy_sitemap/tidysitemap/read/XmlCharactersStandsAsIsPinLaw" = true := by first | (simp [plainName, overriddenIn]; done) | decide +kernel
theorem own_pd0_0 : parseMethodDescriptor "(II)I" = some ⟨[.int, .int], some .int⟩ := by decide +kernel
theorem own_pd0_1 : parseMethodDescriptor "(IZ)Z" = some ⟨[.int, .boolean], some .boolean⟩ := by decide +kernel
theorem own_ef0 (m : MethodId) (u : Int32) (t : Int32) : entryFrame m #[(.int u), (.int t)] maxLocals = mkF m 0 #[.val (.int u), .val (.int t), .unset, .unset, .unset] [] := by first | (simp [entryFrame, mkF, argsToLocals, Value.category, maxLocals]; done) | rfl
def own_Q0 (Z : State) (u : Int32) (t : Int32) (h0 : Heap) (n0 : Nat) (v : Option Value) (h : Heap) (L : List Loc) : Prop := v = some (.int 1) ∧ Fr n0 L
set_option maxRecDepth 65536 in
set_option maxHeartbeats 40000000 in
theorem own_rm0 (l : Launch) (Z : State) (a0 : Array Value) (hw : ∀ d ∈ tables_1, d.before a0 Z = true) (ws : List Jvm.Cond) (u : Int32) (t : Int32) (h0 : Heap) (n0 : Nat) (Zs : n0 ≤ h0.size)  :
    MetFree l x (head1 (Jvm.Cond.code x code maxLocals ret :: ws) room_1) (fun aA_ U => aA_ = #[(.int u), (.int t)] ∧ Z.Warmed39 U.vm ∧ U.heap = h0) (fun _ _ _ _ _ => True) (fun _ U o U' => ∃ v L, o = .returned v ∧ own_Q0 Z u t h0 n0 v U'.heap L ∧ FrameEnd U o U' L room_1.cells room_1.slots) := by
  refine MetFree.of_bodySF (plainFor_of_name own_pn0) hisR ?_
  intro p e s m args below meth c s₁ Bd hml0 hP hK
  obtain ⟨rfl, hZ, hh⟩ := hP
  have hx := Bd.exec
  have hby := Bd.bytes
  have hml : c.maxLocals = 5 := hml0
  have hown : s.vm.findClass "com/example/tidy_sitemap/tidysitemap/read/XmlCharactersStandsAsIsPinLaw" = some m.cls := findClass_of_methodNamed Bd.named
  have hnm := (name_of_methodNamed Bd.named Bd.method).1
  have X0 : Stand p l e room_1 s m #[(.int u), (.int t)] below meth c s₁ [] 0 0 := Stand.of_body Bd
  have e0 : s₁.heap = h0 := by rw [← hh, Bd.state]; rfl
  have NF := Fr.nil n0
  rw [own_ef0 m u t]
  show own_Dn p e below s (own_Q0 Z u t h0 n0) room_1.cells room_1.slots s₁ (mkF m 0 #[.val (.int u), .val (.int t), .unset, .unset, .unset] [])
  refine own_go (T' := s₁) (g' := (mkF m 1 #[.val (.int u), .val (.int t), .unset, .unset, .unset] [(.int t)])) (fun _ k => XS.iloadN X0.here hx rfl (hb hby at_0) rfl k) ?_
  refine own_go (T' := s₁) (g' := (mkF m 2 #[.val (.int u), .val (.int t), .unset, .unset, .unset] [(.int (1 : Int32)), (.int t)])) (fun _ k => XS.iconst X0.here hx rfl (hb hby at_1) k) ?_
  refine own_go (T' := s₁) (g' := (mkF m 3 #[.val (.int u), .val (.int t), .unset, .unset, .unset] [(.int (t &&& (1 : Int32)))])) (fun _ k => XS.iand X0.here hx rfl (hb hby at_2) rfl k) ?_
  by_cases c1 : (t &&& (1 : Int32)) = (0 : Int32)
  · refine own_go (T' := s₁) (g' := (mkF m 10 #[.val (.int u), .val (.int t), .unset, .unset, .unset] [])) (fun _ k => XS.ifYes X0.here hx rfl (pc0 := 3) (pc' := 10) rfl (hb hby at_3) rfl ((if0 _ _).trans (teq c1).1) (by decide) (by decide) k) ?_
    refine own_go (T' := s₁) (g' := (mkF m 11 #[.val (.int u), .val (.int t), .unset, .unset, .unset] [(.int (0 : Int32))])) (fun _ k => XS.iconst X0.here hx rfl (hb hby at_10) k) ?_
    refine own_go (T' := s₁) (g' := (mkF m 12 #[.val (.int u), .val (.int t), .val (.int (0 : Int32)), .unset, .unset] [])) (fun _ k => XS.istoreN X0.here hx rfl (hb hby at_11) rfl (l' := #[.val (.int u), .val (.int t), .val (.int (0 : Int32)), .unset, .unset]) rfl k) ?_
    refine own_go (T' := s₁) (g' := (mkF m 13 #[.val (.int u), .val (.int t), .val (.int (0 : Int32)), .unset, .unset] [(.int t)])) (fun _ k => XS.iloadN X0.here hx rfl (hb hby at_12) rfl k) ?_
    refine own_go (T' := s₁) (g' := (mkF m 14 #[.val (.int u), .val (.int t), .val (.int (0 : Int32)), .unset, .unset] [(.int (1 : Int32)), (.int t)])) (fun _ k => XS.iconst X0.here hx rfl (hb hby at_13) k) ?_
    refine own_go (T' := s₁) (g' := (mkF m 15 #[.val (.int u), .val (.int t), .val (.int (0 : Int32)), .unset, .unset] [(.int ((t.toUInt32 >>> ((1 : Int32) &&& 31).toUInt32).toInt32))])) (fun _ k => XS.iushr X0.here hx rfl (hb hby at_14) rfl k) ?_
    refine own_go (T' := s₁) (g' := (mkF m 16 #[.val (.int u), .val (.int t), .val (.int (0 : Int32)), .unset, .unset] [(.int (3 : Int32)), (.int ((t.toUInt32 >>> ((1 : Int32) &&& 31).toUInt32).toInt32))])) (fun _ k => XS.iconst X0.here hx rfl (hb hby at_15) k) ?_
    refine own_go (T' := s₁) (g' := (mkF m 17 #[.val (.int u), .val (.int t), .val (.int (0 : Int32)), .unset, .unset] [(.int (((t.toUInt32 >>> ((1 : Int32) &&& 31).toUInt32).toInt32) &&& (3 : Int32)))])) (fun _ k => XS.iand X0.here hx rfl (hb hby at_16) rfl k) ?_
    refine own_go (T' := s₁) (g' := (mkF m 18 #[.val (.int u), .val (.int t), .val (.int (0 : Int32)), .val (.int (((t.toUInt32 >>> ((1 : Int32) &&& 31).toUInt32).toInt32) &&& (3 : Int32))), .unset] [])) (fun _ k => XS.istoreN X0.here hx rfl (hb hby at_17) rfl (l' := #[.val (.int u), .val (.int t), .val (.int (0 : Int32)), .val (.int (((t.toUInt32 >>> ((1 : Int32) &&& 31).toUInt32).toInt32) &&& (3 : Int32))), .unset]) rfl k) ?_
    refine own_go (T' := s₁) (g' := (mkF m 19 #[.val (.int u), .val (.int t), .val (.int (0 : Int32)), .val (.int (((t.toUInt32 >>> ((1 : Int32) &&& 31).toUInt32).toInt32) &&& (3 : Int32))), .unset] [(.int u)])) (fun _ k => XS.iloadN X0.here hx rfl (hb hby at_18) rfl k) ?_
    refine own_go (T' := s₁) (g' := (mkF m 20 #[.val (.int u), .val (.int t), .val (.int (0 : Int32)), .val (.int (((t.toUInt32 >>> ((1 : Int32) &&& 31).toUInt32).toInt32) &&& (3 : Int32))), .unset] [(.int (((t.toUInt32 >>> ((1 : Int32) &&& 31).toUInt32).toInt32) &&& (3 : Int32))), (.int u)])) (fun _ k => XS.iloadN X0.here hx rfl (hb hby at_19) rfl k) ?_
    obtain ⟨_, _, ⟨T2, L2, k2, n2⟩, -, X2, ⟨Lc2, hQ2, l2, y2, z2⟩, st2⟩ := Jvm.LawKit.callS X0 hx (y := (⟨"com/example/tidy_sitemap/tidysitemap/read/XmlCharactersStandsAsIsPinLaw", "draw", "(II)I"⟩ : MethodName)) hown (mvT hZ (hw _ (List.mem_of_getElem? (i := 0) rfl))) (mvT hZ (hw _ (List.mem_of_getElem? (i := 1) rfl))) (mvT hZ (hw _ (List.mem_of_getElem? (i := 2) rfl))) (mvT hZ (hw _ (List.mem_of_getElem? (i := 3) rfl))) (by decide) (backOf (W := 0) (own_rm1 l Z a0 hw [] u (((t.toUInt32 >>> ((1 : Int32) &&& 31).toUInt32).toInt32) &&& (3 : Int32)) h0 n0 Zs) hZ (hw _ (List.mem_of_getElem? (i := 3) rfl)) (hw _ (List.mem_of_getElem? (i := 2) rfl)) (by decide) (by decide)) (g := (mkF m 20 #[.val (.int u), .val (.int t), .val (.int (0 : Int32)), .val (.int (((t.toUInt32 >>> ((1 : Int32) &&& 31).toUInt32).toInt32) &&& (3 : Int32))), .unset] [(.int (((t.toUInt32 >>> ((1 : Int32) &&& 31).toUInt32).toInt32) &&& (3 : Int32))), (.int u)])) rfl (by rw [hml]; rfl) (argsL := [(.int u), (.int (((t.toUInt32 >>> ((1 : Int32) &&& 31).toUInt32).toInt32) &&& (3 : Int32)))]) (rest := []) (lenOf own_pd0_0 rfl) rfl (by show 2 * 0 + _ ≤ _; exact Nat.le_of_eq rfl) (hb hby at_20) (fun _ _ => ⟨rfl, e0, (by decide : 0 + 0 ≤ _), (by decide : 0 + 0 ≤ _)⟩)
    dsimp only [Pt.U, Pt.locs, Pt.cells, Pt.slots] at X2 l2 y2 z2 st2 hQ2
    subst l2 y2 z2
    obtain ⟨zz2, rfl, NQ2, eq2, hz2⟩ := hQ2
    have NF := Fr.app NF NQ2
    refine own_go (T' := T2) (g' := (mkF m 23 #[.val (.int u), .val (.int t), .val (.int (0 : Int32)), .val (.int (((t.toUInt32 >>> ((1 : Int32) &&& 31).toUInt32).toInt32) &&& (3 : Int32))), .unset] [(.int zz2)])) (fun _ k => st2 _ k) ?_
    refine own_go (T' := T2) (g' := (mkF m 25 #[.val (.int u), .val (.int t), .val (.int (0 : Int32)), .val (.int (((t.toUInt32 >>> ((1 : Int32) &&& 31).toUInt32).toInt32) &&& (3 : Int32))), .val (.int zz2)] [])) (fun _ k => XS.istore X2.here hx rfl (hb hby at_23) rfl (l' := #[.val (.int u), .val (.int t), .val (.int (0 : Int32)), .val (.int (((t.toUInt32 >>> ((1 : Int32) &&& 31).toUInt32).toInt32) &&& (3 : Int32))), .val (.int zz2)]) rfl k) ?_
    have hr := hz2
    refine own_go (T' := T2) (g' := (mkF m 27 #[.val (.int u), .val (.int t), .val (.int (0 : Int32)), .val (.int (((t.toUInt32 >>> ((1 : Int32) &&& 31).toUInt32).toInt32) &&& (3 : Int32))), .val (.int zz2)] [(.int zz2)])) (fun _ k => XS.iload X2.here hx rfl (hb hby at_25) rfl k) ?_
    refine own_go (T' := T2) (g' := (mkF m 28 #[.val (.int u), .val (.int t), .val (.int (0 : Int32)), .val (.int (((t.toUInt32 >>> ((1 : Int32) &&& 31).toUInt32).toInt32) &&& (3 : Int32))), .val (.int zz2)] [(.int (0 : Int32)), (.int zz2)])) (fun _ k => XS.iloadN X2.here hx rfl (hb hby at_27) rfl k) ?_
    obtain ⟨_, _, ⟨T3, L3, k3, n3⟩, -, X3, ⟨Lc3, hQ3, l3, y3, z3⟩, st3⟩ := Jvm.LawKit.callS X2 hx (y := (⟨"com/example/tidy_sitemap/tidysitemap/read/XmlCharacters", "standsAsIs", "(IZ)Z"⟩ : MethodName)) hown (mvT hZ (hw _ (List.mem_of_getElem? (i := 5) rfl))) (mvT hZ (hw _ (List.mem_of_getElem? (i := 6) rfl))) (mvT hZ (hw _ (List.mem_of_getElem? (i := 7) rfl))) (mvT hZ (hw _ (List.mem_of_getElem? (i := 8) rfl))) (by decide) (backOf (W := 0) (own_rm2 l Z a0 hw [] zz2 (0 : Int32) h0 n0 Zs hr) hZ (hw _ (List.mem_of_getElem? (i := 8) rfl)) (hw _ (List.mem_of_getElem? (i := 7) rfl)) (by decide) (by decide)) (g := (mkF m 28 #[.val (.int u), .val (.int t), .val (.int (0 : Int32)), .val (.int (((t.toUInt32 >>> ((1 : Int32) &&& 31).toUInt32).toInt32) &&& (3 : Int32))), .val (.int zz2)] [(.int (0 : Int32)), (.int zz2)])) rfl (by rw [hml]; rfl) (argsL := [(.int zz2), (.int (0 : Int32))]) (rest := []) (lenOf own_pd0_1 rfl) rfl (by show 2 * 0 + _ ≤ _; exact Nat.le_of_eq rfl) (hb hby at_28) (fun _ _ => ⟨rfl, eq2, (by decide : 0 + 0 ≤ _), (by decide : 0 + 0 ≤ _)⟩)
    dsimp only [Pt.U, Pt.locs, Pt.cells, Pt.slots] at X3 l3 y3 z3 st3 hQ3
    subst l3 y3 z3
    obtain ⟨rfl, NQ3, eq3⟩ := hQ3
    have NF := Fr.app NF NQ3
    refine own_go (T' := T3) (g' := (mkF m 31 #[.val (.int u), .val (.int t), .val (.int (0 : Int32)), .val (.int (((t.toUInt32 >>> ((1 : Int32) &&& 31).toUInt32).toInt32) &&& (3 : Int32))), .val (.int zz2)] [(.int (if (zz2.toInt = 9 ∨ zz2.toInt = 10 ∨ zz2.toInt = 13) ∨ ((57344 ≤ zz2.toInt ∧ zz2.toInt ≤ 65533) ∨ (65536 ≤ zz2.toInt ∧ zz2.toInt ≤ 1114111)) ∨ ((0 : Int32).toInt ≠ 0 ∧ (zz2.toInt = 133 ∨ (32 ≤ zz2.toInt ∧ zz2.toInt ≤ 126) ∨ (160 ≤ zz2.toInt ∧ zz2.toInt ≤ 55295))) ∨ ((0 : Int32).toInt = 0 ∧ 32 ≤ zz2.toInt ∧ zz2.toInt ≤ 55295) then (1 : Int32) else 0))])) (fun _ k => st3 _ k) ?_
    refine own_go (T' := T3) (g' := (mkF m 33 #[.val (.int u), .val (.int t), .val (.int (0 : Int32)), .val (.int (((t.toUInt32 >>> ((1 : Int32) &&& 31).toUInt32).toInt32) &&& (3 : Int32))), .val (.int zz2)] [(.int zz2), (.int (if (zz2.toInt = 9 ∨ zz2.toInt = 10 ∨ zz2.toInt = 13) ∨ ((57344 ≤ zz2.toInt ∧ zz2.toInt ≤ 65533) ∨ (65536 ≤ zz2.toInt ∧ zz2.toInt ≤ 1114111)) ∨ ((0 : Int32).toInt ≠ 0 ∧ (zz2.toInt = 133 ∨ (32 ≤ zz2.toInt ∧ zz2.toInt ≤ 126) ∨ (160 ≤ zz2.toInt ∧ zz2.toInt ≤ 55295))) ∨ ((0 : Int32).toInt = 0 ∧ 32 ≤ zz2.toInt ∧ zz2.toInt ≤ 55295) then (1 : Int32) else 0))])) (fun _ k => XS.iload X3.here hx rfl (hb hby at_31) rfl k) ?_
    refine own_go (T' := T3) (g' := (mkF m 34 #[.val (.int u), .val (.int t), .val (.int (0 : Int32)), .val (.int (((t.toUInt32 >>> ((1 : Int32) &&& 31).toUInt32).toInt32) &&& (3 : Int32))), .val (.int zz2)] [(.int (0 : Int32)), (.int zz2), (.int (if (zz2.toInt = 9 ∨ zz2.toInt = 10 ∨ zz2.toInt = 13) ∨ ((57344 ≤ zz2.toInt ∧ zz2.toInt ≤ 65533) ∨ (65536 ≤ zz2.toInt ∧ zz2.toInt ≤ 1114111)) ∨ ((0 : Int32).toInt ≠ 0 ∧ (zz2.toInt = 133 ∨ (32 ≤ zz2.toInt ∧ zz2.toInt ≤ 126) ∨ (160 ≤ zz2.toInt ∧ zz2.toInt ≤ 55295))) ∨ ((0 : Int32).toInt = 0 ∧ 32 ≤ zz2.toInt ∧ zz2.toInt ≤ 55295) then (1 : Int32) else 0))])) (fun _ k => XS.iloadN X3.here hx rfl (hb hby at_33) rfl k) ?_
    obtain ⟨_, _, ⟨T4, L4, k4, n4⟩, -, X4, ⟨Lc4, hQ4, l4, y4, z4⟩, st4⟩ := Jvm.LawKit.callS X3 hx (y := (⟨"com/example/tidy_sitemap/tidysitemap/read/XmlCharactersStandsAsIsPinLaw", "reference", "(IZ)Z"⟩ : MethodName)) hown (mvT hZ (hw _ (List.mem_of_getElem? (i := 9) rfl))) (mvT hZ (hw _ (List.mem_of_getElem? (i := 10) rfl))) (mvT hZ (hw _ (List.mem_of_getElem? (i := 2) rfl))) (mvT hZ (hw _ (List.mem_of_getElem? (i := 11) rfl))) (by decide) (backOf (W := 1) (own_rm3 l Z a0 hw [] zz2 (0 : Int32) h0 n0 Zs hr) hZ (hw _ (List.mem_of_getElem? (i := 11) rfl)) (hw _ (List.mem_of_getElem? (i := 2) rfl)) (by decide) (by decide)) (g := (mkF m 34 #[.val (.int u), .val (.int t), .val (.int (0 : Int32)), .val (.int (((t.toUInt32 >>> ((1 : Int32) &&& 31).toUInt32).toInt32) &&& (3 : Int32))), .val (.int zz2)] [(.int (0 : Int32)), (.int zz2), (.int (if (zz2.toInt = 9 ∨ zz2.toInt = 10 ∨ zz2.toInt = 13) ∨ ((57344 ≤ zz2.toInt ∧ zz2.toInt ≤ 65533) ∨ (65536 ≤ zz2.toInt ∧ zz2.toInt ≤ 1114111)) ∨ ((0 : Int32).toInt ≠ 0 ∧ (zz2.toInt = 133 ∨ (32 ≤ zz2.toInt ∧ zz2.toInt ≤ 126) ∨ (160 ≤ zz2.toInt ∧ zz2.toInt ≤ 55295))) ∨ ((0 : Int32).toInt = 0 ∧ 32 ≤ zz2.toInt ∧ zz2.toInt ≤ 55295) then (1 : Int32) else 0))])) rfl (by rw [hml]; rfl) (argsL := [(.int zz2), (.int (0 : Int32))]) (rest := [(.int (if (zz2.toInt = 9 ∨ zz2.toInt = 10 ∨ zz2.toInt = 13) ∨ ((57344 ≤ zz2.toInt ∧ zz2.toInt ≤ 65533) ∨ (65536 ≤ zz2.toInt ∧ zz2.toInt ≤ 1114111)) ∨ ((0 : Int32).toInt ≠ 0 ∧ (zz2.toInt = 133 ∨ (32 ≤ zz2.toInt ∧ zz2.toInt ≤ 126) ∨ (160 ≤ zz2.toInt ∧ zz2.toInt ≤ 55295))) ∨ ((0 : Int32).toInt = 0 ∧ 32 ≤ zz2.toInt ∧ zz2.toInt ≤ 55295) then (1 : Int32) else 0))]) (lenOf own_pd0_1 rfl) rfl (by show 2 * 0 + _ ≤ _; exact Nat.le_of_eq rfl) (hb hby at_34) (fun _ _ => ⟨rfl, eq3, (by decide : 0 + 0 ≤ _), (by decide : 0 + 0 ≤ _)⟩)
    dsimp only [Pt.U, Pt.locs, Pt.cells, Pt.slots] at X4 l4 y4 z4 st4 hQ4
    subst l4 y4 z4
    obtain ⟨rfl, NQ4, eq4⟩ := hQ4
    have NF := Fr.app NF NQ4
    refine own_go (T' := T4) (g' := (mkF m 37 #[.val (.int u), .val (.int t), .val (.int (0 : Int32)), .val (.int (((t.toUInt32 >>> ((1 : Int32) &&& 31).toUInt32).toInt32) &&& (3 : Int32))), .val (.int zz2)] [(.int (if (zz2.toInt = 9 ∨ zz2.toInt = 10 ∨ zz2.toInt = 13) ∨ ((57344 ≤ zz2.toInt ∧ zz2.toInt ≤ 65533) ∨ (65536 ≤ zz2.toInt ∧ zz2.toInt ≤ 1114111)) ∨ ((0 : Int32).toInt ≠ 0 ∧ (zz2.toInt = 133 ∨ (32 ≤ zz2.toInt ∧ zz2.toInt ≤ 126) ∨ (160 ≤ zz2.toInt ∧ zz2.toInt ≤ 55295))) ∨ ((0 : Int32).toInt = 0 ∧ 32 ≤ zz2.toInt ∧ zz2.toInt ≤ 55295) then (1 : Int32) else 0)), (.int (if (zz2.toInt = 9 ∨ zz2.toInt = 10 ∨ zz2.toInt = 13) ∨ ((57344 ≤ zz2.toInt ∧ zz2.toInt ≤ 65533) ∨ (65536 ≤ zz2.toInt ∧ zz2.toInt ≤ 1114111)) ∨ ((0 : Int32).toInt ≠ 0 ∧ (zz2.toInt = 133 ∨ (32 ≤ zz2.toInt ∧ zz2.toInt ≤ 126) ∨ (160 ≤ zz2.toInt ∧ zz2.toInt ≤ 55295))) ∨ ((0 : Int32).toInt = 0 ∧ 32 ≤ zz2.toInt ∧ zz2.toInt ≤ 55295) then (1 : Int32) else 0))])) (fun _ k => st4 _ k) ?_
    refine own_go (T' := T4) (g' := (mkF m 40 #[.val (.int u), .val (.int t), .val (.int (0 : Int32)), .val (.int (((t.toUInt32 >>> ((1 : Int32) &&& 31).toUInt32).toInt32) &&& (3 : Int32))), .val (.int zz2)] [])) (fun _ k => XS.icmpNo X4.here hx rfl (hb hby at_37) rfl (teq (rfl : (if (zz2.toInt = 9 ∨ zz2.toInt = 10 ∨ zz2.toInt = 13) ∨ ((57344 ≤ zz2.toInt ∧ zz2.toInt ≤ 65533) ∨ (65536 ≤ zz2.toInt ∧ zz2.toInt ≤ 1114111)) ∨ ((0 : Int32).toInt ≠ 0 ∧ (zz2.toInt = 133 ∨ (32 ≤ zz2.toInt ∧ zz2.toInt ≤ 126) ∨ (160 ≤ zz2.toInt ∧ zz2.toInt ≤ 55295))) ∨ ((0 : Int32).toInt = 0 ∧ 32 ≤ zz2.toInt ∧ zz2.toInt ≤ 55295) then (1 : Int32) else 0) = (if (zz2.toInt = 9 ∨ zz2.toInt = 10 ∨ zz2.toInt = 13) ∨ ((57344 ≤ zz2.toInt ∧ zz2.toInt ≤ 65533) ∨ (65536 ≤ zz2.toInt ∧ zz2.toInt ≤ 1114111)) ∨ ((0 : Int32).toInt ≠ 0 ∧ (zz2.toInt = 133 ∨ (32 ≤ zz2.toInt ∧ zz2.toInt ≤ 126) ∨ (160 ≤ zz2.toInt ∧ zz2.toInt ≤ 55295))) ∨ ((0 : Int32).toInt = 0 ∧ 32 ≤ zz2.toInt ∧ zz2.toInt ≤ 55295) then (1 : Int32) else 0))).2 k) ?_
    refine own_go (T' := T4) (g' := (mkF m 41 #[.val (.int u), .val (.int t), .val (.int (0 : Int32)), .val (.int (((t.toUInt32 >>> ((1 : Int32) &&& 31).toUInt32).toInt32) &&& (3 : Int32))), .val (.int zz2)] [(.int (1 : Int32))])) (fun _ k => XS.iconst X4.here hx rfl (hb hby at_40) k) ?_
    refine own_go (T' := T4) (g' := (mkF m 45 #[.val (.int u), .val (.int t), .val (.int (0 : Int32)), .val (.int (((t.toUInt32 >>> ((1 : Int32) &&& 31).toUInt32).toInt32) &&& (3 : Int32))), .val (.int zz2)] [(.int (1 : Int32))])) (fun _ k => XS.goto X4.here hx rfl (pc0 := 41) (pc' := 45) rfl (hb hby at_41) (by decide) (by decide) k) ?_
    refine own_ret X4 Bd.notSynchronized (some (.int (1 : Int32))) (fun h => by rw [Bd.returns] at h; cases h) (fun fs hr => retN X4 hx (t := .boolean) Bd.returns (by simp) (hb hby at_45) hr) ?_ (by decide) (by decide)
    show (own_Q0 Z u t h0 n0) (some (.int (1 : Int32))) T4.heap _
    rw [eq4]
    exact ⟨rfl, NF⟩
  · refine own_go (T' := s₁) (g' := (mkF m 6 #[.val (.int u), .val (.int t), .unset, .unset, .unset] [])) (fun _ k => XS.ifNo X0.here hx rfl (hb hby at_3) rfl ((if0 _ _).trans (feq c1).1) k) ?_
    refine own_go (T' := s₁) (g' := (mkF m 7 #[.val (.int u), .val (.int t), .unset, .unset, .unset] [(.int (1 : Int32))])) (fun _ k => XS.iconst X0.here hx rfl (hb hby at_6) k) ?_
    refine own_go (T' := s₁) (g' := (mkF m 11 #[.val (.int u), .val (.int t), .unset, .unset, .unset] [(.int (1 : Int32))])) (fun _ k => XS.goto X0.here hx rfl (pc0 := 7) (pc' := 11) rfl (hb hby at_7) (by decide) (by decide) k) ?_
    refine own_go (T' := s₁) (g' := (mkF m 12 #[.val (.int u), .val (.int t), .val (.int (1 : Int32)), .unset, .unset] [])) (fun _ k => XS.istoreN X0.here hx rfl (hb hby at_11) rfl (l' := #[.val (.int u), .val (.int t), .val (.int (1 : Int32)), .unset, .unset]) rfl k) ?_
    refine own_go (T' := s₁) (g' := (mkF m 13 #[.val (.int u), .val (.int t), .val (.int (1 : Int32)), .unset, .unset] [(.int t)])) (fun _ k => XS.iloadN X0.here hx rfl (hb hby at_12) rfl k) ?_
    refine own_go (T' := s₁) (g' := (mkF m 14 #[.val (.int u), .val (.int t), .val (.int (1 : Int32)), .unset, .unset] [(.int (1 : Int32)), (.int t)])) (fun _ k => XS.iconst X0.here hx rfl (hb hby at_13) k) ?_
    refine own_go (T' := s₁) (g' := (mkF m 15 #[.val (.int u), .val (.int t), .val (.int (1 : Int32)), .unset, .unset] [(.int ((t.toUInt32 >>> ((1 : Int32) &&& 31).toUInt32).toInt32))])) (fun _ k => XS.iushr X0.here hx rfl (hb hby at_14) rfl k) ?_
    refine own_go (T' := s₁) (g' := (mkF m 16 #[.val (.int u), .val (.int t), .val (.int (1 : Int32)), .unset, .unset] [(.int (3 : Int32)), (.int ((t.toUInt32 >>> ((1 : Int32) &&& 31).toUInt32).toInt32))])) (fun _ k => XS.iconst X0.here hx rfl (hb hby at_15) k) ?_
    refine own_go (T' := s₁) (g' := (mkF m 17 #[.val (.int u), .val (.int t), .val (.int (1 : Int32)), .unset, .unset] [(.int (((t.toUInt32 >>> ((1 : Int32) &&& 31).toUInt32).toInt32) &&& (3 : Int32)))])) (fun _ k => XS.iand X0.here hx rfl (hb hby at_16) rfl k) ?_
    refine own_go (T' := s₁) (g' := (mkF m 18 #[.val (.int u), .val (.int t), .val (.int (1 : Int32)), .val (.int (((t.toUInt32 >>> ((1 : Int32) &&& 31).toUInt32).toInt32) &&& (3 : Int32))), .unset] [])) (fun _ k => XS.istoreN X0.here hx rfl (hb hby at_17) rfl (l' := #[.val (.int u), .val (.int t), .val (.int (1 : Int32)), .val (.int (((t.toUInt32 >>> ((1 : Int32) &&& 31).toUInt32).toInt32) &&& (3 : Int32))), .unset]) rfl k) ?_
    refine own_go (T' := s₁) (g' := (mkF m 19 #[.val (.int u), .val (.int t), .val (.int (1 : Int32)), .val (.int (((t.toUInt32 >>> ((1 : Int32) &&& 31).toUInt32).toInt32) &&& (3 : Int32))), .unset] [(.int u)])) (fun _ k => XS.iloadN X0.here hx rfl (hb hby at_18) rfl k) ?_
    refine own_go (T' := s₁) (g' := (mkF m 20 #[.val (.int u), .val (.int t), .val (.int (1 : Int32)), .val (.int (((t.toUInt32 >>> ((1 : Int32) &&& 31).toUInt32).toInt32) &&& (3 : Int32))), .unset] [(.int (((t.toUInt32 >>> ((1 : Int32) &&& 31).toUInt32).toInt32) &&& (3 : Int32))), (.int u)])) (fun _ k => XS.iloadN X0.here hx rfl (hb hby at_19) rfl k) ?_
    obtain ⟨_, _, ⟨T5, L5, k5, n5⟩, -, X5, ⟨Lc5, hQ5, l5, y5, z5⟩, st5⟩ := Jvm.LawKit.callS X0 hx (y := (⟨"com/example/tidy_sitemap/tidysitemap/read/XmlCharactersStandsAsIsPinLaw", "draw", "(II)I"⟩ : MethodName)) hown (mvT hZ (hw _ (List.mem_of_getElem? (i := 0) rfl))) (mvT hZ (hw _ (List.mem_of_getElem? (i := 1) rfl))) (mvT hZ (hw _ (List.mem_of_getElem? (i := 2) rfl))) (mvT hZ (hw _ (List.mem_of_getElem? (i := 3) rfl))) (by decide) (backOf (W := 0) (own_rm1 l Z a0 hw [] u (((t.toUInt32 >>> ((1 : Int32) &&& 31).toUInt32).toInt32) &&& (3 : Int32)) h0 n0 Zs) hZ (hw _ (List.mem_of_getElem? (i := 3) rfl)) (hw _ (List.mem_of_getElem? (i := 2) rfl)) (by decide) (by decide)) (g := (mkF m 20 #[.val (.int u), .val (.int t), .val (.int (1 : Int32)), .val (.int (((t.toUInt32 >>> ((1 : Int32) &&& 31).toUInt32).toInt32) &&& (3 : Int32))), .unset] [(.int (((t.toUInt32 >>> ((1 : Int32) &&& 31).toUInt32).toInt32) &&& (3 : Int32))), (.int u)])) rfl (by rw [hml]; rfl) (argsL := [(.int u), (.int (((t.toUInt32 >>> ((1 : Int32) &&& 31).toUInt32).toInt32) &&& (3 : Int32)))]) (rest := []) (lenOf own_pd0_0 rfl) rfl (by show 2 * 0 + _ ≤ _; exact Nat.le_of_eq rfl) (hb hby at_20) (fun _ _ => ⟨rfl, e0, (by decide : 0 + 0 ≤ _), (by decide : 0 + 0 ≤ _)⟩)
    dsimp only [Pt.U, Pt.locs, Pt.cells, Pt.slots] at X5 l5 y5 z5 st5 hQ5
    subst l5 y5 z5
    obtain ⟨zz5, rfl, NQ5, eq5, hz5⟩ := hQ5
    have NF := Fr.app NF NQ5
    refine own_go (T' := T5) (g' := (mkF m 23 #[.val (.int u), .val (.int t), .val (.int (1 : Int32)), .val (.int (((t.toUInt32 >>> ((1 : Int32) &&& 31).toUInt32).toInt32) &&& (3 : Int32))), .unset] [(.int zz5)])) (fun _ k => st5 _ k) ?_
    refine own_go (T' := T5) (g' := (mkF m 25 #[.val (.int u), .val (.int t), .val (.int (1 : Int32)), .val (.int (((t.toUInt32 >>> ((1 : Int32) &&& 31).toUInt32).toInt32) &&& (3 : Int32))), .val (.int zz5)] [])) (fun _ k => XS.istore X5.here hx rfl (hb hby at_23) rfl (l' := #[.val (.int u), .val (.int t), .val (.int (1 : Int32)), .val (.int (((t.toUInt32 >>> ((1 : Int32) &&& 31).toUInt32).toInt32) &&& (3 : Int32))), .val (.int zz5)]) rfl k) ?_
    have hr := hz5
    refine own_go (T' := T5) (g' := (mkF m 27 #[.val (.int u), .val (.int t), .val (.int (1 : Int32)), .val (.int (((t.toUInt32 >>> ((1 : Int32) &&& 31).toUInt32).toInt32) &&& (3 : Int32))), .val (.int zz5)] [(.int zz5)])) (fun _ k => XS.iload X5.here hx rfl (hb hby at_25) rfl k) ?_
    refine own_go (T' := T5) (g' := (mkF m 28 #[.val (.int u), .val (.int t), .val (.int (1 : Int32)), .val (.int (((t.toUInt32 >>> ((1 : Int32) &&& 31).toUInt32).toInt32) &&& (3 : Int32))), .val (.int zz5)] [(.int (1 : Int32)), (.int zz5)])) (fun _ k => XS.iloadN X5.here hx rfl (hb hby at_27) rfl k) ?_
    obtain ⟨_, _, ⟨T6, L6, k6, n6⟩, -, X6, ⟨Lc6, hQ6, l6, y6, z6⟩, st6⟩ := Jvm.LawKit.callS X5 hx (y := (⟨"com/example/tidy_sitemap/tidysitemap/read/XmlCharacters", "standsAsIs", "(IZ)Z"⟩ : MethodName)) hown (mvT hZ (hw _ (List.mem_of_getElem? (i := 5) rfl))) (mvT hZ (hw _ (List.mem_of_getElem? (i := 6) rfl))) (mvT hZ (hw _ (List.mem_of_getElem? (i := 7) rfl))) (mvT hZ (hw _ (List.mem_of_getElem? (i := 8) rfl))) (by decide) (backOf (W := 0) (own_rm2 l Z a0 hw [] zz5 (1 : Int32) h0 n0 Zs hr) hZ (hw _ (List.mem_of_getElem? (i := 8) rfl)) (hw _ (List.mem_of_getElem? (i := 7) rfl)) (by decide) (by decide)) (g := (mkF m 28 #[.val (.int u), .val (.int t), .val (.int (1 : Int32)), .val (.int (((t.toUInt32 >>> ((1 : Int32) &&& 31).toUInt32).toInt32) &&& (3 : Int32))), .val (.int zz5)] [(.int (1 : Int32)), (.int zz5)])) rfl (by rw [hml]; rfl) (argsL := [(.int zz5), (.int (1 : Int32))]) (rest := []) (lenOf own_pd0_1 rfl) rfl (by show 2 * 0 + _ ≤ _; exact Nat.le_of_eq rfl) (hb hby at_28) (fun _ _ => ⟨rfl, eq5, (by decide : 0 + 0 ≤ _), (by decide : 0 + 0 ≤ _)⟩)
    dsimp only [Pt.U, Pt.locs, Pt.cells, Pt.slots] at X6 l6 y6 z6 st6 hQ6
    subst l6 y6 z6
    obtain ⟨rfl, NQ6, eq6⟩ := hQ6
    have NF := Fr.app NF NQ6
    refine own_go (T' := T6) (g' := (mkF m 31 #[.val (.int u), .val (.int t), .val (.int (1 : Int32)), .val (.int (((t.toUInt32 >>> ((1 : Int32) &&& 31).toUInt32).toInt32) &&& (3 : Int32))), .val (.int zz5)] [(.int (if (zz5.toInt = 9 ∨ zz5.toInt = 10 ∨ zz5.toInt = 13) ∨ ((57344 ≤ zz5.toInt ∧ zz5.toInt ≤ 65533) ∨ (65536 ≤ zz5.toInt ∧ zz5.toInt ≤ 1114111)) ∨ ((1 : Int32).toInt ≠ 0 ∧ (zz5.toInt = 133 ∨ (32 ≤ zz5.toInt ∧ zz5.toInt ≤ 126) ∨ (160 ≤ zz5.toInt ∧ zz5.toInt ≤ 55295))) ∨ ((1 : Int32).toInt = 0 ∧ 32 ≤ zz5.toInt ∧ zz5.toInt ≤ 55295) then (1 : Int32) else 0))])) (fun _ k => st6 _ k) ?_
    refine own_go (T' := T6) (g' := (mkF m 33 #[.val (.int u), .val (.int t), .val (.int (1 : Int32)), .val (.int (((t.toUInt32 >>> ((1 : Int32) &&& 31).toUInt32).toInt32) &&& (3 : Int32))), .val (.int zz5)] [(.int zz5), (.int (if (zz5.toInt = 9 ∨ zz5.toInt = 10 ∨ zz5.toInt = 13) ∨ ((57344 ≤ zz5.toInt ∧ zz5.toInt ≤ 65533) ∨ (65536 ≤ zz5.toInt ∧ zz5.toInt ≤ 1114111)) ∨ ((1 : Int32).toInt ≠ 0 ∧ (zz5.toInt = 133 ∨ (32 ≤ zz5.toInt ∧ zz5.toInt ≤ 126) ∨ (160 ≤ zz5.toInt ∧ zz5.toInt ≤ 55295))) ∨ ((1 : Int32).toInt = 0 ∧ 32 ≤ zz5.toInt ∧ zz5.toInt ≤ 55295) then (1 : Int32) else 0))])) (fun _ k => XS.iload X6.here hx rfl (hb hby at_31) rfl k) ?_
    refine own_go (T' := T6) (g' := (mkF m 34 #[.val (.int u), .val (.int t), .val (.int (1 : Int32)), .val (.int (((t.toUInt32 >>> ((1 : Int32) &&& 31).toUInt32).toInt32) &&& (3 : Int32))), .val (.int zz5)] [(.int (1 : Int32)), (.int zz5), (.int (if (zz5.toInt = 9 ∨ zz5.toInt = 10 ∨ zz5.toInt = 13) ∨ ((57344 ≤ zz5.toInt ∧ zz5.toInt ≤ 65533) ∨ (65536 ≤ zz5.toInt ∧ zz5.toInt ≤ 1114111)) ∨ ((1 : Int32).toInt ≠ 0 ∧ (zz5.toInt = 133 ∨ (32 ≤ zz5.toInt ∧ zz5.toInt ≤ 126) ∨ (160 ≤ zz5.toInt ∧ zz5.toInt ≤ 55295))) ∨ ((1 : Int32).toInt = 0 ∧ 32 ≤ zz5.toInt ∧ zz5.toInt ≤ 55295) then (1 : Int32) else 0))])) (fun _ k => XS.iloadN X6.here hx rfl (hb hby at_33) rfl k) ?_
    obtain ⟨_, _, ⟨T7, L7, k7, n7⟩, -, X7, ⟨Lc7, hQ7, l7, y7, z7⟩, st7⟩ := Jvm.LawKit.callS X6 hx (y := (⟨"com/example/tidy_sitemap/tidysitemap/read/XmlCharactersStandsAsIsPinLaw", "reference", "(IZ)Z"⟩ : MethodName)) hown (mvT hZ (hw _ (List.mem_of_getElem? (i := 9) rfl))) (mvT hZ (hw _ (List.mem_of_getElem? (i := 10) rfl))) (mvT hZ (hw _ (List.mem_of_getElem? (i := 2) rfl))) (mvT hZ (hw _ (List.mem_of_getElem? (i := 11) rfl))) (by decide) (backOf (W := 1) (own_rm3 l Z a0 hw [] zz5 (1 : Int32) h0 n0 Zs hr) hZ (hw _ (List.mem_of_getElem? (i := 11) rfl)) (hw _ (List.mem_of_getElem? (i := 2) rfl)) (by decide) (by decide)) (g := (mkF m 34 #[.val (.int u), .val (.int t), .val (.int (1 : Int32)), .val (.int (((t.toUInt32 >>> ((1 : Int32) &&& 31).toUInt32).toInt32) &&& (3 : Int32))), .val (.int zz5)] [(.int (1 : Int32)), (.int zz5), (.int (if (zz5.toInt = 9 ∨ zz5.toInt = 10 ∨ zz5.toInt = 13) ∨ ((57344 ≤ zz5.toInt ∧ zz5.toInt ≤ 65533) ∨ (65536 ≤ zz5.toInt ∧ zz5.toInt ≤ 1114111)) ∨ ((1 : Int32).toInt ≠ 0 ∧ (zz5.toInt = 133 ∨ (32 ≤ zz5.toInt ∧ zz5.toInt ≤ 126) ∨ (160 ≤ zz5.toInt ∧ zz5.toInt ≤ 55295))) ∨ ((1 : Int32).toInt = 0 ∧ 32 ≤ zz5.toInt ∧ zz5.toInt ≤ 55295) then (1 : Int32) else 0))])) rfl (by rw [hml]; rfl) (argsL := [(.int zz5), (.int (1 : Int32))]) (rest := [(.int (if (zz5.toInt = 9 ∨ zz5.toInt = 10 ∨ zz5.toInt = 13) ∨ ((57344 ≤ zz5.toInt ∧ zz5.toInt ≤ 65533) ∨ (65536 ≤ zz5.toInt ∧ zz5.toInt ≤ 1114111)) ∨ ((1 : Int32).toInt ≠ 0 ∧ (zz5.toInt = 133 ∨ (32 ≤ zz5.toInt ∧ zz5.toInt ≤ 126) ∨ (160 ≤ zz5.toInt ∧ zz5.toInt ≤ 55295))) ∨ ((1 : Int32).toInt = 0 ∧ 32 ≤ zz5.toInt ∧ zz5.toInt ≤ 55295) then (1 : Int32) else 0))]) (lenOf own_pd0_1 rfl) rfl (by show 2 * 0 + _ ≤ _; exact Nat.le_of_eq rfl) (hb hby at_34) (fun _ _ => ⟨rfl, eq6, (by decide : 0 + 0 ≤ _), (by decide : 0 + 0 ≤ _)⟩)
    dsimp only [Pt.U, Pt.locs, Pt.cells, Pt.slots] at X7 l7 y7 z7 st7 hQ7
    subst l7 y7 z7
    obtain ⟨rfl, NQ7, eq7⟩ := hQ7
    have NF := Fr.app NF NQ7
    refine own_go (T' := T7) (g' := (mkF m 37 #[.val (.int u), .val (.int t), .val (.int (1 : Int32)), .val (.int (((t.toUInt32 >>> ((1 : Int32) &&& 31).toUInt32).toInt32) &&& (3 : Int32))), .val (.int zz5)] [(.int (if (zz5.toInt = 9 ∨ zz5.toInt = 10 ∨ zz5.toInt = 13) ∨ ((57344 ≤ zz5.toInt ∧ zz5.toInt ≤ 65533) ∨ (65536 ≤ zz5.toInt ∧ zz5.toInt ≤ 1114111)) ∨ ((1 : Int32).toInt ≠ 0 ∧ (zz5.toInt = 133 ∨ (32 ≤ zz5.toInt ∧ zz5.toInt ≤ 126) ∨ (160 ≤ zz5.toInt ∧ zz5.toInt ≤ 55295))) ∨ ((1 : Int32).toInt = 0 ∧ 32 ≤ zz5.toInt ∧ zz5.toInt ≤ 55295) then (1 : Int32) else 0)), (.int (if (zz5.toInt = 9 ∨ zz5.toInt = 10 ∨ zz5.toInt = 13) ∨ ((57344 ≤ zz5.toInt ∧ zz5.toInt ≤ 65533) ∨ (65536 ≤ zz5.toInt ∧ zz5.toInt ≤ 1114111)) ∨ ((1 : Int32).toInt ≠ 0 ∧ (zz5.toInt = 133 ∨ (32 ≤ zz5.toInt ∧ zz5.toInt ≤ 126) ∨ (160 ≤ zz5.toInt ∧ zz5.toInt ≤ 55295))) ∨ ((1 : Int32).toInt = 0 ∧ 32 ≤ zz5.toInt ∧ zz5.toInt ≤ 55295) then (1 : Int32) else 0))])) (fun _ k => st7 _ k) ?_
    refine own_go (T' := T7) (g' := (mkF m 40 #[.val (.int u), .val (.int t), .val (.int (1 : Int32)), .val (.int (((t.toUInt32 >>> ((1 : Int32) &&& 31).toUInt32).toInt32) &&& (3 : Int32))), .val (.int zz5)] [])) (fun _ k => XS.icmpNo X7.here hx rfl (hb hby at_37) rfl (teq (rfl : (if (zz5.toInt = 9 ∨ zz5.toInt = 10 ∨ zz5.toInt = 13) ∨ ((57344 ≤ zz5.toInt ∧ zz5.toInt ≤ 65533) ∨ (65536 ≤ zz5.toInt ∧ zz5.toInt ≤ 1114111)) ∨ ((1 : Int32).toInt ≠ 0 ∧ (zz5.toInt = 133 ∨ (32 ≤ zz5.toInt ∧ zz5.toInt ≤ 126) ∨ (160 ≤ zz5.toInt ∧ zz5.toInt ≤ 55295))) ∨ ((1 : Int32).toInt = 0 ∧ 32 ≤ zz5.toInt ∧ zz5.toInt ≤ 55295) then (1 : Int32) else 0) = (if (zz5.toInt = 9 ∨ zz5.toInt = 10 ∨ zz5.toInt = 13) ∨ ((57344 ≤ zz5.toInt ∧ zz5.toInt ≤ 65533) ∨ (65536 ≤ zz5.toInt ∧ zz5.toInt ≤ 1114111)) ∨ ((1 : Int32).toInt ≠ 0 ∧ (zz5.toInt = 133 ∨ (32 ≤ zz5.toInt ∧ zz5.toInt ≤ 126) ∨ (160 ≤ zz5.toInt ∧ zz5.toInt ≤ 55295))) ∨ ((1 : Int32).toInt = 0 ∧ 32 ≤ zz5.toInt ∧ zz5.toInt ≤ 55295) then (1 : Int32) else 0))).2 k) ?_
    refine own_go (T' := T7) (g' := (mkF m 41 #[.val (.int u), .val (.int t), .val (.int (1 : Int32)), .val (.int (((t.toUInt32 >>> ((1 : Int32) &&& 31).toUInt32).toInt32) &&& (3 : Int32))), .val (.int zz5)] [(.int (1 : Int32))])) (fun _ k => XS.iconst X7.here hx rfl (hb hby at_40) k) ?_
    refine own_go (T' := T7) (g' := (mkF m 45 #[.val (.int u), .val (.int t), .val (.int (1 : Int32)), .val (.int (((t.toUInt32 >>> ((1 : Int32) &&& 31).toUInt32).toInt32) &&& (3 : Int32))), .val (.int zz5)] [(.int (1 : Int32))])) (fun _ k => XS.goto X7.here hx rfl (pc0 := 41) (pc' := 45) rfl (hb hby at_41) (by decide) (by decide) k) ?_
    refine own_ret X7 Bd.notSynchronized (some (.int (1 : Int32))) (fun h => by rw [Bd.returns] at h; cases h) (fun fs hr => retN X7 hx (t := .boolean) Bd.returns (by simp) (hb hby at_45) hr) ?_ (by decide) (by decide)
    show (own_Q0 Z u t h0 n0) (some (.int (1 : Int32))) T7.heap _
    rw [eq7]
    exact ⟨rfl, NF⟩
set_option maxRecDepth 65536 in
set_option maxHeartbeats 40000000 in
theorem own_comes {Post : Tables → Env → Array Value → State → Outcome → State → Prop} (hpost : ∀ tb e args s v u, (limb_1_1.after args s (.returned v) u = true ∧ limb_1_2.after args s (.returned v) u = true ∧ True) → FrameEnd s (.returned v) u (Jvm.fieldLocs frame_1_writes args s ++ Jvm.arrayLocs frame_1_arrays args s ++ Jvm.staticLocs frame_1_statics s) 0 0 → Post tb e args s (.returned v) u) :
    ArmFor flags0 classFile x code maxLocals ret World_1 tables_1 room_1 Calls_1 rest_1 Pre_1 Post := by
  intro l hfl _ _ p e ha hc hk s m args below hf hA hF happ hP
  obtain ⟨hcalls, hrest, hpre⟩ := hP
  obtain ⟨-, -, -, hnamed, -, -, -, hat⟩ := (Spec.applies_iff hf).mp happ
  obtain ⟨hg, hn⟩ := and_e (Cond.before_iff.mp (show (Jvm.Cond.and given_1 narrow_1).before args s = true from hpre))
  obtain ⟨gg1, gg2⟩ := and_e hg
  obtain ⟨gg3, gg4⟩ := and_e gg2
  obtain ⟨w0, w1, rfl⟩ : ∃ w0 w1 : Value, args = #[w0, w1] := by
    have hs : args.size = 2 := by simpa [Cond.value, given_1] using gg1
    obtain ⟨L⟩ := args
    match L, hs with
    | [w0, w1], _ => exact ⟨w0, w1, rfl⟩
  have hw := fun d (hd : d ∈ tables_1) => atoms_spec (ws := Jvm.Cond.code x code maxLocals ret :: tables_1) hat d (List.mem_cons_of_mem _ hd)
  have hfit : Fit s := fun {y c} hc i hi => by
    obtain ⟨ha, rfl⟩ := Array.getElem?_eq_some_iff.mp hc
    have q := List.all_eq_true.mp ((Array.all_eq_true_iff_forall_mem.mp hF) _ (Array.getElem_mem ha)) i (List.mem_range.mpr hi)
    simpa [Array.getElem?_eq_getElem hi] using q
  obtain ⟨i0, ei0⟩ := is_v gg3
  obtain rfl : w0 = (.int i0) := Option.some.inj ei0
  obtain ⟨i1, ei1⟩ := is_v gg4
  obtain rfl : w1 = (.int i1) := Option.some.inj ei1
  obtain ⟨n, o, h1, h2, h3, _, L, rfl, ⟨rfl, N⟩, hq⟩ := own_rm0 l s _ hw tables_1 i0 i1 s.heap s.heap.size (Nat.le_refl _)  p e ha hc hk s m _ below hf ((Spec.applies_iff_loose hf).mp happ).1 ⟨rfl, State.Warmed39.refl s, rfl⟩ trivial
  refine ⟨n, _, h1, h2, h3, hpost _ _ _ _ _ _ ⟨Cond.after_iff.mpr rfl, Cond.after_iff.mpr (eq_i res_at (Term.int_eval (1)) rfl), trivial⟩ ⟨hq.1, hq.2.1, (hq.2.2.sift fun y hy => Or.inr (N y hy)).mono (by decide) (by decide)⟩⟩
theorem main_1_1 : Claimed_1_1 := own_comes fun _ _ _ _ _ _ h hF => ⟨h.1, hF⟩
theorem main_1_2 : Claimed_1_2 := own_comes fun _ _ _ _ _ _ h hF => ⟨h.2.1, hF⟩
end Jvm.Pilot.@@N@@
namespace Jvm.Pilot.@@N@@
open Jvm Jvm.ClassFile Sem Op Lib Jvm.Free Jvm.Stand Jvm.Pilot.@@N@@.Jvm.D
/-! MADE BY PROGRAM (witnessworld.py) out of the Statement's table words and the real class files: 9 classes; the members and pool entries that the words name. The judged class is class 1, her method 3. -/
namespace start1
open Jvm.ClassFile
def u (s : String) : CpInfo := .utf8 (stringToUtf16 s)
/-- a pool by its gaps: so many unusable entries, then the entry; so many at the end -/
def gap : Nat → List CpInfo → List CpInfo
  | 0, r => r
  | n + 1, r => .unusable :: gap n r
def poolList (es : List (Nat × CpInfo)) (last : Nat) : List CpInfo := es.foldr (fun e r => gap e.1 (e.2 :: r)) (gap last [])
def pool (es : List (Nat × CpInfo)) (last : Nat) : Array CpInfo := ⟨poolList es last⟩
def fileOf (pool : Array CpInfo) (this : Nat) (attrs : Array Attribute := #[]) (ms : Array MethodInfo := #[]) (fl : Nat := 33) (sup : Nat := 0) (ifs : Array Nat := #[]) (fds : Array FieldInfo := #[]) : ClassFile where
  minorVersion := 0
  majorVersion := 65
  constantPool := pool
  accessFlags := fl
  thisClass := this
  superClass := sup
  interfaces := ifs
  fields := fds
  methods := ms
  attributes := attrs
def plain (name : String) (sup : Option ClassId) : Class where
  name := name
  kind := .ordinary
  loader := none
  accessFlags := 33
  super := sup
  interfaces := #[]
  cf := none
  fields := #[]
  methods := #[]
  instanceTypes := #[]
  staticTypes := #[]
  resolved := #[]
  callSites := []
  init := .initialized
  statics := none
  mirror := none

def pool0 : Array CpInfo := pool [(5, u "<init>"), (0, u "()V"), (1, .class_ 10), (1, u "java/lang/Object")] 113

def k0m0 : Method := { name := "<init>", desc := "()V", sig := { parameters := [], returnType := none }, accessFlags := 1, code := none }
/-- java/lang/Object -/
def k0 : Class := { plain "java/lang/Object" none with
  accessFlags := 33
  interfaces := #[]
  cf := some (fileOf pool0 8 #[] #[{ accessFlags := 1, nameIndex := 5, descriptorIndex := 6, attributes := #[] }] 33 0 #[] #[])
  fields := #[]
  methods := #[k0m0]
  instanceTypes := #[]
  staticTypes := #[]
  resolved := Array.replicate 124 none
  statics := none }

def pool1 : Array CpInfo := pool [(2, .class_ 4), (1, u "java/lang/Object"), (0, u "<init>"), (0, u "()V"), (0, .integer 2147483647), (0, .integer 1114112), (0, .integer 65520), (0, .integer 1114096), (0, .integer 55296), (0, .integer 57343), (0, .integer 57344), (0, .integer 65533), (0, .integer 65536), (0, .integer 1114111), (0, .integer 55295), (0, .methodref 19 20), (0, .class_ 21), (0, .nameAndType 22 23), (0, u "com/example/tidy_sitemap/tidysitemap/read/XmlCharactersStandsAsIsPinLaw"), (0, u "draw"), (0, u "(II)I"), (0, .methodref 25 26), (0, .class_ 27), (0, .nameAndType 28 29), (0, u "com/example/tidy_sitemap/tidysitemap/read/XmlCharacters"), (0, u "standsAsIs"), (0, u "(IZ)Z"), (0, .methodref 19 31), (0, .nameAndType 32 29), (0, u "reference"), (3, u "law"), (0, u "(II)Z")] 2

def k1m0 : Method := { name := "<init>", desc := "()V", sig := { parameters := [], returnType := none }, accessFlags := 2, code := none }
def k1c1 : Code := { maxStack := 3, maxLocals := 3, code := method_2_code, exceptionTable := #[], attributes := #[] }
def k1m1 : Method := { name := "draw", desc := "(II)I", sig := { parameters := [.int, .int], returnType := some .int }, accessFlags := 10, code := some k1c1 }
def k1c2 : Code := { maxStack := 2, maxLocals := 4, code := method_3_code, exceptionTable := #[], attributes := #[] }
def k1m2 : Method := { name := "reference", desc := "(IZ)Z", sig := { parameters := [.int, .boolean], returnType := some .boolean }, accessFlags := 10, code := some k1c2 }
def k1c3 : Code := { maxStack := 3, maxLocals := 5, code := code, exceptionTable := #[], attributes := #[] }
def k1m3 : Method := { name := "law", desc := "(II)Z", sig := { parameters := [.int, .int], returnType := some .boolean }, accessFlags := 9, code := some k1c3 }
/-- com/example/tidy_sitemap/tidysitemap/read/XmlCharactersStandsAsIsPinLaw -/
def k1 : Class := { plain "com/example/tidy_sitemap/tidysitemap/read/XmlCharactersStandsAsIsPinLaw" (some 0) with
  accessFlags := 49
  interfaces := #[]
  cf := some (fileOf pool1 19 #[] #[{ accessFlags := 2, nameIndex := 5, descriptorIndex := 6, attributes := #[] }, { accessFlags := 10, nameIndex := 22, descriptorIndex := 23, attributes := #[] }, { accessFlags := 10, nameIndex := 32, descriptorIndex := 29, attributes := #[] }, { accessFlags := 9, nameIndex := 36, descriptorIndex := 37, attributes := #[] }] 49 2 #[] #[])
  fields := #[]
  methods := #[k1m0, k1m1, k1m2, k1m3]
  instanceTypes := #[]
  staticTypes := #[]
  resolved := Array.replicate 40 none
  statics := none }

def pool2 : Array CpInfo := pool [(2, .class_ 4), (1, u "java/lang/Object"), (0, u "<init>"), (0, u "()V"), (1, .class_ 10), (1, u "com/example/tidy_sitemap/tidysitemap/read/XmlCharacters"), (0, u "CLASSES"), (0, u "[I"), (13, .integer 65534), (0, .integer 65535), (3, u "TEXT_STOP"), (0, u "I"), (2, u "VALUE_STOP"), (1, u "NAME_START"), (1, u "NAME_PART"), (1, u "SPACE"), (1, u "TAG_STOP"), (1, u "LOCAL_NAME_PART"), (10, u "(IZ)Z"), (0, u "standsAsIs")] 4

def k2m0 : Method := { name := "<init>", desc := "()V", sig := { parameters := [], returnType := none }, accessFlags := 2, code := none }
def k2c1 : Code := { maxStack := 2, maxLocals := 3, code := prog_53_method_7_code, exceptionTable := #[], attributes := #[] }
def k2m1 : Method := { name := "standsAsIs", desc := "(IZ)Z", sig := { parameters := [.int, .boolean], returnType := some .boolean }, accessFlags := 8, code := some k2c1 }
/-- com/example/tidy_sitemap/tidysitemap/read/XmlCharacters -/
def k2 : Class := { plain "com/example/tidy_sitemap/tidysitemap/read/XmlCharacters" (some 0) with
  accessFlags := 48
  interfaces := #[]
  cf := some (fileOf pool2 8 #[] #[{ accessFlags := 2, nameIndex := 5, descriptorIndex := 6, attributes := #[] }, { accessFlags := 8, nameIndex := 57, descriptorIndex := 56, attributes := #[] }] 48 2 #[] #[{ accessFlags := 24, nameIndex := 31, descriptorIndex := 32, attributes := #[] }, { accessFlags := 24, nameIndex := 35, descriptorIndex := 32, attributes := #[] }, { accessFlags := 24, nameIndex := 37, descriptorIndex := 32, attributes := #[] }, { accessFlags := 24, nameIndex := 39, descriptorIndex := 32, attributes := #[] }, { accessFlags := 24, nameIndex := 41, descriptorIndex := 32, attributes := #[] }, { accessFlags := 24, nameIndex := 43, descriptorIndex := 32, attributes := #[] }, { accessFlags := 24, nameIndex := 45, descriptorIndex := 32, attributes := #[] }, { accessFlags := 24, nameIndex := 11, descriptorIndex := 12, attributes := #[] }])
  fields := #[{ name := "TEXT_STOP", type := .int, accessFlags := 24, slot := 0, constantValue := 0 }, { name := "VALUE_STOP", type := .int, accessFlags := 24, slot := 1, constantValue := 0 }, { name := "NAME_START", type := .int, accessFlags := 24, slot := 2, constantValue := 0 }, { name := "NAME_PART", type := .int, accessFlags := 24, slot := 3, constantValue := 0 }, { name := "SPACE", type := .int, accessFlags := 24, slot := 4, constantValue := 0 }, { name := "TAG_STOP", type := .int, accessFlags := 24, slot := 5, constantValue := 0 }, { name := "LOCAL_NAME_PART", type := .int, accessFlags := 24, slot := 6, constantValue := 0 }, { name := "CLASSES", type := (.array .int), accessFlags := 24, slot := 7, constantValue := 0 }]
  methods := #[k2m0, k2m1]
  instanceTypes := #[]
  staticTypes := #[.int, .int, .int, .int, .int, .int, .int, (.array .int)]
  resolved := Array.replicate 62 none
  statics := none }

def pool3 : Array CpInfo := pool [(1, u "java/lang/Cloneable"), (0, .class_ 1), (0, u "java/lang/Object"), (0, .class_ 3)] 3

/-- java/lang/Cloneable -/
def k3 : Class := { plain "java/lang/Cloneable" (some 0) with
  accessFlags := 1537
  interfaces := #[]
  cf := some (fileOf pool3 2 #[] #[] 1537 4 #[] #[])
  fields := #[]
  methods := #[]
  instanceTypes := #[]
  staticTypes := #[]
  resolved := Array.replicate 8 none
  statics := none }

def pool4 : Array CpInfo := pool [(1, u "java/io/Serializable"), (0, .class_ 1), (0, u "java/lang/Object"), (0, .class_ 3)] 3

/-- java/io/Serializable -/
def k4 : Class := { plain "java/io/Serializable" (some 0) with
  accessFlags := 1537
  interfaces := #[]
  cf := some (fileOf pool4 2 #[] #[] 1537 4 #[] #[])
  fields := #[]
  methods := #[]
  instanceTypes := #[]
  staticTypes := #[]
  resolved := Array.replicate 8 none
  statics := none }

/-- the primitive byte -/
def k5 : Class := { plain "byte" none with kind := .primitive 'B', accessFlags := 0x411 }
/-- [B -/
def k6 : Class := { plain "[B" (some 0) with kind := .array 5 .byte, interfaces := #[3, 4], accessFlags := 1041 }

/-- the primitive int -/
def k7 : Class := { plain "int" none with kind := .primitive 'I', accessFlags := 0x411 }
/-- [I -/
def k8 : Class := { plain "[I" (some 0) with kind := .array 7 .int, interfaces := #[3, 4], accessFlags := 1041 }

def heap : Heap := #[]
def classes : Array Class := #[k0, k1, k2, k3, k4, k5, k6, k7, k8]
def interned : List (Array UInt16 × Addr) := []
def slotsUsed : Nat := 0
def theMethod : MethodId := ⟨1, 3⟩
def args0 : Array Value := #[.int 5, .int 7]
def aboutOver (below : List Frame) : State where
  vm := { classes := classes, interned := interned.toArray }
  heap := heap
  slotsUsed := slotsUsed
  threads := #[{ frames := .invoking theMethod args0 :: below }]
def below0 : List Frame := [.native { method := ⟨0, 0⟩, args := #[] }]
def about1 : State := aboutOver below0
def p0 : Program := .bare "" "" ""
def e0 : Env := launch0.env 0 0 0
theorem w_frames : about1.frames = Frame.invoking theMethod args0 :: below0 := rfl
set_option maxRecDepth 65536 in
theorem w_args : argsFit about1.vm theMethod args0 = true := by decide +kernel
set_option maxRecDepth 65536 in
theorem w_heap : heapFits about1 = true := by decide +kernel
set_option maxRecDepth 65536 in
theorem w_runnable : about1.curStatus? = some .runnable := by decide +kernel
set_option maxRecDepth 65536 in
theorem w_alone : about1.alone = true := by decide +kernel
set_option maxRecDepth 65536 in
theorem w_named : about1.methodNamed? x = some theMethod := by decide +kernel
set_option maxRecDepth 65536 in
theorem w_hears : about1.hears theMethod below0 = true := by decide +kernel
set_option maxRecDepth 65536 in
theorem w_ripe : about1.ripe theMethod args0 below0 = true := by decide +kernel
theorem w_running : about1.status = .running := rfl
set_option maxRecDepth 65536 in
theorem w_room : about1.hasRoom e0.platform room_1 = true :=
  launch0.hasRoom_least _ room_1 (by decide +kernel) (by decide +kernel) (by decide +kernel) (by decide +kernel) (by decide +kernel) (by decide +kernel)
theorem allAtoms_all (ts : List Jvm.Cond) (a : Array Jvm.Value) (st : Jvm.State) : (allAtoms ts).before a st = ts.all (fun c => c.before a st) := by
  induction ts with
  | nil => rfl
  | cons c t ih =>
    show (Jvm.Cond.and c (allAtoms t)).before a st = _
    rw [Jvm.Cond.before_and, ih, List.all_cons]
def words1 : List Jvm.Cond := Jvm.Cond.code x code maxLocals ret :: tables_1
/-- a 'code' word, met by the world's own term for the bytes: nothing is compared byte by byte -/
theorem code_word {y : MethodName} {bytes : ByteArray} {mx : Nat} {rt : Option FieldType} {a : Array Value} {s : State} {m : MethodId} {meth : Method} {c : Code} (h1 : s.methodNamed? y = some m) (h2 : s.vm.method? m = some meth) (h3 : meth.code = some c) (h4 : c.code = bytes)
    (h5 : (c.maxLocals == mx && c.exceptionTable.isEmpty && decide (c.maxStack ≤ mostOperands) && decide (meth.sig.returnType = rt) && !meth.locks && decide (parseMethodDescriptor y.desc = some meth.sig)) = true) : (Jvm.Cond.code y bytes mx rt).before a s = true := by
  simp only [Bool.and_eq_true, beq_iff_eq, Bool.not_eq_true', decide_eq_true_eq] at h5
  obtain ⟨⟨⟨⟨⟨g1, g2⟩, g3⟩, g4⟩, g5⟩, g6⟩ := h5
  simp [Cond.before, Cond.holds, Cond.value, h1, h2, h3, h4, g1, g2, g3, g4, g5, g6]
def isCode : Jvm.Cond → Bool
  | .code _ _ _ _ => true
  | _ => false
theorem all_split {L : List Jvm.Cond} {P : Jvm.Cond → Bool} (h1 : L.all (fun c => isCode c || P c) = true) (h2 : ∀ c ∈ L.filter isCode, P c = true) : L.all P = true := by
  refine List.all_eq_true.mpr fun c hc => ?_
  have h := List.all_eq_true.mp h1 c hc
  rcases Bool.eq_false_or_eq_true (isCode c) with hi | hi
  · exact h2 c (List.mem_filter.mpr ⟨hc, hi⟩)
  · simpa [hi] using h
set_option maxRecDepth 65536 in
theorem w_c0 : (Jvm.Cond.code x code maxLocals ret).before args0 about1 = true := code_word (m := ⟨1, 3⟩) (meth := k1m3) (c := k1c3) (by decide +kernel) rfl rfl rfl (by decide +kernel)
set_option maxRecDepth 65536 in
theorem w_c1 : (Jvm.Cond.code ({ cls := "com/example/tidy_sitemap/tidysitemap/read/XmlCharactersStandsAsIsPinLaw", name := "draw", desc := "(II)I" } : Jvm.MethodName) method_2_code (3 : Nat) (Option.some Jvm.ClassFile.FieldType.int)).before args0 about1 = true := code_word (m := ⟨1, 1⟩) (meth := k1m1) (c := k1c1) (by decide +kernel) rfl rfl rfl (by decide +kernel)
set_option maxRecDepth 65536 in
theorem w_c2 : (Jvm.Cond.code ({ cls := "com/example/tidy_sitemap/tidysitemap/read/XmlCharacters", name := "standsAsIs", desc := "(IZ)Z" } : Jvm.MethodName) prog_53_method_7_code (3 : Nat) (Option.some Jvm.ClassFile.FieldType.boolean)).before args0 about1 = true := code_word (m := ⟨2, 1⟩) (meth := k2m1) (c := k2c1) (by decide +kernel) rfl rfl rfl (by decide +kernel)
set_option maxRecDepth 65536 in
theorem w_c3 : (Jvm.Cond.code ({ cls := "com/example/tidy_sitemap/tidysitemap/read/XmlCharactersStandsAsIsPinLaw", name := "reference", desc := "(IZ)Z" } : Jvm.MethodName) method_3_code (4 : Nat) (Option.some Jvm.ClassFile.FieldType.boolean)).before args0 about1 = true := code_word (m := ⟨1, 2⟩) (meth := k1m2) (c := k1c2) (by decide +kernel) rfl rfl rfl (by decide +kernel)
def codes1 : List Jvm.Cond := [Jvm.Cond.code x code maxLocals ret, Jvm.Cond.code ({ cls := "com/example/tidy_sitemap/tidysitemap/read/XmlCharactersStandsAsIsPinLaw", name := "draw", desc := "(II)I" } : Jvm.MethodName) method_2_code (3 : Nat) (Option.some Jvm.ClassFile.FieldType.int), Jvm.Cond.code ({ cls := "com/example/tidy_sitemap/tidysitemap/read/XmlCharacters", name := "standsAsIs", desc := "(IZ)Z" } : Jvm.MethodName) prog_53_method_7_code (3 : Nat) (Option.some Jvm.ClassFile.FieldType.boolean), Jvm.Cond.code ({ cls := "com/example/tidy_sitemap/tidysitemap/read/XmlCharactersStandsAsIsPinLaw", name := "reference", desc := "(IZ)Z" } : Jvm.MethodName) method_3_code (4 : Nat) (Option.some Jvm.ClassFile.FieldType.boolean)]
set_option maxRecDepth 65536 in
theorem codes_eq : words1.filter isCode = codes1 := rfl
theorem w_codes : ∀ c ∈ words1.filter isCode, c.before args0 about1 = true := by
  rw [codes_eq]
  intro c hc
  simp only [codes1, List.mem_cons, List.not_mem_nil, or_false] at hc
  rcases hc with rfl | rfl | rfl | rfl
  · exact w_c0
  · exact w_c1
  · exact w_c2
  · exact w_c3
set_option maxRecDepth 65536 in
theorem w_t1 : (words1.take 24).all (fun c => isCode c || c.before args0 about1) = true := by decide +kernel
set_option maxRecDepth 65536 in
theorem w_t2 : (words1.drop 24).all (fun c => isCode c || c.before args0 about1) = true := by decide +kernel
theorem w_tables : (allAtoms (Jvm.Cond.code x code maxLocals ret :: tables_1)).before args0 about1 = true := by
  rw [allAtoms_all]
  show words1.all (fun c => c.before args0 about1) = true
  refine all_split ?_ w_codes
  rw [← List.take_append_drop 24 words1, List.all_append, w_t1, w_t2]
  rfl
set_option maxRecDepth 65536 in
theorem w_case : (Jvm.Cond.and given_1 narrow_1).before args0 about1 = true := by decide +kernel
theorem w_applies : (headSpec (Jvm.Cond.code x code maxLocals ret :: tables_1) room_1).applies x e0.platform about1 = true :=
  (Spec.applies_iff w_frames).mpr ⟨w_running, w_runnable, w_alone, w_named, w_hears, w_ripe, w_room, w_tables⟩
theorem atStart : AtStart classFile x code maxLocals ret World_1 tables_1 room_1 Calls_1 rest_1 Pre_1 launch0 p0 e0 about1 theMethod args0 below0 :=
  ⟨lists_1, trivial, launch0.admits_env _ _ _, launch0.least_env, fairChoices_fair.cas, fairChoices_fair.clock, w_frames, w_args, w_heap, w_applies, trivial, trivial, w_case⟩
end start1
theorem witness_1 : WitnessClaimed_1 := ⟨start1.p0, start1.e0, start1.about1, start1.theMethod, start1.args0, start1.below0, start1.atStart⟩
end Jvm.Pilot.@@N@@
