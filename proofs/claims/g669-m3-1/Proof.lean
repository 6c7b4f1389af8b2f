import JvmDerived
import JvmDerived.Pilot.@@N@@Statement
import JvmDerived.Pilot.@@N@@Code
set_option linter.unusedVariables false
set_option linter.unusedSimpArgs false
namespace Jvm.RoadKit
open Sem ClassFile Op Lib Jvm.Stand Jvm.Free Jvm.LawKit
section New
variable {p : Program} {l : Launch} {e : Env} {R : Room} {s : State} {m : MethodId} {args : Array Value} {below : List Frame} {meth : Method} {c : Code} {T : State} {locs : List Loc} {cells slots : Nat}
theorem retI (X : Stand p l e R s m args below meth c T locs cells slots) (hx : p.tables.exec = Jvm.exec) {pc : Nat} {Ls : Array Slot} {z : Int32} {rest : List Value} (hret : meth.sig.returnType = some .int) (hd : decode c.code pc = .ok (.ireturn, 1)) {fs : List Frame}
    (hl : ∀ (f : JFrame) (acts : List Action), f.method = m → f.locked = none → f.entered = [] → (doReturn e (T.setTop f) acts (some (.int z))).1 = T.setFrames fs) : Steps p.tables e below (T.setTop (mkF m pc Ls (.int z :: rest))) (T.setFrames fs) := by
  have hm' : T.vm.method? m = some meth := X.method'
  have hn : narrow .int (.int z) = .int z := rfl
  show Steps p.tables e below (T.setTop { method := m, pc := pc, locals := Ls, stack := _ :: rest, locked := none }) _
  jvm_step X.here [X.here.top, hx, hd, hm', hret, hn]
  first | (intro acts; rw [hl _ acts rfl rfl rfl]) | rw [hl _ _ rfl rfl rfl]
  exact Steps.refl _
end New
end Jvm.RoadKit
namespace Jvm.Pilot.@@N@@
open Jvm Jvm.ClassFile Sem Op Lib Jvm.Free Jvm.Stand Jvm.LawKit Jvm.RoadKit Bundle Jvm.Pilot.@@N@@.Jvm.D
/-- from this frame the run comes to its end, and Q is said of what it leaves -/
def own_Dn (p : Program) (e : Env) (below : List Frame) (s : State) (Q : Option Value → Heap → List Loc → Prop) (k n : Nat) (T : State) (g : JFrame) : Prop :=
  ∃ s₂ o, Steps p.tables e below (T.setTop g) s₂ ∧ s₂.status = .running ∧ Ended s₂ below o ∧ ∃ v L, o = .returned v ∧ Q v s₂.heap L ∧ FrameEnd s o s₂ L k n
theorem own_go {p : Program} {e : Env} {below : List Frame} {s : State} {Q : Option Value → Heap → List Loc → Prop} {k n : Nat} {T T' : State} {g g' : JFrame}
    (h : ∀ t, Steps p.tables e below (T'.setTop g') t → Steps p.tables e below (T.setTop g) t) (d : own_Dn p e below s Q k n T' g') : own_Dn p e below s Q k n T g := by
  obtain ⟨s₂, o, h1, h2⟩ := d
  exact ⟨s₂, o, h _ h1, h2⟩
theorem own_as {p : Program} {e : Env} {below : List Frame} {s : State} {Q : Option Value → Heap → List Loc → Prop} {k n : Nat} {T : State} {g g' : JFrame}
    (h : g = g') (d : own_Dn p e below s Q k n T g') : own_Dn p e below s Q k n T g := h ▸ d
theorem own_ret {p : Program} {l : Launch} {e : Env} {R : Room} {s : State} {m : MethodId} {args : Array Value} {below : List Frame} {meth : Method} {c : Code} {T : State} {locs : List Loc} {cells slots : Nat}
    {Q : Option Value → Heap → List Loc → Prop} {k n : Nat} {g : JFrame} (X : Stand p l e R s m args below meth c T locs cells slots) (hlocks : meth.locks = false) (v : Option Value) (hv : meth.sig.returnType = none → v = none)
    (hr : ∀ fs : List Frame, (∀ (f : JFrame) (acts : List Action), f.method = m → f.locked = none → f.entered = [] → (doReturn e (T.setTop f) acts v).1 = T.setFrames fs) → Steps p.tables e below (T.setTop g) (T.setFrames fs))
    (hQ : Q v T.heap locs) (hk : cells ≤ k) (hn : slots ≤ n) : own_Dn p e below s Q k n T g := by
  obtain ⟨fs, h1, hrun, hended, hW, hsame⟩ := X.leave (v := v) hv hlocks
  exact ⟨_, _, hr fs h1, hrun, hended, _, _, rfl, hQ, ⟨_, rfl⟩, hW, hsame.mono hk hn⟩
theorem own_ln2147483648 : (-2147483648 : Int32).toInt = -2147483648 := by decide
theorem own_l0 : (0 : Int32).toInt = 0 := by decide
theorem own_l1 : (1 : Int32).toInt = 1 := by decide
theorem own_l2 : (2 : Int32).toInt = 2 := by decide
theorem own_l3 : (3 : Int32).toInt = 3 := by decide
theorem own_l4 : (4 : Int32).toInt = 4 := by decide
theorem own_l5 : (5 : Int32).toInt = 5 := by decide
theorem own_l6 : (6 : Int32).toInt = 6 := by decide
theorem own_l7 : (7 : Int32).toInt = 7 := by decide
theorem own_l8 : (8 : Int32).toInt = 8 := by decide
theorem own_l9 : (9 : Int32).toInt = 9 := by decide
theorem own_l10 : (10 : Int32).toInt = 10 := by decide
theorem own_l13 : (13 : Int32).toInt = 13 := by decide
theorem own_l15 : (15 : Int32).toInt = 15 := by decide
theorem own_l32 : (32 : Int32).toInt = 32 := by decide
theorem own_l55295 : (55295 : Int32).toInt = 55295 := by decide
theorem own_l55296 : (55296 : Int32).toInt = 55296 := by decide
theorem own_l57343 : (57343 : Int32).toInt = 57343 := by decide
theorem own_l57344 : (57344 : Int32).toInt = 57344 := by decide
theorem own_l65533 : (65533 : Int32).toInt = 65533 := by decide
theorem own_l65534 : (65534 : Int32).toInt = 65534 := by decide
theorem own_l65535 : (65535 : Int32).toInt = 65535 := by decide
theorem own_l65536 : (65536 : Int32).toInt = 65536 := by decide
theorem own_l1114111 : (1114111 : Int32).toInt = 1114111 := by decide
theorem own_l1114112 : (1114112 : Int32).toInt = 1114112 := by decide
theorem own_fitI {v : Value} (h : fits .int v = true) : ∃ x : Int32, v = .int x := by cases v <;> simp [fits] at h ⊢
theorem own_d1_0 : decode prog_53_method_6_code 0 = .ok (.iload_n 0, 1) := by decide +kernel
theorem own_d1_1 : decode prog_53_method_6_code 1 = .ok (.bipush 32, 2) := by decide +kernel
theorem own_d1_3 : decode prog_53_method_6_code 3 = .ok (.if_icmp .ge 25, 3) := by decide +kernel
theorem own_d1_6 : decode prog_53_method_6_code 6 = .ok (.iload_n 0, 1) := by decide +kernel
theorem own_d1_7 : decode prog_53_method_6_code 7 = .ok (.bipush 9, 2) := by decide +kernel
theorem own_d1_9 : decode prog_53_method_6_code 9 = .ok (.if_icmp .eq 19, 3) := by decide +kernel
theorem own_d1_12 : decode prog_53_method_6_code 12 = .ok (.iload_n 0, 1) := by decide +kernel
theorem own_d1_13 : decode prog_53_method_6_code 13 = .ok (.bipush 10, 2) := by decide +kernel
theorem own_d1_15 : decode prog_53_method_6_code 15 = .ok (.if_icmp .eq 13, 3) := by decide +kernel
theorem own_d1_18 : decode prog_53_method_6_code 18 = .ok (.iload_n 0, 1) := by decide +kernel
theorem own_d1_19 : decode prog_53_method_6_code 19 = .ok (.bipush 13, 2) := by decide +kernel
theorem own_d1_21 : decode prog_53_method_6_code 21 = .ok (.if_icmp .eq 7, 3) := by decide +kernel
theorem own_d1_24 : decode prog_53_method_6_code 24 = .ok (.iconst 1, 1) := by decide +kernel
theorem own_d1_25 : decode prog_53_method_6_code 25 = .ok (.goto 4, 3) := by decide +kernel
theorem own_d1_28 : decode prog_53_method_6_code 28 = .ok (.iconst 0, 1) := by decide +kernel
theorem own_d1_29 : decode prog_53_method_6_code 29 = .ok (.istore_n 2, 1) := by decide +kernel
theorem own_d1_30 : decode prog_53_method_6_code 30 = .ok (.iload_n 0, 1) := by decide +kernel
theorem own_d1_31 : decode prog_53_method_6_code 31 = .ok (.bipush 32, 2) := by decide +kernel
theorem own_d1_33 : decode prog_53_method_6_code 33 = .ok (.if_icmp .ge 18, 3) := by decide +kernel
theorem own_d1_36 : decode prog_53_method_6_code 36 = .ok (.iload_n 1, 1) := by decide +kernel
theorem own_d1_37 : decode prog_53_method_6_code 37 = .ok (.ifCond .eq 10, 3) := by decide +kernel
theorem own_d1_40 : decode prog_53_method_6_code 40 = .ok (.iload_n 0, 1) := by decide +kernel
theorem own_d1_41 : decode prog_53_method_6_code 41 = .ok (.ifCond .le 44, 3) := by decide +kernel
theorem own_d1_44 : decode prog_53_method_6_code 44 = .ok (.goto 7, 3) := by decide +kernel
theorem own_d1_47 : decode prog_53_method_6_code 47 = .ok (.iload_n 2, 1) := by decide +kernel
theorem own_d1_48 : decode prog_53_method_6_code 48 = .ok (.ifCond .ne 37, 3) := by decide +kernel
theorem own_d1_51 : decode prog_53_method_6_code 51 = .ok (.iload_n 0, 1) := by decide +kernel
theorem own_d1_52 : decode prog_53_method_6_code 52 = .ok (.ldc 24, 2) := by decide +kernel
theorem own_d1_54 : decode prog_53_method_6_code 54 = .ok (.if_icmp .lt 9, 3) := by decide +kernel
theorem own_d1_57 : decode prog_53_method_6_code 57 = .ok (.iload_n 0, 1) := by decide +kernel
theorem own_d1_58 : decode prog_53_method_6_code 58 = .ok (.ldc 25, 2) := by decide +kernel
theorem own_d1_60 : decode prog_53_method_6_code 60 = .ok (.if_icmp .le 25, 3) := by decide +kernel
theorem own_d1_63 : decode prog_53_method_6_code 63 = .ok (.iload_n 0, 1) := by decide +kernel
theorem own_d1_64 : decode prog_53_method_6_code 64 = .ok (.ldc 26, 2) := by decide +kernel
theorem own_d1_66 : decode prog_53_method_6_code 66 = .ok (.if_icmp .eq 19, 3) := by decide +kernel
theorem own_d1_69 : decode prog_53_method_6_code 69 = .ok (.iload_n 0, 1) := by decide +kernel
theorem own_d1_70 : decode prog_53_method_6_code 70 = .ok (.ldc 27, 2) := by decide +kernel
theorem own_d1_72 : decode prog_53_method_6_code 72 = .ok (.if_icmp .eq 13, 3) := by decide +kernel
theorem own_d1_75 : decode prog_53_method_6_code 75 = .ok (.iload_n 0, 1) := by decide +kernel
theorem own_d1_76 : decode prog_53_method_6_code 76 = .ok (.ldc 30, 2) := by decide +kernel
theorem own_d1_78 : decode prog_53_method_6_code 78 = .ok (.if_icmp .gt 7, 3) := by decide +kernel
theorem own_d1_81 : decode prog_53_method_6_code 81 = .ok (.iconst 1, 1) := by decide +kernel
theorem own_d1_82 : decode prog_53_method_6_code 82 = .ok (.goto 4, 3) := by decide +kernel
theorem own_d1_85 : decode prog_53_method_6_code 85 = .ok (.iconst 0, 1) := by decide +kernel
theorem own_d1_86 : decode prog_53_method_6_code 86 = .ok (.ireturn, 1) := by decide +kernel
theorem own_pn1 : plainName "com/example/tidy_sitemap/tidysitemap/read/XmlCharacters" = true := by first | (simp [plainName, overriddenIn]; done) | decide +kernel
theorem own_ef1 (m : MethodId) (u : Int32) (t : Int32) : entryFrame m #[(.int u), (.int t)] 3 = mkF m 0 #[.val (.int u), .val (.int t), .unset] [] := by first | (simp [entryFrame, mkF, argsToLocals, Value.category]; done) | rfl
def own_Q1 (Z : State) (u : Int32) (t : Int32) (h0 : Heap) (n0 : Nat) (v : Option Value) (h : Heap) (L : List Loc) : Prop := v = some (.int (if ((t.toInt ≠ 0 ∧ 1 ≤ u.toInt ∧ u.toInt ≤ 55295) ∨ (t.toInt = 0 ∧ (u.toInt = 9 ∨ u.toInt = 10 ∨ u.toInt = 13 ∨ (32 ≤ u.toInt ∧ u.toInt ≤ 55295)))) ∨ (57344 ≤ u.toInt ∧ u.toInt ≤ 65533) ∨ (65536 ≤ u.toInt ∧ u.toInt ≤ 1114111) then 1 else 0)) ∧ Fr n0 L ∧ h = h0
set_option maxRecDepth 65536 in
set_option maxHeartbeats 40000000 in
theorem own_rm1 (l : Launch) (Z : State) (a0 : Array Value) (hw : ∀ d ∈ tables_1, d.before a0 Z = true) (ws : List Jvm.Cond) (u : Int32) (t : Int32) (h0 : Heap) (n0 : Nat) (Zs : n0 ≤ h0.size)  :
    MetFree l (⟨"com/example/tidy_sitemap/tidysitemap/read/XmlCharacters", "isCharacter", "(IZ)Z"⟩ : MethodName) (head1 (Jvm.Cond.code (⟨"com/example/tidy_sitemap/tidysitemap/read/XmlCharacters", "isCharacter", "(IZ)Z"⟩ : MethodName) prog_53_method_6_code 3 (some .boolean) :: ws) ({ frames := 0, cells := 0, slots := 0, locals := 0 } : Room)) (fun aA_ U => aA_ = #[(.int u), (.int t)] ∧ Z.Warmed39 U.vm ∧ U.heap = h0) (fun _ _ _ _ _ => True) (fun _ U o U' => ∃ v L, o = .returned v ∧ own_Q1 Z u t h0 n0 v U'.heap L ∧ FrameEnd U o U' L ({ frames := 0, cells := 0, slots := 0, locals := 0 } : Room).cells ({ frames := 0, cells := 0, slots := 0, locals := 0 } : Room).slots) := by
  refine MetFree.of_bodySF (plainFor_of_name own_pn1) hisR ?_
  intro p e s m args below meth c s₁ Bd hml0 hP hK
  obtain ⟨rfl, hZ, hh⟩ := hP
  have hx := Bd.exec
  have hby := Bd.bytes
  have hml : c.maxLocals = 3 := hml0
  have hown : s.vm.findClass "com/example/tidy_sitemap/tidysitemap/read/XmlCharacters" = some m.cls := findClass_of_methodNamed Bd.named
  have hnm := (name_of_methodNamed Bd.named Bd.method).1
  have X0 : Stand p l e ({ frames := 0, cells := 0, slots := 0, locals := 0 } : Room) s m #[(.int u), (.int t)] below meth c s₁ [] 0 0 := Stand.of_body Bd
  have e0 : s₁.heap = h0 := by rw [← hh, Bd.state]; rfl
  have NF := Fr.nil n0
  rw [own_ef1 m u t]
  show own_Dn p e below s (own_Q1 Z u t h0 n0) 0 0 s₁ (mkF m 0 #[.val (.int u), .val (.int t), .unset] [])
  have J3 : ∀ (z1 : Int32), ((z1.toInt = 1 ∧ (u.toInt < 32 ∧ u.toInt ≠ 9 ∧ u.toInt ≠ 10 ∧ u.toInt ≠ 13)) ∨ (z1.toInt = 0 ∧ ¬ (u.toInt < 32 ∧ u.toInt ≠ 9 ∧ u.toInt ≠ 10 ∧ u.toInt ≠ 13))) → own_Dn p e below s (own_Q1 Z u t h0 n0) 0 0 s₁ (mkF m 30 #[.val (.int u), .val (.int t), .val (.int z1)] []) := by
    intro z1 hz2
    have J5 : ((u.toInt < 32 → (t.toInt ≠ 0 ∧ 0 < u.toInt) ∨ (t.toInt = 0 ∧ (u.toInt = 9 ∨ u.toInt = 10 ∨ u.toInt = 13)))) → own_Dn p e below s (own_Q1 Z u t h0 n0) 0 0 s₁ (mkF m 51 #[.val (.int u), .val (.int t), .val (.int z1)] []) := by
      intro  hz4
      refine own_go (T' := s₁) (g' := (mkF m 52 #[.val (.int u), .val (.int t), .val (.int z1)] [(.int u)])) (fun _ k => XS.iloadN X0.here hx rfl (hb hby own_d1_51) rfl k) ?_
      refine own_go (T' := s₁) (g' := (mkF m 54 #[.val (.int u), .val (.int t), .val (.int z1)] [(.int (55296 : Int32)), (.int u)])) (fun _ k => X0.ldcInt hx hown (mvT hZ (hw _ (List.mem_of_getElem? (i := 15) rfl))) (g := (mkF m 52 #[.val (.int u), .val (.int t), .val (.int z1)] [(.int u)])) rfl (hb hby own_d1_52) _ k) ?_
      by_cases c6 : u < (55296 : Int32)
      · refine own_go (T' := s₁) (g' := (mkF m 63 #[.val (.int u), .val (.int t), .val (.int z1)] [])) (fun _ k => XS.icmpYes X0.here hx rfl (pc0 := 54) (pc' := 63) rfl (hb hby own_d1_54) rfl (tlt c6).1 (by decide) (by decide) k) ?_
        refine own_go (T' := s₁) (g' := (mkF m 64 #[.val (.int u), .val (.int t), .val (.int z1)] [(.int u)])) (fun _ k => XS.iloadN X0.here hx rfl (hb hby own_d1_63) rfl k) ?_
        refine own_go (T' := s₁) (g' := (mkF m 66 #[.val (.int u), .val (.int t), .val (.int z1)] [(.int (65534 : Int32)), (.int u)])) (fun _ k => X0.ldcInt hx hown (mvT hZ (hw _ (List.mem_of_getElem? (i := 16) rfl))) (g := (mkF m 64 #[.val (.int u), .val (.int t), .val (.int z1)] [(.int u)])) rfl (hb hby own_d1_64) _ k) ?_
        by_cases c7 : u = (65534 : Int32)
        · refine own_go (T' := s₁) (g' := (mkF m 85 #[.val (.int u), .val (.int t), .val (.int z1)] [])) (fun _ k => XS.icmpYes X0.here hx rfl (pc0 := 66) (pc' := 85) rfl (hb hby own_d1_66) rfl (teq c7).1 (by decide) (by decide) k) ?_
          refine own_go (T' := s₁) (g' := (mkF m 86 #[.val (.int u), .val (.int t), .val (.int z1)] [(.int (0 : Int32))])) (fun _ k => XS.iconst X0.here hx rfl (hb hby own_d1_85) k) ?_
          refine own_ret X0 Bd.notSynchronized (some (.int (0 : Int32))) (fun h => by rw [Bd.returns] at h; cases h) (fun fs hr => retN X0 hx (t := .boolean) Bd.returns (by simp) (hb hby own_d1_86) hr) ?_ (by decide) (by decide)
          show (own_Q1 Z u t h0 n0) (some (.int (0 : Int32))) s₁.heap _
          rw [e0]
          exact ⟨by rw [if_neg (by (try simp only [own_ln2147483648, own_l0, own_l1, own_l2, own_l3, own_l4, own_l5, own_l6, own_l7, own_l8, own_l9, own_l10, own_l13, own_l15, own_l32, own_l55295, own_l55296, own_l57343, own_l57344, own_l65533, own_l65534, own_l65535, own_l65536, own_l1114111, own_l1114112, Int32.lt_iff_toInt_lt, ← Int32.toInt_inj, Int64.lt_iff_toInt_lt, ← Int64.toInt_inj, and_true, true_and, and_false, false_and, or_true, true_or, or_false, false_or, not_true_eq_false, not_false_eq_true, ne_eq, true_implies, false_implies, implies_true] at hz2 hz4 c6 c7 ⊢) <;> omega)], NF, rfl⟩
        · refine own_go (T' := s₁) (g' := (mkF m 69 #[.val (.int u), .val (.int t), .val (.int z1)] [])) (fun _ k => XS.icmpNo X0.here hx rfl (hb hby own_d1_66) rfl (feq c7).1 k) ?_
          refine own_go (T' := s₁) (g' := (mkF m 70 #[.val (.int u), .val (.int t), .val (.int z1)] [(.int u)])) (fun _ k => XS.iloadN X0.here hx rfl (hb hby own_d1_69) rfl k) ?_
          refine own_go (T' := s₁) (g' := (mkF m 72 #[.val (.int u), .val (.int t), .val (.int z1)] [(.int (65535 : Int32)), (.int u)])) (fun _ k => X0.ldcInt hx hown (mvT hZ (hw _ (List.mem_of_getElem? (i := 17) rfl))) (g := (mkF m 70 #[.val (.int u), .val (.int t), .val (.int z1)] [(.int u)])) rfl (hb hby own_d1_70) _ k) ?_
          by_cases c8 : u = (65535 : Int32)
          · refine own_go (T' := s₁) (g' := (mkF m 85 #[.val (.int u), .val (.int t), .val (.int z1)] [])) (fun _ k => XS.icmpYes X0.here hx rfl (pc0 := 72) (pc' := 85) rfl (hb hby own_d1_72) rfl (teq c8).1 (by decide) (by decide) k) ?_
            refine own_go (T' := s₁) (g' := (mkF m 86 #[.val (.int u), .val (.int t), .val (.int z1)] [(.int (0 : Int32))])) (fun _ k => XS.iconst X0.here hx rfl (hb hby own_d1_85) k) ?_
            refine own_ret X0 Bd.notSynchronized (some (.int (0 : Int32))) (fun h => by rw [Bd.returns] at h; cases h) (fun fs hr => retN X0 hx (t := .boolean) Bd.returns (by simp) (hb hby own_d1_86) hr) ?_ (by decide) (by decide)
            show (own_Q1 Z u t h0 n0) (some (.int (0 : Int32))) s₁.heap _
            rw [e0]
            exact ⟨by rw [if_neg (by (try simp only [own_ln2147483648, own_l0, own_l1, own_l2, own_l3, own_l4, own_l5, own_l6, own_l7, own_l8, own_l9, own_l10, own_l13, own_l15, own_l32, own_l55295, own_l55296, own_l57343, own_l57344, own_l65533, own_l65534, own_l65535, own_l65536, own_l1114111, own_l1114112, Int32.lt_iff_toInt_lt, ← Int32.toInt_inj, Int64.lt_iff_toInt_lt, ← Int64.toInt_inj, and_true, true_and, and_false, false_and, or_true, true_or, or_false, false_or, not_true_eq_false, not_false_eq_true, ne_eq, true_implies, false_implies, implies_true] at hz2 hz4 c6 c7 c8 ⊢) <;> omega)], NF, rfl⟩
          · refine own_go (T' := s₁) (g' := (mkF m 75 #[.val (.int u), .val (.int t), .val (.int z1)] [])) (fun _ k => XS.icmpNo X0.here hx rfl (hb hby own_d1_72) rfl (feq c8).1 k) ?_
            refine own_go (T' := s₁) (g' := (mkF m 76 #[.val (.int u), .val (.int t), .val (.int z1)] [(.int u)])) (fun _ k => XS.iloadN X0.here hx rfl (hb hby own_d1_75) rfl k) ?_
            refine own_go (T' := s₁) (g' := (mkF m 78 #[.val (.int u), .val (.int t), .val (.int z1)] [(.int (1114111 : Int32)), (.int u)])) (fun _ k => X0.ldcInt hx hown (mvT hZ (hw _ (List.mem_of_getElem? (i := 18) rfl))) (g := (mkF m 76 #[.val (.int u), .val (.int t), .val (.int z1)] [(.int u)])) rfl (hb hby own_d1_76) _ k) ?_
            by_cases c9 : (1114111 : Int32) < u
            · refine own_go (T' := s₁) (g' := (mkF m 85 #[.val (.int u), .val (.int t), .val (.int z1)] [])) (fun _ k => XS.icmpYes X0.here hx rfl (pc0 := 78) (pc' := 85) rfl (hb hby own_d1_78) rfl (tlt c9).2.2.1 (by decide) (by decide) k) ?_
              refine own_go (T' := s₁) (g' := (mkF m 86 #[.val (.int u), .val (.int t), .val (.int z1)] [(.int (0 : Int32))])) (fun _ k => XS.iconst X0.here hx rfl (hb hby own_d1_85) k) ?_
              refine own_ret X0 Bd.notSynchronized (some (.int (0 : Int32))) (fun h => by rw [Bd.returns] at h; cases h) (fun fs hr => retN X0 hx (t := .boolean) Bd.returns (by simp) (hb hby own_d1_86) hr) ?_ (by decide) (by decide)
              show (own_Q1 Z u t h0 n0) (some (.int (0 : Int32))) s₁.heap _
              rw [e0]
              exact ⟨by rw [if_neg (by (try simp only [own_ln2147483648, own_l0, own_l1, own_l2, own_l3, own_l4, own_l5, own_l6, own_l7, own_l8, own_l9, own_l10, own_l13, own_l15, own_l32, own_l55295, own_l55296, own_l57343, own_l57344, own_l65533, own_l65534, own_l65535, own_l65536, own_l1114111, own_l1114112, Int32.lt_iff_toInt_lt, ← Int32.toInt_inj, Int64.lt_iff_toInt_lt, ← Int64.toInt_inj, and_true, true_and, and_false, false_and, or_true, true_or, or_false, false_or, not_true_eq_false, not_false_eq_true, ne_eq, true_implies, false_implies, implies_true] at hz2 hz4 c6 c7 c8 c9 ⊢) <;> omega)], NF, rfl⟩
            · refine own_go (T' := s₁) (g' := (mkF m 81 #[.val (.int u), .val (.int t), .val (.int z1)] [])) (fun _ k => XS.icmpNo X0.here hx rfl (hb hby own_d1_78) rfl (flt c9).2.2.1 k) ?_
              refine own_go (T' := s₁) (g' := (mkF m 82 #[.val (.int u), .val (.int t), .val (.int z1)] [(.int (1 : Int32))])) (fun _ k => XS.iconst X0.here hx rfl (hb hby own_d1_81) k) ?_
              refine own_go (T' := s₁) (g' := (mkF m 86 #[.val (.int u), .val (.int t), .val (.int z1)] [(.int (1 : Int32))])) (fun _ k => XS.goto X0.here hx rfl (pc0 := 82) (pc' := 86) rfl (hb hby own_d1_82) (by decide) (by decide) k) ?_
              refine own_ret X0 Bd.notSynchronized (some (.int (1 : Int32))) (fun h => by rw [Bd.returns] at h; cases h) (fun fs hr => retN X0 hx (t := .boolean) Bd.returns (by simp) (hb hby own_d1_86) hr) ?_ (by decide) (by decide)
              show (own_Q1 Z u t h0 n0) (some (.int (1 : Int32))) s₁.heap _
              rw [e0]
              exact ⟨by rw [if_pos (by (try simp only [own_ln2147483648, own_l0, own_l1, own_l2, own_l3, own_l4, own_l5, own_l6, own_l7, own_l8, own_l9, own_l10, own_l13, own_l15, own_l32, own_l55295, own_l55296, own_l57343, own_l57344, own_l65533, own_l65534, own_l65535, own_l65536, own_l1114111, own_l1114112, Int32.lt_iff_toInt_lt, ← Int32.toInt_inj, Int64.lt_iff_toInt_lt, ← Int64.toInt_inj, and_true, true_and, and_false, false_and, or_true, true_or, or_false, false_or, not_true_eq_false, not_false_eq_true, ne_eq, true_implies, false_implies, implies_true] at hz2 hz4 c6 c7 c8 c9 ⊢) <;> omega)], NF, rfl⟩
      · refine own_go (T' := s₁) (g' := (mkF m 57 #[.val (.int u), .val (.int t), .val (.int z1)] [])) (fun _ k => XS.icmpNo X0.here hx rfl (hb hby own_d1_54) rfl (flt c6).1 k) ?_
        refine own_go (T' := s₁) (g' := (mkF m 58 #[.val (.int u), .val (.int t), .val (.int z1)] [(.int u)])) (fun _ k => XS.iloadN X0.here hx rfl (hb hby own_d1_57) rfl k) ?_
        refine own_go (T' := s₁) (g' := (mkF m 60 #[.val (.int u), .val (.int t), .val (.int z1)] [(.int (57343 : Int32)), (.int u)])) (fun _ k => X0.ldcInt hx hown (mvT hZ (hw _ (List.mem_of_getElem? (i := 20) rfl))) (g := (mkF m 58 #[.val (.int u), .val (.int t), .val (.int z1)] [(.int u)])) rfl (hb hby own_d1_58) _ k) ?_
        by_cases c10 : (57343 : Int32) < u
        · refine own_go (T' := s₁) (g' := (mkF m 63 #[.val (.int u), .val (.int t), .val (.int z1)] [])) (fun _ k => XS.icmpNo X0.here hx rfl (hb hby own_d1_60) rfl (tlt c10).2.2.2 k) ?_
          refine own_go (T' := s₁) (g' := (mkF m 64 #[.val (.int u), .val (.int t), .val (.int z1)] [(.int u)])) (fun _ k => XS.iloadN X0.here hx rfl (hb hby own_d1_63) rfl k) ?_
          refine own_go (T' := s₁) (g' := (mkF m 66 #[.val (.int u), .val (.int t), .val (.int z1)] [(.int (65534 : Int32)), (.int u)])) (fun _ k => X0.ldcInt hx hown (mvT hZ (hw _ (List.mem_of_getElem? (i := 16) rfl))) (g := (mkF m 64 #[.val (.int u), .val (.int t), .val (.int z1)] [(.int u)])) rfl (hb hby own_d1_64) _ k) ?_
          by_cases c11 : u = (65534 : Int32)
          · refine own_go (T' := s₁) (g' := (mkF m 85 #[.val (.int u), .val (.int t), .val (.int z1)] [])) (fun _ k => XS.icmpYes X0.here hx rfl (pc0 := 66) (pc' := 85) rfl (hb hby own_d1_66) rfl (teq c11).1 (by decide) (by decide) k) ?_
            refine own_go (T' := s₁) (g' := (mkF m 86 #[.val (.int u), .val (.int t), .val (.int z1)] [(.int (0 : Int32))])) (fun _ k => XS.iconst X0.here hx rfl (hb hby own_d1_85) k) ?_
            refine own_ret X0 Bd.notSynchronized (some (.int (0 : Int32))) (fun h => by rw [Bd.returns] at h; cases h) (fun fs hr => retN X0 hx (t := .boolean) Bd.returns (by simp) (hb hby own_d1_86) hr) ?_ (by decide) (by decide)
            show (own_Q1 Z u t h0 n0) (some (.int (0 : Int32))) s₁.heap _
            rw [e0]
            exact ⟨by rw [if_neg (by (try simp only [own_ln2147483648, own_l0, own_l1, own_l2, own_l3, own_l4, own_l5, own_l6, own_l7, own_l8, own_l9, own_l10, own_l13, own_l15, own_l32, own_l55295, own_l55296, own_l57343, own_l57344, own_l65533, own_l65534, own_l65535, own_l65536, own_l1114111, own_l1114112, Int32.lt_iff_toInt_lt, ← Int32.toInt_inj, Int64.lt_iff_toInt_lt, ← Int64.toInt_inj, and_true, true_and, and_false, false_and, or_true, true_or, or_false, false_or, not_true_eq_false, not_false_eq_true, ne_eq, true_implies, false_implies, implies_true] at hz2 hz4 c6 c10 c11 ⊢) <;> omega)], NF, rfl⟩
          · refine own_go (T' := s₁) (g' := (mkF m 69 #[.val (.int u), .val (.int t), .val (.int z1)] [])) (fun _ k => XS.icmpNo X0.here hx rfl (hb hby own_d1_66) rfl (feq c11).1 k) ?_
            refine own_go (T' := s₁) (g' := (mkF m 70 #[.val (.int u), .val (.int t), .val (.int z1)] [(.int u)])) (fun _ k => XS.iloadN X0.here hx rfl (hb hby own_d1_69) rfl k) ?_
            refine own_go (T' := s₁) (g' := (mkF m 72 #[.val (.int u), .val (.int t), .val (.int z1)] [(.int (65535 : Int32)), (.int u)])) (fun _ k => X0.ldcInt hx hown (mvT hZ (hw _ (List.mem_of_getElem? (i := 17) rfl))) (g := (mkF m 70 #[.val (.int u), .val (.int t), .val (.int z1)] [(.int u)])) rfl (hb hby own_d1_70) _ k) ?_
            by_cases c12 : u = (65535 : Int32)
            · refine own_go (T' := s₁) (g' := (mkF m 85 #[.val (.int u), .val (.int t), .val (.int z1)] [])) (fun _ k => XS.icmpYes X0.here hx rfl (pc0 := 72) (pc' := 85) rfl (hb hby own_d1_72) rfl (teq c12).1 (by decide) (by decide) k) ?_
              refine own_go (T' := s₁) (g' := (mkF m 86 #[.val (.int u), .val (.int t), .val (.int z1)] [(.int (0 : Int32))])) (fun _ k => XS.iconst X0.here hx rfl (hb hby own_d1_85) k) ?_
              refine own_ret X0 Bd.notSynchronized (some (.int (0 : Int32))) (fun h => by rw [Bd.returns] at h; cases h) (fun fs hr => retN X0 hx (t := .boolean) Bd.returns (by simp) (hb hby own_d1_86) hr) ?_ (by decide) (by decide)
              show (own_Q1 Z u t h0 n0) (some (.int (0 : Int32))) s₁.heap _
              rw [e0]
              exact ⟨by rw [if_neg (by (try simp only [own_ln2147483648, own_l0, own_l1, own_l2, own_l3, own_l4, own_l5, own_l6, own_l7, own_l8, own_l9, own_l10, own_l13, own_l15, own_l32, own_l55295, own_l55296, own_l57343, own_l57344, own_l65533, own_l65534, own_l65535, own_l65536, own_l1114111, own_l1114112, Int32.lt_iff_toInt_lt, ← Int32.toInt_inj, Int64.lt_iff_toInt_lt, ← Int64.toInt_inj, and_true, true_and, and_false, false_and, or_true, true_or, or_false, false_or, not_true_eq_false, not_false_eq_true, ne_eq, true_implies, false_implies, implies_true] at hz2 hz4 c6 c10 c11 c12 ⊢) <;> omega)], NF, rfl⟩
            · refine own_go (T' := s₁) (g' := (mkF m 75 #[.val (.int u), .val (.int t), .val (.int z1)] [])) (fun _ k => XS.icmpNo X0.here hx rfl (hb hby own_d1_72) rfl (feq c12).1 k) ?_
              refine own_go (T' := s₁) (g' := (mkF m 76 #[.val (.int u), .val (.int t), .val (.int z1)] [(.int u)])) (fun _ k => XS.iloadN X0.here hx rfl (hb hby own_d1_75) rfl k) ?_
              refine own_go (T' := s₁) (g' := (mkF m 78 #[.val (.int u), .val (.int t), .val (.int z1)] [(.int (1114111 : Int32)), (.int u)])) (fun _ k => X0.ldcInt hx hown (mvT hZ (hw _ (List.mem_of_getElem? (i := 18) rfl))) (g := (mkF m 76 #[.val (.int u), .val (.int t), .val (.int z1)] [(.int u)])) rfl (hb hby own_d1_76) _ k) ?_
              by_cases c13 : (1114111 : Int32) < u
              · refine own_go (T' := s₁) (g' := (mkF m 85 #[.val (.int u), .val (.int t), .val (.int z1)] [])) (fun _ k => XS.icmpYes X0.here hx rfl (pc0 := 78) (pc' := 85) rfl (hb hby own_d1_78) rfl (tlt c13).2.2.1 (by decide) (by decide) k) ?_
                refine own_go (T' := s₁) (g' := (mkF m 86 #[.val (.int u), .val (.int t), .val (.int z1)] [(.int (0 : Int32))])) (fun _ k => XS.iconst X0.here hx rfl (hb hby own_d1_85) k) ?_
                refine own_ret X0 Bd.notSynchronized (some (.int (0 : Int32))) (fun h => by rw [Bd.returns] at h; cases h) (fun fs hr => retN X0 hx (t := .boolean) Bd.returns (by simp) (hb hby own_d1_86) hr) ?_ (by decide) (by decide)
                show (own_Q1 Z u t h0 n0) (some (.int (0 : Int32))) s₁.heap _
                rw [e0]
                exact ⟨by rw [if_neg (by (try simp only [own_ln2147483648, own_l0, own_l1, own_l2, own_l3, own_l4, own_l5, own_l6, own_l7, own_l8, own_l9, own_l10, own_l13, own_l15, own_l32, own_l55295, own_l55296, own_l57343, own_l57344, own_l65533, own_l65534, own_l65535, own_l65536, own_l1114111, own_l1114112, Int32.lt_iff_toInt_lt, ← Int32.toInt_inj, Int64.lt_iff_toInt_lt, ← Int64.toInt_inj, and_true, true_and, and_false, false_and, or_true, true_or, or_false, false_or, not_true_eq_false, not_false_eq_true, ne_eq, true_implies, false_implies, implies_true] at hz2 hz4 c6 c10 c11 c12 c13 ⊢) <;> omega)], NF, rfl⟩
              · refine own_go (T' := s₁) (g' := (mkF m 81 #[.val (.int u), .val (.int t), .val (.int z1)] [])) (fun _ k => XS.icmpNo X0.here hx rfl (hb hby own_d1_78) rfl (flt c13).2.2.1 k) ?_
                refine own_go (T' := s₁) (g' := (mkF m 82 #[.val (.int u), .val (.int t), .val (.int z1)] [(.int (1 : Int32))])) (fun _ k => XS.iconst X0.here hx rfl (hb hby own_d1_81) k) ?_
                refine own_go (T' := s₁) (g' := (mkF m 86 #[.val (.int u), .val (.int t), .val (.int z1)] [(.int (1 : Int32))])) (fun _ k => XS.goto X0.here hx rfl (pc0 := 82) (pc' := 86) rfl (hb hby own_d1_82) (by decide) (by decide) k) ?_
                refine own_ret X0 Bd.notSynchronized (some (.int (1 : Int32))) (fun h => by rw [Bd.returns] at h; cases h) (fun fs hr => retN X0 hx (t := .boolean) Bd.returns (by simp) (hb hby own_d1_86) hr) ?_ (by decide) (by decide)
                show (own_Q1 Z u t h0 n0) (some (.int (1 : Int32))) s₁.heap _
                rw [e0]
                exact ⟨by rw [if_pos (by (try simp only [own_ln2147483648, own_l0, own_l1, own_l2, own_l3, own_l4, own_l5, own_l6, own_l7, own_l8, own_l9, own_l10, own_l13, own_l15, own_l32, own_l55295, own_l55296, own_l57343, own_l57344, own_l65533, own_l65534, own_l65535, own_l65536, own_l1114111, own_l1114112, Int32.lt_iff_toInt_lt, ← Int32.toInt_inj, Int64.lt_iff_toInt_lt, ← Int64.toInt_inj, and_true, true_and, and_false, false_and, or_true, true_or, or_false, false_or, not_true_eq_false, not_false_eq_true, ne_eq, true_implies, false_implies, implies_true] at hz2 hz4 c6 c10 c11 c12 c13 ⊢) <;> omega)], NF, rfl⟩
        · refine own_go (T' := s₁) (g' := (mkF m 85 #[.val (.int u), .val (.int t), .val (.int z1)] [])) (fun _ k => XS.icmpYes X0.here hx rfl (pc0 := 60) (pc' := 85) rfl (hb hby own_d1_60) rfl (flt c10).2.2.2 (by decide) (by decide) k) ?_
          refine own_go (T' := s₁) (g' := (mkF m 86 #[.val (.int u), .val (.int t), .val (.int z1)] [(.int (0 : Int32))])) (fun _ k => XS.iconst X0.here hx rfl (hb hby own_d1_85) k) ?_
          refine own_ret X0 Bd.notSynchronized (some (.int (0 : Int32))) (fun h => by rw [Bd.returns] at h; cases h) (fun fs hr => retN X0 hx (t := .boolean) Bd.returns (by simp) (hb hby own_d1_86) hr) ?_ (by decide) (by decide)
          show (own_Q1 Z u t h0 n0) (some (.int (0 : Int32))) s₁.heap _
          rw [e0]
          exact ⟨by rw [if_neg (by (try simp only [own_ln2147483648, own_l0, own_l1, own_l2, own_l3, own_l4, own_l5, own_l6, own_l7, own_l8, own_l9, own_l10, own_l13, own_l15, own_l32, own_l55295, own_l55296, own_l57343, own_l57344, own_l65533, own_l65534, own_l65535, own_l65536, own_l1114111, own_l1114112, Int32.lt_iff_toInt_lt, ← Int32.toInt_inj, Int64.lt_iff_toInt_lt, ← Int64.toInt_inj, and_true, true_and, and_false, false_and, or_true, true_or, or_false, false_or, not_true_eq_false, not_false_eq_true, ne_eq, true_implies, false_implies, implies_true] at hz2 hz4 c6 c10 ⊢) <;> omega)], NF, rfl⟩
    refine own_go (T' := s₁) (g' := (mkF m 31 #[.val (.int u), .val (.int t), .val (.int z1)] [(.int u)])) (fun _ k => XS.iloadN X0.here hx rfl (hb hby own_d1_30) rfl k) ?_
    refine own_go (T' := s₁) (g' := (mkF m 33 #[.val (.int u), .val (.int t), .val (.int z1)] [(.int (32 : Int32)), (.int u)])) (fun _ k => XS.bipush X0.here hx rfl (hb hby own_d1_31) k) ?_
    by_cases c14 : u < (32 : Int32)
    · refine own_go (T' := s₁) (g' := (mkF m 36 #[.val (.int u), .val (.int t), .val (.int z1)] [])) (fun _ k => XS.icmpNo X0.here hx rfl (hb hby own_d1_33) rfl (tlt c14).2.1 k) ?_
      refine own_go (T' := s₁) (g' := (mkF m 37 #[.val (.int u), .val (.int t), .val (.int z1)] [(.int t)])) (fun _ k => XS.iloadN X0.here hx rfl (hb hby own_d1_36) rfl k) ?_
      by_cases c15 : t = (0 : Int32)
      · refine own_go (T' := s₁) (g' := (mkF m 47 #[.val (.int u), .val (.int t), .val (.int z1)] [])) (fun _ k => XS.ifYes X0.here hx rfl (pc0 := 37) (pc' := 47) rfl (hb hby own_d1_37) rfl ((if0 _ _).trans (teq c15).1) (by decide) (by decide) k) ?_
        refine own_go (T' := s₁) (g' := (mkF m 48 #[.val (.int u), .val (.int t), .val (.int z1)] [(.int z1)])) (fun _ k => XS.iloadN X0.here hx rfl (hb hby own_d1_47) rfl k) ?_
        by_cases c16 : z1 = (0 : Int32)
        · refine own_go (T' := s₁) (g' := (mkF m 51 #[.val (.int u), .val (.int t), .val (.int z1)] [])) (fun _ k => XS.ifNo X0.here hx rfl (hb hby own_d1_48) rfl ((if0 _ _).trans (teq c16).2) k) ?_
          exact J5  (by (try simp only [own_ln2147483648, own_l0, own_l1, own_l2, own_l3, own_l4, own_l5, own_l6, own_l7, own_l8, own_l9, own_l10, own_l13, own_l15, own_l32, own_l55295, own_l55296, own_l57343, own_l57344, own_l65533, own_l65534, own_l65535, own_l65536, own_l1114111, own_l1114112, Int32.lt_iff_toInt_lt, ← Int32.toInt_inj, Int64.lt_iff_toInt_lt, ← Int64.toInt_inj, and_true, true_and, and_false, false_and, or_true, true_or, or_false, false_or, not_true_eq_false, not_false_eq_true, ne_eq, true_implies, false_implies, implies_true] at hz2 c14 c15 c16 ⊢) <;> omega)
        · refine own_go (T' := s₁) (g' := (mkF m 85 #[.val (.int u), .val (.int t), .val (.int z1)] [])) (fun _ k => XS.ifYes X0.here hx rfl (pc0 := 48) (pc' := 85) rfl (hb hby own_d1_48) rfl ((if0 _ _).trans (feq c16).2) (by decide) (by decide) k) ?_
          refine own_go (T' := s₁) (g' := (mkF m 86 #[.val (.int u), .val (.int t), .val (.int z1)] [(.int (0 : Int32))])) (fun _ k => XS.iconst X0.here hx rfl (hb hby own_d1_85) k) ?_
          refine own_ret X0 Bd.notSynchronized (some (.int (0 : Int32))) (fun h => by rw [Bd.returns] at h; cases h) (fun fs hr => retN X0 hx (t := .boolean) Bd.returns (by simp) (hb hby own_d1_86) hr) ?_ (by decide) (by decide)
          show (own_Q1 Z u t h0 n0) (some (.int (0 : Int32))) s₁.heap _
          rw [e0]
          exact ⟨by rw [if_neg (by (try simp only [own_ln2147483648, own_l0, own_l1, own_l2, own_l3, own_l4, own_l5, own_l6, own_l7, own_l8, own_l9, own_l10, own_l13, own_l15, own_l32, own_l55295, own_l55296, own_l57343, own_l57344, own_l65533, own_l65534, own_l65535, own_l65536, own_l1114111, own_l1114112, Int32.lt_iff_toInt_lt, ← Int32.toInt_inj, Int64.lt_iff_toInt_lt, ← Int64.toInt_inj, and_true, true_and, and_false, false_and, or_true, true_or, or_false, false_or, not_true_eq_false, not_false_eq_true, ne_eq, true_implies, false_implies, implies_true] at hz2 c14 c15 c16 ⊢) <;> omega)], NF, rfl⟩
      · refine own_go (T' := s₁) (g' := (mkF m 40 #[.val (.int u), .val (.int t), .val (.int z1)] [])) (fun _ k => XS.ifNo X0.here hx rfl (hb hby own_d1_37) rfl ((if0 _ _).trans (feq c15).1) k) ?_
        refine own_go (T' := s₁) (g' := (mkF m 41 #[.val (.int u), .val (.int t), .val (.int z1)] [(.int u)])) (fun _ k => XS.iloadN X0.here hx rfl (hb hby own_d1_40) rfl k) ?_
        by_cases c17 : (0 : Int32) < u
        · refine own_go (T' := s₁) (g' := (mkF m 44 #[.val (.int u), .val (.int t), .val (.int z1)] [])) (fun _ k => XS.ifNo X0.here hx rfl (hb hby own_d1_41) rfl ((if0 _ _).trans (tlt c17).2.2.2) k) ?_
          refine own_go (T' := s₁) (g' := (mkF m 51 #[.val (.int u), .val (.int t), .val (.int z1)] [])) (fun _ k => XS.goto X0.here hx rfl (pc0 := 44) (pc' := 51) rfl (hb hby own_d1_44) (by decide) (by decide) k) ?_
          exact J5  (by (try simp only [own_ln2147483648, own_l0, own_l1, own_l2, own_l3, own_l4, own_l5, own_l6, own_l7, own_l8, own_l9, own_l10, own_l13, own_l15, own_l32, own_l55295, own_l55296, own_l57343, own_l57344, own_l65533, own_l65534, own_l65535, own_l65536, own_l1114111, own_l1114112, Int32.lt_iff_toInt_lt, ← Int32.toInt_inj, Int64.lt_iff_toInt_lt, ← Int64.toInt_inj, and_true, true_and, and_false, false_and, or_true, true_or, or_false, false_or, not_true_eq_false, not_false_eq_true, ne_eq, true_implies, false_implies, implies_true] at hz2 c14 c15 c17 ⊢) <;> omega)
        · refine own_go (T' := s₁) (g' := (mkF m 85 #[.val (.int u), .val (.int t), .val (.int z1)] [])) (fun _ k => XS.ifYes X0.here hx rfl (pc0 := 41) (pc' := 85) rfl (hb hby own_d1_41) rfl ((if0 _ _).trans (flt c17).2.2.2) (by decide) (by decide) k) ?_
          refine own_go (T' := s₁) (g' := (mkF m 86 #[.val (.int u), .val (.int t), .val (.int z1)] [(.int (0 : Int32))])) (fun _ k => XS.iconst X0.here hx rfl (hb hby own_d1_85) k) ?_
          refine own_ret X0 Bd.notSynchronized (some (.int (0 : Int32))) (fun h => by rw [Bd.returns] at h; cases h) (fun fs hr => retN X0 hx (t := .boolean) Bd.returns (by simp) (hb hby own_d1_86) hr) ?_ (by decide) (by decide)
          show (own_Q1 Z u t h0 n0) (some (.int (0 : Int32))) s₁.heap _
          rw [e0]
          exact ⟨by rw [if_neg (by (try simp only [own_ln2147483648, own_l0, own_l1, own_l2, own_l3, own_l4, own_l5, own_l6, own_l7, own_l8, own_l9, own_l10, own_l13, own_l15, own_l32, own_l55295, own_l55296, own_l57343, own_l57344, own_l65533, own_l65534, own_l65535, own_l65536, own_l1114111, own_l1114112, Int32.lt_iff_toInt_lt, ← Int32.toInt_inj, Int64.lt_iff_toInt_lt, ← Int64.toInt_inj, and_true, true_and, and_false, false_and, or_true, true_or, or_false, false_or, not_true_eq_false, not_false_eq_true, ne_eq, true_implies, false_implies, implies_true] at hz2 c14 c15 c17 ⊢) <;> omega)], NF, rfl⟩
    · refine own_go (T' := s₁) (g' := (mkF m 51 #[.val (.int u), .val (.int t), .val (.int z1)] [])) (fun _ k => XS.icmpYes X0.here hx rfl (pc0 := 33) (pc' := 51) rfl (hb hby own_d1_33) rfl (flt c14).2.1 (by decide) (by decide) k) ?_
      exact J5  (by (try simp only [own_ln2147483648, own_l0, own_l1, own_l2, own_l3, own_l4, own_l5, own_l6, own_l7, own_l8, own_l9, own_l10, own_l13, own_l15, own_l32, own_l55295, own_l55296, own_l57343, own_l57344, own_l65533, own_l65534, own_l65535, own_l65536, own_l1114111, own_l1114112, Int32.lt_iff_toInt_lt, ← Int32.toInt_inj, Int64.lt_iff_toInt_lt, ← Int64.toInt_inj, and_true, true_and, and_false, false_and, or_true, true_or, or_false, false_or, not_true_eq_false, not_false_eq_true, ne_eq, true_implies, false_implies, implies_true] at hz2 c14 ⊢) <;> omega)
  refine own_go (T' := s₁) (g' := (mkF m 1 #[.val (.int u), .val (.int t), .unset] [(.int u)])) (fun _ k => XS.iloadN X0.here hx rfl (hb hby own_d1_0) rfl k) ?_
  refine own_go (T' := s₁) (g' := (mkF m 3 #[.val (.int u), .val (.int t), .unset] [(.int (32 : Int32)), (.int u)])) (fun _ k => XS.bipush X0.here hx rfl (hb hby own_d1_1) k) ?_
  by_cases c18 : u < (32 : Int32)
  · refine own_go (T' := s₁) (g' := (mkF m 6 #[.val (.int u), .val (.int t), .unset] [])) (fun _ k => XS.icmpNo X0.here hx rfl (hb hby own_d1_3) rfl (tlt c18).2.1 k) ?_
    refine own_go (T' := s₁) (g' := (mkF m 7 #[.val (.int u), .val (.int t), .unset] [(.int u)])) (fun _ k => XS.iloadN X0.here hx rfl (hb hby own_d1_6) rfl k) ?_
    refine own_go (T' := s₁) (g' := (mkF m 9 #[.val (.int u), .val (.int t), .unset] [(.int (9 : Int32)), (.int u)])) (fun _ k => XS.bipush X0.here hx rfl (hb hby own_d1_7) k) ?_
    by_cases c19 : u = (9 : Int32)
    · refine own_go (T' := s₁) (g' := (mkF m 28 #[.val (.int u), .val (.int t), .unset] [])) (fun _ k => XS.icmpYes X0.here hx rfl (pc0 := 9) (pc' := 28) rfl (hb hby own_d1_9) rfl (teq c19).1 (by decide) (by decide) k) ?_
      refine own_go (T' := s₁) (g' := (mkF m 29 #[.val (.int u), .val (.int t), .unset] [(.int (0 : Int32))])) (fun _ k => XS.iconst X0.here hx rfl (hb hby own_d1_28) k) ?_
      refine own_go (T' := s₁) (g' := (mkF m 30 #[.val (.int u), .val (.int t), .val (.int (0 : Int32))] [])) (fun _ k => XS.istoreN X0.here hx rfl (hb hby own_d1_29) rfl (l' := #[.val (.int u), .val (.int t), .val (.int (0 : Int32))]) rfl k) ?_
      exact J3 _ (by (try simp only [own_ln2147483648, own_l0, own_l1, own_l2, own_l3, own_l4, own_l5, own_l6, own_l7, own_l8, own_l9, own_l10, own_l13, own_l15, own_l32, own_l55295, own_l55296, own_l57343, own_l57344, own_l65533, own_l65534, own_l65535, own_l65536, own_l1114111, own_l1114112, Int32.lt_iff_toInt_lt, ← Int32.toInt_inj, Int64.lt_iff_toInt_lt, ← Int64.toInt_inj, and_true, true_and, and_false, false_and, or_true, true_or, or_false, false_or, not_true_eq_false, not_false_eq_true, ne_eq, true_implies, false_implies, implies_true] at c18 c19 ⊢) <;> omega)
    · refine own_go (T' := s₁) (g' := (mkF m 12 #[.val (.int u), .val (.int t), .unset] [])) (fun _ k => XS.icmpNo X0.here hx rfl (hb hby own_d1_9) rfl (feq c19).1 k) ?_
      refine own_go (T' := s₁) (g' := (mkF m 13 #[.val (.int u), .val (.int t), .unset] [(.int u)])) (fun _ k => XS.iloadN X0.here hx rfl (hb hby own_d1_12) rfl k) ?_
      refine own_go (T' := s₁) (g' := (mkF m 15 #[.val (.int u), .val (.int t), .unset] [(.int (10 : Int32)), (.int u)])) (fun _ k => XS.bipush X0.here hx rfl (hb hby own_d1_13) k) ?_
      by_cases c20 : u = (10 : Int32)
      · refine own_go (T' := s₁) (g' := (mkF m 28 #[.val (.int u), .val (.int t), .unset] [])) (fun _ k => XS.icmpYes X0.here hx rfl (pc0 := 15) (pc' := 28) rfl (hb hby own_d1_15) rfl (teq c20).1 (by decide) (by decide) k) ?_
        refine own_go (T' := s₁) (g' := (mkF m 29 #[.val (.int u), .val (.int t), .unset] [(.int (0 : Int32))])) (fun _ k => XS.iconst X0.here hx rfl (hb hby own_d1_28) k) ?_
        refine own_go (T' := s₁) (g' := (mkF m 30 #[.val (.int u), .val (.int t), .val (.int (0 : Int32))] [])) (fun _ k => XS.istoreN X0.here hx rfl (hb hby own_d1_29) rfl (l' := #[.val (.int u), .val (.int t), .val (.int (0 : Int32))]) rfl k) ?_
        exact J3 _ (by (try simp only [own_ln2147483648, own_l0, own_l1, own_l2, own_l3, own_l4, own_l5, own_l6, own_l7, own_l8, own_l9, own_l10, own_l13, own_l15, own_l32, own_l55295, own_l55296, own_l57343, own_l57344, own_l65533, own_l65534, own_l65535, own_l65536, own_l1114111, own_l1114112, Int32.lt_iff_toInt_lt, ← Int32.toInt_inj, Int64.lt_iff_toInt_lt, ← Int64.toInt_inj, and_true, true_and, and_false, false_and, or_true, true_or, or_false, false_or, not_true_eq_false, not_false_eq_true, ne_eq, true_implies, false_implies, implies_true] at c18 c19 c20 ⊢) <;> omega)
      · refine own_go (T' := s₁) (g' := (mkF m 18 #[.val (.int u), .val (.int t), .unset] [])) (fun _ k => XS.icmpNo X0.here hx rfl (hb hby own_d1_15) rfl (feq c20).1 k) ?_
        refine own_go (T' := s₁) (g' := (mkF m 19 #[.val (.int u), .val (.int t), .unset] [(.int u)])) (fun _ k => XS.iloadN X0.here hx rfl (hb hby own_d1_18) rfl k) ?_
        refine own_go (T' := s₁) (g' := (mkF m 21 #[.val (.int u), .val (.int t), .unset] [(.int (13 : Int32)), (.int u)])) (fun _ k => XS.bipush X0.here hx rfl (hb hby own_d1_19) k) ?_
        by_cases c21 : u = (13 : Int32)
        · refine own_go (T' := s₁) (g' := (mkF m 28 #[.val (.int u), .val (.int t), .unset] [])) (fun _ k => XS.icmpYes X0.here hx rfl (pc0 := 21) (pc' := 28) rfl (hb hby own_d1_21) rfl (teq c21).1 (by decide) (by decide) k) ?_
          refine own_go (T' := s₁) (g' := (mkF m 29 #[.val (.int u), .val (.int t), .unset] [(.int (0 : Int32))])) (fun _ k => XS.iconst X0.here hx rfl (hb hby own_d1_28) k) ?_
          refine own_go (T' := s₁) (g' := (mkF m 30 #[.val (.int u), .val (.int t), .val (.int (0 : Int32))] [])) (fun _ k => XS.istoreN X0.here hx rfl (hb hby own_d1_29) rfl (l' := #[.val (.int u), .val (.int t), .val (.int (0 : Int32))]) rfl k) ?_
          exact J3 _ (by (try simp only [own_ln2147483648, own_l0, own_l1, own_l2, own_l3, own_l4, own_l5, own_l6, own_l7, own_l8, own_l9, own_l10, own_l13, own_l15, own_l32, own_l55295, own_l55296, own_l57343, own_l57344, own_l65533, own_l65534, own_l65535, own_l65536, own_l1114111, own_l1114112, Int32.lt_iff_toInt_lt, ← Int32.toInt_inj, Int64.lt_iff_toInt_lt, ← Int64.toInt_inj, and_true, true_and, and_false, false_and, or_true, true_or, or_false, false_or, not_true_eq_false, not_false_eq_true, ne_eq, true_implies, false_implies, implies_true] at c18 c19 c20 c21 ⊢) <;> omega)
        · refine own_go (T' := s₁) (g' := (mkF m 24 #[.val (.int u), .val (.int t), .unset] [])) (fun _ k => XS.icmpNo X0.here hx rfl (hb hby own_d1_21) rfl (feq c21).1 k) ?_
          refine own_go (T' := s₁) (g' := (mkF m 25 #[.val (.int u), .val (.int t), .unset] [(.int (1 : Int32))])) (fun _ k => XS.iconst X0.here hx rfl (hb hby own_d1_24) k) ?_
          refine own_go (T' := s₁) (g' := (mkF m 29 #[.val (.int u), .val (.int t), .unset] [(.int (1 : Int32))])) (fun _ k => XS.goto X0.here hx rfl (pc0 := 25) (pc' := 29) rfl (hb hby own_d1_25) (by decide) (by decide) k) ?_
          refine own_go (T' := s₁) (g' := (mkF m 30 #[.val (.int u), .val (.int t), .val (.int (1 : Int32))] [])) (fun _ k => XS.istoreN X0.here hx rfl (hb hby own_d1_29) rfl (l' := #[.val (.int u), .val (.int t), .val (.int (1 : Int32))]) rfl k) ?_
          exact J3 _ (by (try simp only [own_ln2147483648, own_l0, own_l1, own_l2, own_l3, own_l4, own_l5, own_l6, own_l7, own_l8, own_l9, own_l10, own_l13, own_l15, own_l32, own_l55295, own_l55296, own_l57343, own_l57344, own_l65533, own_l65534, own_l65535, own_l65536, own_l1114111, own_l1114112, Int32.lt_iff_toInt_lt, ← Int32.toInt_inj, Int64.lt_iff_toInt_lt, ← Int64.toInt_inj, and_true, true_and, and_false, false_and, or_true, true_or, or_false, false_or, not_true_eq_false, not_false_eq_true, ne_eq, true_implies, false_implies, implies_true] at c18 c19 c20 c21 ⊢) <;> omega)
  · refine own_go (T' := s₁) (g' := (mkF m 28 #[.val (.int u), .val (.int t), .unset] [])) (fun _ k => XS.icmpYes X0.here hx rfl (pc0 := 3) (pc' := 28) rfl (hb hby own_d1_3) rfl (flt c18).2.1 (by decide) (by decide) k) ?_
    refine own_go (T' := s₁) (g' := (mkF m 29 #[.val (.int u), .val (.int t), .unset] [(.int (0 : Int32))])) (fun _ k => XS.iconst X0.here hx rfl (hb hby own_d1_28) k) ?_
    refine own_go (T' := s₁) (g' := (mkF m 30 #[.val (.int u), .val (.int t), .val (.int (0 : Int32))] [])) (fun _ k => XS.istoreN X0.here hx rfl (hb hby own_d1_29) rfl (l' := #[.val (.int u), .val (.int t), .val (.int (0 : Int32))]) rfl k) ?_
    exact J3 _ (by (try simp only [own_ln2147483648, own_l0, own_l1, own_l2, own_l3, own_l4, own_l5, own_l6, own_l7, own_l8, own_l9, own_l10, own_l13, own_l15, own_l32, own_l55295, own_l55296, own_l57343, own_l57344, own_l65533, own_l65534, own_l65535, own_l65536, own_l1114111, own_l1114112, Int32.lt_iff_toInt_lt, ← Int32.toInt_inj, Int64.lt_iff_toInt_lt, ← Int64.toInt_inj, and_true, true_and, and_false, false_and, or_true, true_or, or_false, false_or, not_true_eq_false, not_false_eq_true, ne_eq, true_implies, false_implies, implies_true] at c18 ⊢) <;> omega)
theorem own_d2_0 : decode method_2_code 0 = .ok (.iload_n 1, 1) := by decide +kernel
theorem own_d2_1 : decode method_2_code 1 = .ok (.ifCond .eq 23, 3) := by decide +kernel
theorem own_d2_4 : decode method_2_code 4 = .ok (.iload_n 0, 1) := by decide +kernel
theorem own_d2_5 : decode method_2_code 5 = .ok (.iconst 1, 1) := by decide +kernel
theorem own_d2_6 : decode method_2_code 6 = .ok (.if_icmp .lt 13, 3) := by decide +kernel
theorem own_d2_9 : decode method_2_code 9 = .ok (.iload_n 0, 1) := by decide +kernel
theorem own_d2_10 : decode method_2_code 10 = .ok (.ldc 7, 2) := by decide +kernel
theorem own_d2_12 : decode method_2_code 12 = .ok (.if_icmp .gt 7, 3) := by decide +kernel
theorem own_d2_15 : decode method_2_code 15 = .ok (.iconst 1, 1) := by decide +kernel
theorem own_d2_16 : decode method_2_code 16 = .ok (.goto 4, 3) := by decide +kernel
theorem own_d2_19 : decode method_2_code 19 = .ok (.iconst 0, 1) := by decide +kernel
theorem own_d2_20 : decode method_2_code 20 = .ok (.istore_n 2, 1) := by decide +kernel
theorem own_d2_21 : decode method_2_code 21 = .ok (.goto 39, 3) := by decide +kernel
theorem own_d2_24 : decode method_2_code 24 = .ok (.iload_n 0, 1) := by decide +kernel
theorem own_d2_25 : decode method_2_code 25 = .ok (.bipush 9, 2) := by decide +kernel
theorem own_d2_27 : decode method_2_code 27 = .ok (.if_icmp .eq 27, 3) := by decide +kernel
theorem own_d2_30 : decode method_2_code 30 = .ok (.iload_n 0, 1) := by decide +kernel
theorem own_d2_31 : decode method_2_code 31 = .ok (.bipush 10, 2) := by decide +kernel
theorem own_d2_33 : decode method_2_code 33 = .ok (.if_icmp .eq 21, 3) := by decide +kernel
theorem own_d2_36 : decode method_2_code 36 = .ok (.iload_n 0, 1) := by decide +kernel
theorem own_d2_37 : decode method_2_code 37 = .ok (.bipush 13, 2) := by decide +kernel
theorem own_d2_39 : decode method_2_code 39 = .ok (.if_icmp .eq 15, 3) := by decide +kernel
theorem own_d2_42 : decode method_2_code 42 = .ok (.iload_n 0, 1) := by decide +kernel
theorem own_d2_43 : decode method_2_code 43 = .ok (.bipush 32, 2) := by decide +kernel
theorem own_d2_45 : decode method_2_code 45 = .ok (.if_icmp .lt 13, 3) := by decide +kernel
theorem own_d2_48 : decode method_2_code 48 = .ok (.iload_n 0, 1) := by decide +kernel
theorem own_d2_49 : decode method_2_code 49 = .ok (.ldc 7, 2) := by decide +kernel
theorem own_d2_51 : decode method_2_code 51 = .ok (.if_icmp .gt 7, 3) := by decide +kernel
theorem own_d2_54 : decode method_2_code 54 = .ok (.iconst 1, 1) := by decide +kernel
theorem own_d2_55 : decode method_2_code 55 = .ok (.goto 4, 3) := by decide +kernel
theorem own_d2_58 : decode method_2_code 58 = .ok (.iconst 0, 1) := by decide +kernel
theorem own_d2_59 : decode method_2_code 59 = .ok (.istore_n 2, 1) := by decide +kernel
theorem own_d2_60 : decode method_2_code 60 = .ok (.iload_n 0, 1) := by decide +kernel
theorem own_d2_61 : decode method_2_code 61 = .ok (.ldc 8, 2) := by decide +kernel
theorem own_d2_63 : decode method_2_code 63 = .ok (.if_icmp .lt 13, 3) := by decide +kernel
theorem own_d2_66 : decode method_2_code 66 = .ok (.iload_n 0, 1) := by decide +kernel
theorem own_d2_67 : decode method_2_code 67 = .ok (.ldc 9, 2) := by decide +kernel
theorem own_d2_69 : decode method_2_code 69 = .ok (.if_icmp .gt 7, 3) := by decide +kernel
theorem own_d2_72 : decode method_2_code 72 = .ok (.iconst 1, 1) := by decide +kernel
theorem own_d2_73 : decode method_2_code 73 = .ok (.goto 4, 3) := by decide +kernel
theorem own_d2_76 : decode method_2_code 76 = .ok (.iconst 0, 1) := by decide +kernel
theorem own_d2_77 : decode method_2_code 77 = .ok (.istore_n 3, 1) := by decide +kernel
theorem own_d2_78 : decode method_2_code 78 = .ok (.iload_n 0, 1) := by decide +kernel
theorem own_d2_79 : decode method_2_code 79 = .ok (.ldc 10, 2) := by decide +kernel
theorem own_d2_81 : decode method_2_code 81 = .ok (.if_icmp .lt 13, 3) := by decide +kernel
theorem own_d2_84 : decode method_2_code 84 = .ok (.iload_n 0, 1) := by decide +kernel
theorem own_d2_85 : decode method_2_code 85 = .ok (.ldc 11, 2) := by decide +kernel
theorem own_d2_87 : decode method_2_code 87 = .ok (.if_icmp .gt 7, 3) := by decide +kernel
theorem own_d2_90 : decode method_2_code 90 = .ok (.iconst 1, 1) := by decide +kernel
theorem own_d2_91 : decode method_2_code 91 = .ok (.goto 4, 3) := by decide +kernel
theorem own_d2_94 : decode method_2_code 94 = .ok (.iconst 0, 1) := by decide +kernel
theorem own_d2_95 : decode method_2_code 95 = .ok (.istore 4, 2) := by decide +kernel
theorem own_d2_97 : decode method_2_code 97 = .ok (.iload_n 2, 1) := by decide +kernel
theorem own_d2_98 : decode method_2_code 98 = .ok (.ifCond .ne 12, 3) := by decide +kernel
theorem own_d2_101 : decode method_2_code 101 = .ok (.iload_n 3, 1) := by decide +kernel
theorem own_d2_102 : decode method_2_code 102 = .ok (.ifCond .ne 8, 3) := by decide +kernel
theorem own_d2_105 : decode method_2_code 105 = .ok (.iload 4, 2) := by decide +kernel
theorem own_d2_107 : decode method_2_code 107 = .ok (.ifCond .eq 7, 3) := by decide +kernel
theorem own_d2_110 : decode method_2_code 110 = .ok (.iconst 1, 1) := by decide +kernel
theorem own_d2_111 : decode method_2_code 111 = .ok (.goto 4, 3) := by decide +kernel
theorem own_d2_114 : decode method_2_code 114 = .ok (.iconst 0, 1) := by decide +kernel
theorem own_d2_115 : decode method_2_code 115 = .ok (.ireturn, 1) := by decide +kernel
theorem own_pn2 : plainName "com/example/tidy_sitemap/tidysitemap/read/XmlCharactersIsCharacterPinLaw" = true := by first | (simp [plainName, overriddenIn]; done) | decide +kernel
theorem own_ef2 (m : MethodId) (u : Int32) (t : Int32) : entryFrame m #[(.int u), (.int t)] 5 = mkF m 0 #[.val (.int u), .val (.int t), .unset, .unset, .unset] [] := by first | (simp [entryFrame, mkF, argsToLocals, Value.category]; done) | rfl
def own_Q2 (Z : State) (u : Int32) (t : Int32) (h0 : Heap) (n0 : Nat) (v : Option Value) (h : Heap) (L : List Loc) : Prop := v = some (.int (if ((t.toInt ≠ 0 ∧ 1 ≤ u.toInt ∧ u.toInt ≤ 55295) ∨ (t.toInt = 0 ∧ (u.toInt = 9 ∨ u.toInt = 10 ∨ u.toInt = 13 ∨ (32 ≤ u.toInt ∧ u.toInt ≤ 55295)))) ∨ (57344 ≤ u.toInt ∧ u.toInt ≤ 65533) ∨ (65536 ≤ u.toInt ∧ u.toInt ≤ 1114111) then 1 else 0)) ∧ Fr n0 L ∧ h = h0
set_option maxRecDepth 65536 in
set_option maxHeartbeats 40000000 in
theorem own_rm2 (l : Launch) (Z : State) (a0 : Array Value) (hw : ∀ d ∈ tables_1, d.before a0 Z = true) (ws : List Jvm.Cond) (u : Int32) (t : Int32) (h0 : Heap) (n0 : Nat) (Zs : n0 ≤ h0.size)  :
    MetFree l (⟨"com/example/tidy_sitemap/tidysitemap/read/XmlCharactersIsCharacterPinLaw", "reference", "(IZ)Z"⟩ : MethodName) (head1 (Jvm.Cond.code (⟨"com/example/tidy_sitemap/tidysitemap/read/XmlCharactersIsCharacterPinLaw", "reference", "(IZ)Z"⟩ : MethodName) method_2_code 5 (some .boolean) :: ws) ({ frames := 0, cells := 0, slots := 0, locals := 0 } : Room)) (fun aA_ U => aA_ = #[(.int u), (.int t)] ∧ Z.Warmed39 U.vm ∧ U.heap = h0) (fun _ _ _ _ _ => True) (fun _ U o U' => ∃ v L, o = .returned v ∧ own_Q2 Z u t h0 n0 v U'.heap L ∧ FrameEnd U o U' L ({ frames := 0, cells := 0, slots := 0, locals := 0 } : Room).cells ({ frames := 0, cells := 0, slots := 0, locals := 0 } : Room).slots) := by
  refine MetFree.of_bodySF (plainFor_of_name own_pn2) hisR ?_
  intro p e s m args below meth c s₁ Bd hml0 hP hK
  obtain ⟨rfl, hZ, hh⟩ := hP
  have hx := Bd.exec
  have hby := Bd.bytes
  have hml : c.maxLocals = 5 := hml0
  have hown : s.vm.findClass "com/example/tidy_sitemap/tidysitemap/read/XmlCharactersIsCharacterPinLaw" = some m.cls := findClass_of_methodNamed Bd.named
  have hnm := (name_of_methodNamed Bd.named Bd.method).1
  have X0 : Stand p l e ({ frames := 0, cells := 0, slots := 0, locals := 0 } : Room) s m #[(.int u), (.int t)] below meth c s₁ [] 0 0 := Stand.of_body Bd
  have e0 : s₁.heap = h0 := by rw [← hh, Bd.state]; rfl
  have NF := Fr.nil n0
  rw [own_ef2 m u t]
  show own_Dn p e below s (own_Q2 Z u t h0 n0) 0 0 s₁ (mkF m 0 #[.val (.int u), .val (.int t), .unset, .unset, .unset] [])
  have J3 : ∀ (z1 : Int32), ((z1.toInt = 1 ∧ ((t.toInt ≠ 0 ∧ 1 ≤ u.toInt ∧ u.toInt ≤ 55295) ∨ (t.toInt = 0 ∧ (u.toInt = 9 ∨ u.toInt = 10 ∨ u.toInt = 13 ∨ (32 ≤ u.toInt ∧ u.toInt ≤ 55295))))) ∨ (z1.toInt = 0 ∧ ¬ ((t.toInt ≠ 0 ∧ 1 ≤ u.toInt ∧ u.toInt ≤ 55295) ∨ (t.toInt = 0 ∧ (u.toInt = 9 ∨ u.toInt = 10 ∨ u.toInt = 13 ∨ (32 ≤ u.toInt ∧ u.toInt ≤ 55295)))))) → own_Dn p e below s (own_Q2 Z u t h0 n0) 0 0 s₁ (mkF m 60 #[.val (.int u), .val (.int t), .val (.int z1), .unset, .unset] []) := by
    intro z1 hz2
    have J6 : ∀ (z4 : Int32), ((z4.toInt = 1 ∧ (57344 ≤ u.toInt ∧ u.toInt ≤ 65533)) ∨ (z4.toInt = 0 ∧ ¬ (57344 ≤ u.toInt ∧ u.toInt ≤ 65533))) → own_Dn p e below s (own_Q2 Z u t h0 n0) 0 0 s₁ (mkF m 78 #[.val (.int u), .val (.int t), .val (.int z1), .val (.int z4), .unset] []) := by
      intro z4 hz5
      have J9 : ∀ (z7 : Int32), ((z7.toInt = 1 ∧ (65536 ≤ u.toInt ∧ u.toInt ≤ 1114111)) ∨ (z7.toInt = 0 ∧ ¬ (65536 ≤ u.toInt ∧ u.toInt ≤ 1114111))) → own_Dn p e below s (own_Q2 Z u t h0 n0) 0 0 s₁ (mkF m 97 #[.val (.int u), .val (.int t), .val (.int z1), .val (.int z4), .val (.int z7)] []) := by
        intro z7 hz8
        refine own_go (T' := s₁) (g' := (mkF m 98 #[.val (.int u), .val (.int t), .val (.int z1), .val (.int z4), .val (.int z7)] [(.int z1)])) (fun _ k => XS.iloadN X0.here hx rfl (hb hby own_d2_97) rfl k) ?_
        by_cases c10 : z1 = (0 : Int32)
        · refine own_go (T' := s₁) (g' := (mkF m 101 #[.val (.int u), .val (.int t), .val (.int z1), .val (.int z4), .val (.int z7)] [])) (fun _ k => XS.ifNo X0.here hx rfl (hb hby own_d2_98) rfl ((if0 _ _).trans (teq c10).2) k) ?_
          refine own_go (T' := s₁) (g' := (mkF m 102 #[.val (.int u), .val (.int t), .val (.int z1), .val (.int z4), .val (.int z7)] [(.int z4)])) (fun _ k => XS.iloadN X0.here hx rfl (hb hby own_d2_101) rfl k) ?_
          by_cases c11 : z4 = (0 : Int32)
          · refine own_go (T' := s₁) (g' := (mkF m 105 #[.val (.int u), .val (.int t), .val (.int z1), .val (.int z4), .val (.int z7)] [])) (fun _ k => XS.ifNo X0.here hx rfl (hb hby own_d2_102) rfl ((if0 _ _).trans (teq c11).2) k) ?_
            refine own_go (T' := s₁) (g' := (mkF m 107 #[.val (.int u), .val (.int t), .val (.int z1), .val (.int z4), .val (.int z7)] [(.int z7)])) (fun _ k => XS.iload X0.here hx rfl (hb hby own_d2_105) rfl k) ?_
            by_cases c12 : z7 = (0 : Int32)
            · refine own_go (T' := s₁) (g' := (mkF m 114 #[.val (.int u), .val (.int t), .val (.int z1), .val (.int z4), .val (.int z7)] [])) (fun _ k => XS.ifYes X0.here hx rfl (pc0 := 107) (pc' := 114) rfl (hb hby own_d2_107) rfl ((if0 _ _).trans (teq c12).1) (by decide) (by decide) k) ?_
              refine own_go (T' := s₁) (g' := (mkF m 115 #[.val (.int u), .val (.int t), .val (.int z1), .val (.int z4), .val (.int z7)] [(.int (0 : Int32))])) (fun _ k => XS.iconst X0.here hx rfl (hb hby own_d2_114) k) ?_
              refine own_ret X0 Bd.notSynchronized (some (.int (0 : Int32))) (fun h => by rw [Bd.returns] at h; cases h) (fun fs hr => retN X0 hx (t := .boolean) Bd.returns (by simp) (hb hby own_d2_115) hr) ?_ (by decide) (by decide)
              show (own_Q2 Z u t h0 n0) (some (.int (0 : Int32))) s₁.heap _
              rw [e0]
              exact ⟨by rw [if_neg (by (try simp only [own_ln2147483648, own_l0, own_l1, own_l2, own_l3, own_l4, own_l5, own_l6, own_l7, own_l8, own_l9, own_l10, own_l13, own_l15, own_l32, own_l55295, own_l55296, own_l57343, own_l57344, own_l65533, own_l65534, own_l65535, own_l65536, own_l1114111, own_l1114112, Int32.lt_iff_toInt_lt, ← Int32.toInt_inj, Int64.lt_iff_toInt_lt, ← Int64.toInt_inj, and_true, true_and, and_false, false_and, or_true, true_or, or_false, false_or, not_true_eq_false, not_false_eq_true, ne_eq, true_implies, false_implies, implies_true] at hz2 hz5 hz8 c10 c11 c12 ⊢) <;> omega)], NF, rfl⟩
            · refine own_go (T' := s₁) (g' := (mkF m 110 #[.val (.int u), .val (.int t), .val (.int z1), .val (.int z4), .val (.int z7)] [])) (fun _ k => XS.ifNo X0.here hx rfl (hb hby own_d2_107) rfl ((if0 _ _).trans (feq c12).1) k) ?_
              refine own_go (T' := s₁) (g' := (mkF m 111 #[.val (.int u), .val (.int t), .val (.int z1), .val (.int z4), .val (.int z7)] [(.int (1 : Int32))])) (fun _ k => XS.iconst X0.here hx rfl (hb hby own_d2_110) k) ?_
              refine own_go (T' := s₁) (g' := (mkF m 115 #[.val (.int u), .val (.int t), .val (.int z1), .val (.int z4), .val (.int z7)] [(.int (1 : Int32))])) (fun _ k => XS.goto X0.here hx rfl (pc0 := 111) (pc' := 115) rfl (hb hby own_d2_111) (by decide) (by decide) k) ?_
              refine own_ret X0 Bd.notSynchronized (some (.int (1 : Int32))) (fun h => by rw [Bd.returns] at h; cases h) (fun fs hr => retN X0 hx (t := .boolean) Bd.returns (by simp) (hb hby own_d2_115) hr) ?_ (by decide) (by decide)
              show (own_Q2 Z u t h0 n0) (some (.int (1 : Int32))) s₁.heap _
              rw [e0]
              exact ⟨by rw [if_pos (by (try simp only [own_ln2147483648, own_l0, own_l1, own_l2, own_l3, own_l4, own_l5, own_l6, own_l7, own_l8, own_l9, own_l10, own_l13, own_l15, own_l32, own_l55295, own_l55296, own_l57343, own_l57344, own_l65533, own_l65534, own_l65535, own_l65536, own_l1114111, own_l1114112, Int32.lt_iff_toInt_lt, ← Int32.toInt_inj, Int64.lt_iff_toInt_lt, ← Int64.toInt_inj, and_true, true_and, and_false, false_and, or_true, true_or, or_false, false_or, not_true_eq_false, not_false_eq_true, ne_eq, true_implies, false_implies, implies_true] at hz2 hz5 hz8 c10 c11 c12 ⊢) <;> omega)], NF, rfl⟩
          · refine own_go (T' := s₁) (g' := (mkF m 110 #[.val (.int u), .val (.int t), .val (.int z1), .val (.int z4), .val (.int z7)] [])) (fun _ k => XS.ifYes X0.here hx rfl (pc0 := 102) (pc' := 110) rfl (hb hby own_d2_102) rfl ((if0 _ _).trans (feq c11).2) (by decide) (by decide) k) ?_
            refine own_go (T' := s₁) (g' := (mkF m 111 #[.val (.int u), .val (.int t), .val (.int z1), .val (.int z4), .val (.int z7)] [(.int (1 : Int32))])) (fun _ k => XS.iconst X0.here hx rfl (hb hby own_d2_110) k) ?_
            refine own_go (T' := s₁) (g' := (mkF m 115 #[.val (.int u), .val (.int t), .val (.int z1), .val (.int z4), .val (.int z7)] [(.int (1 : Int32))])) (fun _ k => XS.goto X0.here hx rfl (pc0 := 111) (pc' := 115) rfl (hb hby own_d2_111) (by decide) (by decide) k) ?_
            refine own_ret X0 Bd.notSynchronized (some (.int (1 : Int32))) (fun h => by rw [Bd.returns] at h; cases h) (fun fs hr => retN X0 hx (t := .boolean) Bd.returns (by simp) (hb hby own_d2_115) hr) ?_ (by decide) (by decide)
            show (own_Q2 Z u t h0 n0) (some (.int (1 : Int32))) s₁.heap _
            rw [e0]
            exact ⟨by rw [if_pos (by (try simp only [own_ln2147483648, own_l0, own_l1, own_l2, own_l3, own_l4, own_l5, own_l6, own_l7, own_l8, own_l9, own_l10, own_l13, own_l15, own_l32, own_l55295, own_l55296, own_l57343, own_l57344, own_l65533, own_l65534, own_l65535, own_l65536, own_l1114111, own_l1114112, Int32.lt_iff_toInt_lt, ← Int32.toInt_inj, Int64.lt_iff_toInt_lt, ← Int64.toInt_inj, and_true, true_and, and_false, false_and, or_true, true_or, or_false, false_or, not_true_eq_false, not_false_eq_true, ne_eq, true_implies, false_implies, implies_true] at hz2 hz5 hz8 c10 c11 ⊢) <;> omega)], NF, rfl⟩
        · refine own_go (T' := s₁) (g' := (mkF m 110 #[.val (.int u), .val (.int t), .val (.int z1), .val (.int z4), .val (.int z7)] [])) (fun _ k => XS.ifYes X0.here hx rfl (pc0 := 98) (pc' := 110) rfl (hb hby own_d2_98) rfl ((if0 _ _).trans (feq c10).2) (by decide) (by decide) k) ?_
          refine own_go (T' := s₁) (g' := (mkF m 111 #[.val (.int u), .val (.int t), .val (.int z1), .val (.int z4), .val (.int z7)] [(.int (1 : Int32))])) (fun _ k => XS.iconst X0.here hx rfl (hb hby own_d2_110) k) ?_
          refine own_go (T' := s₁) (g' := (mkF m 115 #[.val (.int u), .val (.int t), .val (.int z1), .val (.int z4), .val (.int z7)] [(.int (1 : Int32))])) (fun _ k => XS.goto X0.here hx rfl (pc0 := 111) (pc' := 115) rfl (hb hby own_d2_111) (by decide) (by decide) k) ?_
          refine own_ret X0 Bd.notSynchronized (some (.int (1 : Int32))) (fun h => by rw [Bd.returns] at h; cases h) (fun fs hr => retN X0 hx (t := .boolean) Bd.returns (by simp) (hb hby own_d2_115) hr) ?_ (by decide) (by decide)
          show (own_Q2 Z u t h0 n0) (some (.int (1 : Int32))) s₁.heap _
          rw [e0]
          exact ⟨by rw [if_pos (by (try simp only [own_ln2147483648, own_l0, own_l1, own_l2, own_l3, own_l4, own_l5, own_l6, own_l7, own_l8, own_l9, own_l10, own_l13, own_l15, own_l32, own_l55295, own_l55296, own_l57343, own_l57344, own_l65533, own_l65534, own_l65535, own_l65536, own_l1114111, own_l1114112, Int32.lt_iff_toInt_lt, ← Int32.toInt_inj, Int64.lt_iff_toInt_lt, ← Int64.toInt_inj, and_true, true_and, and_false, false_and, or_true, true_or, or_false, false_or, not_true_eq_false, not_false_eq_true, ne_eq, true_implies, false_implies, implies_true] at hz2 hz5 hz8 c10 ⊢) <;> omega)], NF, rfl⟩
      refine own_go (T' := s₁) (g' := (mkF m 79 #[.val (.int u), .val (.int t), .val (.int z1), .val (.int z4), .unset] [(.int u)])) (fun _ k => XS.iloadN X0.here hx rfl (hb hby own_d2_78) rfl k) ?_
      refine own_go (T' := s₁) (g' := (mkF m 81 #[.val (.int u), .val (.int t), .val (.int z1), .val (.int z4), .unset] [(.int (65536 : Int32)), (.int u)])) (fun _ k => X0.ldcInt hx hown (mvT hZ (hw _ (List.mem_of_getElem? (i := 4) rfl))) (g := (mkF m 79 #[.val (.int u), .val (.int t), .val (.int z1), .val (.int z4), .unset] [(.int u)])) rfl (hb hby own_d2_79) _ k) ?_
      by_cases c13 : u < (65536 : Int32)
      · refine own_go (T' := s₁) (g' := (mkF m 94 #[.val (.int u), .val (.int t), .val (.int z1), .val (.int z4), .unset] [])) (fun _ k => XS.icmpYes X0.here hx rfl (pc0 := 81) (pc' := 94) rfl (hb hby own_d2_81) rfl (tlt c13).1 (by decide) (by decide) k) ?_
        refine own_go (T' := s₁) (g' := (mkF m 95 #[.val (.int u), .val (.int t), .val (.int z1), .val (.int z4), .unset] [(.int (0 : Int32))])) (fun _ k => XS.iconst X0.here hx rfl (hb hby own_d2_94) k) ?_
        refine own_go (T' := s₁) (g' := (mkF m 97 #[.val (.int u), .val (.int t), .val (.int z1), .val (.int z4), .val (.int (0 : Int32))] [])) (fun _ k => XS.istore X0.here hx rfl (hb hby own_d2_95) rfl (l' := #[.val (.int u), .val (.int t), .val (.int z1), .val (.int z4), .val (.int (0 : Int32))]) rfl k) ?_
        exact J9 _ (by (try simp only [own_ln2147483648, own_l0, own_l1, own_l2, own_l3, own_l4, own_l5, own_l6, own_l7, own_l8, own_l9, own_l10, own_l13, own_l15, own_l32, own_l55295, own_l55296, own_l57343, own_l57344, own_l65533, own_l65534, own_l65535, own_l65536, own_l1114111, own_l1114112, Int32.lt_iff_toInt_lt, ← Int32.toInt_inj, Int64.lt_iff_toInt_lt, ← Int64.toInt_inj, and_true, true_and, and_false, false_and, or_true, true_or, or_false, false_or, not_true_eq_false, not_false_eq_true, ne_eq, true_implies, false_implies, implies_true] at hz2 hz5 c13 ⊢) <;> omega)
      · refine own_go (T' := s₁) (g' := (mkF m 84 #[.val (.int u), .val (.int t), .val (.int z1), .val (.int z4), .unset] [])) (fun _ k => XS.icmpNo X0.here hx rfl (hb hby own_d2_81) rfl (flt c13).1 k) ?_
        refine own_go (T' := s₁) (g' := (mkF m 85 #[.val (.int u), .val (.int t), .val (.int z1), .val (.int z4), .unset] [(.int u)])) (fun _ k => XS.iloadN X0.here hx rfl (hb hby own_d2_84) rfl k) ?_
        refine own_go (T' := s₁) (g' := (mkF m 87 #[.val (.int u), .val (.int t), .val (.int z1), .val (.int z4), .unset] [(.int (1114111 : Int32)), (.int u)])) (fun _ k => X0.ldcInt hx hown (mvT hZ (hw _ (List.mem_of_getElem? (i := 22) rfl))) (g := (mkF m 85 #[.val (.int u), .val (.int t), .val (.int z1), .val (.int z4), .unset] [(.int u)])) rfl (hb hby own_d2_85) _ k) ?_
        by_cases c14 : (1114111 : Int32) < u
        · refine own_go (T' := s₁) (g' := (mkF m 94 #[.val (.int u), .val (.int t), .val (.int z1), .val (.int z4), .unset] [])) (fun _ k => XS.icmpYes X0.here hx rfl (pc0 := 87) (pc' := 94) rfl (hb hby own_d2_87) rfl (tlt c14).2.2.1 (by decide) (by decide) k) ?_
          refine own_go (T' := s₁) (g' := (mkF m 95 #[.val (.int u), .val (.int t), .val (.int z1), .val (.int z4), .unset] [(.int (0 : Int32))])) (fun _ k => XS.iconst X0.here hx rfl (hb hby own_d2_94) k) ?_
          refine own_go (T' := s₁) (g' := (mkF m 97 #[.val (.int u), .val (.int t), .val (.int z1), .val (.int z4), .val (.int (0 : Int32))] [])) (fun _ k => XS.istore X0.here hx rfl (hb hby own_d2_95) rfl (l' := #[.val (.int u), .val (.int t), .val (.int z1), .val (.int z4), .val (.int (0 : Int32))]) rfl k) ?_
          exact J9 _ (by (try simp only [own_ln2147483648, own_l0, own_l1, own_l2, own_l3, own_l4, own_l5, own_l6, own_l7, own_l8, own_l9, own_l10, own_l13, own_l15, own_l32, own_l55295, own_l55296, own_l57343, own_l57344, own_l65533, own_l65534, own_l65535, own_l65536, own_l1114111, own_l1114112, Int32.lt_iff_toInt_lt, ← Int32.toInt_inj, Int64.lt_iff_toInt_lt, ← Int64.toInt_inj, and_true, true_and, and_false, false_and, or_true, true_or, or_false, false_or, not_true_eq_false, not_false_eq_true, ne_eq, true_implies, false_implies, implies_true] at hz2 hz5 c13 c14 ⊢) <;> omega)
        · refine own_go (T' := s₁) (g' := (mkF m 90 #[.val (.int u), .val (.int t), .val (.int z1), .val (.int z4), .unset] [])) (fun _ k => XS.icmpNo X0.here hx rfl (hb hby own_d2_87) rfl (flt c14).2.2.1 k) ?_
          refine own_go (T' := s₁) (g' := (mkF m 91 #[.val (.int u), .val (.int t), .val (.int z1), .val (.int z4), .unset] [(.int (1 : Int32))])) (fun _ k => XS.iconst X0.here hx rfl (hb hby own_d2_90) k) ?_
          refine own_go (T' := s₁) (g' := (mkF m 95 #[.val (.int u), .val (.int t), .val (.int z1), .val (.int z4), .unset] [(.int (1 : Int32))])) (fun _ k => XS.goto X0.here hx rfl (pc0 := 91) (pc' := 95) rfl (hb hby own_d2_91) (by decide) (by decide) k) ?_
          refine own_go (T' := s₁) (g' := (mkF m 97 #[.val (.int u), .val (.int t), .val (.int z1), .val (.int z4), .val (.int (1 : Int32))] [])) (fun _ k => XS.istore X0.here hx rfl (hb hby own_d2_95) rfl (l' := #[.val (.int u), .val (.int t), .val (.int z1), .val (.int z4), .val (.int (1 : Int32))]) rfl k) ?_
          exact J9 _ (by (try simp only [own_ln2147483648, own_l0, own_l1, own_l2, own_l3, own_l4, own_l5, own_l6, own_l7, own_l8, own_l9, own_l10, own_l13, own_l15, own_l32, own_l55295, own_l55296, own_l57343, own_l57344, own_l65533, own_l65534, own_l65535, own_l65536, own_l1114111, own_l1114112, Int32.lt_iff_toInt_lt, ← Int32.toInt_inj, Int64.lt_iff_toInt_lt, ← Int64.toInt_inj, and_true, true_and, and_false, false_and, or_true, true_or, or_false, false_or, not_true_eq_false, not_false_eq_true, ne_eq, true_implies, false_implies, implies_true] at hz2 hz5 c13 c14 ⊢) <;> omega)
    refine own_go (T' := s₁) (g' := (mkF m 61 #[.val (.int u), .val (.int t), .val (.int z1), .unset, .unset] [(.int u)])) (fun _ k => XS.iloadN X0.here hx rfl (hb hby own_d2_60) rfl k) ?_
    refine own_go (T' := s₁) (g' := (mkF m 63 #[.val (.int u), .val (.int t), .val (.int z1), .unset, .unset] [(.int (57344 : Int32)), (.int u)])) (fun _ k => X0.ldcInt hx hown (mvT hZ (hw _ (List.mem_of_getElem? (i := 2) rfl))) (g := (mkF m 61 #[.val (.int u), .val (.int t), .val (.int z1), .unset, .unset] [(.int u)])) rfl (hb hby own_d2_61) _ k) ?_
    by_cases c15 : u < (57344 : Int32)
    · refine own_go (T' := s₁) (g' := (mkF m 76 #[.val (.int u), .val (.int t), .val (.int z1), .unset, .unset] [])) (fun _ k => XS.icmpYes X0.here hx rfl (pc0 := 63) (pc' := 76) rfl (hb hby own_d2_63) rfl (tlt c15).1 (by decide) (by decide) k) ?_
      refine own_go (T' := s₁) (g' := (mkF m 77 #[.val (.int u), .val (.int t), .val (.int z1), .unset, .unset] [(.int (0 : Int32))])) (fun _ k => XS.iconst X0.here hx rfl (hb hby own_d2_76) k) ?_
      refine own_go (T' := s₁) (g' := (mkF m 78 #[.val (.int u), .val (.int t), .val (.int z1), .val (.int (0 : Int32)), .unset] [])) (fun _ k => XS.istoreN X0.here hx rfl (hb hby own_d2_77) rfl (l' := #[.val (.int u), .val (.int t), .val (.int z1), .val (.int (0 : Int32)), .unset]) rfl k) ?_
      exact J6 _ (by (try simp only [own_ln2147483648, own_l0, own_l1, own_l2, own_l3, own_l4, own_l5, own_l6, own_l7, own_l8, own_l9, own_l10, own_l13, own_l15, own_l32, own_l55295, own_l55296, own_l57343, own_l57344, own_l65533, own_l65534, own_l65535, own_l65536, own_l1114111, own_l1114112, Int32.lt_iff_toInt_lt, ← Int32.toInt_inj, Int64.lt_iff_toInt_lt, ← Int64.toInt_inj, and_true, true_and, and_false, false_and, or_true, true_or, or_false, false_or, not_true_eq_false, not_false_eq_true, ne_eq, true_implies, false_implies, implies_true] at hz2 c15 ⊢) <;> omega)
    · refine own_go (T' := s₁) (g' := (mkF m 66 #[.val (.int u), .val (.int t), .val (.int z1), .unset, .unset] [])) (fun _ k => XS.icmpNo X0.here hx rfl (hb hby own_d2_63) rfl (flt c15).1 k) ?_
      refine own_go (T' := s₁) (g' := (mkF m 67 #[.val (.int u), .val (.int t), .val (.int z1), .unset, .unset] [(.int u)])) (fun _ k => XS.iloadN X0.here hx rfl (hb hby own_d2_66) rfl k) ?_
      refine own_go (T' := s₁) (g' := (mkF m 69 #[.val (.int u), .val (.int t), .val (.int z1), .unset, .unset] [(.int (65533 : Int32)), (.int u)])) (fun _ k => X0.ldcInt hx hown (mvT hZ (hw _ (List.mem_of_getElem? (i := 21) rfl))) (g := (mkF m 67 #[.val (.int u), .val (.int t), .val (.int z1), .unset, .unset] [(.int u)])) rfl (hb hby own_d2_67) _ k) ?_
      by_cases c16 : (65533 : Int32) < u
      · refine own_go (T' := s₁) (g' := (mkF m 76 #[.val (.int u), .val (.int t), .val (.int z1), .unset, .unset] [])) (fun _ k => XS.icmpYes X0.here hx rfl (pc0 := 69) (pc' := 76) rfl (hb hby own_d2_69) rfl (tlt c16).2.2.1 (by decide) (by decide) k) ?_
        refine own_go (T' := s₁) (g' := (mkF m 77 #[.val (.int u), .val (.int t), .val (.int z1), .unset, .unset] [(.int (0 : Int32))])) (fun _ k => XS.iconst X0.here hx rfl (hb hby own_d2_76) k) ?_
        refine own_go (T' := s₁) (g' := (mkF m 78 #[.val (.int u), .val (.int t), .val (.int z1), .val (.int (0 : Int32)), .unset] [])) (fun _ k => XS.istoreN X0.here hx rfl (hb hby own_d2_77) rfl (l' := #[.val (.int u), .val (.int t), .val (.int z1), .val (.int (0 : Int32)), .unset]) rfl k) ?_
        exact J6 _ (by (try simp only [own_ln2147483648, own_l0, own_l1, own_l2, own_l3, own_l4, own_l5, own_l6, own_l7, own_l8, own_l9, own_l10, own_l13, own_l15, own_l32, own_l55295, own_l55296, own_l57343, own_l57344, own_l65533, own_l65534, own_l65535, own_l65536, own_l1114111, own_l1114112, Int32.lt_iff_toInt_lt, ← Int32.toInt_inj, Int64.lt_iff_toInt_lt, ← Int64.toInt_inj, and_true, true_and, and_false, false_and, or_true, true_or, or_false, false_or, not_true_eq_false, not_false_eq_true, ne_eq, true_implies, false_implies, implies_true] at hz2 c15 c16 ⊢) <;> omega)
      · refine own_go (T' := s₁) (g' := (mkF m 72 #[.val (.int u), .val (.int t), .val (.int z1), .unset, .unset] [])) (fun _ k => XS.icmpNo X0.here hx rfl (hb hby own_d2_69) rfl (flt c16).2.2.1 k) ?_
        refine own_go (T' := s₁) (g' := (mkF m 73 #[.val (.int u), .val (.int t), .val (.int z1), .unset, .unset] [(.int (1 : Int32))])) (fun _ k => XS.iconst X0.here hx rfl (hb hby own_d2_72) k) ?_
        refine own_go (T' := s₁) (g' := (mkF m 77 #[.val (.int u), .val (.int t), .val (.int z1), .unset, .unset] [(.int (1 : Int32))])) (fun _ k => XS.goto X0.here hx rfl (pc0 := 73) (pc' := 77) rfl (hb hby own_d2_73) (by decide) (by decide) k) ?_
        refine own_go (T' := s₁) (g' := (mkF m 78 #[.val (.int u), .val (.int t), .val (.int z1), .val (.int (1 : Int32)), .unset] [])) (fun _ k => XS.istoreN X0.here hx rfl (hb hby own_d2_77) rfl (l' := #[.val (.int u), .val (.int t), .val (.int z1), .val (.int (1 : Int32)), .unset]) rfl k) ?_
        exact J6 _ (by (try simp only [own_ln2147483648, own_l0, own_l1, own_l2, own_l3, own_l4, own_l5, own_l6, own_l7, own_l8, own_l9, own_l10, own_l13, own_l15, own_l32, own_l55295, own_l55296, own_l57343, own_l57344, own_l65533, own_l65534, own_l65535, own_l65536, own_l1114111, own_l1114112, Int32.lt_iff_toInt_lt, ← Int32.toInt_inj, Int64.lt_iff_toInt_lt, ← Int64.toInt_inj, and_true, true_and, and_false, false_and, or_true, true_or, or_false, false_or, not_true_eq_false, not_false_eq_true, ne_eq, true_implies, false_implies, implies_true] at hz2 c15 c16 ⊢) <;> omega)
  refine own_go (T' := s₁) (g' := (mkF m 1 #[.val (.int u), .val (.int t), .unset, .unset, .unset] [(.int t)])) (fun _ k => XS.iloadN X0.here hx rfl (hb hby own_d2_0) rfl k) ?_
  by_cases c17 : t = (0 : Int32)
  · refine own_go (T' := s₁) (g' := (mkF m 24 #[.val (.int u), .val (.int t), .unset, .unset, .unset] [])) (fun _ k => XS.ifYes X0.here hx rfl (pc0 := 1) (pc' := 24) rfl (hb hby own_d2_1) rfl ((if0 _ _).trans (teq c17).1) (by decide) (by decide) k) ?_
    refine own_go (T' := s₁) (g' := (mkF m 25 #[.val (.int u), .val (.int t), .unset, .unset, .unset] [(.int u)])) (fun _ k => XS.iloadN X0.here hx rfl (hb hby own_d2_24) rfl k) ?_
    refine own_go (T' := s₁) (g' := (mkF m 27 #[.val (.int u), .val (.int t), .unset, .unset, .unset] [(.int (9 : Int32)), (.int u)])) (fun _ k => XS.bipush X0.here hx rfl (hb hby own_d2_25) k) ?_
    by_cases c18 : u = (9 : Int32)
    · refine own_go (T' := s₁) (g' := (mkF m 54 #[.val (.int u), .val (.int t), .unset, .unset, .unset] [])) (fun _ k => XS.icmpYes X0.here hx rfl (pc0 := 27) (pc' := 54) rfl (hb hby own_d2_27) rfl (teq c18).1 (by decide) (by decide) k) ?_
      refine own_go (T' := s₁) (g' := (mkF m 55 #[.val (.int u), .val (.int t), .unset, .unset, .unset] [(.int (1 : Int32))])) (fun _ k => XS.iconst X0.here hx rfl (hb hby own_d2_54) k) ?_
      refine own_go (T' := s₁) (g' := (mkF m 59 #[.val (.int u), .val (.int t), .unset, .unset, .unset] [(.int (1 : Int32))])) (fun _ k => XS.goto X0.here hx rfl (pc0 := 55) (pc' := 59) rfl (hb hby own_d2_55) (by decide) (by decide) k) ?_
      refine own_go (T' := s₁) (g' := (mkF m 60 #[.val (.int u), .val (.int t), .val (.int (1 : Int32)), .unset, .unset] [])) (fun _ k => XS.istoreN X0.here hx rfl (hb hby own_d2_59) rfl (l' := #[.val (.int u), .val (.int t), .val (.int (1 : Int32)), .unset, .unset]) rfl k) ?_
      exact J3 _ (by (try simp only [own_ln2147483648, own_l0, own_l1, own_l2, own_l3, own_l4, own_l5, own_l6, own_l7, own_l8, own_l9, own_l10, own_l13, own_l15, own_l32, own_l55295, own_l55296, own_l57343, own_l57344, own_l65533, own_l65534, own_l65535, own_l65536, own_l1114111, own_l1114112, Int32.lt_iff_toInt_lt, ← Int32.toInt_inj, Int64.lt_iff_toInt_lt, ← Int64.toInt_inj, and_true, true_and, and_false, false_and, or_true, true_or, or_false, false_or, not_true_eq_false, not_false_eq_true, ne_eq, true_implies, false_implies, implies_true] at c17 c18 ⊢) <;> omega)
    · refine own_go (T' := s₁) (g' := (mkF m 30 #[.val (.int u), .val (.int t), .unset, .unset, .unset] [])) (fun _ k => XS.icmpNo X0.here hx rfl (hb hby own_d2_27) rfl (feq c18).1 k) ?_
      refine own_go (T' := s₁) (g' := (mkF m 31 #[.val (.int u), .val (.int t), .unset, .unset, .unset] [(.int u)])) (fun _ k => XS.iloadN X0.here hx rfl (hb hby own_d2_30) rfl k) ?_
      refine own_go (T' := s₁) (g' := (mkF m 33 #[.val (.int u), .val (.int t), .unset, .unset, .unset] [(.int (10 : Int32)), (.int u)])) (fun _ k => XS.bipush X0.here hx rfl (hb hby own_d2_31) k) ?_
      by_cases c19 : u = (10 : Int32)
      · refine own_go (T' := s₁) (g' := (mkF m 54 #[.val (.int u), .val (.int t), .unset, .unset, .unset] [])) (fun _ k => XS.icmpYes X0.here hx rfl (pc0 := 33) (pc' := 54) rfl (hb hby own_d2_33) rfl (teq c19).1 (by decide) (by decide) k) ?_
        refine own_go (T' := s₁) (g' := (mkF m 55 #[.val (.int u), .val (.int t), .unset, .unset, .unset] [(.int (1 : Int32))])) (fun _ k => XS.iconst X0.here hx rfl (hb hby own_d2_54) k) ?_
        refine own_go (T' := s₁) (g' := (mkF m 59 #[.val (.int u), .val (.int t), .unset, .unset, .unset] [(.int (1 : Int32))])) (fun _ k => XS.goto X0.here hx rfl (pc0 := 55) (pc' := 59) rfl (hb hby own_d2_55) (by decide) (by decide) k) ?_
        refine own_go (T' := s₁) (g' := (mkF m 60 #[.val (.int u), .val (.int t), .val (.int (1 : Int32)), .unset, .unset] [])) (fun _ k => XS.istoreN X0.here hx rfl (hb hby own_d2_59) rfl (l' := #[.val (.int u), .val (.int t), .val (.int (1 : Int32)), .unset, .unset]) rfl k) ?_
        exact J3 _ (by (try simp only [own_ln2147483648, own_l0, own_l1, own_l2, own_l3, own_l4, own_l5, own_l6, own_l7, own_l8, own_l9, own_l10, own_l13, own_l15, own_l32, own_l55295, own_l55296, own_l57343, own_l57344, own_l65533, own_l65534, own_l65535, own_l65536, own_l1114111, own_l1114112, Int32.lt_iff_toInt_lt, ← Int32.toInt_inj, Int64.lt_iff_toInt_lt, ← Int64.toInt_inj, and_true, true_and, and_false, false_and, or_true, true_or, or_false, false_or, not_true_eq_false, not_false_eq_true, ne_eq, true_implies, false_implies, implies_true] at c17 c18 c19 ⊢) <;> omega)
      · refine own_go (T' := s₁) (g' := (mkF m 36 #[.val (.int u), .val (.int t), .unset, .unset, .unset] [])) (fun _ k => XS.icmpNo X0.here hx rfl (hb hby own_d2_33) rfl (feq c19).1 k) ?_
        refine own_go (T' := s₁) (g' := (mkF m 37 #[.val (.int u), .val (.int t), .unset, .unset, .unset] [(.int u)])) (fun _ k => XS.iloadN X0.here hx rfl (hb hby own_d2_36) rfl k) ?_
        refine own_go (T' := s₁) (g' := (mkF m 39 #[.val (.int u), .val (.int t), .unset, .unset, .unset] [(.int (13 : Int32)), (.int u)])) (fun _ k => XS.bipush X0.here hx rfl (hb hby own_d2_37) k) ?_
        by_cases c20 : u = (13 : Int32)
        · refine own_go (T' := s₁) (g' := (mkF m 54 #[.val (.int u), .val (.int t), .unset, .unset, .unset] [])) (fun _ k => XS.icmpYes X0.here hx rfl (pc0 := 39) (pc' := 54) rfl (hb hby own_d2_39) rfl (teq c20).1 (by decide) (by decide) k) ?_
          refine own_go (T' := s₁) (g' := (mkF m 55 #[.val (.int u), .val (.int t), .unset, .unset, .unset] [(.int (1 : Int32))])) (fun _ k => XS.iconst X0.here hx rfl (hb hby own_d2_54) k) ?_
          refine own_go (T' := s₁) (g' := (mkF m 59 #[.val (.int u), .val (.int t), .unset, .unset, .unset] [(.int (1 : Int32))])) (fun _ k => XS.goto X0.here hx rfl (pc0 := 55) (pc' := 59) rfl (hb hby own_d2_55) (by decide) (by decide) k) ?_
          refine own_go (T' := s₁) (g' := (mkF m 60 #[.val (.int u), .val (.int t), .val (.int (1 : Int32)), .unset, .unset] [])) (fun _ k => XS.istoreN X0.here hx rfl (hb hby own_d2_59) rfl (l' := #[.val (.int u), .val (.int t), .val (.int (1 : Int32)), .unset, .unset]) rfl k) ?_
          exact J3 _ (by (try simp only [own_ln2147483648, own_l0, own_l1, own_l2, own_l3, own_l4, own_l5, own_l6, own_l7, own_l8, own_l9, own_l10, own_l13, own_l15, own_l32, own_l55295, own_l55296, own_l57343, own_l57344, own_l65533, own_l65534, own_l65535, own_l65536, own_l1114111, own_l1114112, Int32.lt_iff_toInt_lt, ← Int32.toInt_inj, Int64.lt_iff_toInt_lt, ← Int64.toInt_inj, and_true, true_and, and_false, false_and, or_true, true_or, or_false, false_or, not_true_eq_false, not_false_eq_true, ne_eq, true_implies, false_implies, implies_true] at c17 c18 c19 c20 ⊢) <;> omega)
        · refine own_go (T' := s₁) (g' := (mkF m 42 #[.val (.int u), .val (.int t), .unset, .unset, .unset] [])) (fun _ k => XS.icmpNo X0.here hx rfl (hb hby own_d2_39) rfl (feq c20).1 k) ?_
          refine own_go (T' := s₁) (g' := (mkF m 43 #[.val (.int u), .val (.int t), .unset, .unset, .unset] [(.int u)])) (fun _ k => XS.iloadN X0.here hx rfl (hb hby own_d2_42) rfl k) ?_
          refine own_go (T' := s₁) (g' := (mkF m 45 #[.val (.int u), .val (.int t), .unset, .unset, .unset] [(.int (32 : Int32)), (.int u)])) (fun _ k => XS.bipush X0.here hx rfl (hb hby own_d2_43) k) ?_
          by_cases c21 : u < (32 : Int32)
          · refine own_go (T' := s₁) (g' := (mkF m 58 #[.val (.int u), .val (.int t), .unset, .unset, .unset] [])) (fun _ k => XS.icmpYes X0.here hx rfl (pc0 := 45) (pc' := 58) rfl (hb hby own_d2_45) rfl (tlt c21).1 (by decide) (by decide) k) ?_
            refine own_go (T' := s₁) (g' := (mkF m 59 #[.val (.int u), .val (.int t), .unset, .unset, .unset] [(.int (0 : Int32))])) (fun _ k => XS.iconst X0.here hx rfl (hb hby own_d2_58) k) ?_
            refine own_go (T' := s₁) (g' := (mkF m 60 #[.val (.int u), .val (.int t), .val (.int (0 : Int32)), .unset, .unset] [])) (fun _ k => XS.istoreN X0.here hx rfl (hb hby own_d2_59) rfl (l' := #[.val (.int u), .val (.int t), .val (.int (0 : Int32)), .unset, .unset]) rfl k) ?_
            exact J3 _ (by (try simp only [own_ln2147483648, own_l0, own_l1, own_l2, own_l3, own_l4, own_l5, own_l6, own_l7, own_l8, own_l9, own_l10, own_l13, own_l15, own_l32, own_l55295, own_l55296, own_l57343, own_l57344, own_l65533, own_l65534, own_l65535, own_l65536, own_l1114111, own_l1114112, Int32.lt_iff_toInt_lt, ← Int32.toInt_inj, Int64.lt_iff_toInt_lt, ← Int64.toInt_inj, and_true, true_and, and_false, false_and, or_true, true_or, or_false, false_or, not_true_eq_false, not_false_eq_true, ne_eq, true_implies, false_implies, implies_true] at c17 c18 c19 c20 c21 ⊢) <;> omega)
          · refine own_go (T' := s₁) (g' := (mkF m 48 #[.val (.int u), .val (.int t), .unset, .unset, .unset] [])) (fun _ k => XS.icmpNo X0.here hx rfl (hb hby own_d2_45) rfl (flt c21).1 k) ?_
            refine own_go (T' := s₁) (g' := (mkF m 49 #[.val (.int u), .val (.int t), .unset, .unset, .unset] [(.int u)])) (fun _ k => XS.iloadN X0.here hx rfl (hb hby own_d2_48) rfl k) ?_
            refine own_go (T' := s₁) (g' := (mkF m 51 #[.val (.int u), .val (.int t), .unset, .unset, .unset] [(.int (55295 : Int32)), (.int u)])) (fun _ k => X0.ldcInt hx hown (mvT hZ (hw _ (List.mem_of_getElem? (i := 19) rfl))) (g := (mkF m 49 #[.val (.int u), .val (.int t), .unset, .unset, .unset] [(.int u)])) rfl (hb hby own_d2_49) _ k) ?_
            by_cases c22 : (55295 : Int32) < u
            · refine own_go (T' := s₁) (g' := (mkF m 58 #[.val (.int u), .val (.int t), .unset, .unset, .unset] [])) (fun _ k => XS.icmpYes X0.here hx rfl (pc0 := 51) (pc' := 58) rfl (hb hby own_d2_51) rfl (tlt c22).2.2.1 (by decide) (by decide) k) ?_
              refine own_go (T' := s₁) (g' := (mkF m 59 #[.val (.int u), .val (.int t), .unset, .unset, .unset] [(.int (0 : Int32))])) (fun _ k => XS.iconst X0.here hx rfl (hb hby own_d2_58) k) ?_
              refine own_go (T' := s₁) (g' := (mkF m 60 #[.val (.int u), .val (.int t), .val (.int (0 : Int32)), .unset, .unset] [])) (fun _ k => XS.istoreN X0.here hx rfl (hb hby own_d2_59) rfl (l' := #[.val (.int u), .val (.int t), .val (.int (0 : Int32)), .unset, .unset]) rfl k) ?_
              exact J3 _ (by (try simp only [own_ln2147483648, own_l0, own_l1, own_l2, own_l3, own_l4, own_l5, own_l6, own_l7, own_l8, own_l9, own_l10, own_l13, own_l15, own_l32, own_l55295, own_l55296, own_l57343, own_l57344, own_l65533, own_l65534, own_l65535, own_l65536, own_l1114111, own_l1114112, Int32.lt_iff_toInt_lt, ← Int32.toInt_inj, Int64.lt_iff_toInt_lt, ← Int64.toInt_inj, and_true, true_and, and_false, false_and, or_true, true_or, or_false, false_or, not_true_eq_false, not_false_eq_true, ne_eq, true_implies, false_implies, implies_true] at c17 c18 c19 c20 c21 c22 ⊢) <;> omega)
            · refine own_go (T' := s₁) (g' := (mkF m 54 #[.val (.int u), .val (.int t), .unset, .unset, .unset] [])) (fun _ k => XS.icmpNo X0.here hx rfl (hb hby own_d2_51) rfl (flt c22).2.2.1 k) ?_
              refine own_go (T' := s₁) (g' := (mkF m 55 #[.val (.int u), .val (.int t), .unset, .unset, .unset] [(.int (1 : Int32))])) (fun _ k => XS.iconst X0.here hx rfl (hb hby own_d2_54) k) ?_
              refine own_go (T' := s₁) (g' := (mkF m 59 #[.val (.int u), .val (.int t), .unset, .unset, .unset] [(.int (1 : Int32))])) (fun _ k => XS.goto X0.here hx rfl (pc0 := 55) (pc' := 59) rfl (hb hby own_d2_55) (by decide) (by decide) k) ?_
              refine own_go (T' := s₁) (g' := (mkF m 60 #[.val (.int u), .val (.int t), .val (.int (1 : Int32)), .unset, .unset] [])) (fun _ k => XS.istoreN X0.here hx rfl (hb hby own_d2_59) rfl (l' := #[.val (.int u), .val (.int t), .val (.int (1 : Int32)), .unset, .unset]) rfl k) ?_
              exact J3 _ (by (try simp only [own_ln2147483648, own_l0, own_l1, own_l2, own_l3, own_l4, own_l5, own_l6, own_l7, own_l8, own_l9, own_l10, own_l13, own_l15, own_l32, own_l55295, own_l55296, own_l57343, own_l57344, own_l65533, own_l65534, own_l65535, own_l65536, own_l1114111, own_l1114112, Int32.lt_iff_toInt_lt, ← Int32.toInt_inj, Int64.lt_iff_toInt_lt, ← Int64.toInt_inj, and_true, true_and, and_false, false_and, or_true, true_or, or_false, false_or, not_true_eq_false, not_false_eq_true, ne_eq, true_implies, false_implies, implies_true] at c17 c18 c19 c20 c21 c22 ⊢) <;> omega)
  · refine own_go (T' := s₁) (g' := (mkF m 4 #[.val (.int u), .val (.int t), .unset, .unset, .unset] [])) (fun _ k => XS.ifNo X0.here hx rfl (hb hby own_d2_1) rfl ((if0 _ _).trans (feq c17).1) k) ?_
    refine own_go (T' := s₁) (g' := (mkF m 5 #[.val (.int u), .val (.int t), .unset, .unset, .unset] [(.int u)])) (fun _ k => XS.iloadN X0.here hx rfl (hb hby own_d2_4) rfl k) ?_
    refine own_go (T' := s₁) (g' := (mkF m 6 #[.val (.int u), .val (.int t), .unset, .unset, .unset] [(.int (1 : Int32)), (.int u)])) (fun _ k => XS.iconst X0.here hx rfl (hb hby own_d2_5) k) ?_
    by_cases c23 : u < (1 : Int32)
    · refine own_go (T' := s₁) (g' := (mkF m 19 #[.val (.int u), .val (.int t), .unset, .unset, .unset] [])) (fun _ k => XS.icmpYes X0.here hx rfl (pc0 := 6) (pc' := 19) rfl (hb hby own_d2_6) rfl (tlt c23).1 (by decide) (by decide) k) ?_
      refine own_go (T' := s₁) (g' := (mkF m 20 #[.val (.int u), .val (.int t), .unset, .unset, .unset] [(.int (0 : Int32))])) (fun _ k => XS.iconst X0.here hx rfl (hb hby own_d2_19) k) ?_
      refine own_go (T' := s₁) (g' := (mkF m 21 #[.val (.int u), .val (.int t), .val (.int (0 : Int32)), .unset, .unset] [])) (fun _ k => XS.istoreN X0.here hx rfl (hb hby own_d2_20) rfl (l' := #[.val (.int u), .val (.int t), .val (.int (0 : Int32)), .unset, .unset]) rfl k) ?_
      refine own_go (T' := s₁) (g' := (mkF m 60 #[.val (.int u), .val (.int t), .val (.int (0 : Int32)), .unset, .unset] [])) (fun _ k => XS.goto X0.here hx rfl (pc0 := 21) (pc' := 60) rfl (hb hby own_d2_21) (by decide) (by decide) k) ?_
      exact J3 _ (by (try simp only [own_ln2147483648, own_l0, own_l1, own_l2, own_l3, own_l4, own_l5, own_l6, own_l7, own_l8, own_l9, own_l10, own_l13, own_l15, own_l32, own_l55295, own_l55296, own_l57343, own_l57344, own_l65533, own_l65534, own_l65535, own_l65536, own_l1114111, own_l1114112, Int32.lt_iff_toInt_lt, ← Int32.toInt_inj, Int64.lt_iff_toInt_lt, ← Int64.toInt_inj, and_true, true_and, and_false, false_and, or_true, true_or, or_false, false_or, not_true_eq_false, not_false_eq_true, ne_eq, true_implies, false_implies, implies_true] at c17 c23 ⊢) <;> omega)
    · refine own_go (T' := s₁) (g' := (mkF m 9 #[.val (.int u), .val (.int t), .unset, .unset, .unset] [])) (fun _ k => XS.icmpNo X0.here hx rfl (hb hby own_d2_6) rfl (flt c23).1 k) ?_
      refine own_go (T' := s₁) (g' := (mkF m 10 #[.val (.int u), .val (.int t), .unset, .unset, .unset] [(.int u)])) (fun _ k => XS.iloadN X0.here hx rfl (hb hby own_d2_9) rfl k) ?_
      refine own_go (T' := s₁) (g' := (mkF m 12 #[.val (.int u), .val (.int t), .unset, .unset, .unset] [(.int (55295 : Int32)), (.int u)])) (fun _ k => X0.ldcInt hx hown (mvT hZ (hw _ (List.mem_of_getElem? (i := 19) rfl))) (g := (mkF m 10 #[.val (.int u), .val (.int t), .unset, .unset, .unset] [(.int u)])) rfl (hb hby own_d2_10) _ k) ?_
      by_cases c24 : (55295 : Int32) < u
      · refine own_go (T' := s₁) (g' := (mkF m 19 #[.val (.int u), .val (.int t), .unset, .unset, .unset] [])) (fun _ k => XS.icmpYes X0.here hx rfl (pc0 := 12) (pc' := 19) rfl (hb hby own_d2_12) rfl (tlt c24).2.2.1 (by decide) (by decide) k) ?_
        refine own_go (T' := s₁) (g' := (mkF m 20 #[.val (.int u), .val (.int t), .unset, .unset, .unset] [(.int (0 : Int32))])) (fun _ k => XS.iconst X0.here hx rfl (hb hby own_d2_19) k) ?_
        refine own_go (T' := s₁) (g' := (mkF m 21 #[.val (.int u), .val (.int t), .val (.int (0 : Int32)), .unset, .unset] [])) (fun _ k => XS.istoreN X0.here hx rfl (hb hby own_d2_20) rfl (l' := #[.val (.int u), .val (.int t), .val (.int (0 : Int32)), .unset, .unset]) rfl k) ?_
        refine own_go (T' := s₁) (g' := (mkF m 60 #[.val (.int u), .val (.int t), .val (.int (0 : Int32)), .unset, .unset] [])) (fun _ k => XS.goto X0.here hx rfl (pc0 := 21) (pc' := 60) rfl (hb hby own_d2_21) (by decide) (by decide) k) ?_
        exact J3 _ (by (try simp only [own_ln2147483648, own_l0, own_l1, own_l2, own_l3, own_l4, own_l5, own_l6, own_l7, own_l8, own_l9, own_l10, own_l13, own_l15, own_l32, own_l55295, own_l55296, own_l57343, own_l57344, own_l65533, own_l65534, own_l65535, own_l65536, own_l1114111, own_l1114112, Int32.lt_iff_toInt_lt, ← Int32.toInt_inj, Int64.lt_iff_toInt_lt, ← Int64.toInt_inj, and_true, true_and, and_false, false_and, or_true, true_or, or_false, false_or, not_true_eq_false, not_false_eq_true, ne_eq, true_implies, false_implies, implies_true] at c17 c23 c24 ⊢) <;> omega)
      · refine own_go (T' := s₁) (g' := (mkF m 15 #[.val (.int u), .val (.int t), .unset, .unset, .unset] [])) (fun _ k => XS.icmpNo X0.here hx rfl (hb hby own_d2_12) rfl (flt c24).2.2.1 k) ?_
        refine own_go (T' := s₁) (g' := (mkF m 16 #[.val (.int u), .val (.int t), .unset, .unset, .unset] [(.int (1 : Int32))])) (fun _ k => XS.iconst X0.here hx rfl (hb hby own_d2_15) k) ?_
        refine own_go (T' := s₁) (g' := (mkF m 20 #[.val (.int u), .val (.int t), .unset, .unset, .unset] [(.int (1 : Int32))])) (fun _ k => XS.goto X0.here hx rfl (pc0 := 16) (pc' := 20) rfl (hb hby own_d2_16) (by decide) (by decide) k) ?_
        refine own_go (T' := s₁) (g' := (mkF m 21 #[.val (.int u), .val (.int t), .val (.int (1 : Int32)), .unset, .unset] [])) (fun _ k => XS.istoreN X0.here hx rfl (hb hby own_d2_20) rfl (l' := #[.val (.int u), .val (.int t), .val (.int (1 : Int32)), .unset, .unset]) rfl k) ?_
        refine own_go (T' := s₁) (g' := (mkF m 60 #[.val (.int u), .val (.int t), .val (.int (1 : Int32)), .unset, .unset] [])) (fun _ k => XS.goto X0.here hx rfl (pc0 := 21) (pc' := 60) rfl (hb hby own_d2_21) (by decide) (by decide) k) ?_
        exact J3 _ (by (try simp only [own_ln2147483648, own_l0, own_l1, own_l2, own_l3, own_l4, own_l5, own_l6, own_l7, own_l8, own_l9, own_l10, own_l13, own_l15, own_l32, own_l55295, own_l55296, own_l57343, own_l57344, own_l65533, own_l65534, own_l65535, own_l65536, own_l1114111, own_l1114112, Int32.lt_iff_toInt_lt, ← Int32.toInt_inj, Int64.lt_iff_toInt_lt, ← Int64.toInt_inj, and_true, true_and, and_false, false_and, or_true, true_or, or_false, false_or, not_true_eq_false, not_false_eq_true, ne_eq, true_implies, false_implies, implies_true] at c17 c23 c24 ⊢) <;> omega)
theorem own_pn0 : plainName "com/example/tidy_sitemap/tidysitemap/read/XmlCharactersIsCharacterPinLaw" = true := by first | (simp [plainName, overriddenIn]; done) | decide +kernel
theorem own_pd0_0 : parseMethodDescriptor "(IZ)Z" = some ⟨[.int, .boolean], some .boolean⟩ := by decide +kernel
theorem own_ef0 (m : MethodId) (u : Int32) (t : Int32) : entryFrame m #[(.int u), (.int t)] maxLocals = mkF m 0 #[.val (.int u), .val (.int t), .unset, .unset, .unset] [] := by first | (simp [entryFrame, mkF, argsToLocals, Value.category, maxLocals]; done) | rfl
def own_Q0 (Z : State) (u : Int32) (t : Int32) (h0 : Heap) (n0 : Nat) (v : Option Value) (h : Heap) (L : List Loc) : Prop := v = some (.int 1) ∧ Fr n0 L
set_option maxRecDepth 65536 in
set_option maxHeartbeats 40000000 in
theorem own_rm0 (l : Launch) (Z : State) (a0 : Array Value) (hw : ∀ d ∈ tables_1, d.before a0 Z = true) (ws : List Jvm.Cond) (u : Int32) (t : Int32) (h0 : Heap) (n0 : Nat) (Zs : n0 ≤ h0.size)  :
    MetFree l x (head1 (Jvm.Cond.code x code maxLocals ret :: ws) room_1) (fun aA_ U => aA_ = #[(.int u), (.int t)] ∧ Z.Warmed39 U.vm ∧ U.heap = h0) (fun _ _ _ _ _ => True) (fun _ U o U' => ∃ v L, o = .returned v ∧ own_Q0 Z u t h0 n0 v U'.heap L ∧ FrameEnd U o U' L room_1.cells room_1.slots) := by
  refine MetFree.of_bodySF (plainFor_of_name own_pn0) hisR ?_
  intro p e s m args below meth c s₁ Bd hml0 hP hK
  obtain ⟨rfl, hZ, hh⟩ := hP
  have hx := Bd.exec
  have hby := Bd.bytes
  have hml : c.maxLocals = 5 := hml0
  have hown : s.vm.findClass "com/example/tidy_sitemap/tidysitemap/read/XmlCharactersIsCharacterPinLaw" = some m.cls := findClass_of_methodNamed Bd.named
  have hnm := (name_of_methodNamed Bd.named Bd.method).1
  have X0 : Stand p l e room_1 s m #[(.int u), (.int t)] below meth c s₁ [] 0 0 := Stand.of_body Bd
  have e0 : s₁.heap = h0 := by rw [← hh, Bd.state]; rfl
  have NF := Fr.nil n0
  rw [own_ef0 m u t]
  show own_Dn p e below s (own_Q0 Z u t h0 n0) room_1.cells room_1.slots s₁ (mkF m 0 #[.val (.int u), .val (.int t), .unset, .unset, .unset] [])
  refine own_go (T' := s₁) (g' := (mkF m 1 #[.val (.int u), .val (.int t), .unset, .unset, .unset] [(.int t)])) (fun _ k => XS.iloadN X0.here hx rfl (hb hby at_0) rfl k) ?_
  refine own_go (T' := s₁) (g' := (mkF m 2 #[.val (.int u), .val (.int t), .unset, .unset, .unset] [(.int (1 : Int32)), (.int t)])) (fun _ k => XS.iconst X0.here hx rfl (hb hby at_1) k) ?_
  refine own_go (T' := s₁) (g' := (mkF m 3 #[.val (.int u), .val (.int t), .unset, .unset, .unset] [(.int (t &&& (1 : Int32)))])) (fun _ k => XS.iand X0.here hx rfl (hb hby at_2) rfl k) ?_
  by_cases c1 : (t &&& (1 : Int32)) = (0 : Int32)
  · refine own_go (T' := s₁) (g' := (mkF m 10 #[.val (.int u), .val (.int t), .unset, .unset, .unset] [])) (fun _ k => XS.ifYes X0.here hx rfl (pc0 := 3) (pc' := 10) rfl (hb hby at_3) rfl ((if0 _ _).trans (teq c1).1) (by decide) (by decide) k) ?_
    refine own_go (T' := s₁) (g' := (mkF m 11 #[.val (.int u), .val (.int t), .unset, .unset, .unset] [(.int (0 : Int32))])) (fun _ k => XS.iconst X0.here hx rfl (hb hby at_10) k) ?_
    refine own_go (T' := s₁) (g' := (mkF m 12 #[.val (.int u), .val (.int t), .val (.int (0 : Int32)), .unset, .unset] [])) (fun _ k => XS.istoreN X0.here hx rfl (hb hby at_11) rfl (l' := #[.val (.int u), .val (.int t), .val (.int (0 : Int32)), .unset, .unset]) rfl k) ?_
    refine own_go (T' := s₁) (g' := (mkF m 14 #[.val (.int u), .val (.int t), .val (.int (0 : Int32)), .unset, .unset] [(.int (8 : Int32))])) (fun _ k => XS.bipush X0.here hx rfl (hb hby at_12) k) ?_
    obtain ⟨T2, h2, k2, X2, e2, E2, A2, st2⟩ := newP X0 hx hZ (hw _ (List.mem_of_getElem? (i := 0) rfl)) e0 (g := (mkF m 14 #[.val (.int u), .val (.int t), .val (.int (0 : Int32)), .unset, .unset] [(.int (8 : Int32))])) rfl (hb hby at_14) rfl (by decide) (cap := 8) (by decide) (by decide) (by decide) (by decide)
    obtain ⟨b2, g2⟩ : ∃ z, z = h0.size := ⟨_, rfl⟩
    rw [← g2] at A2 st2
    have g_b2 : n0 ≤ b2 := Nat.le_trans Zs (Nat.le_of_eq g2.symm)
    have Zs := Nat.le_trans Zs E2.1
    have V_b2 : Arv Z h2 b2 k2 .int (8 : Int32) [(.int (0 : Int32)), (.int (0 : Int32)), (.int (0 : Int32)), (.int (0 : Int32)), (.int (0 : Int32)), (.int (0 : Int32)), (.int (0 : Int32)), (.int (0 : Int32))] (.int (0 : Int32)) := (Arv.new A2 (by decide)).pad (pad_rep [] (.int (0 : Int32)) 8)
    refine own_go (T' := T2) (g' := (mkF m 16 #[.val (.int u), .val (.int t), .val (.int (0 : Int32)), .unset, .unset] [(.ref b2)])) (fun _ k => st2 _ k) ?_
    refine own_go (T' := T2) (g' := (mkF m 17 #[.val (.int u), .val (.int t), .val (.int (0 : Int32)), .unset, .unset] [(.ref b2), (.ref b2)])) (fun _ k => XS.dup X2.here hx rfl (hb hby at_16) rfl rfl k) ?_
    refine own_go (T' := T2) (g' := (mkF m 18 #[.val (.int u), .val (.int t), .val (.int (0 : Int32)), .unset, .unset] [(.int (0 : Int32)), (.ref b2), (.ref b2)])) (fun _ k => XS.iconst X2.here hx rfl (hb hby at_17) k) ?_
    refine own_go (T' := T2) (g' := (mkF m 19 #[.val (.int u), .val (.int t), .val (.int (0 : Int32)), .unset, .unset] [(.int (0 : Int32)), (.int (0 : Int32)), (.ref b2), (.ref b2)])) (fun _ k => XS.iconst X2.here hx rfl (hb hby at_18) k) ?_
    obtain ⟨c_3, Ar_3, q_3, S_3, N_3, H_3, G_3⟩ := V_b2
    have hin_3 : ¬ ((0 : Int32) < 0 ∨ c_3.slots.size ≤ ((0 : Int32)).toNatClampNeg) := inb_of S_3 ⟨by decide, by decide⟩
    obtain ⟨T3, h3, X3, e3, W3, st3⟩ := stI X2 hx hZ e2 Ar_3 (j := (0 : Int32)) hin_3 (g := (mkF m 19 #[.val (.int u), .val (.int t), .val (.int (0 : Int32)), .unset, .unset] [(.int (0 : Int32)), (.int (0 : Int32)), (.ref b2), (.ref b2)])) rfl rfl (hb hby at_19)
    have Zs := Nat.le_trans Zs (Keep.of_wr W3).1
    have V_b2 := Arv.set Ar_3 q_3 S_3 N_3 H_3 G_3 rfl W3 0 rfl (Nat.le_of_ble_eq_true rfl)
    have NF := Fr.snoc X3 NF g_b2
    refine own_go (T' := T3) (g' := (mkF m 20 #[.val (.int u), .val (.int t), .val (.int (0 : Int32)), .unset, .unset] [(.ref b2)])) (fun _ k => st3 _ k) ?_
    refine own_go (T' := T3) (g' := (mkF m 21 #[.val (.int u), .val (.int t), .val (.int (0 : Int32)), .unset, .unset] [(.ref b2), (.ref b2)])) (fun _ k => XS.dup X3.here hx rfl (hb hby at_20) rfl rfl k) ?_
    refine own_go (T' := T3) (g' := (mkF m 22 #[.val (.int u), .val (.int t), .val (.int (0 : Int32)), .unset, .unset] [(.int (1 : Int32)), (.ref b2), (.ref b2)])) (fun _ k => XS.iconst X3.here hx rfl (hb hby at_21) k) ?_
    refine own_go (T' := T3) (g' := (mkF m 24 #[.val (.int u), .val (.int t), .val (.int (0 : Int32)), .unset, .unset] [(.int (32 : Int32)), (.int (1 : Int32)), (.ref b2), (.ref b2)])) (fun _ k => XS.bipush X3.here hx rfl (hb hby at_22) k) ?_
    obtain ⟨c_4, Ar_4, q_4, S_4, N_4, H_4, G_4⟩ := V_b2
    have hin_4 : ¬ ((1 : Int32) < 0 ∨ c_4.slots.size ≤ ((1 : Int32)).toNatClampNeg) := inb_of S_4 ⟨by decide, by decide⟩
    obtain ⟨T4, h4, X4, e4, W4, st4⟩ := stI X3 hx hZ e3 Ar_4 (j := (1 : Int32)) hin_4 (g := (mkF m 24 #[.val (.int u), .val (.int t), .val (.int (0 : Int32)), .unset, .unset] [(.int (32 : Int32)), (.int (1 : Int32)), (.ref b2), (.ref b2)])) rfl rfl (hb hby at_24)
    have Zs := Nat.le_trans Zs (Keep.of_wr W4).1
    have V_b2 := Arv.set Ar_4 q_4 S_4 N_4 H_4 G_4 rfl W4 1 rfl (Nat.le_of_ble_eq_true rfl)
    have NF := Fr.snoc X4 NF g_b2
    refine own_go (T' := T4) (g' := (mkF m 25 #[.val (.int u), .val (.int t), .val (.int (0 : Int32)), .unset, .unset] [(.ref b2)])) (fun _ k => st4 _ k) ?_
    refine own_go (T' := T4) (g' := (mkF m 26 #[.val (.int u), .val (.int t), .val (.int (0 : Int32)), .unset, .unset] [(.ref b2), (.ref b2)])) (fun _ k => XS.dup X4.here hx rfl (hb hby at_25) rfl rfl k) ?_
    refine own_go (T' := T4) (g' := (mkF m 27 #[.val (.int u), .val (.int t), .val (.int (0 : Int32)), .unset, .unset] [(.int (2 : Int32)), (.ref b2), (.ref b2)])) (fun _ k => XS.iconst X4.here hx rfl (hb hby at_26) k) ?_
    refine own_go (T' := T4) (g' := (mkF m 29 #[.val (.int u), .val (.int t), .val (.int (0 : Int32)), .unset, .unset] [(.int (55296 : Int32)), (.int (2 : Int32)), (.ref b2), (.ref b2)])) (fun _ k => X4.ldcInt hx hown (mvT hZ (hw _ (List.mem_of_getElem? (i := 1) rfl))) (g := (mkF m 27 #[.val (.int u), .val (.int t), .val (.int (0 : Int32)), .unset, .unset] [(.int (2 : Int32)), (.ref b2), (.ref b2)])) rfl (hb hby at_27) _ k) ?_
    obtain ⟨c_5, Ar_5, q_5, S_5, N_5, H_5, G_5⟩ := V_b2
    have hin_5 : ¬ ((2 : Int32) < 0 ∨ c_5.slots.size ≤ ((2 : Int32)).toNatClampNeg) := inb_of S_5 ⟨by decide, by decide⟩
    obtain ⟨T5, h5, X5, e5, W5, st5⟩ := stI X4 hx hZ e4 Ar_5 (j := (2 : Int32)) hin_5 (g := (mkF m 29 #[.val (.int u), .val (.int t), .val (.int (0 : Int32)), .unset, .unset] [(.int (55296 : Int32)), (.int (2 : Int32)), (.ref b2), (.ref b2)])) rfl rfl (hb hby at_29)
    have Zs := Nat.le_trans Zs (Keep.of_wr W5).1
    have V_b2 := Arv.set Ar_5 q_5 S_5 N_5 H_5 G_5 rfl W5 2 rfl (Nat.le_of_ble_eq_true rfl)
    have NF := Fr.snoc X5 NF g_b2
    refine own_go (T' := T5) (g' := (mkF m 30 #[.val (.int u), .val (.int t), .val (.int (0 : Int32)), .unset, .unset] [(.ref b2)])) (fun _ k => st5 _ k) ?_
    refine own_go (T' := T5) (g' := (mkF m 31 #[.val (.int u), .val (.int t), .val (.int (0 : Int32)), .unset, .unset] [(.ref b2), (.ref b2)])) (fun _ k => XS.dup X5.here hx rfl (hb hby at_30) rfl rfl k) ?_
    refine own_go (T' := T5) (g' := (mkF m 32 #[.val (.int u), .val (.int t), .val (.int (0 : Int32)), .unset, .unset] [(.int (3 : Int32)), (.ref b2), (.ref b2)])) (fun _ k => XS.iconst X5.here hx rfl (hb hby at_31) k) ?_
    refine own_go (T' := T5) (g' := (mkF m 34 #[.val (.int u), .val (.int t), .val (.int (0 : Int32)), .unset, .unset] [(.int (57344 : Int32)), (.int (3 : Int32)), (.ref b2), (.ref b2)])) (fun _ k => X5.ldcInt hx hown (mvT hZ (hw _ (List.mem_of_getElem? (i := 2) rfl))) (g := (mkF m 32 #[.val (.int u), .val (.int t), .val (.int (0 : Int32)), .unset, .unset] [(.int (3 : Int32)), (.ref b2), (.ref b2)])) rfl (hb hby at_32) _ k) ?_
    obtain ⟨c_6, Ar_6, q_6, S_6, N_6, H_6, G_6⟩ := V_b2
    have hin_6 : ¬ ((3 : Int32) < 0 ∨ c_6.slots.size ≤ ((3 : Int32)).toNatClampNeg) := inb_of S_6 ⟨by decide, by decide⟩
    obtain ⟨T6, h6, X6, e6, W6, st6⟩ := stI X5 hx hZ e5 Ar_6 (j := (3 : Int32)) hin_6 (g := (mkF m 34 #[.val (.int u), .val (.int t), .val (.int (0 : Int32)), .unset, .unset] [(.int (57344 : Int32)), (.int (3 : Int32)), (.ref b2), (.ref b2)])) rfl rfl (hb hby at_34)
    have Zs := Nat.le_trans Zs (Keep.of_wr W6).1
    have V_b2 := Arv.set Ar_6 q_6 S_6 N_6 H_6 G_6 rfl W6 3 rfl (Nat.le_of_ble_eq_true rfl)
    have NF := Fr.snoc X6 NF g_b2
    refine own_go (T' := T6) (g' := (mkF m 35 #[.val (.int u), .val (.int t), .val (.int (0 : Int32)), .unset, .unset] [(.ref b2)])) (fun _ k => st6 _ k) ?_
    refine own_go (T' := T6) (g' := (mkF m 36 #[.val (.int u), .val (.int t), .val (.int (0 : Int32)), .unset, .unset] [(.ref b2), (.ref b2)])) (fun _ k => XS.dup X6.here hx rfl (hb hby at_35) rfl rfl k) ?_
    refine own_go (T' := T6) (g' := (mkF m 37 #[.val (.int u), .val (.int t), .val (.int (0 : Int32)), .unset, .unset] [(.int (4 : Int32)), (.ref b2), (.ref b2)])) (fun _ k => XS.iconst X6.here hx rfl (hb hby at_36) k) ?_
    refine own_go (T' := T6) (g' := (mkF m 39 #[.val (.int u), .val (.int t), .val (.int (0 : Int32)), .unset, .unset] [(.int (65534 : Int32)), (.int (4 : Int32)), (.ref b2), (.ref b2)])) (fun _ k => X6.ldcInt hx hown (mvT hZ (hw _ (List.mem_of_getElem? (i := 3) rfl))) (g := (mkF m 37 #[.val (.int u), .val (.int t), .val (.int (0 : Int32)), .unset, .unset] [(.int (4 : Int32)), (.ref b2), (.ref b2)])) rfl (hb hby at_37) _ k) ?_
    obtain ⟨c_7, Ar_7, q_7, S_7, N_7, H_7, G_7⟩ := V_b2
    have hin_7 : ¬ ((4 : Int32) < 0 ∨ c_7.slots.size ≤ ((4 : Int32)).toNatClampNeg) := inb_of S_7 ⟨by decide, by decide⟩
    obtain ⟨T7, h7, X7, e7, W7, st7⟩ := stI X6 hx hZ e6 Ar_7 (j := (4 : Int32)) hin_7 (g := (mkF m 39 #[.val (.int u), .val (.int t), .val (.int (0 : Int32)), .unset, .unset] [(.int (65534 : Int32)), (.int (4 : Int32)), (.ref b2), (.ref b2)])) rfl rfl (hb hby at_39)
    have Zs := Nat.le_trans Zs (Keep.of_wr W7).1
    have V_b2 := Arv.set Ar_7 q_7 S_7 N_7 H_7 G_7 rfl W7 4 rfl (Nat.le_of_ble_eq_true rfl)
    have NF := Fr.snoc X7 NF g_b2
    refine own_go (T' := T7) (g' := (mkF m 40 #[.val (.int u), .val (.int t), .val (.int (0 : Int32)), .unset, .unset] [(.ref b2)])) (fun _ k => st7 _ k) ?_
    refine own_go (T' := T7) (g' := (mkF m 41 #[.val (.int u), .val (.int t), .val (.int (0 : Int32)), .unset, .unset] [(.ref b2), (.ref b2)])) (fun _ k => XS.dup X7.here hx rfl (hb hby at_40) rfl rfl k) ?_
    refine own_go (T' := T7) (g' := (mkF m 42 #[.val (.int u), .val (.int t), .val (.int (0 : Int32)), .unset, .unset] [(.int (5 : Int32)), (.ref b2), (.ref b2)])) (fun _ k => XS.iconst X7.here hx rfl (hb hby at_41) k) ?_
    refine own_go (T' := T7) (g' := (mkF m 44 #[.val (.int u), .val (.int t), .val (.int (0 : Int32)), .unset, .unset] [(.int (65536 : Int32)), (.int (5 : Int32)), (.ref b2), (.ref b2)])) (fun _ k => X7.ldcInt hx hown (mvT hZ (hw _ (List.mem_of_getElem? (i := 4) rfl))) (g := (mkF m 42 #[.val (.int u), .val (.int t), .val (.int (0 : Int32)), .unset, .unset] [(.int (5 : Int32)), (.ref b2), (.ref b2)])) rfl (hb hby at_42) _ k) ?_
    obtain ⟨c_8, Ar_8, q_8, S_8, N_8, H_8, G_8⟩ := V_b2
    have hin_8 : ¬ ((5 : Int32) < 0 ∨ c_8.slots.size ≤ ((5 : Int32)).toNatClampNeg) := inb_of S_8 ⟨by decide, by decide⟩
    obtain ⟨T8, h8, X8, e8, W8, st8⟩ := stI X7 hx hZ e7 Ar_8 (j := (5 : Int32)) hin_8 (g := (mkF m 44 #[.val (.int u), .val (.int t), .val (.int (0 : Int32)), .unset, .unset] [(.int (65536 : Int32)), (.int (5 : Int32)), (.ref b2), (.ref b2)])) rfl rfl (hb hby at_44)
    have Zs := Nat.le_trans Zs (Keep.of_wr W8).1
    have V_b2 := Arv.set Ar_8 q_8 S_8 N_8 H_8 G_8 rfl W8 5 rfl (Nat.le_of_ble_eq_true rfl)
    have NF := Fr.snoc X8 NF g_b2
    refine own_go (T' := T8) (g' := (mkF m 45 #[.val (.int u), .val (.int t), .val (.int (0 : Int32)), .unset, .unset] [(.ref b2)])) (fun _ k => st8 _ k) ?_
    refine own_go (T' := T8) (g' := (mkF m 46 #[.val (.int u), .val (.int t), .val (.int (0 : Int32)), .unset, .unset] [(.ref b2), (.ref b2)])) (fun _ k => XS.dup X8.here hx rfl (hb hby at_45) rfl rfl k) ?_
    refine own_go (T' := T8) (g' := (mkF m 48 #[.val (.int u), .val (.int t), .val (.int (0 : Int32)), .unset, .unset] [(.int (6 : Int32)), (.ref b2), (.ref b2)])) (fun _ k => XS.bipush X8.here hx rfl (hb hby at_46) k) ?_
    refine own_go (T' := T8) (g' := (mkF m 50 #[.val (.int u), .val (.int t), .val (.int (0 : Int32)), .unset, .unset] [(.int (1114112 : Int32)), (.int (6 : Int32)), (.ref b2), (.ref b2)])) (fun _ k => X8.ldcInt hx hown (mvT hZ (hw _ (List.mem_of_getElem? (i := 5) rfl))) (g := (mkF m 48 #[.val (.int u), .val (.int t), .val (.int (0 : Int32)), .unset, .unset] [(.int (6 : Int32)), (.ref b2), (.ref b2)])) rfl (hb hby at_48) _ k) ?_
    obtain ⟨c_9, Ar_9, q_9, S_9, N_9, H_9, G_9⟩ := V_b2
    have hin_9 : ¬ ((6 : Int32) < 0 ∨ c_9.slots.size ≤ ((6 : Int32)).toNatClampNeg) := inb_of S_9 ⟨by decide, by decide⟩
    obtain ⟨T9, h9, X9, e9, W9, st9⟩ := stI X8 hx hZ e8 Ar_9 (j := (6 : Int32)) hin_9 (g := (mkF m 50 #[.val (.int u), .val (.int t), .val (.int (0 : Int32)), .unset, .unset] [(.int (1114112 : Int32)), (.int (6 : Int32)), (.ref b2), (.ref b2)])) rfl rfl (hb hby at_50)
    have Zs := Nat.le_trans Zs (Keep.of_wr W9).1
    have V_b2 := Arv.set Ar_9 q_9 S_9 N_9 H_9 G_9 rfl W9 6 rfl (Nat.le_of_ble_eq_true rfl)
    have NF := Fr.snoc X9 NF g_b2
    refine own_go (T' := T9) (g' := (mkF m 51 #[.val (.int u), .val (.int t), .val (.int (0 : Int32)), .unset, .unset] [(.ref b2)])) (fun _ k => st9 _ k) ?_
    refine own_go (T' := T9) (g' := (mkF m 52 #[.val (.int u), .val (.int t), .val (.int (0 : Int32)), .unset, .unset] [(.ref b2), (.ref b2)])) (fun _ k => XS.dup X9.here hx rfl (hb hby at_51) rfl rfl k) ?_
    refine own_go (T' := T9) (g' := (mkF m 54 #[.val (.int u), .val (.int t), .val (.int (0 : Int32)), .unset, .unset] [(.int (7 : Int32)), (.ref b2), (.ref b2)])) (fun _ k => XS.bipush X9.here hx rfl (hb hby at_52) k) ?_
    refine own_go (T' := T9) (g' := (mkF m 56 #[.val (.int u), .val (.int t), .val (.int (0 : Int32)), .unset, .unset] [(.int (-2147483648 : Int32)), (.int (7 : Int32)), (.ref b2), (.ref b2)])) (fun _ k => X9.ldcInt hx hown (mvT hZ (hw _ (List.mem_of_getElem? (i := 6) rfl))) (g := (mkF m 54 #[.val (.int u), .val (.int t), .val (.int (0 : Int32)), .unset, .unset] [(.int (7 : Int32)), (.ref b2), (.ref b2)])) rfl (hb hby at_54) _ k) ?_
    obtain ⟨c_10, Ar_10, q_10, S_10, N_10, H_10, G_10⟩ := V_b2
    have hin_10 : ¬ ((7 : Int32) < 0 ∨ c_10.slots.size ≤ ((7 : Int32)).toNatClampNeg) := inb_of S_10 ⟨by decide, by decide⟩
    obtain ⟨T10, h10, X10, e10, W10, st10⟩ := stI X9 hx hZ e9 Ar_10 (j := (7 : Int32)) hin_10 (g := (mkF m 56 #[.val (.int u), .val (.int t), .val (.int (0 : Int32)), .unset, .unset] [(.int (-2147483648 : Int32)), (.int (7 : Int32)), (.ref b2), (.ref b2)])) rfl rfl (hb hby at_56)
    have Zs := Nat.le_trans Zs (Keep.of_wr W10).1
    have V_b2 := Arv.set Ar_10 q_10 S_10 N_10 H_10 G_10 rfl W10 7 rfl (Nat.le_of_ble_eq_true rfl)
    have NF := Fr.snoc X10 NF g_b2
    refine own_go (T' := T10) (g' := (mkF m 57 #[.val (.int u), .val (.int t), .val (.int (0 : Int32)), .unset, .unset] [(.ref b2)])) (fun _ k => st10 _ k) ?_
    refine own_go (T' := T10) (g' := (mkF m 58 #[.val (.int u), .val (.int t), .val (.int (0 : Int32)), .val (.ref b2), .unset] [])) (fun _ k => XS.astoreN X10.here hx rfl (hb hby at_57) rfl rfl (l' := #[.val (.int u), .val (.int t), .val (.int (0 : Int32)), .val (.ref b2), .unset]) rfl k) ?_
    refine own_go (T' := T10) (g' := (mkF m 59 #[.val (.int u), .val (.int t), .val (.int (0 : Int32)), .val (.ref b2), .unset] [(.int t)])) (fun _ k => XS.iloadN X10.here hx rfl (hb hby at_58) rfl k) ?_
    refine own_go (T' := T10) (g' := (mkF m 60 #[.val (.int u), .val (.int t), .val (.int (0 : Int32)), .val (.ref b2), .unset] [(.int (2 : Int32)), (.int t)])) (fun _ k => XS.iconst X10.here hx rfl (hb hby at_59) k) ?_
    refine own_go (T' := T10) (g' := (mkF m 61 #[.val (.int u), .val (.int t), .val (.int (0 : Int32)), .val (.ref b2), .unset] [(.int (t &&& (2 : Int32)))])) (fun _ k => XS.iand X10.here hx rfl (hb hby at_60) rfl k) ?_
    by_cases c11 : (t &&& (2 : Int32)) = (0 : Int32)
    · refine own_go (T' := T10) (g' := (mkF m 70 #[.val (.int u), .val (.int t), .val (.int (0 : Int32)), .val (.ref b2), .unset] [])) (fun _ k => XS.ifYes X10.here hx rfl (pc0 := 61) (pc' := 70) rfl (hb hby at_61) rfl ((if0 _ _).trans (teq c11).1) (by decide) (by decide) k) ?_
      refine own_go (T' := T10) (g' := (mkF m 71 #[.val (.int u), .val (.int t), .val (.int (0 : Int32)), .val (.ref b2), .unset] [(.ref b2)])) (fun _ k => XS.aloadN X10.here hx rfl (hb hby at_70) rfl rfl k) ?_
      refine own_go (T' := T10) (g' := (mkF m 72 #[.val (.int u), .val (.int t), .val (.int (0 : Int32)), .val (.ref b2), .unset] [(.int t), (.ref b2)])) (fun _ k => XS.iloadN X10.here hx rfl (hb hby at_71) rfl k) ?_
      refine own_go (T' := T10) (g' := (mkF m 73 #[.val (.int u), .val (.int t), .val (.int (0 : Int32)), .val (.ref b2), .unset] [(.int (2 : Int32)), (.int t), (.ref b2)])) (fun _ k => XS.iconst X10.here hx rfl (hb hby at_72) k) ?_
      refine own_go (T' := T10) (g' := (mkF m 74 #[.val (.int u), .val (.int t), .val (.int (0 : Int32)), .val (.ref b2), .unset] [(.int ((t.toUInt32 >>> ((2 : Int32) &&& 31).toUInt32).toInt32)), (.ref b2)])) (fun _ k => XS.iushr X10.here hx rfl (hb hby at_73) rfl k) ?_
      refine own_go (T' := T10) (g' := (mkF m 76 #[.val (.int u), .val (.int t), .val (.int (0 : Int32)), .val (.ref b2), .unset] [(.int (7 : Int32)), (.int ((t.toUInt32 >>> ((2 : Int32) &&& 31).toUInt32).toInt32)), (.ref b2)])) (fun _ k => XS.bipush X10.here hx rfl (hb hby at_74) k) ?_
      refine own_go (T' := T10) (g' := (mkF m 77 #[.val (.int u), .val (.int t), .val (.int (0 : Int32)), .val (.ref b2), .unset] [(.int (((t.toUInt32 >>> ((2 : Int32) &&& 31).toUInt32).toInt32) &&& (7 : Int32))), (.ref b2)])) (fun _ k => XS.iand X10.here hx rfl (hb hby at_76) rfl k) ?_
      have fj := c_and (((t.toUInt32 >>> ((2 : Int32) &&& 31).toUInt32).toInt32)) (7 : Int32) (by decide)
      obtain ⟨wv, hwv⟩ : ∃ x : Int32, (List.getD [Value.int (0 : Int32), Value.int (32 : Int32), Value.int (55296 : Int32), Value.int (57344 : Int32), Value.int (65534 : Int32), Value.int (65536 : Int32), Value.int (1114112 : Int32), Value.int (-2147483648 : Int32)] ((((t.toUInt32 >>> ((2 : Int32) &&& 31).toUInt32).toInt32) &&& (7 : Int32))).toNatClampNeg (.int (0 : Int32))) = .int x := by
        obtain ⟨c9, A9, q9, S9, N9, H9, G9⟩ := V_b2
        refine own_fitI (G9 _ ?_)
        rw [S9]
        have hin := inb_of (c := c9) (j := (((t.toUInt32 >>> ((2 : Int32) &&& 31).toUInt32).toInt32) &&& (7 : Int32))) S9 ⟨by (try simp only [own_ln2147483648, own_l0, own_l1, own_l2, own_l3, own_l4, own_l5, own_l6, own_l7, own_l8, own_l9, own_l10, own_l13, own_l15, own_l32, own_l55295, own_l55296, own_l57343, own_l57344, own_l65533, own_l65534, own_l65535, own_l65536, own_l1114111, own_l1114112, Int32.lt_iff_toInt_lt, ← Int32.toInt_inj, Int64.lt_iff_toInt_lt, ← Int64.toInt_inj, and_true, true_and, and_false, false_and, or_true, true_or, or_false, false_or, not_true_eq_false, not_false_eq_true, ne_eq, true_implies, false_implies, implies_true] at fj ⊢) <;> omega, by (try simp only [own_ln2147483648, own_l0, own_l1, own_l2, own_l3, own_l4, own_l5, own_l6, own_l7, own_l8, own_l9, own_l10, own_l13, own_l15, own_l32, own_l55295, own_l55296, own_l57343, own_l57344, own_l65533, own_l65534, own_l65535, own_l65536, own_l1114111, own_l1114112, Int32.lt_iff_toInt_lt, ← Int32.toInt_inj, Int64.lt_iff_toInt_lt, ← Int64.toInt_inj, and_true, true_and, and_false, false_and, or_true, true_or, or_false, false_or, not_true_eq_false, not_false_eq_true, ne_eq, true_implies, false_implies, implies_true] at fj ⊢) <;> omega⟩
        rw [← S9]; exact Nat.lt_of_not_le fun y => hin (Or.inr y)
      obtain ⟨c_12, Ar_12, q_12, S_12, N_12, H_12, G_12⟩ := V_b2
      have hin_12 : ¬ ((((t.toUInt32 >>> ((2 : Int32) &&& 31).toUInt32).toInt32) &&& (7 : Int32)) < 0 ∨ c_12.slots.size ≤ ((((t.toUInt32 >>> ((2 : Int32) &&& 31).toUInt32).toInt32) &&& (7 : Int32))).toNatClampNeg) := inb_of S_12 ⟨by (try simp only [own_ln2147483648, own_l0, own_l1, own_l2, own_l3, own_l4, own_l5, own_l6, own_l7, own_l8, own_l9, own_l10, own_l13, own_l15, own_l32, own_l55295, own_l55296, own_l57343, own_l57344, own_l65533, own_l65534, own_l65535, own_l65536, own_l1114111, own_l1114112, Int32.lt_iff_toInt_lt, ← Int32.toInt_inj, Int64.lt_iff_toInt_lt, ← Int64.toInt_inj, and_true, true_and, and_false, false_and, or_true, true_or, or_false, false_or, not_true_eq_false, not_false_eq_true, ne_eq, true_implies, false_implies, implies_true] at fj ⊢) <;> omega, by (try simp only [own_ln2147483648, own_l0, own_l1, own_l2, own_l3, own_l4, own_l5, own_l6, own_l7, own_l8, own_l9, own_l10, own_l13, own_l15, own_l32, own_l55295, own_l55296, own_l57343, own_l57344, own_l65533, own_l65534, own_l65535, own_l65536, own_l1114111, own_l1114112, Int32.lt_iff_toInt_lt, ← Int32.toInt_inj, Int64.lt_iff_toInt_lt, ← Int64.toInt_inj, and_true, true_and, and_false, false_and, or_true, true_or, or_false, false_or, not_true_eq_false, not_false_eq_true, ne_eq, true_implies, false_implies, implies_true] at fj ⊢) <;> omega⟩
      have hat_12 : c_12.slots[((((t.toUInt32 >>> ((2 : Int32) &&& 31).toUInt32).toInt32) &&& (7 : Int32))).toNatClampNeg]? = some (.int wv) := H_12.at hin_12 hwv
      refine own_go (T' := T10) (g' := (mkF m 78 #[.val (.int u), .val (.int t), .val (.int (0 : Int32)), .val (.ref b2), .unset] [(.int wv)])) (fun _ k => X10.iaload hx (j := (((t.toUInt32 >>> ((2 : Int32) &&& 31).toUInt32).toInt32) &&& (7 : Int32))) (v := (.int wv)) (by rw [e10]; exact Ar_12.1) (State.isArrayOf_alike hZ.alike Ar_12.2.1) Ar_12.2.2 hin_12 hat_12 (g := (mkF m 77 #[.val (.int u), .val (.int t), .val (.int (0 : Int32)), .val (.ref b2), .unset] [(.int (((t.toUInt32 >>> ((2 : Int32) &&& 31).toUInt32).toInt32) &&& (7 : Int32))), (.ref b2)])) rfl rfl (hb hby at_77) _ k) ?_
      refine own_go (T' := T10) (g' := (mkF m 79 #[.val (.int u), .val (.int t), .val (.int (0 : Int32)), .val (.ref b2), .unset] [(.int u), (.int wv)])) (fun _ k => XS.iloadN X10.here hx rfl (hb hby at_78) rfl k) ?_
      refine own_go (T' := T10) (g' := (mkF m 81 #[.val (.int u), .val (.int t), .val (.int (0 : Int32)), .val (.ref b2), .unset] [(.int (15 : Int32)), (.int u), (.int wv)])) (fun _ k => XS.bipush X10.here hx rfl (hb hby at_79) k) ?_
      refine own_go (T' := T10) (g' := (mkF m 82 #[.val (.int u), .val (.int t), .val (.int (0 : Int32)), .val (.ref b2), .unset] [(.int (u &&& (15 : Int32))), (.int wv)])) (fun _ k => XS.iand X10.here hx rfl (hb hby at_81) rfl k) ?_
      refine own_go (T' := T10) (g' := (mkF m 84 #[.val (.int u), .val (.int t), .val (.int (0 : Int32)), .val (.ref b2), .unset] [(.int (8 : Int32)), (.int (u &&& (15 : Int32))), (.int wv)])) (fun _ k => XS.bipush X10.here hx rfl (hb hby at_82) k) ?_
      refine own_go (T' := T10) (g' := (mkF m 85 #[.val (.int u), .val (.int t), .val (.int (0 : Int32)), .val (.ref b2), .unset] [(.int ((u &&& (15 : Int32)) - (8 : Int32))), (.int wv)])) (fun _ k => XS.isub X10.here hx rfl (hb hby at_84) rfl k) ?_
      refine own_go (T' := T10) (g' := (mkF m 86 #[.val (.int u), .val (.int t), .val (.int (0 : Int32)), .val (.ref b2), .unset] [(.int (wv + ((u &&& (15 : Int32)) - (8 : Int32))))])) (fun _ k => XS.iadd X10.here hx rfl (hb hby at_85) rfl k) ?_
      refine own_go (T' := T10) (g' := (mkF m 88 #[.val (.int u), .val (.int t), .val (.int (0 : Int32)), .val (.ref b2), .val (.int (wv + ((u &&& (15 : Int32)) - (8 : Int32))))] [])) (fun _ k => XS.istore X10.here hx rfl (hb hby at_86) rfl (l' := #[.val (.int u), .val (.int t), .val (.int (0 : Int32)), .val (.ref b2), .val (.int (wv + ((u &&& (15 : Int32)) - (8 : Int32))))]) rfl k) ?_
      refine own_go (T' := T10) (g' := (mkF m 90 #[.val (.int u), .val (.int t), .val (.int (0 : Int32)), .val (.ref b2), .val (.int (wv + ((u &&& (15 : Int32)) - (8 : Int32))))] [(.int (wv + ((u &&& (15 : Int32)) - (8 : Int32))))])) (fun _ k => XS.iload X10.here hx rfl (hb hby at_88) rfl k) ?_
      refine own_go (T' := T10) (g' := (mkF m 91 #[.val (.int u), .val (.int t), .val (.int (0 : Int32)), .val (.ref b2), .val (.int (wv + ((u &&& (15 : Int32)) - (8 : Int32))))] [(.int (0 : Int32)), (.int (wv + ((u &&& (15 : Int32)) - (8 : Int32))))])) (fun _ k => XS.iloadN X10.here hx rfl (hb hby at_90) rfl k) ?_
      obtain ⟨_, _, ⟨T13, L13, k13, n13⟩, -, X13, ⟨Lc13, hQ13, l13, y13, z13⟩, st13⟩ := Jvm.LawKit.callS X10 hx (y := (⟨"com/example/tidy_sitemap/tidysitemap/read/XmlCharacters", "isCharacter", "(IZ)Z"⟩ : MethodName)) hown (mvT hZ (hw _ (List.mem_of_getElem? (i := 7) rfl))) (mvT hZ (hw _ (List.mem_of_getElem? (i := 8) rfl))) (mvT hZ (hw _ (List.mem_of_getElem? (i := 9) rfl))) (mvT hZ (hw _ (List.mem_of_getElem? (i := 10) rfl))) (by decide) (backOf (W := 0) (own_rm1 l Z a0 hw [] (wv + ((u &&& (15 : Int32)) - (8 : Int32))) (0 : Int32) h10 n0 Zs) hZ (hw _ (List.mem_of_getElem? (i := 10) rfl)) (hw _ (List.mem_of_getElem? (i := 9) rfl)) (by decide) (by decide)) (g := (mkF m 91 #[.val (.int u), .val (.int t), .val (.int (0 : Int32)), .val (.ref b2), .val (.int (wv + ((u &&& (15 : Int32)) - (8 : Int32))))] [(.int (0 : Int32)), (.int (wv + ((u &&& (15 : Int32)) - (8 : Int32))))])) rfl (by rw [hml]; rfl) (argsL := [(.int (wv + ((u &&& (15 : Int32)) - (8 : Int32)))), (.int (0 : Int32))]) (rest := []) (lenOf own_pd0_0 rfl) rfl (by show 2 * 0 + _ ≤ _; exact Nat.le_of_eq rfl) (hb hby at_91) (fun _ _ => ⟨rfl, e10, (by decide : 1 + 0 ≤ _), (by decide : 8 + 0 ≤ _)⟩)
      dsimp only [Pt.U, Pt.locs, Pt.cells, Pt.slots] at X13 l13 y13 z13 st13 hQ13
      subst l13 y13 z13
      obtain ⟨rfl, NQ13, eq13⟩ := hQ13
      have NF := Fr.app NF NQ13
      refine own_go (T' := T13) (g' := (mkF m 94 #[.val (.int u), .val (.int t), .val (.int (0 : Int32)), .val (.ref b2), .val (.int (wv + ((u &&& (15 : Int32)) - (8 : Int32))))] [(.int (if (((0 : Int32).toInt ≠ 0 ∧ 1 ≤ (wv + ((u &&& (15 : Int32)) - (8 : Int32))).toInt ∧ (wv + ((u &&& (15 : Int32)) - (8 : Int32))).toInt ≤ 55295) ∨ ((0 : Int32).toInt = 0 ∧ ((wv + ((u &&& (15 : Int32)) - (8 : Int32))).toInt = 9 ∨ (wv + ((u &&& (15 : Int32)) - (8 : Int32))).toInt = 10 ∨ (wv + ((u &&& (15 : Int32)) - (8 : Int32))).toInt = 13 ∨ (32 ≤ (wv + ((u &&& (15 : Int32)) - (8 : Int32))).toInt ∧ (wv + ((u &&& (15 : Int32)) - (8 : Int32))).toInt ≤ 55295)))) ∨ (57344 ≤ (wv + ((u &&& (15 : Int32)) - (8 : Int32))).toInt ∧ (wv + ((u &&& (15 : Int32)) - (8 : Int32))).toInt ≤ 65533) ∨ (65536 ≤ (wv + ((u &&& (15 : Int32)) - (8 : Int32))).toInt ∧ (wv + ((u &&& (15 : Int32)) - (8 : Int32))).toInt ≤ 1114111) then (1 : Int32) else 0))])) (fun _ k => st13 _ k) ?_
      refine own_go (T' := T13) (g' := (mkF m 96 #[.val (.int u), .val (.int t), .val (.int (0 : Int32)), .val (.ref b2), .val (.int (wv + ((u &&& (15 : Int32)) - (8 : Int32))))] [(.int (wv + ((u &&& (15 : Int32)) - (8 : Int32)))), (.int (if (((0 : Int32).toInt ≠ 0 ∧ 1 ≤ (wv + ((u &&& (15 : Int32)) - (8 : Int32))).toInt ∧ (wv + ((u &&& (15 : Int32)) - (8 : Int32))).toInt ≤ 55295) ∨ ((0 : Int32).toInt = 0 ∧ ((wv + ((u &&& (15 : Int32)) - (8 : Int32))).toInt = 9 ∨ (wv + ((u &&& (15 : Int32)) - (8 : Int32))).toInt = 10 ∨ (wv + ((u &&& (15 : Int32)) - (8 : Int32))).toInt = 13 ∨ (32 ≤ (wv + ((u &&& (15 : Int32)) - (8 : Int32))).toInt ∧ (wv + ((u &&& (15 : Int32)) - (8 : Int32))).toInt ≤ 55295)))) ∨ (57344 ≤ (wv + ((u &&& (15 : Int32)) - (8 : Int32))).toInt ∧ (wv + ((u &&& (15 : Int32)) - (8 : Int32))).toInt ≤ 65533) ∨ (65536 ≤ (wv + ((u &&& (15 : Int32)) - (8 : Int32))).toInt ∧ (wv + ((u &&& (15 : Int32)) - (8 : Int32))).toInt ≤ 1114111) then (1 : Int32) else 0))])) (fun _ k => XS.iload X13.here hx rfl (hb hby at_94) rfl k) ?_
      refine own_go (T' := T13) (g' := (mkF m 97 #[.val (.int u), .val (.int t), .val (.int (0 : Int32)), .val (.ref b2), .val (.int (wv + ((u &&& (15 : Int32)) - (8 : Int32))))] [(.int (0 : Int32)), (.int (wv + ((u &&& (15 : Int32)) - (8 : Int32)))), (.int (if (((0 : Int32).toInt ≠ 0 ∧ 1 ≤ (wv + ((u &&& (15 : Int32)) - (8 : Int32))).toInt ∧ (wv + ((u &&& (15 : Int32)) - (8 : Int32))).toInt ≤ 55295) ∨ ((0 : Int32).toInt = 0 ∧ ((wv + ((u &&& (15 : Int32)) - (8 : Int32))).toInt = 9 ∨ (wv + ((u &&& (15 : Int32)) - (8 : Int32))).toInt = 10 ∨ (wv + ((u &&& (15 : Int32)) - (8 : Int32))).toInt = 13 ∨ (32 ≤ (wv + ((u &&& (15 : Int32)) - (8 : Int32))).toInt ∧ (wv + ((u &&& (15 : Int32)) - (8 : Int32))).toInt ≤ 55295)))) ∨ (57344 ≤ (wv + ((u &&& (15 : Int32)) - (8 : Int32))).toInt ∧ (wv + ((u &&& (15 : Int32)) - (8 : Int32))).toInt ≤ 65533) ∨ (65536 ≤ (wv + ((u &&& (15 : Int32)) - (8 : Int32))).toInt ∧ (wv + ((u &&& (15 : Int32)) - (8 : Int32))).toInt ≤ 1114111) then (1 : Int32) else 0))])) (fun _ k => XS.iloadN X13.here hx rfl (hb hby at_96) rfl k) ?_
      obtain ⟨_, _, ⟨T14, L14, k14, n14⟩, -, X14, ⟨Lc14, hQ14, l14, y14, z14⟩, st14⟩ := Jvm.LawKit.callS X13 hx (y := (⟨"com/example/tidy_sitemap/tidysitemap/read/XmlCharactersIsCharacterPinLaw", "reference", "(IZ)Z"⟩ : MethodName)) hown (mvT hZ (hw _ (List.mem_of_getElem? (i := 11) rfl))) (mvT hZ (hw _ (List.mem_of_getElem? (i := 12) rfl))) (mvT hZ (hw _ (List.mem_of_getElem? (i := 13) rfl))) (mvT hZ (hw _ (List.mem_of_getElem? (i := 14) rfl))) (by decide) (backOf (W := 1) (own_rm2 l Z a0 hw [] (wv + ((u &&& (15 : Int32)) - (8 : Int32))) (0 : Int32) h10 n0 Zs) hZ (hw _ (List.mem_of_getElem? (i := 14) rfl)) (hw _ (List.mem_of_getElem? (i := 13) rfl)) (by decide) (by decide)) (g := (mkF m 97 #[.val (.int u), .val (.int t), .val (.int (0 : Int32)), .val (.ref b2), .val (.int (wv + ((u &&& (15 : Int32)) - (8 : Int32))))] [(.int (0 : Int32)), (.int (wv + ((u &&& (15 : Int32)) - (8 : Int32)))), (.int (if (((0 : Int32).toInt ≠ 0 ∧ 1 ≤ (wv + ((u &&& (15 : Int32)) - (8 : Int32))).toInt ∧ (wv + ((u &&& (15 : Int32)) - (8 : Int32))).toInt ≤ 55295) ∨ ((0 : Int32).toInt = 0 ∧ ((wv + ((u &&& (15 : Int32)) - (8 : Int32))).toInt = 9 ∨ (wv + ((u &&& (15 : Int32)) - (8 : Int32))).toInt = 10 ∨ (wv + ((u &&& (15 : Int32)) - (8 : Int32))).toInt = 13 ∨ (32 ≤ (wv + ((u &&& (15 : Int32)) - (8 : Int32))).toInt ∧ (wv + ((u &&& (15 : Int32)) - (8 : Int32))).toInt ≤ 55295)))) ∨ (57344 ≤ (wv + ((u &&& (15 : Int32)) - (8 : Int32))).toInt ∧ (wv + ((u &&& (15 : Int32)) - (8 : Int32))).toInt ≤ 65533) ∨ (65536 ≤ (wv + ((u &&& (15 : Int32)) - (8 : Int32))).toInt ∧ (wv + ((u &&& (15 : Int32)) - (8 : Int32))).toInt ≤ 1114111) then (1 : Int32) else 0))])) rfl (by rw [hml]; rfl) (argsL := [(.int (wv + ((u &&& (15 : Int32)) - (8 : Int32)))), (.int (0 : Int32))]) (rest := [(.int (if (((0 : Int32).toInt ≠ 0 ∧ 1 ≤ (wv + ((u &&& (15 : Int32)) - (8 : Int32))).toInt ∧ (wv + ((u &&& (15 : Int32)) - (8 : Int32))).toInt ≤ 55295) ∨ ((0 : Int32).toInt = 0 ∧ ((wv + ((u &&& (15 : Int32)) - (8 : Int32))).toInt = 9 ∨ (wv + ((u &&& (15 : Int32)) - (8 : Int32))).toInt = 10 ∨ (wv + ((u &&& (15 : Int32)) - (8 : Int32))).toInt = 13 ∨ (32 ≤ (wv + ((u &&& (15 : Int32)) - (8 : Int32))).toInt ∧ (wv + ((u &&& (15 : Int32)) - (8 : Int32))).toInt ≤ 55295)))) ∨ (57344 ≤ (wv + ((u &&& (15 : Int32)) - (8 : Int32))).toInt ∧ (wv + ((u &&& (15 : Int32)) - (8 : Int32))).toInt ≤ 65533) ∨ (65536 ≤ (wv + ((u &&& (15 : Int32)) - (8 : Int32))).toInt ∧ (wv + ((u &&& (15 : Int32)) - (8 : Int32))).toInt ≤ 1114111) then (1 : Int32) else 0))]) (lenOf own_pd0_0 rfl) rfl (by show 2 * 0 + _ ≤ _; exact Nat.le_of_eq rfl) (hb hby at_97) (fun _ _ => ⟨rfl, eq13, (by decide : 1 + 0 ≤ _), (by decide : 8 + 0 ≤ _)⟩)
      dsimp only [Pt.U, Pt.locs, Pt.cells, Pt.slots] at X14 l14 y14 z14 st14 hQ14
      subst l14 y14 z14
      obtain ⟨rfl, NQ14, eq14⟩ := hQ14
      have NF := Fr.app NF NQ14
      refine own_go (T' := T14) (g' := (mkF m 100 #[.val (.int u), .val (.int t), .val (.int (0 : Int32)), .val (.ref b2), .val (.int (wv + ((u &&& (15 : Int32)) - (8 : Int32))))] [(.int (if (((0 : Int32).toInt ≠ 0 ∧ 1 ≤ (wv + ((u &&& (15 : Int32)) - (8 : Int32))).toInt ∧ (wv + ((u &&& (15 : Int32)) - (8 : Int32))).toInt ≤ 55295) ∨ ((0 : Int32).toInt = 0 ∧ ((wv + ((u &&& (15 : Int32)) - (8 : Int32))).toInt = 9 ∨ (wv + ((u &&& (15 : Int32)) - (8 : Int32))).toInt = 10 ∨ (wv + ((u &&& (15 : Int32)) - (8 : Int32))).toInt = 13 ∨ (32 ≤ (wv + ((u &&& (15 : Int32)) - (8 : Int32))).toInt ∧ (wv + ((u &&& (15 : Int32)) - (8 : Int32))).toInt ≤ 55295)))) ∨ (57344 ≤ (wv + ((u &&& (15 : Int32)) - (8 : Int32))).toInt ∧ (wv + ((u &&& (15 : Int32)) - (8 : Int32))).toInt ≤ 65533) ∨ (65536 ≤ (wv + ((u &&& (15 : Int32)) - (8 : Int32))).toInt ∧ (wv + ((u &&& (15 : Int32)) - (8 : Int32))).toInt ≤ 1114111) then (1 : Int32) else 0)), (.int (if (((0 : Int32).toInt ≠ 0 ∧ 1 ≤ (wv + ((u &&& (15 : Int32)) - (8 : Int32))).toInt ∧ (wv + ((u &&& (15 : Int32)) - (8 : Int32))).toInt ≤ 55295) ∨ ((0 : Int32).toInt = 0 ∧ ((wv + ((u &&& (15 : Int32)) - (8 : Int32))).toInt = 9 ∨ (wv + ((u &&& (15 : Int32)) - (8 : Int32))).toInt = 10 ∨ (wv + ((u &&& (15 : Int32)) - (8 : Int32))).toInt = 13 ∨ (32 ≤ (wv + ((u &&& (15 : Int32)) - (8 : Int32))).toInt ∧ (wv + ((u &&& (15 : Int32)) - (8 : Int32))).toInt ≤ 55295)))) ∨ (57344 ≤ (wv + ((u &&& (15 : Int32)) - (8 : Int32))).toInt ∧ (wv + ((u &&& (15 : Int32)) - (8 : Int32))).toInt ≤ 65533) ∨ (65536 ≤ (wv + ((u &&& (15 : Int32)) - (8 : Int32))).toInt ∧ (wv + ((u &&& (15 : Int32)) - (8 : Int32))).toInt ≤ 1114111) then (1 : Int32) else 0))])) (fun _ k => st14 _ k) ?_
      refine own_go (T' := T14) (g' := (mkF m 103 #[.val (.int u), .val (.int t), .val (.int (0 : Int32)), .val (.ref b2), .val (.int (wv + ((u &&& (15 : Int32)) - (8 : Int32))))] [])) (fun _ k => XS.icmpNo X14.here hx rfl (hb hby at_100) rfl (teq (rfl : (if (((0 : Int32).toInt ≠ 0 ∧ 1 ≤ (wv + ((u &&& (15 : Int32)) - (8 : Int32))).toInt ∧ (wv + ((u &&& (15 : Int32)) - (8 : Int32))).toInt ≤ 55295) ∨ ((0 : Int32).toInt = 0 ∧ ((wv + ((u &&& (15 : Int32)) - (8 : Int32))).toInt = 9 ∨ (wv + ((u &&& (15 : Int32)) - (8 : Int32))).toInt = 10 ∨ (wv + ((u &&& (15 : Int32)) - (8 : Int32))).toInt = 13 ∨ (32 ≤ (wv + ((u &&& (15 : Int32)) - (8 : Int32))).toInt ∧ (wv + ((u &&& (15 : Int32)) - (8 : Int32))).toInt ≤ 55295)))) ∨ (57344 ≤ (wv + ((u &&& (15 : Int32)) - (8 : Int32))).toInt ∧ (wv + ((u &&& (15 : Int32)) - (8 : Int32))).toInt ≤ 65533) ∨ (65536 ≤ (wv + ((u &&& (15 : Int32)) - (8 : Int32))).toInt ∧ (wv + ((u &&& (15 : Int32)) - (8 : Int32))).toInt ≤ 1114111) then (1 : Int32) else 0) = (if (((0 : Int32).toInt ≠ 0 ∧ 1 ≤ (wv + ((u &&& (15 : Int32)) - (8 : Int32))).toInt ∧ (wv + ((u &&& (15 : Int32)) - (8 : Int32))).toInt ≤ 55295) ∨ ((0 : Int32).toInt = 0 ∧ ((wv + ((u &&& (15 : Int32)) - (8 : Int32))).toInt = 9 ∨ (wv + ((u &&& (15 : Int32)) - (8 : Int32))).toInt = 10 ∨ (wv + ((u &&& (15 : Int32)) - (8 : Int32))).toInt = 13 ∨ (32 ≤ (wv + ((u &&& (15 : Int32)) - (8 : Int32))).toInt ∧ (wv + ((u &&& (15 : Int32)) - (8 : Int32))).toInt ≤ 55295)))) ∨ (57344 ≤ (wv + ((u &&& (15 : Int32)) - (8 : Int32))).toInt ∧ (wv + ((u &&& (15 : Int32)) - (8 : Int32))).toInt ≤ 65533) ∨ (65536 ≤ (wv + ((u &&& (15 : Int32)) - (8 : Int32))).toInt ∧ (wv + ((u &&& (15 : Int32)) - (8 : Int32))).toInt ≤ 1114111) then (1 : Int32) else 0))).2 k) ?_
      refine own_go (T' := T14) (g' := (mkF m 104 #[.val (.int u), .val (.int t), .val (.int (0 : Int32)), .val (.ref b2), .val (.int (wv + ((u &&& (15 : Int32)) - (8 : Int32))))] [(.int (1 : Int32))])) (fun _ k => XS.iconst X14.here hx rfl (hb hby at_103) k) ?_
      refine own_go (T' := T14) (g' := (mkF m 108 #[.val (.int u), .val (.int t), .val (.int (0 : Int32)), .val (.ref b2), .val (.int (wv + ((u &&& (15 : Int32)) - (8 : Int32))))] [(.int (1 : Int32))])) (fun _ k => XS.goto X14.here hx rfl (pc0 := 104) (pc' := 108) rfl (hb hby at_104) (by decide) (by decide) k) ?_
      refine own_ret X14 Bd.notSynchronized (some (.int (1 : Int32))) (fun h => by rw [Bd.returns] at h; cases h) (fun fs hr => retN X14 hx (t := .boolean) Bd.returns (by simp) (hb hby at_108) hr) ?_ (by decide) (by decide)
      show (own_Q0 Z u t h0 n0) (some (.int (1 : Int32))) T14.heap _
      rw [eq14]
      exact ⟨rfl, NF⟩
    · refine own_go (T' := T10) (g' := (mkF m 64 #[.val (.int u), .val (.int t), .val (.int (0 : Int32)), .val (.ref b2), .unset] [])) (fun _ k => XS.ifNo X10.here hx rfl (hb hby at_61) rfl ((if0 _ _).trans (feq c11).1) k) ?_
      refine own_go (T' := T10) (g' := (mkF m 65 #[.val (.int u), .val (.int t), .val (.int (0 : Int32)), .val (.ref b2), .unset] [(.int u)])) (fun _ k => XS.iloadN X10.here hx rfl (hb hby at_64) rfl k) ?_
      refine own_go (T' := T10) (g' := (mkF m 67 #[.val (.int u), .val (.int t), .val (.int (0 : Int32)), .val (.ref b2), .val (.int u)] [])) (fun _ k => XS.istore X10.here hx rfl (hb hby at_65) rfl (l' := #[.val (.int u), .val (.int t), .val (.int (0 : Int32)), .val (.ref b2), .val (.int u)]) rfl k) ?_
      refine own_go (T' := T10) (g' := (mkF m 88 #[.val (.int u), .val (.int t), .val (.int (0 : Int32)), .val (.ref b2), .val (.int u)] [])) (fun _ k => XS.goto X10.here hx rfl (pc0 := 67) (pc' := 88) rfl (hb hby at_67) (by decide) (by decide) k) ?_
      refine own_go (T' := T10) (g' := (mkF m 90 #[.val (.int u), .val (.int t), .val (.int (0 : Int32)), .val (.ref b2), .val (.int u)] [(.int u)])) (fun _ k => XS.iload X10.here hx rfl (hb hby at_88) rfl k) ?_
      refine own_go (T' := T10) (g' := (mkF m 91 #[.val (.int u), .val (.int t), .val (.int (0 : Int32)), .val (.ref b2), .val (.int u)] [(.int (0 : Int32)), (.int u)])) (fun _ k => XS.iloadN X10.here hx rfl (hb hby at_90) rfl k) ?_
      obtain ⟨_, _, ⟨T15, L15, k15, n15⟩, -, X15, ⟨Lc15, hQ15, l15, y15, z15⟩, st15⟩ := Jvm.LawKit.callS X10 hx (y := (⟨"com/example/tidy_sitemap/tidysitemap/read/XmlCharacters", "isCharacter", "(IZ)Z"⟩ : MethodName)) hown (mvT hZ (hw _ (List.mem_of_getElem? (i := 7) rfl))) (mvT hZ (hw _ (List.mem_of_getElem? (i := 8) rfl))) (mvT hZ (hw _ (List.mem_of_getElem? (i := 9) rfl))) (mvT hZ (hw _ (List.mem_of_getElem? (i := 10) rfl))) (by decide) (backOf (W := 0) (own_rm1 l Z a0 hw [] u (0 : Int32) h10 n0 Zs) hZ (hw _ (List.mem_of_getElem? (i := 10) rfl)) (hw _ (List.mem_of_getElem? (i := 9) rfl)) (by decide) (by decide)) (g := (mkF m 91 #[.val (.int u), .val (.int t), .val (.int (0 : Int32)), .val (.ref b2), .val (.int u)] [(.int (0 : Int32)), (.int u)])) rfl (by rw [hml]; rfl) (argsL := [(.int u), (.int (0 : Int32))]) (rest := []) (lenOf own_pd0_0 rfl) rfl (by show 2 * 0 + _ ≤ _; exact Nat.le_of_eq rfl) (hb hby at_91) (fun _ _ => ⟨rfl, e10, (by decide : 1 + 0 ≤ _), (by decide : 8 + 0 ≤ _)⟩)
      dsimp only [Pt.U, Pt.locs, Pt.cells, Pt.slots] at X15 l15 y15 z15 st15 hQ15
      subst l15 y15 z15
      obtain ⟨rfl, NQ15, eq15⟩ := hQ15
      have NF := Fr.app NF NQ15
      refine own_go (T' := T15) (g' := (mkF m 94 #[.val (.int u), .val (.int t), .val (.int (0 : Int32)), .val (.ref b2), .val (.int u)] [(.int (if (((0 : Int32).toInt ≠ 0 ∧ 1 ≤ u.toInt ∧ u.toInt ≤ 55295) ∨ ((0 : Int32).toInt = 0 ∧ (u.toInt = 9 ∨ u.toInt = 10 ∨ u.toInt = 13 ∨ (32 ≤ u.toInt ∧ u.toInt ≤ 55295)))) ∨ (57344 ≤ u.toInt ∧ u.toInt ≤ 65533) ∨ (65536 ≤ u.toInt ∧ u.toInt ≤ 1114111) then (1 : Int32) else 0))])) (fun _ k => st15 _ k) ?_
      refine own_go (T' := T15) (g' := (mkF m 96 #[.val (.int u), .val (.int t), .val (.int (0 : Int32)), .val (.ref b2), .val (.int u)] [(.int u), (.int (if (((0 : Int32).toInt ≠ 0 ∧ 1 ≤ u.toInt ∧ u.toInt ≤ 55295) ∨ ((0 : Int32).toInt = 0 ∧ (u.toInt = 9 ∨ u.toInt = 10 ∨ u.toInt = 13 ∨ (32 ≤ u.toInt ∧ u.toInt ≤ 55295)))) ∨ (57344 ≤ u.toInt ∧ u.toInt ≤ 65533) ∨ (65536 ≤ u.toInt ∧ u.toInt ≤ 1114111) then (1 : Int32) else 0))])) (fun _ k => XS.iload X15.here hx rfl (hb hby at_94) rfl k) ?_
      refine own_go (T' := T15) (g' := (mkF m 97 #[.val (.int u), .val (.int t), .val (.int (0 : Int32)), .val (.ref b2), .val (.int u)] [(.int (0 : Int32)), (.int u), (.int (if (((0 : Int32).toInt ≠ 0 ∧ 1 ≤ u.toInt ∧ u.toInt ≤ 55295) ∨ ((0 : Int32).toInt = 0 ∧ (u.toInt = 9 ∨ u.toInt = 10 ∨ u.toInt = 13 ∨ (32 ≤ u.toInt ∧ u.toInt ≤ 55295)))) ∨ (57344 ≤ u.toInt ∧ u.toInt ≤ 65533) ∨ (65536 ≤ u.toInt ∧ u.toInt ≤ 1114111) then (1 : Int32) else 0))])) (fun _ k => XS.iloadN X15.here hx rfl (hb hby at_96) rfl k) ?_
      obtain ⟨_, _, ⟨T16, L16, k16, n16⟩, -, X16, ⟨Lc16, hQ16, l16, y16, z16⟩, st16⟩ := Jvm.LawKit.callS X15 hx (y := (⟨"com/example/tidy_sitemap/tidysitemap/read/XmlCharactersIsCharacterPinLaw", "reference", "(IZ)Z"⟩ : MethodName)) hown (mvT hZ (hw _ (List.mem_of_getElem? (i := 11) rfl))) (mvT hZ (hw _ (List.mem_of_getElem? (i := 12) rfl))) (mvT hZ (hw _ (List.mem_of_getElem? (i := 13) rfl))) (mvT hZ (hw _ (List.mem_of_getElem? (i := 14) rfl))) (by decide) (backOf (W := 1) (own_rm2 l Z a0 hw [] u (0 : Int32) h10 n0 Zs) hZ (hw _ (List.mem_of_getElem? (i := 14) rfl)) (hw _ (List.mem_of_getElem? (i := 13) rfl)) (by decide) (by decide)) (g := (mkF m 97 #[.val (.int u), .val (.int t), .val (.int (0 : Int32)), .val (.ref b2), .val (.int u)] [(.int (0 : Int32)), (.int u), (.int (if (((0 : Int32).toInt ≠ 0 ∧ 1 ≤ u.toInt ∧ u.toInt ≤ 55295) ∨ ((0 : Int32).toInt = 0 ∧ (u.toInt = 9 ∨ u.toInt = 10 ∨ u.toInt = 13 ∨ (32 ≤ u.toInt ∧ u.toInt ≤ 55295)))) ∨ (57344 ≤ u.toInt ∧ u.toInt ≤ 65533) ∨ (65536 ≤ u.toInt ∧ u.toInt ≤ 1114111) then (1 : Int32) else 0))])) rfl (by rw [hml]; rfl) (argsL := [(.int u), (.int (0 : Int32))]) (rest := [(.int (if (((0 : Int32).toInt ≠ 0 ∧ 1 ≤ u.toInt ∧ u.toInt ≤ 55295) ∨ ((0 : Int32).toInt = 0 ∧ (u.toInt = 9 ∨ u.toInt = 10 ∨ u.toInt = 13 ∨ (32 ≤ u.toInt ∧ u.toInt ≤ 55295)))) ∨ (57344 ≤ u.toInt ∧ u.toInt ≤ 65533) ∨ (65536 ≤ u.toInt ∧ u.toInt ≤ 1114111) then (1 : Int32) else 0))]) (lenOf own_pd0_0 rfl) rfl (by show 2 * 0 + _ ≤ _; exact Nat.le_of_eq rfl) (hb hby at_97) (fun _ _ => ⟨rfl, eq15, (by decide : 1 + 0 ≤ _), (by decide : 8 + 0 ≤ _)⟩)
      dsimp only [Pt.U, Pt.locs, Pt.cells, Pt.slots] at X16 l16 y16 z16 st16 hQ16
      subst l16 y16 z16
      obtain ⟨rfl, NQ16, eq16⟩ := hQ16
      have NF := Fr.app NF NQ16
      refine own_go (T' := T16) (g' := (mkF m 100 #[.val (.int u), .val (.int t), .val (.int (0 : Int32)), .val (.ref b2), .val (.int u)] [(.int (if (((0 : Int32).toInt ≠ 0 ∧ 1 ≤ u.toInt ∧ u.toInt ≤ 55295) ∨ ((0 : Int32).toInt = 0 ∧ (u.toInt = 9 ∨ u.toInt = 10 ∨ u.toInt = 13 ∨ (32 ≤ u.toInt ∧ u.toInt ≤ 55295)))) ∨ (57344 ≤ u.toInt ∧ u.toInt ≤ 65533) ∨ (65536 ≤ u.toInt ∧ u.toInt ≤ 1114111) then (1 : Int32) else 0)), (.int (if (((0 : Int32).toInt ≠ 0 ∧ 1 ≤ u.toInt ∧ u.toInt ≤ 55295) ∨ ((0 : Int32).toInt = 0 ∧ (u.toInt = 9 ∨ u.toInt = 10 ∨ u.toInt = 13 ∨ (32 ≤ u.toInt ∧ u.toInt ≤ 55295)))) ∨ (57344 ≤ u.toInt ∧ u.toInt ≤ 65533) ∨ (65536 ≤ u.toInt ∧ u.toInt ≤ 1114111) then (1 : Int32) else 0))])) (fun _ k => st16 _ k) ?_
      refine own_go (T' := T16) (g' := (mkF m 103 #[.val (.int u), .val (.int t), .val (.int (0 : Int32)), .val (.ref b2), .val (.int u)] [])) (fun _ k => XS.icmpNo X16.here hx rfl (hb hby at_100) rfl (teq (rfl : (if (((0 : Int32).toInt ≠ 0 ∧ 1 ≤ u.toInt ∧ u.toInt ≤ 55295) ∨ ((0 : Int32).toInt = 0 ∧ (u.toInt = 9 ∨ u.toInt = 10 ∨ u.toInt = 13 ∨ (32 ≤ u.toInt ∧ u.toInt ≤ 55295)))) ∨ (57344 ≤ u.toInt ∧ u.toInt ≤ 65533) ∨ (65536 ≤ u.toInt ∧ u.toInt ≤ 1114111) then (1 : Int32) else 0) = (if (((0 : Int32).toInt ≠ 0 ∧ 1 ≤ u.toInt ∧ u.toInt ≤ 55295) ∨ ((0 : Int32).toInt = 0 ∧ (u.toInt = 9 ∨ u.toInt = 10 ∨ u.toInt = 13 ∨ (32 ≤ u.toInt ∧ u.toInt ≤ 55295)))) ∨ (57344 ≤ u.toInt ∧ u.toInt ≤ 65533) ∨ (65536 ≤ u.toInt ∧ u.toInt ≤ 1114111) then (1 : Int32) else 0))).2 k) ?_
      refine own_go (T' := T16) (g' := (mkF m 104 #[.val (.int u), .val (.int t), .val (.int (0 : Int32)), .val (.ref b2), .val (.int u)] [(.int (1 : Int32))])) (fun _ k => XS.iconst X16.here hx rfl (hb hby at_103) k) ?_
      refine own_go (T' := T16) (g' := (mkF m 108 #[.val (.int u), .val (.int t), .val (.int (0 : Int32)), .val (.ref b2), .val (.int u)] [(.int (1 : Int32))])) (fun _ k => XS.goto X16.here hx rfl (pc0 := 104) (pc' := 108) rfl (hb hby at_104) (by decide) (by decide) k) ?_
      refine own_ret X16 Bd.notSynchronized (some (.int (1 : Int32))) (fun h => by rw [Bd.returns] at h; cases h) (fun fs hr => retN X16 hx (t := .boolean) Bd.returns (by simp) (hb hby at_108) hr) ?_ (by decide) (by decide)
      show (own_Q0 Z u t h0 n0) (some (.int (1 : Int32))) T16.heap _
      rw [eq16]
      exact ⟨rfl, NF⟩
  · refine own_go (T' := s₁) (g' := (mkF m 6 #[.val (.int u), .val (.int t), .unset, .unset, .unset] [])) (fun _ k => XS.ifNo X0.here hx rfl (hb hby at_3) rfl ((if0 _ _).trans (feq c1).1) k) ?_
    refine own_go (T' := s₁) (g' := (mkF m 7 #[.val (.int u), .val (.int t), .unset, .unset, .unset] [(.int (1 : Int32))])) (fun _ k => XS.iconst X0.here hx rfl (hb hby at_6) k) ?_
    refine own_go (T' := s₁) (g' := (mkF m 11 #[.val (.int u), .val (.int t), .unset, .unset, .unset] [(.int (1 : Int32))])) (fun _ k => XS.goto X0.here hx rfl (pc0 := 7) (pc' := 11) rfl (hb hby at_7) (by decide) (by decide) k) ?_
    refine own_go (T' := s₁) (g' := (mkF m 12 #[.val (.int u), .val (.int t), .val (.int (1 : Int32)), .unset, .unset] [])) (fun _ k => XS.istoreN X0.here hx rfl (hb hby at_11) rfl (l' := #[.val (.int u), .val (.int t), .val (.int (1 : Int32)), .unset, .unset]) rfl k) ?_
    refine own_go (T' := s₁) (g' := (mkF m 14 #[.val (.int u), .val (.int t), .val (.int (1 : Int32)), .unset, .unset] [(.int (8 : Int32))])) (fun _ k => XS.bipush X0.here hx rfl (hb hby at_12) k) ?_
    obtain ⟨T17, h17, k17, X17, e17, E17, A17, st17⟩ := newP X0 hx hZ (hw _ (List.mem_of_getElem? (i := 0) rfl)) e0 (g := (mkF m 14 #[.val (.int u), .val (.int t), .val (.int (1 : Int32)), .unset, .unset] [(.int (8 : Int32))])) rfl (hb hby at_14) rfl (by decide) (cap := 8) (by decide) (by decide) (by decide) (by decide)
    obtain ⟨b17, g17⟩ : ∃ z, z = h0.size := ⟨_, rfl⟩
    rw [← g17] at A17 st17
    have g_b17 : n0 ≤ b17 := Nat.le_trans Zs (Nat.le_of_eq g17.symm)
    have Zs := Nat.le_trans Zs E17.1
    have V_b17 : Arv Z h17 b17 k17 .int (8 : Int32) [(.int (0 : Int32)), (.int (0 : Int32)), (.int (0 : Int32)), (.int (0 : Int32)), (.int (0 : Int32)), (.int (0 : Int32)), (.int (0 : Int32)), (.int (0 : Int32))] (.int (0 : Int32)) := (Arv.new A17 (by decide)).pad (pad_rep [] (.int (0 : Int32)) 8)
    refine own_go (T' := T17) (g' := (mkF m 16 #[.val (.int u), .val (.int t), .val (.int (1 : Int32)), .unset, .unset] [(.ref b17)])) (fun _ k => st17 _ k) ?_
    refine own_go (T' := T17) (g' := (mkF m 17 #[.val (.int u), .val (.int t), .val (.int (1 : Int32)), .unset, .unset] [(.ref b17), (.ref b17)])) (fun _ k => XS.dup X17.here hx rfl (hb hby at_16) rfl rfl k) ?_
    refine own_go (T' := T17) (g' := (mkF m 18 #[.val (.int u), .val (.int t), .val (.int (1 : Int32)), .unset, .unset] [(.int (0 : Int32)), (.ref b17), (.ref b17)])) (fun _ k => XS.iconst X17.here hx rfl (hb hby at_17) k) ?_
    refine own_go (T' := T17) (g' := (mkF m 19 #[.val (.int u), .val (.int t), .val (.int (1 : Int32)), .unset, .unset] [(.int (0 : Int32)), (.int (0 : Int32)), (.ref b17), (.ref b17)])) (fun _ k => XS.iconst X17.here hx rfl (hb hby at_18) k) ?_
    obtain ⟨c_18, Ar_18, q_18, S_18, N_18, H_18, G_18⟩ := V_b17
    have hin_18 : ¬ ((0 : Int32) < 0 ∨ c_18.slots.size ≤ ((0 : Int32)).toNatClampNeg) := inb_of S_18 ⟨by decide, by decide⟩
    obtain ⟨T18, h18, X18, e18, W18, st18⟩ := stI X17 hx hZ e17 Ar_18 (j := (0 : Int32)) hin_18 (g := (mkF m 19 #[.val (.int u), .val (.int t), .val (.int (1 : Int32)), .unset, .unset] [(.int (0 : Int32)), (.int (0 : Int32)), (.ref b17), (.ref b17)])) rfl rfl (hb hby at_19)
    have Zs := Nat.le_trans Zs (Keep.of_wr W18).1
    have V_b17 := Arv.set Ar_18 q_18 S_18 N_18 H_18 G_18 rfl W18 0 rfl (Nat.le_of_ble_eq_true rfl)
    have NF := Fr.snoc X18 NF g_b17
    refine own_go (T' := T18) (g' := (mkF m 20 #[.val (.int u), .val (.int t), .val (.int (1 : Int32)), .unset, .unset] [(.ref b17)])) (fun _ k => st18 _ k) ?_
    refine own_go (T' := T18) (g' := (mkF m 21 #[.val (.int u), .val (.int t), .val (.int (1 : Int32)), .unset, .unset] [(.ref b17), (.ref b17)])) (fun _ k => XS.dup X18.here hx rfl (hb hby at_20) rfl rfl k) ?_
    refine own_go (T' := T18) (g' := (mkF m 22 #[.val (.int u), .val (.int t), .val (.int (1 : Int32)), .unset, .unset] [(.int (1 : Int32)), (.ref b17), (.ref b17)])) (fun _ k => XS.iconst X18.here hx rfl (hb hby at_21) k) ?_
    refine own_go (T' := T18) (g' := (mkF m 24 #[.val (.int u), .val (.int t), .val (.int (1 : Int32)), .unset, .unset] [(.int (32 : Int32)), (.int (1 : Int32)), (.ref b17), (.ref b17)])) (fun _ k => XS.bipush X18.here hx rfl (hb hby at_22) k) ?_
    obtain ⟨c_19, Ar_19, q_19, S_19, N_19, H_19, G_19⟩ := V_b17
    have hin_19 : ¬ ((1 : Int32) < 0 ∨ c_19.slots.size ≤ ((1 : Int32)).toNatClampNeg) := inb_of S_19 ⟨by decide, by decide⟩
    obtain ⟨T19, h19, X19, e19, W19, st19⟩ := stI X18 hx hZ e18 Ar_19 (j := (1 : Int32)) hin_19 (g := (mkF m 24 #[.val (.int u), .val (.int t), .val (.int (1 : Int32)), .unset, .unset] [(.int (32 : Int32)), (.int (1 : Int32)), (.ref b17), (.ref b17)])) rfl rfl (hb hby at_24)
    have Zs := Nat.le_trans Zs (Keep.of_wr W19).1
    have V_b17 := Arv.set Ar_19 q_19 S_19 N_19 H_19 G_19 rfl W19 1 rfl (Nat.le_of_ble_eq_true rfl)
    have NF := Fr.snoc X19 NF g_b17
    refine own_go (T' := T19) (g' := (mkF m 25 #[.val (.int u), .val (.int t), .val (.int (1 : Int32)), .unset, .unset] [(.ref b17)])) (fun _ k => st19 _ k) ?_
    refine own_go (T' := T19) (g' := (mkF m 26 #[.val (.int u), .val (.int t), .val (.int (1 : Int32)), .unset, .unset] [(.ref b17), (.ref b17)])) (fun _ k => XS.dup X19.here hx rfl (hb hby at_25) rfl rfl k) ?_
    refine own_go (T' := T19) (g' := (mkF m 27 #[.val (.int u), .val (.int t), .val (.int (1 : Int32)), .unset, .unset] [(.int (2 : Int32)), (.ref b17), (.ref b17)])) (fun _ k => XS.iconst X19.here hx rfl (hb hby at_26) k) ?_
    refine own_go (T' := T19) (g' := (mkF m 29 #[.val (.int u), .val (.int t), .val (.int (1 : Int32)), .unset, .unset] [(.int (55296 : Int32)), (.int (2 : Int32)), (.ref b17), (.ref b17)])) (fun _ k => X19.ldcInt hx hown (mvT hZ (hw _ (List.mem_of_getElem? (i := 1) rfl))) (g := (mkF m 27 #[.val (.int u), .val (.int t), .val (.int (1 : Int32)), .unset, .unset] [(.int (2 : Int32)), (.ref b17), (.ref b17)])) rfl (hb hby at_27) _ k) ?_
    obtain ⟨c_20, Ar_20, q_20, S_20, N_20, H_20, G_20⟩ := V_b17
    have hin_20 : ¬ ((2 : Int32) < 0 ∨ c_20.slots.size ≤ ((2 : Int32)).toNatClampNeg) := inb_of S_20 ⟨by decide, by decide⟩
    obtain ⟨T20, h20, X20, e20, W20, st20⟩ := stI X19 hx hZ e19 Ar_20 (j := (2 : Int32)) hin_20 (g := (mkF m 29 #[.val (.int u), .val (.int t), .val (.int (1 : Int32)), .unset, .unset] [(.int (55296 : Int32)), (.int (2 : Int32)), (.ref b17), (.ref b17)])) rfl rfl (hb hby at_29)
    have Zs := Nat.le_trans Zs (Keep.of_wr W20).1
    have V_b17 := Arv.set Ar_20 q_20 S_20 N_20 H_20 G_20 rfl W20 2 rfl (Nat.le_of_ble_eq_true rfl)
    have NF := Fr.snoc X20 NF g_b17
    refine own_go (T' := T20) (g' := (mkF m 30 #[.val (.int u), .val (.int t), .val (.int (1 : Int32)), .unset, .unset] [(.ref b17)])) (fun _ k => st20 _ k) ?_
    refine own_go (T' := T20) (g' := (mkF m 31 #[.val (.int u), .val (.int t), .val (.int (1 : Int32)), .unset, .unset] [(.ref b17), (.ref b17)])) (fun _ k => XS.dup X20.here hx rfl (hb hby at_30) rfl rfl k) ?_
    refine own_go (T' := T20) (g' := (mkF m 32 #[.val (.int u), .val (.int t), .val (.int (1 : Int32)), .unset, .unset] [(.int (3 : Int32)), (.ref b17), (.ref b17)])) (fun _ k => XS.iconst X20.here hx rfl (hb hby at_31) k) ?_
    refine own_go (T' := T20) (g' := (mkF m 34 #[.val (.int u), .val (.int t), .val (.int (1 : Int32)), .unset, .unset] [(.int (57344 : Int32)), (.int (3 : Int32)), (.ref b17), (.ref b17)])) (fun _ k => X20.ldcInt hx hown (mvT hZ (hw _ (List.mem_of_getElem? (i := 2) rfl))) (g := (mkF m 32 #[.val (.int u), .val (.int t), .val (.int (1 : Int32)), .unset, .unset] [(.int (3 : Int32)), (.ref b17), (.ref b17)])) rfl (hb hby at_32) _ k) ?_
    obtain ⟨c_21, Ar_21, q_21, S_21, N_21, H_21, G_21⟩ := V_b17
    have hin_21 : ¬ ((3 : Int32) < 0 ∨ c_21.slots.size ≤ ((3 : Int32)).toNatClampNeg) := inb_of S_21 ⟨by decide, by decide⟩
    obtain ⟨T21, h21, X21, e21, W21, st21⟩ := stI X20 hx hZ e20 Ar_21 (j := (3 : Int32)) hin_21 (g := (mkF m 34 #[.val (.int u), .val (.int t), .val (.int (1 : Int32)), .unset, .unset] [(.int (57344 : Int32)), (.int (3 : Int32)), (.ref b17), (.ref b17)])) rfl rfl (hb hby at_34)
    have Zs := Nat.le_trans Zs (Keep.of_wr W21).1
    have V_b17 := Arv.set Ar_21 q_21 S_21 N_21 H_21 G_21 rfl W21 3 rfl (Nat.le_of_ble_eq_true rfl)
    have NF := Fr.snoc X21 NF g_b17
    refine own_go (T' := T21) (g' := (mkF m 35 #[.val (.int u), .val (.int t), .val (.int (1 : Int32)), .unset, .unset] [(.ref b17)])) (fun _ k => st21 _ k) ?_
    refine own_go (T' := T21) (g' := (mkF m 36 #[.val (.int u), .val (.int t), .val (.int (1 : Int32)), .unset, .unset] [(.ref b17), (.ref b17)])) (fun _ k => XS.dup X21.here hx rfl (hb hby at_35) rfl rfl k) ?_
    refine own_go (T' := T21) (g' := (mkF m 37 #[.val (.int u), .val (.int t), .val (.int (1 : Int32)), .unset, .unset] [(.int (4 : Int32)), (.ref b17), (.ref b17)])) (fun _ k => XS.iconst X21.here hx rfl (hb hby at_36) k) ?_
    refine own_go (T' := T21) (g' := (mkF m 39 #[.val (.int u), .val (.int t), .val (.int (1 : Int32)), .unset, .unset] [(.int (65534 : Int32)), (.int (4 : Int32)), (.ref b17), (.ref b17)])) (fun _ k => X21.ldcInt hx hown (mvT hZ (hw _ (List.mem_of_getElem? (i := 3) rfl))) (g := (mkF m 37 #[.val (.int u), .val (.int t), .val (.int (1 : Int32)), .unset, .unset] [(.int (4 : Int32)), (.ref b17), (.ref b17)])) rfl (hb hby at_37) _ k) ?_
    obtain ⟨c_22, Ar_22, q_22, S_22, N_22, H_22, G_22⟩ := V_b17
    have hin_22 : ¬ ((4 : Int32) < 0 ∨ c_22.slots.size ≤ ((4 : Int32)).toNatClampNeg) := inb_of S_22 ⟨by decide, by decide⟩
    obtain ⟨T22, h22, X22, e22, W22, st22⟩ := stI X21 hx hZ e21 Ar_22 (j := (4 : Int32)) hin_22 (g := (mkF m 39 #[.val (.int u), .val (.int t), .val (.int (1 : Int32)), .unset, .unset] [(.int (65534 : Int32)), (.int (4 : Int32)), (.ref b17), (.ref b17)])) rfl rfl (hb hby at_39)
    have Zs := Nat.le_trans Zs (Keep.of_wr W22).1
    have V_b17 := Arv.set Ar_22 q_22 S_22 N_22 H_22 G_22 rfl W22 4 rfl (Nat.le_of_ble_eq_true rfl)
    have NF := Fr.snoc X22 NF g_b17
    refine own_go (T' := T22) (g' := (mkF m 40 #[.val (.int u), .val (.int t), .val (.int (1 : Int32)), .unset, .unset] [(.ref b17)])) (fun _ k => st22 _ k) ?_
    refine own_go (T' := T22) (g' := (mkF m 41 #[.val (.int u), .val (.int t), .val (.int (1 : Int32)), .unset, .unset] [(.ref b17), (.ref b17)])) (fun _ k => XS.dup X22.here hx rfl (hb hby at_40) rfl rfl k) ?_
    refine own_go (T' := T22) (g' := (mkF m 42 #[.val (.int u), .val (.int t), .val (.int (1 : Int32)), .unset, .unset] [(.int (5 : Int32)), (.ref b17), (.ref b17)])) (fun _ k => XS.iconst X22.here hx rfl (hb hby at_41) k) ?_
    refine own_go (T' := T22) (g' := (mkF m 44 #[.val (.int u), .val (.int t), .val (.int (1 : Int32)), .unset, .unset] [(.int (65536 : Int32)), (.int (5 : Int32)), (.ref b17), (.ref b17)])) (fun _ k => X22.ldcInt hx hown (mvT hZ (hw _ (List.mem_of_getElem? (i := 4) rfl))) (g := (mkF m 42 #[.val (.int u), .val (.int t), .val (.int (1 : Int32)), .unset, .unset] [(.int (5 : Int32)), (.ref b17), (.ref b17)])) rfl (hb hby at_42) _ k) ?_
    obtain ⟨c_23, Ar_23, q_23, S_23, N_23, H_23, G_23⟩ := V_b17
    have hin_23 : ¬ ((5 : Int32) < 0 ∨ c_23.slots.size ≤ ((5 : Int32)).toNatClampNeg) := inb_of S_23 ⟨by decide, by decide⟩
    obtain ⟨T23, h23, X23, e23, W23, st23⟩ := stI X22 hx hZ e22 Ar_23 (j := (5 : Int32)) hin_23 (g := (mkF m 44 #[.val (.int u), .val (.int t), .val (.int (1 : Int32)), .unset, .unset] [(.int (65536 : Int32)), (.int (5 : Int32)), (.ref b17), (.ref b17)])) rfl rfl (hb hby at_44)
    have Zs := Nat.le_trans Zs (Keep.of_wr W23).1
    have V_b17 := Arv.set Ar_23 q_23 S_23 N_23 H_23 G_23 rfl W23 5 rfl (Nat.le_of_ble_eq_true rfl)
    have NF := Fr.snoc X23 NF g_b17
    refine own_go (T' := T23) (g' := (mkF m 45 #[.val (.int u), .val (.int t), .val (.int (1 : Int32)), .unset, .unset] [(.ref b17)])) (fun _ k => st23 _ k) ?_
    refine own_go (T' := T23) (g' := (mkF m 46 #[.val (.int u), .val (.int t), .val (.int (1 : Int32)), .unset, .unset] [(.ref b17), (.ref b17)])) (fun _ k => XS.dup X23.here hx rfl (hb hby at_45) rfl rfl k) ?_
    refine own_go (T' := T23) (g' := (mkF m 48 #[.val (.int u), .val (.int t), .val (.int (1 : Int32)), .unset, .unset] [(.int (6 : Int32)), (.ref b17), (.ref b17)])) (fun _ k => XS.bipush X23.here hx rfl (hb hby at_46) k) ?_
    refine own_go (T' := T23) (g' := (mkF m 50 #[.val (.int u), .val (.int t), .val (.int (1 : Int32)), .unset, .unset] [(.int (1114112 : Int32)), (.int (6 : Int32)), (.ref b17), (.ref b17)])) (fun _ k => X23.ldcInt hx hown (mvT hZ (hw _ (List.mem_of_getElem? (i := 5) rfl))) (g := (mkF m 48 #[.val (.int u), .val (.int t), .val (.int (1 : Int32)), .unset, .unset] [(.int (6 : Int32)), (.ref b17), (.ref b17)])) rfl (hb hby at_48) _ k) ?_
    obtain ⟨c_24, Ar_24, q_24, S_24, N_24, H_24, G_24⟩ := V_b17
    have hin_24 : ¬ ((6 : Int32) < 0 ∨ c_24.slots.size ≤ ((6 : Int32)).toNatClampNeg) := inb_of S_24 ⟨by decide, by decide⟩
    obtain ⟨T24, h24, X24, e24, W24, st24⟩ := stI X23 hx hZ e23 Ar_24 (j := (6 : Int32)) hin_24 (g := (mkF m 50 #[.val (.int u), .val (.int t), .val (.int (1 : Int32)), .unset, .unset] [(.int (1114112 : Int32)), (.int (6 : Int32)), (.ref b17), (.ref b17)])) rfl rfl (hb hby at_50)
    have Zs := Nat.le_trans Zs (Keep.of_wr W24).1
    have V_b17 := Arv.set Ar_24 q_24 S_24 N_24 H_24 G_24 rfl W24 6 rfl (Nat.le_of_ble_eq_true rfl)
    have NF := Fr.snoc X24 NF g_b17
    refine own_go (T' := T24) (g' := (mkF m 51 #[.val (.int u), .val (.int t), .val (.int (1 : Int32)), .unset, .unset] [(.ref b17)])) (fun _ k => st24 _ k) ?_
    refine own_go (T' := T24) (g' := (mkF m 52 #[.val (.int u), .val (.int t), .val (.int (1 : Int32)), .unset, .unset] [(.ref b17), (.ref b17)])) (fun _ k => XS.dup X24.here hx rfl (hb hby at_51) rfl rfl k) ?_
    refine own_go (T' := T24) (g' := (mkF m 54 #[.val (.int u), .val (.int t), .val (.int (1 : Int32)), .unset, .unset] [(.int (7 : Int32)), (.ref b17), (.ref b17)])) (fun _ k => XS.bipush X24.here hx rfl (hb hby at_52) k) ?_
    refine own_go (T' := T24) (g' := (mkF m 56 #[.val (.int u), .val (.int t), .val (.int (1 : Int32)), .unset, .unset] [(.int (-2147483648 : Int32)), (.int (7 : Int32)), (.ref b17), (.ref b17)])) (fun _ k => X24.ldcInt hx hown (mvT hZ (hw _ (List.mem_of_getElem? (i := 6) rfl))) (g := (mkF m 54 #[.val (.int u), .val (.int t), .val (.int (1 : Int32)), .unset, .unset] [(.int (7 : Int32)), (.ref b17), (.ref b17)])) rfl (hb hby at_54) _ k) ?_
    obtain ⟨c_25, Ar_25, q_25, S_25, N_25, H_25, G_25⟩ := V_b17
    have hin_25 : ¬ ((7 : Int32) < 0 ∨ c_25.slots.size ≤ ((7 : Int32)).toNatClampNeg) := inb_of S_25 ⟨by decide, by decide⟩
    obtain ⟨T25, h25, X25, e25, W25, st25⟩ := stI X24 hx hZ e24 Ar_25 (j := (7 : Int32)) hin_25 (g := (mkF m 56 #[.val (.int u), .val (.int t), .val (.int (1 : Int32)), .unset, .unset] [(.int (-2147483648 : Int32)), (.int (7 : Int32)), (.ref b17), (.ref b17)])) rfl rfl (hb hby at_56)
    have Zs := Nat.le_trans Zs (Keep.of_wr W25).1
    have V_b17 := Arv.set Ar_25 q_25 S_25 N_25 H_25 G_25 rfl W25 7 rfl (Nat.le_of_ble_eq_true rfl)
    have NF := Fr.snoc X25 NF g_b17
    refine own_go (T' := T25) (g' := (mkF m 57 #[.val (.int u), .val (.int t), .val (.int (1 : Int32)), .unset, .unset] [(.ref b17)])) (fun _ k => st25 _ k) ?_
    refine own_go (T' := T25) (g' := (mkF m 58 #[.val (.int u), .val (.int t), .val (.int (1 : Int32)), .val (.ref b17), .unset] [])) (fun _ k => XS.astoreN X25.here hx rfl (hb hby at_57) rfl rfl (l' := #[.val (.int u), .val (.int t), .val (.int (1 : Int32)), .val (.ref b17), .unset]) rfl k) ?_
    refine own_go (T' := T25) (g' := (mkF m 59 #[.val (.int u), .val (.int t), .val (.int (1 : Int32)), .val (.ref b17), .unset] [(.int t)])) (fun _ k => XS.iloadN X25.here hx rfl (hb hby at_58) rfl k) ?_
    refine own_go (T' := T25) (g' := (mkF m 60 #[.val (.int u), .val (.int t), .val (.int (1 : Int32)), .val (.ref b17), .unset] [(.int (2 : Int32)), (.int t)])) (fun _ k => XS.iconst X25.here hx rfl (hb hby at_59) k) ?_
    refine own_go (T' := T25) (g' := (mkF m 61 #[.val (.int u), .val (.int t), .val (.int (1 : Int32)), .val (.ref b17), .unset] [(.int (t &&& (2 : Int32)))])) (fun _ k => XS.iand X25.here hx rfl (hb hby at_60) rfl k) ?_
    by_cases c26 : (t &&& (2 : Int32)) = (0 : Int32)
    · refine own_go (T' := T25) (g' := (mkF m 70 #[.val (.int u), .val (.int t), .val (.int (1 : Int32)), .val (.ref b17), .unset] [])) (fun _ k => XS.ifYes X25.here hx rfl (pc0 := 61) (pc' := 70) rfl (hb hby at_61) rfl ((if0 _ _).trans (teq c26).1) (by decide) (by decide) k) ?_
      refine own_go (T' := T25) (g' := (mkF m 71 #[.val (.int u), .val (.int t), .val (.int (1 : Int32)), .val (.ref b17), .unset] [(.ref b17)])) (fun _ k => XS.aloadN X25.here hx rfl (hb hby at_70) rfl rfl k) ?_
      refine own_go (T' := T25) (g' := (mkF m 72 #[.val (.int u), .val (.int t), .val (.int (1 : Int32)), .val (.ref b17), .unset] [(.int t), (.ref b17)])) (fun _ k => XS.iloadN X25.here hx rfl (hb hby at_71) rfl k) ?_
      refine own_go (T' := T25) (g' := (mkF m 73 #[.val (.int u), .val (.int t), .val (.int (1 : Int32)), .val (.ref b17), .unset] [(.int (2 : Int32)), (.int t), (.ref b17)])) (fun _ k => XS.iconst X25.here hx rfl (hb hby at_72) k) ?_
      refine own_go (T' := T25) (g' := (mkF m 74 #[.val (.int u), .val (.int t), .val (.int (1 : Int32)), .val (.ref b17), .unset] [(.int ((t.toUInt32 >>> ((2 : Int32) &&& 31).toUInt32).toInt32)), (.ref b17)])) (fun _ k => XS.iushr X25.here hx rfl (hb hby at_73) rfl k) ?_
      refine own_go (T' := T25) (g' := (mkF m 76 #[.val (.int u), .val (.int t), .val (.int (1 : Int32)), .val (.ref b17), .unset] [(.int (7 : Int32)), (.int ((t.toUInt32 >>> ((2 : Int32) &&& 31).toUInt32).toInt32)), (.ref b17)])) (fun _ k => XS.bipush X25.here hx rfl (hb hby at_74) k) ?_
      refine own_go (T' := T25) (g' := (mkF m 77 #[.val (.int u), .val (.int t), .val (.int (1 : Int32)), .val (.ref b17), .unset] [(.int (((t.toUInt32 >>> ((2 : Int32) &&& 31).toUInt32).toInt32) &&& (7 : Int32))), (.ref b17)])) (fun _ k => XS.iand X25.here hx rfl (hb hby at_76) rfl k) ?_
      have fj := c_and (((t.toUInt32 >>> ((2 : Int32) &&& 31).toUInt32).toInt32)) (7 : Int32) (by decide)
      obtain ⟨wv, hwv⟩ : ∃ x : Int32, (List.getD [Value.int (0 : Int32), Value.int (32 : Int32), Value.int (55296 : Int32), Value.int (57344 : Int32), Value.int (65534 : Int32), Value.int (65536 : Int32), Value.int (1114112 : Int32), Value.int (-2147483648 : Int32)] ((((t.toUInt32 >>> ((2 : Int32) &&& 31).toUInt32).toInt32) &&& (7 : Int32))).toNatClampNeg (.int (0 : Int32))) = .int x := by
        obtain ⟨c9, A9, q9, S9, N9, H9, G9⟩ := V_b17
        refine own_fitI (G9 _ ?_)
        rw [S9]
        have hin := inb_of (c := c9) (j := (((t.toUInt32 >>> ((2 : Int32) &&& 31).toUInt32).toInt32) &&& (7 : Int32))) S9 ⟨by (try simp only [own_ln2147483648, own_l0, own_l1, own_l2, own_l3, own_l4, own_l5, own_l6, own_l7, own_l8, own_l9, own_l10, own_l13, own_l15, own_l32, own_l55295, own_l55296, own_l57343, own_l57344, own_l65533, own_l65534, own_l65535, own_l65536, own_l1114111, own_l1114112, Int32.lt_iff_toInt_lt, ← Int32.toInt_inj, Int64.lt_iff_toInt_lt, ← Int64.toInt_inj, and_true, true_and, and_false, false_and, or_true, true_or, or_false, false_or, not_true_eq_false, not_false_eq_true, ne_eq, true_implies, false_implies, implies_true] at fj ⊢) <;> omega, by (try simp only [own_ln2147483648, own_l0, own_l1, own_l2, own_l3, own_l4, own_l5, own_l6, own_l7, own_l8, own_l9, own_l10, own_l13, own_l15, own_l32, own_l55295, own_l55296, own_l57343, own_l57344, own_l65533, own_l65534, own_l65535, own_l65536, own_l1114111, own_l1114112, Int32.lt_iff_toInt_lt, ← Int32.toInt_inj, Int64.lt_iff_toInt_lt, ← Int64.toInt_inj, and_true, true_and, and_false, false_and, or_true, true_or, or_false, false_or, not_true_eq_false, not_false_eq_true, ne_eq, true_implies, false_implies, implies_true] at fj ⊢) <;> omega⟩
        rw [← S9]; exact Nat.lt_of_not_le fun y => hin (Or.inr y)
      obtain ⟨c_27, Ar_27, q_27, S_27, N_27, H_27, G_27⟩ := V_b17
      have hin_27 : ¬ ((((t.toUInt32 >>> ((2 : Int32) &&& 31).toUInt32).toInt32) &&& (7 : Int32)) < 0 ∨ c_27.slots.size ≤ ((((t.toUInt32 >>> ((2 : Int32) &&& 31).toUInt32).toInt32) &&& (7 : Int32))).toNatClampNeg) := inb_of S_27 ⟨by (try simp only [own_ln2147483648, own_l0, own_l1, own_l2, own_l3, own_l4, own_l5, own_l6, own_l7, own_l8, own_l9, own_l10, own_l13, own_l15, own_l32, own_l55295, own_l55296, own_l57343, own_l57344, own_l65533, own_l65534, own_l65535, own_l65536, own_l1114111, own_l1114112, Int32.lt_iff_toInt_lt, ← Int32.toInt_inj, Int64.lt_iff_toInt_lt, ← Int64.toInt_inj, and_true, true_and, and_false, false_and, or_true, true_or, or_false, false_or, not_true_eq_false, not_false_eq_true, ne_eq, true_implies, false_implies, implies_true] at fj ⊢) <;> omega, by (try simp only [own_ln2147483648, own_l0, own_l1, own_l2, own_l3, own_l4, own_l5, own_l6, own_l7, own_l8, own_l9, own_l10, own_l13, own_l15, own_l32, own_l55295, own_l55296, own_l57343, own_l57344, own_l65533, own_l65534, own_l65535, own_l65536, own_l1114111, own_l1114112, Int32.lt_iff_toInt_lt, ← Int32.toInt_inj, Int64.lt_iff_toInt_lt, ← Int64.toInt_inj, and_true, true_and, and_false, false_and, or_true, true_or, or_false, false_or, not_true_eq_false, not_false_eq_true, ne_eq, true_implies, false_implies, implies_true] at fj ⊢) <;> omega⟩
      have hat_27 : c_27.slots[((((t.toUInt32 >>> ((2 : Int32) &&& 31).toUInt32).toInt32) &&& (7 : Int32))).toNatClampNeg]? = some (.int wv) := H_27.at hin_27 hwv
      refine own_go (T' := T25) (g' := (mkF m 78 #[.val (.int u), .val (.int t), .val (.int (1 : Int32)), .val (.ref b17), .unset] [(.int wv)])) (fun _ k => X25.iaload hx (j := (((t.toUInt32 >>> ((2 : Int32) &&& 31).toUInt32).toInt32) &&& (7 : Int32))) (v := (.int wv)) (by rw [e25]; exact Ar_27.1) (State.isArrayOf_alike hZ.alike Ar_27.2.1) Ar_27.2.2 hin_27 hat_27 (g := (mkF m 77 #[.val (.int u), .val (.int t), .val (.int (1 : Int32)), .val (.ref b17), .unset] [(.int (((t.toUInt32 >>> ((2 : Int32) &&& 31).toUInt32).toInt32) &&& (7 : Int32))), (.ref b17)])) rfl rfl (hb hby at_77) _ k) ?_
      refine own_go (T' := T25) (g' := (mkF m 79 #[.val (.int u), .val (.int t), .val (.int (1 : Int32)), .val (.ref b17), .unset] [(.int u), (.int wv)])) (fun _ k => XS.iloadN X25.here hx rfl (hb hby at_78) rfl k) ?_
      refine own_go (T' := T25) (g' := (mkF m 81 #[.val (.int u), .val (.int t), .val (.int (1 : Int32)), .val (.ref b17), .unset] [(.int (15 : Int32)), (.int u), (.int wv)])) (fun _ k => XS.bipush X25.here hx rfl (hb hby at_79) k) ?_
      refine own_go (T' := T25) (g' := (mkF m 82 #[.val (.int u), .val (.int t), .val (.int (1 : Int32)), .val (.ref b17), .unset] [(.int (u &&& (15 : Int32))), (.int wv)])) (fun _ k => XS.iand X25.here hx rfl (hb hby at_81) rfl k) ?_
      refine own_go (T' := T25) (g' := (mkF m 84 #[.val (.int u), .val (.int t), .val (.int (1 : Int32)), .val (.ref b17), .unset] [(.int (8 : Int32)), (.int (u &&& (15 : Int32))), (.int wv)])) (fun _ k => XS.bipush X25.here hx rfl (hb hby at_82) k) ?_
      refine own_go (T' := T25) (g' := (mkF m 85 #[.val (.int u), .val (.int t), .val (.int (1 : Int32)), .val (.ref b17), .unset] [(.int ((u &&& (15 : Int32)) - (8 : Int32))), (.int wv)])) (fun _ k => XS.isub X25.here hx rfl (hb hby at_84) rfl k) ?_
      refine own_go (T' := T25) (g' := (mkF m 86 #[.val (.int u), .val (.int t), .val (.int (1 : Int32)), .val (.ref b17), .unset] [(.int (wv + ((u &&& (15 : Int32)) - (8 : Int32))))])) (fun _ k => XS.iadd X25.here hx rfl (hb hby at_85) rfl k) ?_
      refine own_go (T' := T25) (g' := (mkF m 88 #[.val (.int u), .val (.int t), .val (.int (1 : Int32)), .val (.ref b17), .val (.int (wv + ((u &&& (15 : Int32)) - (8 : Int32))))] [])) (fun _ k => XS.istore X25.here hx rfl (hb hby at_86) rfl (l' := #[.val (.int u), .val (.int t), .val (.int (1 : Int32)), .val (.ref b17), .val (.int (wv + ((u &&& (15 : Int32)) - (8 : Int32))))]) rfl k) ?_
      refine own_go (T' := T25) (g' := (mkF m 90 #[.val (.int u), .val (.int t), .val (.int (1 : Int32)), .val (.ref b17), .val (.int (wv + ((u &&& (15 : Int32)) - (8 : Int32))))] [(.int (wv + ((u &&& (15 : Int32)) - (8 : Int32))))])) (fun _ k => XS.iload X25.here hx rfl (hb hby at_88) rfl k) ?_
      refine own_go (T' := T25) (g' := (mkF m 91 #[.val (.int u), .val (.int t), .val (.int (1 : Int32)), .val (.ref b17), .val (.int (wv + ((u &&& (15 : Int32)) - (8 : Int32))))] [(.int (1 : Int32)), (.int (wv + ((u &&& (15 : Int32)) - (8 : Int32))))])) (fun _ k => XS.iloadN X25.here hx rfl (hb hby at_90) rfl k) ?_
      obtain ⟨_, _, ⟨T28, L28, k28, n28⟩, -, X28, ⟨Lc28, hQ28, l28, y28, z28⟩, st28⟩ := Jvm.LawKit.callS X25 hx (y := (⟨"com/example/tidy_sitemap/tidysitemap/read/XmlCharacters", "isCharacter", "(IZ)Z"⟩ : MethodName)) hown (mvT hZ (hw _ (List.mem_of_getElem? (i := 7) rfl))) (mvT hZ (hw _ (List.mem_of_getElem? (i := 8) rfl))) (mvT hZ (hw _ (List.mem_of_getElem? (i := 9) rfl))) (mvT hZ (hw _ (List.mem_of_getElem? (i := 10) rfl))) (by decide) (backOf (W := 0) (own_rm1 l Z a0 hw [] (wv + ((u &&& (15 : Int32)) - (8 : Int32))) (1 : Int32) h25 n0 Zs) hZ (hw _ (List.mem_of_getElem? (i := 10) rfl)) (hw _ (List.mem_of_getElem? (i := 9) rfl)) (by decide) (by decide)) (g := (mkF m 91 #[.val (.int u), .val (.int t), .val (.int (1 : Int32)), .val (.ref b17), .val (.int (wv + ((u &&& (15 : Int32)) - (8 : Int32))))] [(.int (1 : Int32)), (.int (wv + ((u &&& (15 : Int32)) - (8 : Int32))))])) rfl (by rw [hml]; rfl) (argsL := [(.int (wv + ((u &&& (15 : Int32)) - (8 : Int32)))), (.int (1 : Int32))]) (rest := []) (lenOf own_pd0_0 rfl) rfl (by show 2 * 0 + _ ≤ _; exact Nat.le_of_eq rfl) (hb hby at_91) (fun _ _ => ⟨rfl, e25, (by decide : 1 + 0 ≤ _), (by decide : 8 + 0 ≤ _)⟩)
      dsimp only [Pt.U, Pt.locs, Pt.cells, Pt.slots] at X28 l28 y28 z28 st28 hQ28
      subst l28 y28 z28
      obtain ⟨rfl, NQ28, eq28⟩ := hQ28
      have NF := Fr.app NF NQ28
      refine own_go (T' := T28) (g' := (mkF m 94 #[.val (.int u), .val (.int t), .val (.int (1 : Int32)), .val (.ref b17), .val (.int (wv + ((u &&& (15 : Int32)) - (8 : Int32))))] [(.int (if (((1 : Int32).toInt ≠ 0 ∧ 1 ≤ (wv + ((u &&& (15 : Int32)) - (8 : Int32))).toInt ∧ (wv + ((u &&& (15 : Int32)) - (8 : Int32))).toInt ≤ 55295) ∨ ((1 : Int32).toInt = 0 ∧ ((wv + ((u &&& (15 : Int32)) - (8 : Int32))).toInt = 9 ∨ (wv + ((u &&& (15 : Int32)) - (8 : Int32))).toInt = 10 ∨ (wv + ((u &&& (15 : Int32)) - (8 : Int32))).toInt = 13 ∨ (32 ≤ (wv + ((u &&& (15 : Int32)) - (8 : Int32))).toInt ∧ (wv + ((u &&& (15 : Int32)) - (8 : Int32))).toInt ≤ 55295)))) ∨ (57344 ≤ (wv + ((u &&& (15 : Int32)) - (8 : Int32))).toInt ∧ (wv + ((u &&& (15 : Int32)) - (8 : Int32))).toInt ≤ 65533) ∨ (65536 ≤ (wv + ((u &&& (15 : Int32)) - (8 : Int32))).toInt ∧ (wv + ((u &&& (15 : Int32)) - (8 : Int32))).toInt ≤ 1114111) then (1 : Int32) else 0))])) (fun _ k => st28 _ k) ?_
      refine own_go (T' := T28) (g' := (mkF m 96 #[.val (.int u), .val (.int t), .val (.int (1 : Int32)), .val (.ref b17), .val (.int (wv + ((u &&& (15 : Int32)) - (8 : Int32))))] [(.int (wv + ((u &&& (15 : Int32)) - (8 : Int32)))), (.int (if (((1 : Int32).toInt ≠ 0 ∧ 1 ≤ (wv + ((u &&& (15 : Int32)) - (8 : Int32))).toInt ∧ (wv + ((u &&& (15 : Int32)) - (8 : Int32))).toInt ≤ 55295) ∨ ((1 : Int32).toInt = 0 ∧ ((wv + ((u &&& (15 : Int32)) - (8 : Int32))).toInt = 9 ∨ (wv + ((u &&& (15 : Int32)) - (8 : Int32))).toInt = 10 ∨ (wv + ((u &&& (15 : Int32)) - (8 : Int32))).toInt = 13 ∨ (32 ≤ (wv + ((u &&& (15 : Int32)) - (8 : Int32))).toInt ∧ (wv + ((u &&& (15 : Int32)) - (8 : Int32))).toInt ≤ 55295)))) ∨ (57344 ≤ (wv + ((u &&& (15 : Int32)) - (8 : Int32))).toInt ∧ (wv + ((u &&& (15 : Int32)) - (8 : Int32))).toInt ≤ 65533) ∨ (65536 ≤ (wv + ((u &&& (15 : Int32)) - (8 : Int32))).toInt ∧ (wv + ((u &&& (15 : Int32)) - (8 : Int32))).toInt ≤ 1114111) then (1 : Int32) else 0))])) (fun _ k => XS.iload X28.here hx rfl (hb hby at_94) rfl k) ?_
      refine own_go (T' := T28) (g' := (mkF m 97 #[.val (.int u), .val (.int t), .val (.int (1 : Int32)), .val (.ref b17), .val (.int (wv + ((u &&& (15 : Int32)) - (8 : Int32))))] [(.int (1 : Int32)), (.int (wv + ((u &&& (15 : Int32)) - (8 : Int32)))), (.int (if (((1 : Int32).toInt ≠ 0 ∧ 1 ≤ (wv + ((u &&& (15 : Int32)) - (8 : Int32))).toInt ∧ (wv + ((u &&& (15 : Int32)) - (8 : Int32))).toInt ≤ 55295) ∨ ((1 : Int32).toInt = 0 ∧ ((wv + ((u &&& (15 : Int32)) - (8 : Int32))).toInt = 9 ∨ (wv + ((u &&& (15 : Int32)) - (8 : Int32))).toInt = 10 ∨ (wv + ((u &&& (15 : Int32)) - (8 : Int32))).toInt = 13 ∨ (32 ≤ (wv + ((u &&& (15 : Int32)) - (8 : Int32))).toInt ∧ (wv + ((u &&& (15 : Int32)) - (8 : Int32))).toInt ≤ 55295)))) ∨ (57344 ≤ (wv + ((u &&& (15 : Int32)) - (8 : Int32))).toInt ∧ (wv + ((u &&& (15 : Int32)) - (8 : Int32))).toInt ≤ 65533) ∨ (65536 ≤ (wv + ((u &&& (15 : Int32)) - (8 : Int32))).toInt ∧ (wv + ((u &&& (15 : Int32)) - (8 : Int32))).toInt ≤ 1114111) then (1 : Int32) else 0))])) (fun _ k => XS.iloadN X28.here hx rfl (hb hby at_96) rfl k) ?_
      obtain ⟨_, _, ⟨T29, L29, k29, n29⟩, -, X29, ⟨Lc29, hQ29, l29, y29, z29⟩, st29⟩ := Jvm.LawKit.callS X28 hx (y := (⟨"com/example/tidy_sitemap/tidysitemap/read/XmlCharactersIsCharacterPinLaw", "reference", "(IZ)Z"⟩ : MethodName)) hown (mvT hZ (hw _ (List.mem_of_getElem? (i := 11) rfl))) (mvT hZ (hw _ (List.mem_of_getElem? (i := 12) rfl))) (mvT hZ (hw _ (List.mem_of_getElem? (i := 13) rfl))) (mvT hZ (hw _ (List.mem_of_getElem? (i := 14) rfl))) (by decide) (backOf (W := 1) (own_rm2 l Z a0 hw [] (wv + ((u &&& (15 : Int32)) - (8 : Int32))) (1 : Int32) h25 n0 Zs) hZ (hw _ (List.mem_of_getElem? (i := 14) rfl)) (hw _ (List.mem_of_getElem? (i := 13) rfl)) (by decide) (by decide)) (g := (mkF m 97 #[.val (.int u), .val (.int t), .val (.int (1 : Int32)), .val (.ref b17), .val (.int (wv + ((u &&& (15 : Int32)) - (8 : Int32))))] [(.int (1 : Int32)), (.int (wv + ((u &&& (15 : Int32)) - (8 : Int32)))), (.int (if (((1 : Int32).toInt ≠ 0 ∧ 1 ≤ (wv + ((u &&& (15 : Int32)) - (8 : Int32))).toInt ∧ (wv + ((u &&& (15 : Int32)) - (8 : Int32))).toInt ≤ 55295) ∨ ((1 : Int32).toInt = 0 ∧ ((wv + ((u &&& (15 : Int32)) - (8 : Int32))).toInt = 9 ∨ (wv + ((u &&& (15 : Int32)) - (8 : Int32))).toInt = 10 ∨ (wv + ((u &&& (15 : Int32)) - (8 : Int32))).toInt = 13 ∨ (32 ≤ (wv + ((u &&& (15 : Int32)) - (8 : Int32))).toInt ∧ (wv + ((u &&& (15 : Int32)) - (8 : Int32))).toInt ≤ 55295)))) ∨ (57344 ≤ (wv + ((u &&& (15 : Int32)) - (8 : Int32))).toInt ∧ (wv + ((u &&& (15 : Int32)) - (8 : Int32))).toInt ≤ 65533) ∨ (65536 ≤ (wv + ((u &&& (15 : Int32)) - (8 : Int32))).toInt ∧ (wv + ((u &&& (15 : Int32)) - (8 : Int32))).toInt ≤ 1114111) then (1 : Int32) else 0))])) rfl (by rw [hml]; rfl) (argsL := [(.int (wv + ((u &&& (15 : Int32)) - (8 : Int32)))), (.int (1 : Int32))]) (rest := [(.int (if (((1 : Int32).toInt ≠ 0 ∧ 1 ≤ (wv + ((u &&& (15 : Int32)) - (8 : Int32))).toInt ∧ (wv + ((u &&& (15 : Int32)) - (8 : Int32))).toInt ≤ 55295) ∨ ((1 : Int32).toInt = 0 ∧ ((wv + ((u &&& (15 : Int32)) - (8 : Int32))).toInt = 9 ∨ (wv + ((u &&& (15 : Int32)) - (8 : Int32))).toInt = 10 ∨ (wv + ((u &&& (15 : Int32)) - (8 : Int32))).toInt = 13 ∨ (32 ≤ (wv + ((u &&& (15 : Int32)) - (8 : Int32))).toInt ∧ (wv + ((u &&& (15 : Int32)) - (8 : Int32))).toInt ≤ 55295)))) ∨ (57344 ≤ (wv + ((u &&& (15 : Int32)) - (8 : Int32))).toInt ∧ (wv + ((u &&& (15 : Int32)) - (8 : Int32))).toInt ≤ 65533) ∨ (65536 ≤ (wv + ((u &&& (15 : Int32)) - (8 : Int32))).toInt ∧ (wv + ((u &&& (15 : Int32)) - (8 : Int32))).toInt ≤ 1114111) then (1 : Int32) else 0))]) (lenOf own_pd0_0 rfl) rfl (by show 2 * 0 + _ ≤ _; exact Nat.le_of_eq rfl) (hb hby at_97) (fun _ _ => ⟨rfl, eq28, (by decide : 1 + 0 ≤ _), (by decide : 8 + 0 ≤ _)⟩)
      dsimp only [Pt.U, Pt.locs, Pt.cells, Pt.slots] at X29 l29 y29 z29 st29 hQ29
      subst l29 y29 z29
      obtain ⟨rfl, NQ29, eq29⟩ := hQ29
      have NF := Fr.app NF NQ29
      refine own_go (T' := T29) (g' := (mkF m 100 #[.val (.int u), .val (.int t), .val (.int (1 : Int32)), .val (.ref b17), .val (.int (wv + ((u &&& (15 : Int32)) - (8 : Int32))))] [(.int (if (((1 : Int32).toInt ≠ 0 ∧ 1 ≤ (wv + ((u &&& (15 : Int32)) - (8 : Int32))).toInt ∧ (wv + ((u &&& (15 : Int32)) - (8 : Int32))).toInt ≤ 55295) ∨ ((1 : Int32).toInt = 0 ∧ ((wv + ((u &&& (15 : Int32)) - (8 : Int32))).toInt = 9 ∨ (wv + ((u &&& (15 : Int32)) - (8 : Int32))).toInt = 10 ∨ (wv + ((u &&& (15 : Int32)) - (8 : Int32))).toInt = 13 ∨ (32 ≤ (wv + ((u &&& (15 : Int32)) - (8 : Int32))).toInt ∧ (wv + ((u &&& (15 : Int32)) - (8 : Int32))).toInt ≤ 55295)))) ∨ (57344 ≤ (wv + ((u &&& (15 : Int32)) - (8 : Int32))).toInt ∧ (wv + ((u &&& (15 : Int32)) - (8 : Int32))).toInt ≤ 65533) ∨ (65536 ≤ (wv + ((u &&& (15 : Int32)) - (8 : Int32))).toInt ∧ (wv + ((u &&& (15 : Int32)) - (8 : Int32))).toInt ≤ 1114111) then (1 : Int32) else 0)), (.int (if (((1 : Int32).toInt ≠ 0 ∧ 1 ≤ (wv + ((u &&& (15 : Int32)) - (8 : Int32))).toInt ∧ (wv + ((u &&& (15 : Int32)) - (8 : Int32))).toInt ≤ 55295) ∨ ((1 : Int32).toInt = 0 ∧ ((wv + ((u &&& (15 : Int32)) - (8 : Int32))).toInt = 9 ∨ (wv + ((u &&& (15 : Int32)) - (8 : Int32))).toInt = 10 ∨ (wv + ((u &&& (15 : Int32)) - (8 : Int32))).toInt = 13 ∨ (32 ≤ (wv + ((u &&& (15 : Int32)) - (8 : Int32))).toInt ∧ (wv + ((u &&& (15 : Int32)) - (8 : Int32))).toInt ≤ 55295)))) ∨ (57344 ≤ (wv + ((u &&& (15 : Int32)) - (8 : Int32))).toInt ∧ (wv + ((u &&& (15 : Int32)) - (8 : Int32))).toInt ≤ 65533) ∨ (65536 ≤ (wv + ((u &&& (15 : Int32)) - (8 : Int32))).toInt ∧ (wv + ((u &&& (15 : Int32)) - (8 : Int32))).toInt ≤ 1114111) then (1 : Int32) else 0))])) (fun _ k => st29 _ k) ?_
      refine own_go (T' := T29) (g' := (mkF m 103 #[.val (.int u), .val (.int t), .val (.int (1 : Int32)), .val (.ref b17), .val (.int (wv + ((u &&& (15 : Int32)) - (8 : Int32))))] [])) (fun _ k => XS.icmpNo X29.here hx rfl (hb hby at_100) rfl (teq (rfl : (if (((1 : Int32).toInt ≠ 0 ∧ 1 ≤ (wv + ((u &&& (15 : Int32)) - (8 : Int32))).toInt ∧ (wv + ((u &&& (15 : Int32)) - (8 : Int32))).toInt ≤ 55295) ∨ ((1 : Int32).toInt = 0 ∧ ((wv + ((u &&& (15 : Int32)) - (8 : Int32))).toInt = 9 ∨ (wv + ((u &&& (15 : Int32)) - (8 : Int32))).toInt = 10 ∨ (wv + ((u &&& (15 : Int32)) - (8 : Int32))).toInt = 13 ∨ (32 ≤ (wv + ((u &&& (15 : Int32)) - (8 : Int32))).toInt ∧ (wv + ((u &&& (15 : Int32)) - (8 : Int32))).toInt ≤ 55295)))) ∨ (57344 ≤ (wv + ((u &&& (15 : Int32)) - (8 : Int32))).toInt ∧ (wv + ((u &&& (15 : Int32)) - (8 : Int32))).toInt ≤ 65533) ∨ (65536 ≤ (wv + ((u &&& (15 : Int32)) - (8 : Int32))).toInt ∧ (wv + ((u &&& (15 : Int32)) - (8 : Int32))).toInt ≤ 1114111) then (1 : Int32) else 0) = (if (((1 : Int32).toInt ≠ 0 ∧ 1 ≤ (wv + ((u &&& (15 : Int32)) - (8 : Int32))).toInt ∧ (wv + ((u &&& (15 : Int32)) - (8 : Int32))).toInt ≤ 55295) ∨ ((1 : Int32).toInt = 0 ∧ ((wv + ((u &&& (15 : Int32)) - (8 : Int32))).toInt = 9 ∨ (wv + ((u &&& (15 : Int32)) - (8 : Int32))).toInt = 10 ∨ (wv + ((u &&& (15 : Int32)) - (8 : Int32))).toInt = 13 ∨ (32 ≤ (wv + ((u &&& (15 : Int32)) - (8 : Int32))).toInt ∧ (wv + ((u &&& (15 : Int32)) - (8 : Int32))).toInt ≤ 55295)))) ∨ (57344 ≤ (wv + ((u &&& (15 : Int32)) - (8 : Int32))).toInt ∧ (wv + ((u &&& (15 : Int32)) - (8 : Int32))).toInt ≤ 65533) ∨ (65536 ≤ (wv + ((u &&& (15 : Int32)) - (8 : Int32))).toInt ∧ (wv + ((u &&& (15 : Int32)) - (8 : Int32))).toInt ≤ 1114111) then (1 : Int32) else 0))).2 k) ?_
      refine own_go (T' := T29) (g' := (mkF m 104 #[.val (.int u), .val (.int t), .val (.int (1 : Int32)), .val (.ref b17), .val (.int (wv + ((u &&& (15 : Int32)) - (8 : Int32))))] [(.int (1 : Int32))])) (fun _ k => XS.iconst X29.here hx rfl (hb hby at_103) k) ?_
      refine own_go (T' := T29) (g' := (mkF m 108 #[.val (.int u), .val (.int t), .val (.int (1 : Int32)), .val (.ref b17), .val (.int (wv + ((u &&& (15 : Int32)) - (8 : Int32))))] [(.int (1 : Int32))])) (fun _ k => XS.goto X29.here hx rfl (pc0 := 104) (pc' := 108) rfl (hb hby at_104) (by decide) (by decide) k) ?_
      refine own_ret X29 Bd.notSynchronized (some (.int (1 : Int32))) (fun h => by rw [Bd.returns] at h; cases h) (fun fs hr => retN X29 hx (t := .boolean) Bd.returns (by simp) (hb hby at_108) hr) ?_ (by decide) (by decide)
      show (own_Q0 Z u t h0 n0) (some (.int (1 : Int32))) T29.heap _
      rw [eq29]
      exact ⟨rfl, NF⟩
    · refine own_go (T' := T25) (g' := (mkF m 64 #[.val (.int u), .val (.int t), .val (.int (1 : Int32)), .val (.ref b17), .unset] [])) (fun _ k => XS.ifNo X25.here hx rfl (hb hby at_61) rfl ((if0 _ _).trans (feq c26).1) k) ?_
      refine own_go (T' := T25) (g' := (mkF m 65 #[.val (.int u), .val (.int t), .val (.int (1 : Int32)), .val (.ref b17), .unset] [(.int u)])) (fun _ k => XS.iloadN X25.here hx rfl (hb hby at_64) rfl k) ?_
      refine own_go (T' := T25) (g' := (mkF m 67 #[.val (.int u), .val (.int t), .val (.int (1 : Int32)), .val (.ref b17), .val (.int u)] [])) (fun _ k => XS.istore X25.here hx rfl (hb hby at_65) rfl (l' := #[.val (.int u), .val (.int t), .val (.int (1 : Int32)), .val (.ref b17), .val (.int u)]) rfl k) ?_
      refine own_go (T' := T25) (g' := (mkF m 88 #[.val (.int u), .val (.int t), .val (.int (1 : Int32)), .val (.ref b17), .val (.int u)] [])) (fun _ k => XS.goto X25.here hx rfl (pc0 := 67) (pc' := 88) rfl (hb hby at_67) (by decide) (by decide) k) ?_
      refine own_go (T' := T25) (g' := (mkF m 90 #[.val (.int u), .val (.int t), .val (.int (1 : Int32)), .val (.ref b17), .val (.int u)] [(.int u)])) (fun _ k => XS.iload X25.here hx rfl (hb hby at_88) rfl k) ?_
      refine own_go (T' := T25) (g' := (mkF m 91 #[.val (.int u), .val (.int t), .val (.int (1 : Int32)), .val (.ref b17), .val (.int u)] [(.int (1 : Int32)), (.int u)])) (fun _ k => XS.iloadN X25.here hx rfl (hb hby at_90) rfl k) ?_
      obtain ⟨_, _, ⟨T30, L30, k30, n30⟩, -, X30, ⟨Lc30, hQ30, l30, y30, z30⟩, st30⟩ := Jvm.LawKit.callS X25 hx (y := (⟨"com/example/tidy_sitemap/tidysitemap/read/XmlCharacters", "isCharacter", "(IZ)Z"⟩ : MethodName)) hown (mvT hZ (hw _ (List.mem_of_getElem? (i := 7) rfl))) (mvT hZ (hw _ (List.mem_of_getElem? (i := 8) rfl))) (mvT hZ (hw _ (List.mem_of_getElem? (i := 9) rfl))) (mvT hZ (hw _ (List.mem_of_getElem? (i := 10) rfl))) (by decide) (backOf (W := 0) (own_rm1 l Z a0 hw [] u (1 : Int32) h25 n0 Zs) hZ (hw _ (List.mem_of_getElem? (i := 10) rfl)) (hw _ (List.mem_of_getElem? (i := 9) rfl)) (by decide) (by decide)) (g := (mkF m 91 #[.val (.int u), .val (.int t), .val (.int (1 : Int32)), .val (.ref b17), .val (.int u)] [(.int (1 : Int32)), (.int u)])) rfl (by rw [hml]; rfl) (argsL := [(.int u), (.int (1 : Int32))]) (rest := []) (lenOf own_pd0_0 rfl) rfl (by show 2 * 0 + _ ≤ _; exact Nat.le_of_eq rfl) (hb hby at_91) (fun _ _ => ⟨rfl, e25, (by decide : 1 + 0 ≤ _), (by decide : 8 + 0 ≤ _)⟩)
      dsimp only [Pt.U, Pt.locs, Pt.cells, Pt.slots] at X30 l30 y30 z30 st30 hQ30
      subst l30 y30 z30
      obtain ⟨rfl, NQ30, eq30⟩ := hQ30
      have NF := Fr.app NF NQ30
      refine own_go (T' := T30) (g' := (mkF m 94 #[.val (.int u), .val (.int t), .val (.int (1 : Int32)), .val (.ref b17), .val (.int u)] [(.int (if (((1 : Int32).toInt ≠ 0 ∧ 1 ≤ u.toInt ∧ u.toInt ≤ 55295) ∨ ((1 : Int32).toInt = 0 ∧ (u.toInt = 9 ∨ u.toInt = 10 ∨ u.toInt = 13 ∨ (32 ≤ u.toInt ∧ u.toInt ≤ 55295)))) ∨ (57344 ≤ u.toInt ∧ u.toInt ≤ 65533) ∨ (65536 ≤ u.toInt ∧ u.toInt ≤ 1114111) then (1 : Int32) else 0))])) (fun _ k => st30 _ k) ?_
      refine own_go (T' := T30) (g' := (mkF m 96 #[.val (.int u), .val (.int t), .val (.int (1 : Int32)), .val (.ref b17), .val (.int u)] [(.int u), (.int (if (((1 : Int32).toInt ≠ 0 ∧ 1 ≤ u.toInt ∧ u.toInt ≤ 55295) ∨ ((1 : Int32).toInt = 0 ∧ (u.toInt = 9 ∨ u.toInt = 10 ∨ u.toInt = 13 ∨ (32 ≤ u.toInt ∧ u.toInt ≤ 55295)))) ∨ (57344 ≤ u.toInt ∧ u.toInt ≤ 65533) ∨ (65536 ≤ u.toInt ∧ u.toInt ≤ 1114111) then (1 : Int32) else 0))])) (fun _ k => XS.iload X30.here hx rfl (hb hby at_94) rfl k) ?_
      refine own_go (T' := T30) (g' := (mkF m 97 #[.val (.int u), .val (.int t), .val (.int (1 : Int32)), .val (.ref b17), .val (.int u)] [(.int (1 : Int32)), (.int u), (.int (if (((1 : Int32).toInt ≠ 0 ∧ 1 ≤ u.toInt ∧ u.toInt ≤ 55295) ∨ ((1 : Int32).toInt = 0 ∧ (u.toInt = 9 ∨ u.toInt = 10 ∨ u.toInt = 13 ∨ (32 ≤ u.toInt ∧ u.toInt ≤ 55295)))) ∨ (57344 ≤ u.toInt ∧ u.toInt ≤ 65533) ∨ (65536 ≤ u.toInt ∧ u.toInt ≤ 1114111) then (1 : Int32) else 0))])) (fun _ k => XS.iloadN X30.here hx rfl (hb hby at_96) rfl k) ?_
      obtain ⟨_, _, ⟨T31, L31, k31, n31⟩, -, X31, ⟨Lc31, hQ31, l31, y31, z31⟩, st31⟩ := Jvm.LawKit.callS X30 hx (y := (⟨"com/example/tidy_sitemap/tidysitemap/read/XmlCharactersIsCharacterPinLaw", "reference", "(IZ)Z"⟩ : MethodName)) hown (mvT hZ (hw _ (List.mem_of_getElem? (i := 11) rfl))) (mvT hZ (hw _ (List.mem_of_getElem? (i := 12) rfl))) (mvT hZ (hw _ (List.mem_of_getElem? (i := 13) rfl))) (mvT hZ (hw _ (List.mem_of_getElem? (i := 14) rfl))) (by decide) (backOf (W := 1) (own_rm2 l Z a0 hw [] u (1 : Int32) h25 n0 Zs) hZ (hw _ (List.mem_of_getElem? (i := 14) rfl)) (hw _ (List.mem_of_getElem? (i := 13) rfl)) (by decide) (by decide)) (g := (mkF m 97 #[.val (.int u), .val (.int t), .val (.int (1 : Int32)), .val (.ref b17), .val (.int u)] [(.int (1 : Int32)), (.int u), (.int (if (((1 : Int32).toInt ≠ 0 ∧ 1 ≤ u.toInt ∧ u.toInt ≤ 55295) ∨ ((1 : Int32).toInt = 0 ∧ (u.toInt = 9 ∨ u.toInt = 10 ∨ u.toInt = 13 ∨ (32 ≤ u.toInt ∧ u.toInt ≤ 55295)))) ∨ (57344 ≤ u.toInt ∧ u.toInt ≤ 65533) ∨ (65536 ≤ u.toInt ∧ u.toInt ≤ 1114111) then (1 : Int32) else 0))])) rfl (by rw [hml]; rfl) (argsL := [(.int u), (.int (1 : Int32))]) (rest := [(.int (if (((1 : Int32).toInt ≠ 0 ∧ 1 ≤ u.toInt ∧ u.toInt ≤ 55295) ∨ ((1 : Int32).toInt = 0 ∧ (u.toInt = 9 ∨ u.toInt = 10 ∨ u.toInt = 13 ∨ (32 ≤ u.toInt ∧ u.toInt ≤ 55295)))) ∨ (57344 ≤ u.toInt ∧ u.toInt ≤ 65533) ∨ (65536 ≤ u.toInt ∧ u.toInt ≤ 1114111) then (1 : Int32) else 0))]) (lenOf own_pd0_0 rfl) rfl (by show 2 * 0 + _ ≤ _; exact Nat.le_of_eq rfl) (hb hby at_97) (fun _ _ => ⟨rfl, eq30, (by decide : 1 + 0 ≤ _), (by decide : 8 + 0 ≤ _)⟩)
      dsimp only [Pt.U, Pt.locs, Pt.cells, Pt.slots] at X31 l31 y31 z31 st31 hQ31
      subst l31 y31 z31
      obtain ⟨rfl, NQ31, eq31⟩ := hQ31
      have NF := Fr.app NF NQ31
      refine own_go (T' := T31) (g' := (mkF m 100 #[.val (.int u), .val (.int t), .val (.int (1 : Int32)), .val (.ref b17), .val (.int u)] [(.int (if (((1 : Int32).toInt ≠ 0 ∧ 1 ≤ u.toInt ∧ u.toInt ≤ 55295) ∨ ((1 : Int32).toInt = 0 ∧ (u.toInt = 9 ∨ u.toInt = 10 ∨ u.toInt = 13 ∨ (32 ≤ u.toInt ∧ u.toInt ≤ 55295)))) ∨ (57344 ≤ u.toInt ∧ u.toInt ≤ 65533) ∨ (65536 ≤ u.toInt ∧ u.toInt ≤ 1114111) then (1 : Int32) else 0)), (.int (if (((1 : Int32).toInt ≠ 0 ∧ 1 ≤ u.toInt ∧ u.toInt ≤ 55295) ∨ ((1 : Int32).toInt = 0 ∧ (u.toInt = 9 ∨ u.toInt = 10 ∨ u.toInt = 13 ∨ (32 ≤ u.toInt ∧ u.toInt ≤ 55295)))) ∨ (57344 ≤ u.toInt ∧ u.toInt ≤ 65533) ∨ (65536 ≤ u.toInt ∧ u.toInt ≤ 1114111) then (1 : Int32) else 0))])) (fun _ k => st31 _ k) ?_
      refine own_go (T' := T31) (g' := (mkF m 103 #[.val (.int u), .val (.int t), .val (.int (1 : Int32)), .val (.ref b17), .val (.int u)] [])) (fun _ k => XS.icmpNo X31.here hx rfl (hb hby at_100) rfl (teq (rfl : (if (((1 : Int32).toInt ≠ 0 ∧ 1 ≤ u.toInt ∧ u.toInt ≤ 55295) ∨ ((1 : Int32).toInt = 0 ∧ (u.toInt = 9 ∨ u.toInt = 10 ∨ u.toInt = 13 ∨ (32 ≤ u.toInt ∧ u.toInt ≤ 55295)))) ∨ (57344 ≤ u.toInt ∧ u.toInt ≤ 65533) ∨ (65536 ≤ u.toInt ∧ u.toInt ≤ 1114111) then (1 : Int32) else 0) = (if (((1 : Int32).toInt ≠ 0 ∧ 1 ≤ u.toInt ∧ u.toInt ≤ 55295) ∨ ((1 : Int32).toInt = 0 ∧ (u.toInt = 9 ∨ u.toInt = 10 ∨ u.toInt = 13 ∨ (32 ≤ u.toInt ∧ u.toInt ≤ 55295)))) ∨ (57344 ≤ u.toInt ∧ u.toInt ≤ 65533) ∨ (65536 ≤ u.toInt ∧ u.toInt ≤ 1114111) then (1 : Int32) else 0))).2 k) ?_
      refine own_go (T' := T31) (g' := (mkF m 104 #[.val (.int u), .val (.int t), .val (.int (1 : Int32)), .val (.ref b17), .val (.int u)] [(.int (1 : Int32))])) (fun _ k => XS.iconst X31.here hx rfl (hb hby at_103) k) ?_
      refine own_go (T' := T31) (g' := (mkF m 108 #[.val (.int u), .val (.int t), .val (.int (1 : Int32)), .val (.ref b17), .val (.int u)] [(.int (1 : Int32))])) (fun _ k => XS.goto X31.here hx rfl (pc0 := 104) (pc' := 108) rfl (hb hby at_104) (by decide) (by decide) k) ?_
      refine own_ret X31 Bd.notSynchronized (some (.int (1 : Int32))) (fun h => by rw [Bd.returns] at h; cases h) (fun fs hr => retN X31 hx (t := .boolean) Bd.returns (by simp) (hb hby at_108) hr) ?_ (by decide) (by decide)
      show (own_Q0 Z u t h0 n0) (some (.int (1 : Int32))) T31.heap _
      rw [eq31]
      exact ⟨rfl, NF⟩
set_option maxRecDepth 65536 in
set_option maxHeartbeats 40000000 in
theorem own_comes {Post : Tables → Env → Array Value → State → Outcome → State → Prop} (hpost : ∀ tb e args s v u, (limb_1_1.after args s (.returned v) u = true ∧ limb_1_2.after args s (.returned v) u = true ∧ True) → FrameEnd s (.returned v) u (Jvm.fieldLocs frame_1_writes args s ++ Jvm.arrayLocs frame_1_arrays args s ++ Jvm.staticLocs frame_1_statics s) 16 128 → Post tb e args s (.returned v) u) :
    ArmFor flags0 classFile x code maxLocals ret World_1 tables_1 room_1 Calls_1 rest_1 Pre_1 Post := by
  intro l hfl _ _ p e ha hc hk s m args below hf hA hF happ hP
  obtain ⟨hcalls, hrest, hpre⟩ := hP
  obtain ⟨-, -, -, hnamed, -, -, -, hat⟩ := (Spec.applies_iff hf).mp happ
  obtain ⟨hg, hn⟩ := and_e (Cond.before_iff.mp (show (Jvm.Cond.and given_1 narrow_1).before args s = true from hpre))
  obtain ⟨gg1, gg2⟩ := and_e hg
  obtain ⟨gg3, gg4⟩ := and_e gg2
  obtain ⟨w0, w1, rfl⟩ : ∃ w0 w1 : Value, args = #[w0, w1] := by
    have hs : args.size = 2 := by simpa [Cond.value, given_1] using gg1
    obtain ⟨L⟩ := args
    match L, hs with
    | [w0, w1], _ => exact ⟨w0, w1, rfl⟩
  have hw := fun d (hd : d ∈ tables_1) => atoms_spec (ws := Jvm.Cond.code x code maxLocals ret :: tables_1) hat d (List.mem_cons_of_mem _ hd)
  have hfit : Fit s := fun {y c} hc i hi => by
    obtain ⟨ha, rfl⟩ := Array.getElem?_eq_some_iff.mp hc
    have q := List.all_eq_true.mp ((Array.all_eq_true_iff_forall_mem.mp hF) _ (Array.getElem_mem ha)) i (List.mem_range.mpr hi)
    simpa [Array.getElem?_eq_getElem hi] using q
  obtain ⟨i0, ei0⟩ := is_v gg3
  obtain rfl : w0 = (.int i0) := Option.some.inj ei0
  obtain ⟨i1, ei1⟩ := is_v gg4
  obtain rfl : w1 = (.int i1) := Option.some.inj ei1
  obtain ⟨n, o, h1, h2, h3, _, L, rfl, ⟨rfl, N⟩, hq⟩ := own_rm0 l s _ hw tables_1 i0 i1 s.heap s.heap.size (Nat.le_refl _)  p e ha hc hk s m _ below hf ((Spec.applies_iff_loose hf).mp happ).1 ⟨rfl, State.Warmed39.refl s, rfl⟩ trivial
  refine ⟨n, _, h1, h2, h3, hpost _ _ _ _ _ _ ⟨Cond.after_iff.mpr rfl, Cond.after_iff.mpr (eq_i res_at (Term.int_eval (1)) rfl), trivial⟩ ⟨hq.1, hq.2.1, (hq.2.2.sift fun y hy => Or.inr (N y hy)).mono (by decide) (by decide)⟩⟩
theorem main_1_1 : Claimed_1_1 := own_comes fun _ _ _ _ _ _ h hF => ⟨h.1, hF⟩
theorem main_1_2 : Claimed_1_2 := own_comes fun _ _ _ _ _ _ h hF => ⟨h.2.1, hF⟩
end Jvm.Pilot.@@N@@
namespace Jvm.Pilot.@@N@@
open Jvm Jvm.ClassFile Sem Op Lib Jvm.Free Jvm.Stand Jvm.Pilot.@@N@@.Jvm.D
/-! MADE BY PROGRAM (witnessworld.py) out of the Statement's table words and the real class files: 9 classes; the members and pool entries that the words name. The judged class is class 1, her method 2. -/
namespace start1
open Jvm.ClassFile
def u (s : String) : CpInfo := .utf8 (stringToUtf16 s)
/-- a pool by its gaps: so many unusable entries, then the entry; so many at the end -/
def gap : Nat → List CpInfo → List CpInfo
  | 0, r => r
  | n + 1, r => .unusable :: gap n r
def poolList (es : List (Nat × CpInfo)) (last : Nat) : List CpInfo := es.foldr (fun e r => gap e.1 (e.2 :: r)) (gap last [])
def pool (es : List (Nat × CpInfo)) (last : Nat) : Array CpInfo := ⟨poolList es last⟩
def fileOf (pool : Array CpInfo) (this : Nat) (attrs : Array Attribute := #[]) (ms : Array MethodInfo := #[]) (fl : Nat := 33) (sup : Nat := 0) (ifs : Array Nat := #[]) (fds : Array FieldInfo := #[]) : ClassFile where
  minorVersion := 0
  majorVersion := 65
  constantPool := pool
  accessFlags := fl
  thisClass := this
  superClass := sup
  interfaces := ifs
  fields := fds
  methods := ms
  attributes := attrs
def plain (name : String) (sup : Option ClassId) : Class where
  name := name
  kind := .ordinary
  loader := none
  accessFlags := 33
  super := sup
  interfaces := #[]
  cf := none
  fields := #[]
  methods := #[]
  instanceTypes := #[]
  staticTypes := #[]
  resolved := #[]
  callSites := []
  init := .initialized
  statics := none
  mirror := none

def pool0 : Array CpInfo := pool [(5, u "<init>"), (0, u "()V"), (1, .class_ 10), (1, u "java/lang/Object")] 113

def k0m0 : Method := { name := "<init>", desc := "()V", sig := { parameters := [], returnType := none }, accessFlags := 1, code := none }
/-- java/lang/Object -/
def k0 : Class := { plain "java/lang/Object" none with
  accessFlags := 33
  interfaces := #[]
  cf := some (fileOf pool0 8 #[] #[{ accessFlags := 1, nameIndex := 5, descriptorIndex := 6, attributes := #[] }] 33 0 #[] #[])
  fields := #[]
  methods := #[k0m0]
  instanceTypes := #[]
  staticTypes := #[]
  resolved := Array.replicate 124 none
  statics := none }

def pool1 : Array CpInfo := pool [(2, .class_ 4), (1, u "java/lang/Object"), (0, u "<init>"), (0, u "()V"), (0, .integer 55295), (0, .integer 57344), (0, .integer 65533), (0, .integer 65536), (0, .integer 1114111), (0, .integer 55296), (0, .integer 65534), (0, .integer 1114112), (2, .integer 2147483648), (0, .methodref 19 20), (0, .class_ 21), (0, .nameAndType 22 23), (0, u "com/example/tidy_sitemap/tidysitemap/read/XmlCharacters"), (0, u "isCharacter"), (0, u "(IZ)Z"), (0, .methodref 25 26), (0, .class_ 27), (0, .nameAndType 28 23), (0, u "com/example/tidy_sitemap/tidysitemap/read/XmlCharactersIsCharacterPinLaw"), (0, u "reference"), (3, u "law"), (0, u "(II)Z")] 4

def k1m0 : Method := { name := "<init>", desc := "()V", sig := { parameters := [], returnType := none }, accessFlags := 2, code := none }
def k1c1 : Code := { maxStack := 2, maxLocals := 5, code := method_2_code, exceptionTable := #[], attributes := #[] }
def k1m1 : Method := { name := "reference", desc := "(IZ)Z", sig := { parameters := [.int, .boolean], returnType := some .boolean }, accessFlags := 10, code := some k1c1 }
def k1c2 : Code := { maxStack := 4, maxLocals := 5, code := code, exceptionTable := #[], attributes := #[] }
def k1m2 : Method := { name := "law", desc := "(II)Z", sig := { parameters := [.int, .int], returnType := some .boolean }, accessFlags := 9, code := some k1c2 }
/-- com/example/tidy_sitemap/tidysitemap/read/XmlCharactersIsCharacterPinLaw -/
def k1 : Class := { plain "com/example/tidy_sitemap/tidysitemap/read/XmlCharactersIsCharacterPinLaw" (some 0) with
  accessFlags := 49
  interfaces := #[]
  cf := some (fileOf pool1 25 #[] #[{ accessFlags := 2, nameIndex := 5, descriptorIndex := 6, attributes := #[] }, { accessFlags := 10, nameIndex := 28, descriptorIndex := 23, attributes := #[] }, { accessFlags := 9, nameIndex := 32, descriptorIndex := 33, attributes := #[] }] 49 2 #[] #[])
  fields := #[]
  methods := #[k1m0, k1m1, k1m2]
  instanceTypes := #[]
  staticTypes := #[]
  resolved := Array.replicate 38 none
  statics := none }

def pool2 : Array CpInfo := pool [(2, .class_ 4), (1, u "java/lang/Object"), (0, u "<init>"), (0, u "()V"), (1, .class_ 10), (1, u "com/example/tidy_sitemap/tidysitemap/read/XmlCharacters"), (0, u "CLASSES"), (0, u "[I"), (11, .integer 55296), (0, .integer 57343), (0, .integer 65534), (0, .integer 65535), (2, .integer 1114111), (0, u "TEXT_STOP"), (0, u "I"), (2, u "VALUE_STOP"), (1, u "NAME_START"), (1, u "NAME_PART"), (1, u "SPACE"), (1, u "TAG_STOP"), (1, u "LOCAL_NAME_PART"), (9, u "isCharacter"), (0, u "(IZ)Z")] 5

def k2m0 : Method := { name := "<init>", desc := "()V", sig := { parameters := [], returnType := none }, accessFlags := 2, code := none }
def k2c1 : Code := { maxStack := 2, maxLocals := 3, code := prog_53_method_6_code, exceptionTable := #[], attributes := #[] }
def k2m1 : Method := { name := "isCharacter", desc := "(IZ)Z", sig := { parameters := [.int, .boolean], returnType := some .boolean }, accessFlags := 8, code := some k2c1 }
/-- com/example/tidy_sitemap/tidysitemap/read/XmlCharacters -/
def k2 : Class := { plain "com/example/tidy_sitemap/tidysitemap/read/XmlCharacters" (some 0) with
  accessFlags := 48
  interfaces := #[]
  cf := some (fileOf pool2 8 #[] #[{ accessFlags := 2, nameIndex := 5, descriptorIndex := 6, attributes := #[] }, { accessFlags := 8, nameIndex := 55, descriptorIndex := 56, attributes := #[] }] 48 2 #[] #[{ accessFlags := 24, nameIndex := 31, descriptorIndex := 32, attributes := #[] }, { accessFlags := 24, nameIndex := 35, descriptorIndex := 32, attributes := #[] }, { accessFlags := 24, nameIndex := 37, descriptorIndex := 32, attributes := #[] }, { accessFlags := 24, nameIndex := 39, descriptorIndex := 32, attributes := #[] }, { accessFlags := 24, nameIndex := 41, descriptorIndex := 32, attributes := #[] }, { accessFlags := 24, nameIndex := 43, descriptorIndex := 32, attributes := #[] }, { accessFlags := 24, nameIndex := 45, descriptorIndex := 32, attributes := #[] }, { accessFlags := 24, nameIndex := 11, descriptorIndex := 12, attributes := #[] }])
  fields := #[{ name := "TEXT_STOP", type := .int, accessFlags := 24, slot := 0, constantValue := 0 }, { name := "VALUE_STOP", type := .int, accessFlags := 24, slot := 1, constantValue := 0 }, { name := "NAME_START", type := .int, accessFlags := 24, slot := 2, constantValue := 0 }, { name := "NAME_PART", type := .int, accessFlags := 24, slot := 3, constantValue := 0 }, { name := "SPACE", type := .int, accessFlags := 24, slot := 4, constantValue := 0 }, { name := "TAG_STOP", type := .int, accessFlags := 24, slot := 5, constantValue := 0 }, { name := "LOCAL_NAME_PART", type := .int, accessFlags := 24, slot := 6, constantValue := 0 }, { name := "CLASSES", type := (.array .int), accessFlags := 24, slot := 7, constantValue := 0 }]
  methods := #[k2m0, k2m1]
  instanceTypes := #[]
  staticTypes := #[.int, .int, .int, .int, .int, .int, .int, (.array .int)]
  resolved := Array.replicate 62 none
  statics := none }

def pool3 : Array CpInfo := pool [(1, u "java/lang/Cloneable"), (0, .class_ 1), (0, u "java/lang/Object"), (0, .class_ 3)] 3

/-- java/lang/Cloneable -/
def k3 : Class := { plain "java/lang/Cloneable" (some 0) with
  accessFlags := 1537
  interfaces := #[]
  cf := some (fileOf pool3 2 #[] #[] 1537 4 #[] #[])
  fields := #[]
  methods := #[]
  instanceTypes := #[]
  staticTypes := #[]
  resolved := Array.replicate 8 none
  statics := none }

def pool4 : Array CpInfo := pool [(1, u "java/io/Serializable"), (0, .class_ 1), (0, u "java/lang/Object"), (0, .class_ 3)] 3

/-- java/io/Serializable -/
def k4 : Class := { plain "java/io/Serializable" (some 0) with
  accessFlags := 1537
  interfaces := #[]
  cf := some (fileOf pool4 2 #[] #[] 1537 4 #[] #[])
  fields := #[]
  methods := #[]
  instanceTypes := #[]
  staticTypes := #[]
  resolved := Array.replicate 8 none
  statics := none }

/-- the primitive byte -/
def k5 : Class := { plain "byte" none with kind := .primitive 'B', accessFlags := 0x411 }
/-- [B -/
def k6 : Class := { plain "[B" (some 0) with kind := .array 5 .byte, interfaces := #[3, 4], accessFlags := 1041 }

/-- the primitive int -/
def k7 : Class := { plain "int" none with kind := .primitive 'I', accessFlags := 0x411 }
/-- [I -/
def k8 : Class := { plain "[I" (some 0) with kind := .array 7 .int, interfaces := #[3, 4], accessFlags := 1041 }

def heap : Heap := #[]
def classes : Array Class := #[k0, k1, k2, k3, k4, k5, k6, k7, k8]
def interned : List (Array UInt16 × Addr) := []
def slotsUsed : Nat := 0
def theMethod : MethodId := ⟨1, 2⟩
def args0 : Array Value := #[.int 5, .int 7]
def aboutOver (below : List Frame) : State where
  vm := { classes := classes, interned := interned.toArray }
  heap := heap
  slotsUsed := slotsUsed
  threads := #[{ frames := .invoking theMethod args0 :: below }]
def below0 : List Frame := [.native { method := ⟨0, 0⟩, args := #[] }]
def about1 : State := aboutOver below0
def p0 : Program := .bare "" "" ""
def e0 : Env := launch0.env 0 0 0
theorem w_frames : about1.frames = Frame.invoking theMethod args0 :: below0 := rfl
set_option maxRecDepth 65536 in
theorem w_args : argsFit about1.vm theMethod args0 = true := by decide +kernel
set_option maxRecDepth 65536 in
theorem w_heap : heapFits about1 = true := by decide +kernel
set_option maxRecDepth 65536 in
theorem w_runnable : about1.curStatus? = some .runnable := by decide +kernel
set_option maxRecDepth 65536 in
theorem w_alone : about1.alone = true := by decide +kernel
set_option maxRecDepth 65536 in
theorem w_named : about1.methodNamed? x = some theMethod := by decide +kernel
set_option maxRecDepth 65536 in
theorem w_hears : about1.hears theMethod below0 = true := by decide +kernel
set_option maxRecDepth 65536 in
theorem w_ripe : about1.ripe theMethod args0 below0 = true := by decide +kernel
theorem w_running : about1.status = .running := rfl
set_option maxRecDepth 65536 in
theorem w_room : about1.hasRoom e0.platform room_1 = true :=
  launch0.hasRoom_least _ room_1 (by decide +kernel) (by decide +kernel) (by decide +kernel) (by decide +kernel) (by decide +kernel) (by decide +kernel)
theorem allAtoms_all (ts : List Jvm.Cond) (a : Array Jvm.Value) (st : Jvm.State) : (allAtoms ts).before a st = ts.all (fun c => c.before a st) := by
  induction ts with
  | nil => rfl
  | cons c t ih =>
    show (Jvm.Cond.and c (allAtoms t)).before a st = _
    rw [Jvm.Cond.before_and, ih, List.all_cons]
def words1 : List Jvm.Cond := Jvm.Cond.code x code maxLocals ret :: tables_1
/-- a 'code' word, met by the world's own term for the bytes: nothing is compared byte by byte -/
theorem code_word {y : MethodName} {bytes : ByteArray} {mx : Nat} {rt : Option FieldType} {a : Array Value} {s : State} {m : MethodId} {meth : Method} {c : Code} (h1 : s.methodNamed? y = some m) (h2 : s.vm.method? m = some meth) (h3 : meth.code = some c) (h4 : c.code = bytes)
    (h5 : (c.maxLocals == mx && c.exceptionTable.isEmpty && decide (c.maxStack ≤ mostOperands) && decide (meth.sig.returnType = rt) && !meth.locks && decide (parseMethodDescriptor y.desc = some meth.sig)) = true) : (Jvm.Cond.code y bytes mx rt).before a s = true := by
  simp only [Bool.and_eq_true, beq_iff_eq, Bool.not_eq_true', decide_eq_true_eq] at h5
  obtain ⟨⟨⟨⟨⟨g1, g2⟩, g3⟩, g4⟩, g5⟩, g6⟩ := h5
  simp [Cond.before, Cond.holds, Cond.value, h1, h2, h3, h4, g1, g2, g3, g4, g5, g6]
def isCode : Jvm.Cond → Bool
  | .code _ _ _ _ => true
  | _ => false
theorem all_split {L : List Jvm.Cond} {P : Jvm.Cond → Bool} (h1 : L.all (fun c => isCode c || P c) = true) (h2 : ∀ c ∈ L.filter isCode, P c = true) : L.all P = true := by
  refine List.all_eq_true.mpr fun c hc => ?_
  have h := List.all_eq_true.mp h1 c hc
  rcases Bool.eq_false_or_eq_true (isCode c) with hi | hi
  · exact h2 c (List.mem_filter.mpr ⟨hc, hi⟩)
  · simpa [hi] using h
set_option maxRecDepth 65536 in
theorem w_c0 : (Jvm.Cond.code x code maxLocals ret).before args0 about1 = true := code_word (m := ⟨1, 2⟩) (meth := k1m2) (c := k1c2) (by decide +kernel) rfl rfl rfl (by decide +kernel)
set_option maxRecDepth 65536 in
theorem w_c1 : (Jvm.Cond.code ({ cls := "com/example/tidy_sitemap/tidysitemap/read/XmlCharacters", name := "isCharacter", desc := "(IZ)Z" } : Jvm.MethodName) prog_53_method_6_code (3 : Nat) (Option.some Jvm.ClassFile.FieldType.boolean)).before args0 about1 = true := code_word (m := ⟨2, 1⟩) (meth := k2m1) (c := k2c1) (by decide +kernel) rfl rfl rfl (by decide +kernel)
set_option maxRecDepth 65536 in
theorem w_c2 : (Jvm.Cond.code ({ cls := "com/example/tidy_sitemap/tidysitemap/read/XmlCharactersIsCharacterPinLaw", name := "reference", desc := "(IZ)Z" } : Jvm.MethodName) method_2_code (5 : Nat) (Option.some Jvm.ClassFile.FieldType.boolean)).before args0 about1 = true := code_word (m := ⟨1, 1⟩) (meth := k1m1) (c := k1c1) (by decide +kernel) rfl rfl rfl (by decide +kernel)
def codes1 : List Jvm.Cond := [Jvm.Cond.code x code maxLocals ret, Jvm.Cond.code ({ cls := "com/example/tidy_sitemap/tidysitemap/read/XmlCharacters", name := "isCharacter", desc := "(IZ)Z" } : Jvm.MethodName) prog_53_method_6_code (3 : Nat) (Option.some Jvm.ClassFile.FieldType.boolean), Jvm.Cond.code ({ cls := "com/example/tidy_sitemap/tidysitemap/read/XmlCharactersIsCharacterPinLaw", name := "reference", desc := "(IZ)Z" } : Jvm.MethodName) method_2_code (5 : Nat) (Option.some Jvm.ClassFile.FieldType.boolean)]
set_option maxRecDepth 65536 in
theorem codes_eq : words1.filter isCode = codes1 := rfl
theorem w_codes : ∀ c ∈ words1.filter isCode, c.before args0 about1 = true := by
  rw [codes_eq]
  intro c hc
  simp only [codes1, List.mem_cons, List.not_mem_nil, or_false] at hc
  rcases hc with rfl | rfl | rfl
  · exact w_c0
  · exact w_c1
  · exact w_c2
set_option maxRecDepth 65536 in
theorem w_t1 : words1.all (fun c => isCode c || c.before args0 about1) = true := by decide +kernel
theorem w_tables : (allAtoms (Jvm.Cond.code x code maxLocals ret :: tables_1)).before args0 about1 = true := by
  rw [allAtoms_all]
  show words1.all (fun c => c.before args0 about1) = true
  refine all_split ?_ w_codes
  rw [w_t1]
set_option maxRecDepth 65536 in
theorem w_case : (Jvm.Cond.and given_1 narrow_1).before args0 about1 = true := by decide +kernel
theorem w_applies : (headSpec (Jvm.Cond.code x code maxLocals ret :: tables_1) room_1).applies x e0.platform about1 = true :=
  (Spec.applies_iff w_frames).mpr ⟨w_running, w_runnable, w_alone, w_named, w_hears, w_ripe, w_room, w_tables⟩
theorem atStart : AtStart classFile x code maxLocals ret World_1 tables_1 room_1 Calls_1 rest_1 Pre_1 launch0 p0 e0 about1 theMethod args0 below0 :=
  ⟨lists_1, trivial, launch0.admits_env _ _ _, launch0.least_env, fairChoices_fair.cas, fairChoices_fair.clock, w_frames, w_args, w_heap, w_applies, trivial, trivial, w_case⟩
end start1
theorem witness_1 : WitnessClaimed_1 := ⟨start1.p0, start1.e0, start1.about1, start1.theMethod, start1.args0, start1.below0, start1.atStart⟩
end Jvm.Pilot.@@N@@
