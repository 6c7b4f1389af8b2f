import JvmDerived
import JvmDerived.Pilot.@@N@@Statement
import JvmDerived.Pilot.@@N@@Code
set_option linter.unusedVariables false
set_option linter.unusedSimpArgs false
namespace Jvm.RoadKit
open Sem ClassFile Op Lib Jvm.Stand Jvm.Free Jvm.LawKit
section New
variable {p : Program} {l : Launch} {e : Env} {R : Room} {s : State} {m : MethodId} {args : Array Value} {below : List Frame} {meth : Method} {c : Code} {T : State} {locs : List Loc} {cells slots : Nat}
theorem retI (X : Stand p l e R s m args below meth c T locs cells slots) (hx : p.tables.exec = Jvm.exec) {pc : Nat} {Ls : Array Slot} {z : Int32} {rest : List Value} (hret : meth.sig.returnType = some .int) (hd : decode c.code pc = .ok (.ireturn, 1)) {fs : List Frame}
    (hl : ∀ (f : JFrame) (acts : List Action), f.method = m → f.locked = none → f.entered = [] → (doReturn e (T.setTop f) acts (some (.int z))).1 = T.setFrames fs) : Steps p.tables e below (T.setTop (mkF m pc Ls (.int z :: rest))) (T.setFrames fs) := by
  have hm' : T.vm.method? m = some meth := X.method'
  have hn : narrow .int (.int z) = .int z := rfl
  show Steps p.tables e below (T.setTop { method := m, pc := pc, locals := Ls, stack := _ :: rest, locked := none }) _
  jvm_step X.here [X.here.top, hx, hd, hm', hret, hn]
  first | (intro acts; rw [hl _ acts rfl rfl rfl]) | rw [hl _ _ rfl rfl rfl]
  exact Steps.refl _
end New
end Jvm.RoadKit
namespace Jvm.Pilot.@@N@@
open Jvm Jvm.ClassFile Sem Op Lib Jvm.Free Jvm.Stand Jvm.LawKit Jvm.RoadKit Bundle Jvm.Pilot.@@N@@.Jvm.D
/-- from this frame the run comes to its end, and Q is said of what it leaves -/
def own_Dn (p : Program) (e : Env) (below : List Frame) (s : State) (Q : Option Value → Heap → List Loc → Prop) (k n : Nat) (T : State) (g : JFrame) : Prop :=
  ∃ s₂ o, Steps p.tables e below (T.setTop g) s₂ ∧ s₂.status = .running ∧ Ended s₂ below o ∧ ∃ v L, o = .returned v ∧ Q v s₂.heap L ∧ FrameEnd s o s₂ L k n
theorem own_go {p : Program} {e : Env} {below : List Frame} {s : State} {Q : Option Value → Heap → List Loc → Prop} {k n : Nat} {T T' : State} {g g' : JFrame}
    (h : ∀ t, Steps p.tables e below (T'.setTop g') t → Steps p.tables e below (T.setTop g) t) (d : own_Dn p e below s Q k n T' g') : own_Dn p e below s Q k n T g := by
  obtain ⟨s₂, o, h1, h2⟩ := d
  exact ⟨s₂, o, h _ h1, h2⟩
theorem own_as {p : Program} {e : Env} {below : List Frame} {s : State} {Q : Option Value → Heap → List Loc → Prop} {k n : Nat} {T : State} {g g' : JFrame}
    (h : g = g') (d : own_Dn p e below s Q k n T g') : own_Dn p e below s Q k n T g := h ▸ d
theorem own_ret {p : Program} {l : Launch} {e : Env} {R : Room} {s : State} {m : MethodId} {args : Array Value} {below : List Frame} {meth : Method} {c : Code} {T : State} {locs : List Loc} {cells slots : Nat}
    {Q : Option Value → Heap → List Loc → Prop} {k n : Nat} {g : JFrame} (X : Stand p l e R s m args below meth c T locs cells slots) (hlocks : meth.locks = false) (v : Option Value) (hv : meth.sig.returnType = none → v = none)
    (hr : ∀ fs : List Frame, (∀ (f : JFrame) (acts : List Action), f.method = m → f.locked = none → f.entered = [] → (doReturn e (T.setTop f) acts v).1 = T.setFrames fs) → Steps p.tables e below (T.setTop g) (T.setFrames fs))
    (hQ : Q v T.heap locs) (hk : cells ≤ k) (hn : slots ≤ n) : own_Dn p e below s Q k n T g := by
  obtain ⟨fs, h1, hrun, hended, hW, hsame⟩ := X.leave (v := v) hv hlocks
  exact ⟨_, _, hr fs h1, hrun, hended, _, _, rfl, hQ, ⟨_, rfl⟩, hW, hsame.mono hk hn⟩
theorem own_l0 : (0 : Int32).toInt = 0 := by decide
theorem own_l1 : (1 : Int32).toInt = 1 := by decide
theorem own_l2 : (2 : Int32).toInt = 2 := by decide
theorem own_l3 : (3 : Int32).toInt = 3 := by decide
theorem own_l4 : (4 : Int32).toInt = 4 := by decide
theorem own_l5 : (5 : Int32).toInt = 5 := by decide
theorem own_l6 : (6 : Int32).toInt = 6 := by decide
theorem own_l7 : (7 : Int32).toInt = 7 := by decide
theorem own_l8 : (8 : Int32).toInt = 8 := by decide
theorem own_l9 : (9 : Int32).toInt = 9 := by decide
theorem own_l10 : (10 : Int32).toInt = 10 := by decide
theorem own_l11 : (11 : Int32).toInt = 11 := by decide
theorem own_l12 : (12 : Int32).toInt = 12 := by decide
theorem own_l13 : (13 : Int32).toInt = 13 := by decide
theorem own_l14 : (14 : Int32).toInt = 14 := by decide
theorem own_l15 : (15 : Int32).toInt = 15 := by decide
theorem own_l16 : (16 : Int32).toInt = 16 := by decide
theorem own_l24 : (24 : Int32).toInt = 24 := by decide
theorem own_l32 : (32 : Int32).toInt = 32 := by decide
theorem own_l40 : (40 : Int32).toInt = 40 := by decide
theorem own_l48 : (48 : Int32).toInt = 48 := by decide
theorem own_l56 : (56 : Int32).toInt = 56 := by decide
theorem own_l255 : (255 : Int32).toInt = 255 := by decide
theorem own_L15 : (15 : Int64).toInt = 15 := by decide
theorem own_sh0 (q : Int64) (k : Int32) (h : (k &&& 0x3f).toInt64.toUInt64 = 0) : (q.toUInt64 >>> (k &&& 0x3f).toInt64.toUInt64).toInt64 = q := by rw [h]; simp
theorem own_d1_0 : decode prog_7_method_3_code 0 = .ok (.aload_n 0, 1) := by decide +kernel
theorem own_d1_1 : decode prog_7_method_3_code 1 = .ok (.iload_n 1, 1) := by decide +kernel
theorem own_d1_2 : decode prog_7_method_3_code 2 = .ok (.iconst 2, 1) := by decide +kernel
theorem own_d1_3 : decode prog_7_method_3_code 3 = .ok (.idiv, 1) := by decide +kernel
theorem own_d1_4 : decode prog_7_method_3_code 4 = .ok (.baload, 1) := by decide +kernel
theorem own_d1_5 : decode prog_7_method_3_code 5 = .ok (.sipush 255, 3) := by decide +kernel
theorem own_d1_8 : decode prog_7_method_3_code 8 = .ok (.iand, 1) := by decide +kernel
theorem own_d1_9 : decode prog_7_method_3_code 9 = .ok (.istore_n 2, 1) := by decide +kernel
theorem own_d1_10 : decode prog_7_method_3_code 10 = .ok (.iload_n 1, 1) := by decide +kernel
theorem own_d1_11 : decode prog_7_method_3_code 11 = .ok (.iconst 2, 1) := by decide +kernel
theorem own_d1_12 : decode prog_7_method_3_code 12 = .ok (.irem, 1) := by decide +kernel
theorem own_d1_13 : decode prog_7_method_3_code 13 = .ok (.ifCond .ne 10, 3) := by decide +kernel
theorem own_d1_16 : decode prog_7_method_3_code 16 = .ok (.iload_n 2, 1) := by decide +kernel
theorem own_d1_17 : decode prog_7_method_3_code 17 = .ok (.bipush 15, 2) := by decide +kernel
theorem own_d1_19 : decode prog_7_method_3_code 19 = .ok (.iand, 1) := by decide +kernel
theorem own_d1_20 : decode prog_7_method_3_code 20 = .ok (.goto 6, 3) := by decide +kernel
theorem own_d1_23 : decode prog_7_method_3_code 23 = .ok (.iload_n 2, 1) := by decide +kernel
theorem own_d1_24 : decode prog_7_method_3_code 24 = .ok (.iconst 4, 1) := by decide +kernel
theorem own_d1_25 : decode prog_7_method_3_code 25 = .ok (.ishr, 1) := by decide +kernel
theorem own_d1_26 : decode prog_7_method_3_code 26 = .ok (.ireturn, 1) := by decide +kernel
theorem own_pn1 : plainName "com/example/carrier_name_resolver/carriernameresolver/card/CardBytes" = true := by first | (simp [plainName, overriddenIn]; done) | decide +kernel
theorem own_ef1 (m : MethodId) (a : Addr) (t : Int32) : entryFrame m #[(.ref a), (.int t)] 3 = mkF m 0 #[.val (.ref a), .val (.int t), .unset] [] := by first | (simp [entryFrame, mkF, argsToLocals, Value.category]; done) | rfl
def own_Q1 (Z : State) (a : Addr) (t : Int32) (ka : ClassId) (vs : List Value) (yv : Int32) (h0 : Heap) (n0 : Nat) (v : Option Value) (h : Heap) (L : List Loc) : Prop := (∃ z : Int32, v = some (.int z) ∧ (t % (2 : Int32) = (0 : Int32) → z = ((yv &&& (255 : Int32)) &&& (15 : Int32))) ∧ (¬ t % (2 : Int32) = (0 : Int32) → z = ((yv &&& (255 : Int32)) >>> ((4 : Int32) &&& 31)))) ∧ Fr n0 L ∧ h = h0
set_option maxRecDepth 65536 in
set_option maxHeartbeats 40000000 in
theorem own_rm1 (l : Launch) (Z : State) (a0 : Array Value) (hw : ∀ d ∈ tables_1, d.before a0 Z = true) (ws : List Jvm.Cond) (a : Addr) (t : Int32) (ka : ClassId) (vs : List Value) (yv : Int32) (h0 : Heap) (n0 : Nat) (Zs : n0 ≤ h0.size) (V_a : Arv Z h0 a ka .byte (8 : Int32) vs (.int (0 : Int32))) (ht : 0 ≤ t.toInt ∧ t.toInt ≤ 15) (hy : vs.getD (t / (2 : Int32)).toNatClampNeg (.int (0 : Int32)) = .int yv) :
    MetFree l (⟨"com/example/carrier_name_resolver/carriernameresolver/card/CardBytes", "nibble", "([BI)I"⟩ : MethodName) (head1 (Jvm.Cond.code (⟨"com/example/carrier_name_resolver/carriernameresolver/card/CardBytes", "nibble", "([BI)I"⟩ : MethodName) prog_7_method_3_code 3 (some .int) :: ws) ({ frames := 0, cells := 0, slots := 0, locals := 0 } : Room)) (fun aA_ U => aA_ = #[(.ref a), (.int t)] ∧ Z.Warmed39 U.vm ∧ U.heap = h0) (fun _ _ _ _ _ => True) (fun _ U o U' => ∃ v L, o = .returned v ∧ own_Q1 Z a t ka vs yv h0 n0 v U'.heap L ∧ FrameEnd U o U' L ({ frames := 0, cells := 0, slots := 0, locals := 0 } : Room).cells ({ frames := 0, cells := 0, slots := 0, locals := 0 } : Room).slots) := by
  refine MetFree.of_bodySF (plainFor_of_name own_pn1) hisR ?_
  intro p e s m args below meth c s₁ Bd hml0 hP hK
  obtain ⟨rfl, hZ, hh⟩ := hP
  have hx := Bd.exec
  have hby := Bd.bytes
  have hml : c.maxLocals = 3 := hml0
  have hown : s.vm.findClass "com/example/carrier_name_resolver/carriernameresolver/card/CardBytes" = some m.cls := findClass_of_methodNamed Bd.named
  have hnm := (name_of_methodNamed Bd.named Bd.method).1
  have X0 : Stand p l e ({ frames := 0, cells := 0, slots := 0, locals := 0 } : Room) s m #[(.ref a), (.int t)] below meth c s₁ [] 0 0 := Stand.of_body Bd
  have e0 : s₁.heap = h0 := by rw [← hh, Bd.state]; rfl
  have NF := Fr.nil n0
  rw [own_ef1 m a t]
  show own_Dn p e below s (own_Q1 Z a t ka vs yv h0 n0) 0 0 s₁ (mkF m 0 #[.val (.ref a), .val (.int t), .unset] [])
  have f1 := c_idiv t (2 : Int32) 2 (by decide) (by decide)
  refine own_go (T' := s₁) (g' := (mkF m 1 #[.val (.ref a), .val (.int t), .unset] [(.ref a)])) (fun _ k => XS.aloadN X0.here hx rfl (hb hby own_d1_0) rfl rfl k) ?_
  refine own_go (T' := s₁) (g' := (mkF m 2 #[.val (.ref a), .val (.int t), .unset] [(.int t), (.ref a)])) (fun _ k => XS.iloadN X0.here hx rfl (hb hby own_d1_1) rfl k) ?_
  refine own_go (T' := s₁) (g' := (mkF m 3 #[.val (.ref a), .val (.int t), .unset] [(.int (2 : Int32)), (.int t), (.ref a)])) (fun _ k => XS.iconst X0.here hx rfl (hb hby own_d1_2) k) ?_
  refine own_go (T' := s₁) (g' := (mkF m 4 #[.val (.ref a), .val (.int t), .unset] [(.int (t / (2 : Int32))), (.ref a)])) (fun _ k => XS.idiv X0.here hx rfl (hb hby own_d1_3) rfl (by decide) k) ?_
  obtain ⟨c_1, Ar_1, q_1, S_1, N_1, H_1, G_1⟩ := V_a
  have hin_1 : ¬ ((t / (2 : Int32)) < 0 ∨ c_1.slots.size ≤ ((t / (2 : Int32))).toNatClampNeg) := inb_of S_1 ⟨by (try simp only [own_l0, own_l1, own_l2, own_l3, own_l4, own_l5, own_l6, own_l7, own_l8, own_l9, own_l10, own_l11, own_l12, own_l13, own_l14, own_l15, own_l16, own_l24, own_l32, own_l40, own_l48, own_l56, own_l255, own_L15, Int32.lt_iff_toInt_lt, ← Int32.toInt_inj, Int64.lt_iff_toInt_lt, ← Int64.toInt_inj, and_true, true_and, and_false, false_and, or_true, true_or, or_false, false_or, not_true_eq_false, not_false_eq_true, ne_eq, true_implies, false_implies, implies_true] at f1 ⊢) <;> omega, by (try simp only [own_l0, own_l1, own_l2, own_l3, own_l4, own_l5, own_l6, own_l7, own_l8, own_l9, own_l10, own_l11, own_l12, own_l13, own_l14, own_l15, own_l16, own_l24, own_l32, own_l40, own_l48, own_l56, own_l255, own_L15, Int32.lt_iff_toInt_lt, ← Int32.toInt_inj, Int64.lt_iff_toInt_lt, ← Int64.toInt_inj, and_true, true_and, and_false, false_and, or_true, true_or, or_false, false_or, not_true_eq_false, not_false_eq_true, ne_eq, true_implies, false_implies, implies_true] at f1 ⊢) <;> omega⟩
  have hat_1 : c_1.slots[((t / (2 : Int32))).toNatClampNeg]? = some (.int yv) := H_1.at hin_1 hy
  refine own_go (T' := s₁) (g' := (mkF m 5 #[.val (.ref a), .val (.int t), .unset] [(.int yv)])) (fun _ k => X0.baloadBytes hx (j := (t / (2 : Int32))) (v := (.int yv)) (by rw [e0]; exact Ar_1.1) (State.isArrayOf_alike hZ.alike Ar_1.2.1) Ar_1.2.2 hin_1 hat_1 (g := (mkF m 4 #[.val (.ref a), .val (.int t), .unset] [(.int (t / (2 : Int32))), (.ref a)])) rfl rfl (hb hby own_d1_4) _ k) ?_
  refine own_go (T' := s₁) (g' := (mkF m 8 #[.val (.ref a), .val (.int t), .unset] [(.int (255 : Int32)), (.int yv)])) (fun _ k => XS.sipush X0.here hx rfl (hb hby own_d1_5) k) ?_
  refine own_go (T' := s₁) (g' := (mkF m 9 #[.val (.ref a), .val (.int t), .unset] [(.int (yv &&& (255 : Int32)))])) (fun _ k => XS.iand X0.here hx rfl (hb hby own_d1_8) rfl k) ?_
  refine own_go (T' := s₁) (g' := (mkF m 10 #[.val (.ref a), .val (.int t), .val (.int (yv &&& (255 : Int32)))] [])) (fun _ k => XS.istoreN X0.here hx rfl (hb hby own_d1_9) rfl (l' := #[.val (.ref a), .val (.int t), .val (.int (yv &&& (255 : Int32)))]) rfl k) ?_
  refine own_go (T' := s₁) (g' := (mkF m 11 #[.val (.ref a), .val (.int t), .val (.int (yv &&& (255 : Int32)))] [(.int t)])) (fun _ k => XS.iloadN X0.here hx rfl (hb hby own_d1_10) rfl k) ?_
  refine own_go (T' := s₁) (g' := (mkF m 12 #[.val (.ref a), .val (.int t), .val (.int (yv &&& (255 : Int32)))] [(.int (2 : Int32)), (.int t)])) (fun _ k => XS.iconst X0.here hx rfl (hb hby own_d1_11) k) ?_
  refine own_go (T' := s₁) (g' := (mkF m 13 #[.val (.ref a), .val (.int t), .val (.int (yv &&& (255 : Int32)))] [(.int (t % (2 : Int32)))])) (fun _ k => iremM X0 hx rfl (hb hby own_d1_12) rfl (by decide) k) ?_
  by_cases c2 : (t % (2 : Int32)) = (0 : Int32)
  · refine own_go (T' := s₁) (g' := (mkF m 16 #[.val (.ref a), .val (.int t), .val (.int (yv &&& (255 : Int32)))] [])) (fun _ k => XS.ifNo X0.here hx rfl (hb hby own_d1_13) rfl ((if0 _ _).trans (teq c2).2) k) ?_
    refine own_go (T' := s₁) (g' := (mkF m 17 #[.val (.ref a), .val (.int t), .val (.int (yv &&& (255 : Int32)))] [(.int (yv &&& (255 : Int32)))])) (fun _ k => XS.iloadN X0.here hx rfl (hb hby own_d1_16) rfl k) ?_
    refine own_go (T' := s₁) (g' := (mkF m 19 #[.val (.ref a), .val (.int t), .val (.int (yv &&& (255 : Int32)))] [(.int (15 : Int32)), (.int (yv &&& (255 : Int32)))])) (fun _ k => XS.bipush X0.here hx rfl (hb hby own_d1_17) k) ?_
    refine own_go (T' := s₁) (g' := (mkF m 20 #[.val (.ref a), .val (.int t), .val (.int (yv &&& (255 : Int32)))] [(.int ((yv &&& (255 : Int32)) &&& (15 : Int32)))])) (fun _ k => XS.iand X0.here hx rfl (hb hby own_d1_19) rfl k) ?_
    refine own_go (T' := s₁) (g' := (mkF m 26 #[.val (.ref a), .val (.int t), .val (.int (yv &&& (255 : Int32)))] [(.int ((yv &&& (255 : Int32)) &&& (15 : Int32)))])) (fun _ k => XS.goto X0.here hx rfl (pc0 := 20) (pc' := 26) rfl (hb hby own_d1_20) (by decide) (by decide) k) ?_
    refine own_ret X0 Bd.notSynchronized (some (.int ((yv &&& (255 : Int32)) &&& (15 : Int32)))) (fun h => by rw [Bd.returns] at h; cases h) (fun fs hr => retI X0 hx Bd.returns (hb hby own_d1_26) hr) ?_ (by decide) (by decide)
    show (own_Q1 Z a t ka vs yv h0 n0) (some (.int ((yv &&& (255 : Int32)) &&& (15 : Int32)))) s₁.heap _
    rw [e0]
    exact ⟨⟨_, rfl, fun _ => rfl, fun _ => absurd c2 ‹_›⟩, NF, rfl⟩
  · refine own_go (T' := s₁) (g' := (mkF m 23 #[.val (.ref a), .val (.int t), .val (.int (yv &&& (255 : Int32)))] [])) (fun _ k => XS.ifYes X0.here hx rfl (pc0 := 13) (pc' := 23) rfl (hb hby own_d1_13) rfl ((if0 _ _).trans (feq c2).2) (by decide) (by decide) k) ?_
    refine own_go (T' := s₁) (g' := (mkF m 24 #[.val (.ref a), .val (.int t), .val (.int (yv &&& (255 : Int32)))] [(.int (yv &&& (255 : Int32)))])) (fun _ k => XS.iloadN X0.here hx rfl (hb hby own_d1_23) rfl k) ?_
    refine own_go (T' := s₁) (g' := (mkF m 25 #[.val (.ref a), .val (.int t), .val (.int (yv &&& (255 : Int32)))] [(.int (4 : Int32)), (.int (yv &&& (255 : Int32)))])) (fun _ k => XS.iconst X0.here hx rfl (hb hby own_d1_24) k) ?_
    refine own_go (T' := s₁) (g' := (mkF m 26 #[.val (.ref a), .val (.int t), .val (.int (yv &&& (255 : Int32)))] [(.int ((yv &&& (255 : Int32)) >>> ((4 : Int32) &&& 31)))])) (fun _ k => XS.ishr X0.here hx rfl (hb hby own_d1_25) rfl k) ?_
    refine own_ret X0 Bd.notSynchronized (some (.int ((yv &&& (255 : Int32)) >>> ((4 : Int32) &&& 31)))) (fun h => by rw [Bd.returns] at h; cases h) (fun fs hr => retI X0 hx Bd.returns (hb hby own_d1_26) hr) ?_ (by decide) (by decide)
    show (own_Q1 Z a t ka vs yv h0 n0) (some (.int ((yv &&& (255 : Int32)) >>> ((4 : Int32) &&& 31)))) s₁.heap _
    rw [e0]
    exact ⟨⟨_, rfl, fun _ => absurd ‹_› c2, fun _ => rfl⟩, NF, rfl⟩
theorem own_pick (q : Int64) (p : Int32) (h : 0 ≤ p.toInt ∧ p.toInt ≤ 15) : ∃ y : Int32, List.getD [Value.int (((q.toInt32).toInt8.toInt32.toInt8.toInt32)), Value.int (((((q.toUInt64 >>> ((8 : Int32) &&& 0x3f).toInt64.toUInt64).toInt64).toInt32).toInt8.toInt32.toInt8.toInt32)), Value.int (((((q.toUInt64 >>> ((16 : Int32) &&& 0x3f).toInt64.toUInt64).toInt64).toInt32).toInt8.toInt32.toInt8.toInt32)), Value.int (((((q.toUInt64 >>> ((24 : Int32) &&& 0x3f).toInt64.toUInt64).toInt64).toInt32).toInt8.toInt32.toInt8.toInt32)), Value.int (((((q.toUInt64 >>> ((32 : Int32) &&& 0x3f).toInt64.toUInt64).toInt64).toInt32).toInt8.toInt32.toInt8.toInt32)), Value.int (((((q.toUInt64 >>> ((40 : Int32) &&& 0x3f).toInt64.toUInt64).toInt64).toInt32).toInt8.toInt32.toInt8.toInt32)), Value.int (((((q.toUInt64 >>> ((48 : Int32) &&& 0x3f).toInt64.toUInt64).toInt64).toInt32).toInt8.toInt32.toInt8.toInt32)), Value.int (((((q.toUInt64 >>> ((56 : Int32) &&& 0x3f).toInt64.toUInt64).toInt64).toInt32).toInt8.toInt32.toInt8.toInt32))] (p / (2 : Int32)).toNatClampNeg (.int (0 : Int32)) = .int y ∧ (p % (2 : Int32) = (0 : Int32) → ((y &&& (255 : Int32)) &&& (15 : Int32)) = (((q.toUInt64 >>> (((4 : Int32) * p) &&& 0x3f).toInt64.toUInt64).toInt64) &&& (15 : Int64)).toInt32) ∧ (¬ p % (2 : Int32) = (0 : Int32) → ((y &&& (255 : Int32)) >>> ((4 : Int32) &&& 31)) = (((q.toUInt64 >>> (((4 : Int32) * p) &&& 0x3f).toInt64.toUInt64).toInt64) &&& (15 : Int64)).toInt32) := by
  have hp : p = (0 : Int32) ∨ p = (1 : Int32) ∨ p = (2 : Int32) ∨ p = (3 : Int32) ∨ p = (4 : Int32) ∨ p = (5 : Int32) ∨ p = (6 : Int32) ∨ p = (7 : Int32) ∨ p = (8 : Int32) ∨ p = (9 : Int32) ∨ p = (10 : Int32) ∨ p = (11 : Int32) ∨ p = (12 : Int32) ∨ p = (13 : Int32) ∨ p = (14 : Int32) ∨ p = (15 : Int32) := by simp only [own_l0, own_l1, own_l2, own_l3, own_l4, own_l5, own_l6, own_l7, own_l8, own_l9, own_l10, own_l11, own_l12, own_l13, own_l14, own_l15, own_l16, own_l24, own_l32, own_l40, own_l48, own_l56, own_l255, own_L15, ← Int32.toInt_inj]; omega
  rcases hp with rfl | rfl | rfl | rfl | rfl | rfl | rfl | rfl | rfl | rfl | rfl | rfl | rfl | rfl | rfl | rfl
  · have e : ((0 : Int32) / (2 : Int32)).toNatClampNeg = 0 := by decide
    refine ⟨_, by rw [e]; rfl, fun _ => ?_, fun h => absurd (by decide) h⟩
    have a2 := c_l2i q
    have a3 := c_i2b (q.toInt32)
    have a4 := c_i2b ((q.toInt32).toInt8.toInt32)
    have a5 := c_mask ((q.toInt32).toInt8.toInt32.toInt8.toInt32) (255 : Int32) 8 (by decide) (by decide)
    have a6 := c_mask (((q.toInt32).toInt8.toInt32.toInt8.toInt32) &&& (255 : Int32)) (15 : Int32) 4 (by decide) (by decide)
    have b1 : ((q.toUInt64 >>> (((4 : Int32) * (0 : Int32)) &&& 0x3f).toInt64.toUInt64).toInt64) = q := own_sh0 q _ (by decide)
    have b2 := c_maskL ((q.toUInt64 >>> (((4 : Int32) * (0 : Int32)) &&& 0x3f).toInt64.toUInt64).toInt64) (15 : Int64) 4 (by decide) (by decide)
    have b3 := c_l2i (((q.toUInt64 >>> (((4 : Int32) * (0 : Int32)) &&& 0x3f).toInt64.toUInt64).toInt64) &&& (15 : Int64))
    have b4 := rng32 ((((q.toUInt64 >>> (((4 : Int32) * (0 : Int32)) &&& 0x3f).toInt64.toUInt64).toInt64) &&& (15 : Int64)).toInt32)
    rw [b1] at b2 b3 b4 ⊢
    apply Int32.toInt_inj.mp
    rw [a6, a5]
    simp only [Nat.reducePow, Int.cast_ofNat_Int] at *
    omega
  · have e : ((1 : Int32) / (2 : Int32)).toNatClampNeg = 0 := by decide
    refine ⟨_, by rw [e]; rfl, fun h => absurd h (by decide), fun _ => ?_⟩
    have a2 := c_l2i q
    have a3 := c_i2b (q.toInt32)
    have a4 := c_i2b ((q.toInt32).toInt8.toInt32)
    have a5 := c_mask ((q.toInt32).toInt8.toInt32.toInt8.toInt32) (255 : Int32) 8 (by decide) (by decide)
    have a6 := c_ishr (((q.toInt32).toInt8.toInt32.toInt8.toInt32) &&& (255 : Int32)) (4 : Int32) 4 (by decide)
    have b1 := c_lushr q ((4 : Int32) * (1 : Int32)) 4 (by decide) (by decide)
    have b2 := c_maskL ((q.toUInt64 >>> (((4 : Int32) * (1 : Int32)) &&& 0x3f).toInt64.toUInt64).toInt64) (15 : Int64) 4 (by decide) (by decide)
    have b3 := c_l2i (((q.toUInt64 >>> (((4 : Int32) * (1 : Int32)) &&& 0x3f).toInt64.toUInt64).toInt64) &&& (15 : Int64))
    have b4 := rng32 ((((q.toUInt64 >>> (((4 : Int32) * (1 : Int32)) &&& 0x3f).toInt64.toUInt64).toInt64) &&& (15 : Int64)).toInt32)
    apply Int32.toInt_inj.mp
    rw [a6, a5]
    simp only [Nat.reducePow, Int.cast_ofNat_Int] at *
    omega
  · have e : ((2 : Int32) / (2 : Int32)).toNatClampNeg = 1 := by decide
    refine ⟨_, by rw [e]; rfl, fun _ => ?_, fun h => absurd (by decide) h⟩
    have a1 := c_lushr q (8 : Int32) 8 (by decide) (by decide)
    have a2 := c_l2i ((q.toUInt64 >>> ((8 : Int32) &&& 0x3f).toInt64.toUInt64).toInt64)
    have a3 := c_i2b (((q.toUInt64 >>> ((8 : Int32) &&& 0x3f).toInt64.toUInt64).toInt64).toInt32)
    have a4 := c_i2b ((((q.toUInt64 >>> ((8 : Int32) &&& 0x3f).toInt64.toUInt64).toInt64).toInt32).toInt8.toInt32)
    have a5 := c_mask ((((q.toUInt64 >>> ((8 : Int32) &&& 0x3f).toInt64.toUInt64).toInt64).toInt32).toInt8.toInt32.toInt8.toInt32) (255 : Int32) 8 (by decide) (by decide)
    have a6 := c_mask (((((q.toUInt64 >>> ((8 : Int32) &&& 0x3f).toInt64.toUInt64).toInt64).toInt32).toInt8.toInt32.toInt8.toInt32) &&& (255 : Int32)) (15 : Int32) 4 (by decide) (by decide)
    have b1 := c_lushr q ((4 : Int32) * (2 : Int32)) 8 (by decide) (by decide)
    have b2 := c_maskL ((q.toUInt64 >>> (((4 : Int32) * (2 : Int32)) &&& 0x3f).toInt64.toUInt64).toInt64) (15 : Int64) 4 (by decide) (by decide)
    have b3 := c_l2i (((q.toUInt64 >>> (((4 : Int32) * (2 : Int32)) &&& 0x3f).toInt64.toUInt64).toInt64) &&& (15 : Int64))
    have b4 := rng32 ((((q.toUInt64 >>> (((4 : Int32) * (2 : Int32)) &&& 0x3f).toInt64.toUInt64).toInt64) &&& (15 : Int64)).toInt32)
    apply Int32.toInt_inj.mp
    rw [a6, a5]
    simp only [Nat.reducePow, Int.cast_ofNat_Int] at *
    omega
  · have e : ((3 : Int32) / (2 : Int32)).toNatClampNeg = 1 := by decide
    refine ⟨_, by rw [e]; rfl, fun h => absurd h (by decide), fun _ => ?_⟩
    have a1 := c_lushr q (8 : Int32) 8 (by decide) (by decide)
    have a2 := c_l2i ((q.toUInt64 >>> ((8 : Int32) &&& 0x3f).toInt64.toUInt64).toInt64)
    have a3 := c_i2b (((q.toUInt64 >>> ((8 : Int32) &&& 0x3f).toInt64.toUInt64).toInt64).toInt32)
    have a4 := c_i2b ((((q.toUInt64 >>> ((8 : Int32) &&& 0x3f).toInt64.toUInt64).toInt64).toInt32).toInt8.toInt32)
    have a5 := c_mask ((((q.toUInt64 >>> ((8 : Int32) &&& 0x3f).toInt64.toUInt64).toInt64).toInt32).toInt8.toInt32.toInt8.toInt32) (255 : Int32) 8 (by decide) (by decide)
    have a6 := c_ishr (((((q.toUInt64 >>> ((8 : Int32) &&& 0x3f).toInt64.toUInt64).toInt64).toInt32).toInt8.toInt32.toInt8.toInt32) &&& (255 : Int32)) (4 : Int32) 4 (by decide)
    have b1 := c_lushr q ((4 : Int32) * (3 : Int32)) 12 (by decide) (by decide)
    have b2 := c_maskL ((q.toUInt64 >>> (((4 : Int32) * (3 : Int32)) &&& 0x3f).toInt64.toUInt64).toInt64) (15 : Int64) 4 (by decide) (by decide)
    have b3 := c_l2i (((q.toUInt64 >>> (((4 : Int32) * (3 : Int32)) &&& 0x3f).toInt64.toUInt64).toInt64) &&& (15 : Int64))
    have b4 := rng32 ((((q.toUInt64 >>> (((4 : Int32) * (3 : Int32)) &&& 0x3f).toInt64.toUInt64).toInt64) &&& (15 : Int64)).toInt32)
    apply Int32.toInt_inj.mp
    rw [a6, a5]
    simp only [Nat.reducePow, Int.cast_ofNat_Int] at *
    omega
  · have e : ((4 : Int32) / (2 : Int32)).toNatClampNeg = 2 := by decide
    refine ⟨_, by rw [e]; rfl, fun _ => ?_, fun h => absurd (by decide) h⟩
    have a1 := c_lushr q (16 : Int32) 16 (by decide) (by decide)
    have a2 := c_l2i ((q.toUInt64 >>> ((16 : Int32) &&& 0x3f).toInt64.toUInt64).toInt64)
    have a3 := c_i2b (((q.toUInt64 >>> ((16 : Int32) &&& 0x3f).toInt64.toUInt64).toInt64).toInt32)
    have a4 := c_i2b ((((q.toUInt64 >>> ((16 : Int32) &&& 0x3f).toInt64.toUInt64).toInt64).toInt32).toInt8.toInt32)
    have a5 := c_mask ((((q.toUInt64 >>> ((16 : Int32) &&& 0x3f).toInt64.toUInt64).toInt64).toInt32).toInt8.toInt32.toInt8.toInt32) (255 : Int32) 8 (by decide) (by decide)
    have a6 := c_mask (((((q.toUInt64 >>> ((16 : Int32) &&& 0x3f).toInt64.toUInt64).toInt64).toInt32).toInt8.toInt32.toInt8.toInt32) &&& (255 : Int32)) (15 : Int32) 4 (by decide) (by decide)
    have b1 := c_lushr q ((4 : Int32) * (4 : Int32)) 16 (by decide) (by decide)
    have b2 := c_maskL ((q.toUInt64 >>> (((4 : Int32) * (4 : Int32)) &&& 0x3f).toInt64.toUInt64).toInt64) (15 : Int64) 4 (by decide) (by decide)
    have b3 := c_l2i (((q.toUInt64 >>> (((4 : Int32) * (4 : Int32)) &&& 0x3f).toInt64.toUInt64).toInt64) &&& (15 : Int64))
    have b4 := rng32 ((((q.toUInt64 >>> (((4 : Int32) * (4 : Int32)) &&& 0x3f).toInt64.toUInt64).toInt64) &&& (15 : Int64)).toInt32)
    apply Int32.toInt_inj.mp
    rw [a6, a5]
    simp only [Nat.reducePow, Int.cast_ofNat_Int] at *
    omega
  · have e : ((5 : Int32) / (2 : Int32)).toNatClampNeg = 2 := by decide
    refine ⟨_, by rw [e]; rfl, fun h => absurd h (by decide), fun _ => ?_⟩
    have a1 := c_lushr q (16 : Int32) 16 (by decide) (by decide)
    have a2 := c_l2i ((q.toUInt64 >>> ((16 : Int32) &&& 0x3f).toInt64.toUInt64).toInt64)
    have a3 := c_i2b (((q.toUInt64 >>> ((16 : Int32) &&& 0x3f).toInt64.toUInt64).toInt64).toInt32)
    have a4 := c_i2b ((((q.toUInt64 >>> ((16 : Int32) &&& 0x3f).toInt64.toUInt64).toInt64).toInt32).toInt8.toInt32)
    have a5 := c_mask ((((q.toUInt64 >>> ((16 : Int32) &&& 0x3f).toInt64.toUInt64).toInt64).toInt32).toInt8.toInt32.toInt8.toInt32) (255 : Int32) 8 (by decide) (by decide)
    have a6 := c_ishr (((((q.toUInt64 >>> ((16 : Int32) &&& 0x3f).toInt64.toUInt64).toInt64).toInt32).toInt8.toInt32.toInt8.toInt32) &&& (255 : Int32)) (4 : Int32) 4 (by decide)
    have b1 := c_lushr q ((4 : Int32) * (5 : Int32)) 20 (by decide) (by decide)
    have b2 := c_maskL ((q.toUInt64 >>> (((4 : Int32) * (5 : Int32)) &&& 0x3f).toInt64.toUInt64).toInt64) (15 : Int64) 4 (by decide) (by decide)
    have b3 := c_l2i (((q.toUInt64 >>> (((4 : Int32) * (5 : Int32)) &&& 0x3f).toInt64.toUInt64).toInt64) &&& (15 : Int64))
    have b4 := rng32 ((((q.toUInt64 >>> (((4 : Int32) * (5 : Int32)) &&& 0x3f).toInt64.toUInt64).toInt64) &&& (15 : Int64)).toInt32)
    apply Int32.toInt_inj.mp
    rw [a6, a5]
    simp only [Nat.reducePow, Int.cast_ofNat_Int] at *
    omega
  · have e : ((6 : Int32) / (2 : Int32)).toNatClampNeg = 3 := by decide
    refine ⟨_, by rw [e]; rfl, fun _ => ?_, fun h => absurd (by decide) h⟩
    have a1 := c_lushr q (24 : Int32) 24 (by decide) (by decide)
    have a2 := c_l2i ((q.toUInt64 >>> ((24 : Int32) &&& 0x3f).toInt64.toUInt64).toInt64)
    have a3 := c_i2b (((q.toUInt64 >>> ((24 : Int32) &&& 0x3f).toInt64.toUInt64).toInt64).toInt32)
    have a4 := c_i2b ((((q.toUInt64 >>> ((24 : Int32) &&& 0x3f).toInt64.toUInt64).toInt64).toInt32).toInt8.toInt32)
    have a5 := c_mask ((((q.toUInt64 >>> ((24 : Int32) &&& 0x3f).toInt64.toUInt64).toInt64).toInt32).toInt8.toInt32.toInt8.toInt32) (255 : Int32) 8 (by decide) (by decide)
    have a6 := c_mask (((((q.toUInt64 >>> ((24 : Int32) &&& 0x3f).toInt64.toUInt64).toInt64).toInt32).toInt8.toInt32.toInt8.toInt32) &&& (255 : Int32)) (15 : Int32) 4 (by decide) (by decide)
    have b1 := c_lushr q ((4 : Int32) * (6 : Int32)) 24 (by decide) (by decide)
    have b2 := c_maskL ((q.toUInt64 >>> (((4 : Int32) * (6 : Int32)) &&& 0x3f).toInt64.toUInt64).toInt64) (15 : Int64) 4 (by decide) (by decide)
    have b3 := c_l2i (((q.toUInt64 >>> (((4 : Int32) * (6 : Int32)) &&& 0x3f).toInt64.toUInt64).toInt64) &&& (15 : Int64))
    have b4 := rng32 ((((q.toUInt64 >>> (((4 : Int32) * (6 : Int32)) &&& 0x3f).toInt64.toUInt64).toInt64) &&& (15 : Int64)).toInt32)
    apply Int32.toInt_inj.mp
    rw [a6, a5]
    simp only [Nat.reducePow, Int.cast_ofNat_Int] at *
    omega
  · have e : ((7 : Int32) / (2 : Int32)).toNatClampNeg = 3 := by decide
    refine ⟨_, by rw [e]; rfl, fun h => absurd h (by decide), fun _ => ?_⟩
    have a1 := c_lushr q (24 : Int32) 24 (by decide) (by decide)
    have a2 := c_l2i ((q.toUInt64 >>> ((24 : Int32) &&& 0x3f).toInt64.toUInt64).toInt64)
    have a3 := c_i2b (((q.toUInt64 >>> ((24 : Int32) &&& 0x3f).toInt64.toUInt64).toInt64).toInt32)
    have a4 := c_i2b ((((q.toUInt64 >>> ((24 : Int32) &&& 0x3f).toInt64.toUInt64).toInt64).toInt32).toInt8.toInt32)
    have a5 := c_mask ((((q.toUInt64 >>> ((24 : Int32) &&& 0x3f).toInt64.toUInt64).toInt64).toInt32).toInt8.toInt32.toInt8.toInt32) (255 : Int32) 8 (by decide) (by decide)
    have a6 := c_ishr (((((q.toUInt64 >>> ((24 : Int32) &&& 0x3f).toInt64.toUInt64).toInt64).toInt32).toInt8.toInt32.toInt8.toInt32) &&& (255 : Int32)) (4 : Int32) 4 (by decide)
    have b1 := c_lushr q ((4 : Int32) * (7 : Int32)) 28 (by decide) (by decide)
    have b2 := c_maskL ((q.toUInt64 >>> (((4 : Int32) * (7 : Int32)) &&& 0x3f).toInt64.toUInt64).toInt64) (15 : Int64) 4 (by decide) (by decide)
    have b3 := c_l2i (((q.toUInt64 >>> (((4 : Int32) * (7 : Int32)) &&& 0x3f).toInt64.toUInt64).toInt64) &&& (15 : Int64))
    have b4 := rng32 ((((q.toUInt64 >>> (((4 : Int32) * (7 : Int32)) &&& 0x3f).toInt64.toUInt64).toInt64) &&& (15 : Int64)).toInt32)
    apply Int32.toInt_inj.mp
    rw [a6, a5]
    simp only [Nat.reducePow, Int.cast_ofNat_Int] at *
    omega
  · have e : ((8 : Int32) / (2 : Int32)).toNatClampNeg = 4 := by decide
    refine ⟨_, by rw [e]; rfl, fun _ => ?_, fun h => absurd (by decide) h⟩
    have a1 := c_lushr q (32 : Int32) 32 (by decide) (by decide)
    have a2 := c_l2i ((q.toUInt64 >>> ((32 : Int32) &&& 0x3f).toInt64.toUInt64).toInt64)
    have a3 := c_i2b (((q.toUInt64 >>> ((32 : Int32) &&& 0x3f).toInt64.toUInt64).toInt64).toInt32)
    have a4 := c_i2b ((((q.toUInt64 >>> ((32 : Int32) &&& 0x3f).toInt64.toUInt64).toInt64).toInt32).toInt8.toInt32)
    have a5 := c_mask ((((q.toUInt64 >>> ((32 : Int32) &&& 0x3f).toInt64.toUInt64).toInt64).toInt32).toInt8.toInt32.toInt8.toInt32) (255 : Int32) 8 (by decide) (by decide)
    have a6 := c_mask (((((q.toUInt64 >>> ((32 : Int32) &&& 0x3f).toInt64.toUInt64).toInt64).toInt32).toInt8.toInt32.toInt8.toInt32) &&& (255 : Int32)) (15 : Int32) 4 (by decide) (by decide)
    have b1 := c_lushr q ((4 : Int32) * (8 : Int32)) 32 (by decide) (by decide)
    have b2 := c_maskL ((q.toUInt64 >>> (((4 : Int32) * (8 : Int32)) &&& 0x3f).toInt64.toUInt64).toInt64) (15 : Int64) 4 (by decide) (by decide)
    have b3 := c_l2i (((q.toUInt64 >>> (((4 : Int32) * (8 : Int32)) &&& 0x3f).toInt64.toUInt64).toInt64) &&& (15 : Int64))
    have b4 := rng32 ((((q.toUInt64 >>> (((4 : Int32) * (8 : Int32)) &&& 0x3f).toInt64.toUInt64).toInt64) &&& (15 : Int64)).toInt32)
    apply Int32.toInt_inj.mp
    rw [a6, a5]
    simp only [Nat.reducePow, Int.cast_ofNat_Int] at *
    omega
  · have e : ((9 : Int32) / (2 : Int32)).toNatClampNeg = 4 := by decide
    refine ⟨_, by rw [e]; rfl, fun h => absurd h (by decide), fun _ => ?_⟩
    have a1 := c_lushr q (32 : Int32) 32 (by decide) (by decide)
    have a2 := c_l2i ((q.toUInt64 >>> ((32 : Int32) &&& 0x3f).toInt64.toUInt64).toInt64)
    have a3 := c_i2b (((q.toUInt64 >>> ((32 : Int32) &&& 0x3f).toInt64.toUInt64).toInt64).toInt32)
    have a4 := c_i2b ((((q.toUInt64 >>> ((32 : Int32) &&& 0x3f).toInt64.toUInt64).toInt64).toInt32).toInt8.toInt32)
    have a5 := c_mask ((((q.toUInt64 >>> ((32 : Int32) &&& 0x3f).toInt64.toUInt64).toInt64).toInt32).toInt8.toInt32.toInt8.toInt32) (255 : Int32) 8 (by decide) (by decide)
    have a6 := c_ishr (((((q.toUInt64 >>> ((32 : Int32) &&& 0x3f).toInt64.toUInt64).toInt64).toInt32).toInt8.toInt32.toInt8.toInt32) &&& (255 : Int32)) (4 : Int32) 4 (by decide)
    have b1 := c_lushr q ((4 : Int32) * (9 : Int32)) 36 (by decide) (by decide)
    have b2 := c_maskL ((q.toUInt64 >>> (((4 : Int32) * (9 : Int32)) &&& 0x3f).toInt64.toUInt64).toInt64) (15 : Int64) 4 (by decide) (by decide)
    have b3 := c_l2i (((q.toUInt64 >>> (((4 : Int32) * (9 : Int32)) &&& 0x3f).toInt64.toUInt64).toInt64) &&& (15 : Int64))
    have b4 := rng32 ((((q.toUInt64 >>> (((4 : Int32) * (9 : Int32)) &&& 0x3f).toInt64.toUInt64).toInt64) &&& (15 : Int64)).toInt32)
    apply Int32.toInt_inj.mp
    rw [a6, a5]
    simp only [Nat.reducePow, Int.cast_ofNat_Int] at *
    omega
  · have e : ((10 : Int32) / (2 : Int32)).toNatClampNeg = 5 := by decide
    refine ⟨_, by rw [e]; rfl, fun _ => ?_, fun h => absurd (by decide) h⟩
    have a1 := c_lushr q (40 : Int32) 40 (by decide) (by decide)
    have a2 := c_l2i ((q.toUInt64 >>> ((40 : Int32) &&& 0x3f).toInt64.toUInt64).toInt64)
    have a3 := c_i2b (((q.toUInt64 >>> ((40 : Int32) &&& 0x3f).toInt64.toUInt64).toInt64).toInt32)
    have a4 := c_i2b ((((q.toUInt64 >>> ((40 : Int32) &&& 0x3f).toInt64.toUInt64).toInt64).toInt32).toInt8.toInt32)
    have a5 := c_mask ((((q.toUInt64 >>> ((40 : Int32) &&& 0x3f).toInt64.toUInt64).toInt64).toInt32).toInt8.toInt32.toInt8.toInt32) (255 : Int32) 8 (by decide) (by decide)
    have a6 := c_mask (((((q.toUInt64 >>> ((40 : Int32) &&& 0x3f).toInt64.toUInt64).toInt64).toInt32).toInt8.toInt32.toInt8.toInt32) &&& (255 : Int32)) (15 : Int32) 4 (by decide) (by decide)
    have b1 := c_lushr q ((4 : Int32) * (10 : Int32)) 40 (by decide) (by decide)
    have b2 := c_maskL ((q.toUInt64 >>> (((4 : Int32) * (10 : Int32)) &&& 0x3f).toInt64.toUInt64).toInt64) (15 : Int64) 4 (by decide) (by decide)
    have b3 := c_l2i (((q.toUInt64 >>> (((4 : Int32) * (10 : Int32)) &&& 0x3f).toInt64.toUInt64).toInt64) &&& (15 : Int64))
    have b4 := rng32 ((((q.toUInt64 >>> (((4 : Int32) * (10 : Int32)) &&& 0x3f).toInt64.toUInt64).toInt64) &&& (15 : Int64)).toInt32)
    apply Int32.toInt_inj.mp
    rw [a6, a5]
    simp only [Nat.reducePow, Int.cast_ofNat_Int] at *
    omega
  · have e : ((11 : Int32) / (2 : Int32)).toNatClampNeg = 5 := by decide
    refine ⟨_, by rw [e]; rfl, fun h => absurd h (by decide), fun _ => ?_⟩
    have a1 := c_lushr q (40 : Int32) 40 (by decide) (by decide)
    have a2 := c_l2i ((q.toUInt64 >>> ((40 : Int32) &&& 0x3f).toInt64.toUInt64).toInt64)
    have a3 := c_i2b (((q.toUInt64 >>> ((40 : Int32) &&& 0x3f).toInt64.toUInt64).toInt64).toInt32)
    have a4 := c_i2b ((((q.toUInt64 >>> ((40 : Int32) &&& 0x3f).toInt64.toUInt64).toInt64).toInt32).toInt8.toInt32)
    have a5 := c_mask ((((q.toUInt64 >>> ((40 : Int32) &&& 0x3f).toInt64.toUInt64).toInt64).toInt32).toInt8.toInt32.toInt8.toInt32) (255 : Int32) 8 (by decide) (by decide)
    have a6 := c_ishr (((((q.toUInt64 >>> ((40 : Int32) &&& 0x3f).toInt64.toUInt64).toInt64).toInt32).toInt8.toInt32.toInt8.toInt32) &&& (255 : Int32)) (4 : Int32) 4 (by decide)
    have b1 := c_lushr q ((4 : Int32) * (11 : Int32)) 44 (by decide) (by decide)
    have b2 := c_maskL ((q.toUInt64 >>> (((4 : Int32) * (11 : Int32)) &&& 0x3f).toInt64.toUInt64).toInt64) (15 : Int64) 4 (by decide) (by decide)
    have b3 := c_l2i (((q.toUInt64 >>> (((4 : Int32) * (11 : Int32)) &&& 0x3f).toInt64.toUInt64).toInt64) &&& (15 : Int64))
    have b4 := rng32 ((((q.toUInt64 >>> (((4 : Int32) * (11 : Int32)) &&& 0x3f).toInt64.toUInt64).toInt64) &&& (15 : Int64)).toInt32)
    apply Int32.toInt_inj.mp
    rw [a6, a5]
    simp only [Nat.reducePow, Int.cast_ofNat_Int] at *
    omega
  · have e : ((12 : Int32) / (2 : Int32)).toNatClampNeg = 6 := by decide
    refine ⟨_, by rw [e]; rfl, fun _ => ?_, fun h => absurd (by decide) h⟩
    have a1 := c_lushr q (48 : Int32) 48 (by decide) (by decide)
    have a2 := c_l2i ((q.toUInt64 >>> ((48 : Int32) &&& 0x3f).toInt64.toUInt64).toInt64)
    have a3 := c_i2b (((q.toUInt64 >>> ((48 : Int32) &&& 0x3f).toInt64.toUInt64).toInt64).toInt32)
    have a4 := c_i2b ((((q.toUInt64 >>> ((48 : Int32) &&& 0x3f).toInt64.toUInt64).toInt64).toInt32).toInt8.toInt32)
    have a5 := c_mask ((((q.toUInt64 >>> ((48 : Int32) &&& 0x3f).toInt64.toUInt64).toInt64).toInt32).toInt8.toInt32.toInt8.toInt32) (255 : Int32) 8 (by decide) (by decide)
    have a6 := c_mask (((((q.toUInt64 >>> ((48 : Int32) &&& 0x3f).toInt64.toUInt64).toInt64).toInt32).toInt8.toInt32.toInt8.toInt32) &&& (255 : Int32)) (15 : Int32) 4 (by decide) (by decide)
    have b1 := c_lushr q ((4 : Int32) * (12 : Int32)) 48 (by decide) (by decide)
    have b2 := c_maskL ((q.toUInt64 >>> (((4 : Int32) * (12 : Int32)) &&& 0x3f).toInt64.toUInt64).toInt64) (15 : Int64) 4 (by decide) (by decide)
    have b3 := c_l2i (((q.toUInt64 >>> (((4 : Int32) * (12 : Int32)) &&& 0x3f).toInt64.toUInt64).toInt64) &&& (15 : Int64))
    have b4 := rng32 ((((q.toUInt64 >>> (((4 : Int32) * (12 : Int32)) &&& 0x3f).toInt64.toUInt64).toInt64) &&& (15 : Int64)).toInt32)
    apply Int32.toInt_inj.mp
    rw [a6, a5]
    simp only [Nat.reducePow, Int.cast_ofNat_Int] at *
    omega
  · have e : ((13 : Int32) / (2 : Int32)).toNatClampNeg = 6 := by decide
    refine ⟨_, by rw [e]; rfl, fun h => absurd h (by decide), fun _ => ?_⟩
    have a1 := c_lushr q (48 : Int32) 48 (by decide) (by decide)
    have a2 := c_l2i ((q.toUInt64 >>> ((48 : Int32) &&& 0x3f).toInt64.toUInt64).toInt64)
    have a3 := c_i2b (((q.toUInt64 >>> ((48 : Int32) &&& 0x3f).toInt64.toUInt64).toInt64).toInt32)
    have a4 := c_i2b ((((q.toUInt64 >>> ((48 : Int32) &&& 0x3f).toInt64.toUInt64).toInt64).toInt32).toInt8.toInt32)
    have a5 := c_mask ((((q.toUInt64 >>> ((48 : Int32) &&& 0x3f).toInt64.toUInt64).toInt64).toInt32).toInt8.toInt32.toInt8.toInt32) (255 : Int32) 8 (by decide) (by decide)
    have a6 := c_ishr (((((q.toUInt64 >>> ((48 : Int32) &&& 0x3f).toInt64.toUInt64).toInt64).toInt32).toInt8.toInt32.toInt8.toInt32) &&& (255 : Int32)) (4 : Int32) 4 (by decide)
    have b1 := c_lushr q ((4 : Int32) * (13 : Int32)) 52 (by decide) (by decide)
    have b2 := c_maskL ((q.toUInt64 >>> (((4 : Int32) * (13 : Int32)) &&& 0x3f).toInt64.toUInt64).toInt64) (15 : Int64) 4 (by decide) (by decide)
    have b3 := c_l2i (((q.toUInt64 >>> (((4 : Int32) * (13 : Int32)) &&& 0x3f).toInt64.toUInt64).toInt64) &&& (15 : Int64))
    have b4 := rng32 ((((q.toUInt64 >>> (((4 : Int32) * (13 : Int32)) &&& 0x3f).toInt64.toUInt64).toInt64) &&& (15 : Int64)).toInt32)
    apply Int32.toInt_inj.mp
    rw [a6, a5]
    simp only [Nat.reducePow, Int.cast_ofNat_Int] at *
    omega
  · have e : ((14 : Int32) / (2 : Int32)).toNatClampNeg = 7 := by decide
    refine ⟨_, by rw [e]; rfl, fun _ => ?_, fun h => absurd (by decide) h⟩
    have a1 := c_lushr q (56 : Int32) 56 (by decide) (by decide)
    have a2 := c_l2i ((q.toUInt64 >>> ((56 : Int32) &&& 0x3f).toInt64.toUInt64).toInt64)
    have a3 := c_i2b (((q.toUInt64 >>> ((56 : Int32) &&& 0x3f).toInt64.toUInt64).toInt64).toInt32)
    have a4 := c_i2b ((((q.toUInt64 >>> ((56 : Int32) &&& 0x3f).toInt64.toUInt64).toInt64).toInt32).toInt8.toInt32)
    have a5 := c_mask ((((q.toUInt64 >>> ((56 : Int32) &&& 0x3f).toInt64.toUInt64).toInt64).toInt32).toInt8.toInt32.toInt8.toInt32) (255 : Int32) 8 (by decide) (by decide)
    have a6 := c_mask (((((q.toUInt64 >>> ((56 : Int32) &&& 0x3f).toInt64.toUInt64).toInt64).toInt32).toInt8.toInt32.toInt8.toInt32) &&& (255 : Int32)) (15 : Int32) 4 (by decide) (by decide)
    have b1 := c_lushr q ((4 : Int32) * (14 : Int32)) 56 (by decide) (by decide)
    have b2 := c_maskL ((q.toUInt64 >>> (((4 : Int32) * (14 : Int32)) &&& 0x3f).toInt64.toUInt64).toInt64) (15 : Int64) 4 (by decide) (by decide)
    have b3 := c_l2i (((q.toUInt64 >>> (((4 : Int32) * (14 : Int32)) &&& 0x3f).toInt64.toUInt64).toInt64) &&& (15 : Int64))
    have b4 := rng32 ((((q.toUInt64 >>> (((4 : Int32) * (14 : Int32)) &&& 0x3f).toInt64.toUInt64).toInt64) &&& (15 : Int64)).toInt32)
    apply Int32.toInt_inj.mp
    rw [a6, a5]
    simp only [Nat.reducePow, Int.cast_ofNat_Int] at *
    omega
  · have e : ((15 : Int32) / (2 : Int32)).toNatClampNeg = 7 := by decide
    refine ⟨_, by rw [e]; rfl, fun h => absurd h (by decide), fun _ => ?_⟩
    have a1 := c_lushr q (56 : Int32) 56 (by decide) (by decide)
    have a2 := c_l2i ((q.toUInt64 >>> ((56 : Int32) &&& 0x3f).toInt64.toUInt64).toInt64)
    have a3 := c_i2b (((q.toUInt64 >>> ((56 : Int32) &&& 0x3f).toInt64.toUInt64).toInt64).toInt32)
    have a4 := c_i2b ((((q.toUInt64 >>> ((56 : Int32) &&& 0x3f).toInt64.toUInt64).toInt64).toInt32).toInt8.toInt32)
    have a5 := c_mask ((((q.toUInt64 >>> ((56 : Int32) &&& 0x3f).toInt64.toUInt64).toInt64).toInt32).toInt8.toInt32.toInt8.toInt32) (255 : Int32) 8 (by decide) (by decide)
    have a6 := c_ishr (((((q.toUInt64 >>> ((56 : Int32) &&& 0x3f).toInt64.toUInt64).toInt64).toInt32).toInt8.toInt32.toInt8.toInt32) &&& (255 : Int32)) (4 : Int32) 4 (by decide)
    have b1 := c_lushr q ((4 : Int32) * (15 : Int32)) 60 (by decide) (by decide)
    have b2 := c_maskL ((q.toUInt64 >>> (((4 : Int32) * (15 : Int32)) &&& 0x3f).toInt64.toUInt64).toInt64) (15 : Int64) 4 (by decide) (by decide)
    have b3 := c_l2i (((q.toUInt64 >>> (((4 : Int32) * (15 : Int32)) &&& 0x3f).toInt64.toUInt64).toInt64) &&& (15 : Int64))
    have b4 := rng32 ((((q.toUInt64 >>> (((4 : Int32) * (15 : Int32)) &&& 0x3f).toInt64.toUInt64).toInt64) &&& (15 : Int64)).toInt32)
    apply Int32.toInt_inj.mp
    rw [a6, a5]
    simp only [Nat.reducePow, Int.cast_ofNat_Int] at *
    omega
theorem own_pn0 : plainName "com/example/carrier_name_resolver/carriernameresolver/card/CardBytesNibblePinLaw" = true := by first | (simp [plainName, overriddenIn]; done) | decide +kernel
theorem own_pd0_0 : parseMethodDescriptor "([BI)I" = some ⟨[(.array .byte), .int], some .int⟩ := by decide +kernel
theorem own_ef0 (m : MethodId) (q : Int64) (t : Int32) : entryFrame m #[(.long q), (.int t)] maxLocals = mkF m 0 #[.val (.long q), .second, .val (.int t), .unset, .unset, .unset] [] := by first | (simp [entryFrame, mkF, argsToLocals, Value.category, maxLocals]; done) | rfl
def own_Q0 (Z : State) (q : Int64) (t : Int32) (h0 : Heap) (n0 : Nat) (v : Option Value) (h : Heap) (L : List Loc) : Prop := v = some (.int 1) ∧ Fr n0 L
set_option maxRecDepth 65536 in
set_option maxHeartbeats 40000000 in
theorem own_rm0 (l : Launch) (Z : State) (a0 : Array Value) (hw : ∀ d ∈ tables_1, d.before a0 Z = true) (ws : List Jvm.Cond) (q : Int64) (t : Int32) (h0 : Heap) (n0 : Nat) (Zs : n0 ≤ h0.size)  :
    MetFree l x (head1 (Jvm.Cond.code x code maxLocals ret :: ws) room_1) (fun aA_ U => aA_ = #[(.long q), (.int t)] ∧ Z.Warmed39 U.vm ∧ U.heap = h0) (fun _ _ _ _ _ => True) (fun _ U o U' => ∃ v L, o = .returned v ∧ own_Q0 Z q t h0 n0 v U'.heap L ∧ FrameEnd U o U' L room_1.cells room_1.slots) := by
  refine MetFree.of_bodySF (plainFor_of_name own_pn0) hisR ?_
  intro p e s m args below meth c s₁ Bd hml0 hP hK
  obtain ⟨rfl, hZ, hh⟩ := hP
  have hx := Bd.exec
  have hby := Bd.bytes
  have hml : c.maxLocals = 6 := hml0
  have hown : s.vm.findClass "com/example/carrier_name_resolver/carriernameresolver/card/CardBytesNibblePinLaw" = some m.cls := findClass_of_methodNamed Bd.named
  have hnm := (name_of_methodNamed Bd.named Bd.method).1
  have X0 : Stand p l e room_1 s m #[(.long q), (.int t)] below meth c s₁ [] 0 0 := Stand.of_body Bd
  have e0 : s₁.heap = h0 := by rw [← hh, Bd.state]; rfl
  have NF := Fr.nil n0
  rw [own_ef0 m q t]
  show own_Dn p e below s (own_Q0 Z q t h0 n0) room_1.cells room_1.slots s₁ (mkF m 0 #[.val (.long q), .second, .val (.int t), .unset, .unset, .unset] [])
  have hp0 := c_and t (15 : Int32) (by decide)
  have hp : 0 ≤ (t &&& (15 : Int32)).toInt ∧ (t &&& (15 : Int32)).toInt ≤ 15 := hp0
  obtain ⟨yv, hy, hye, hyo⟩ := own_pick q (t &&& (15 : Int32)) hp
  refine own_go (T' := s₁) (g' := (mkF m 2 #[.val (.long q), .second, .val (.int t), .unset, .unset, .unset] [(.int (8 : Int32))])) (fun _ k => XS.bipush X0.here hx rfl (hb hby at_0) k) ?_
  obtain ⟨T1, h1, k1, X1, e1, E1, A1, st1⟩ := newP X0 hx hZ (hw _ (List.mem_of_getElem? (i := 0) rfl)) e0 (g := (mkF m 2 #[.val (.long q), .second, .val (.int t), .unset, .unset, .unset] [(.int (8 : Int32))])) rfl (hb hby at_2) rfl (by decide) (cap := 8) (by decide) (by decide) (by decide) (by decide)
  obtain ⟨b1, g1⟩ : ∃ z, z = h0.size := ⟨_, rfl⟩
  rw [← g1] at A1 st1
  have g_b1 : n0 ≤ b1 := Nat.le_trans Zs (Nat.le_of_eq g1.symm)
  have Zs := Nat.le_trans Zs E1.1
  have V_b1 : Arv Z h1 b1 k1 .byte (8 : Int32) [(.int (0 : Int32)), (.int (0 : Int32)), (.int (0 : Int32)), (.int (0 : Int32)), (.int (0 : Int32)), (.int (0 : Int32)), (.int (0 : Int32)), (.int (0 : Int32))] (.int (0 : Int32)) := (Arv.new A1 (by decide)).pad (pad_rep [] (.int (0 : Int32)) 8)
  refine own_go (T' := T1) (g' := (mkF m 4 #[.val (.long q), .second, .val (.int t), .unset, .unset, .unset] [(.ref b1)])) (fun _ k => st1 _ k) ?_
  refine own_go (T' := T1) (g' := (mkF m 5 #[.val (.long q), .second, .val (.int t), .unset, .unset, .unset] [(.ref b1), (.ref b1)])) (fun _ k => XS.dup X1.here hx rfl (hb hby at_4) rfl rfl k) ?_
  refine own_go (T' := T1) (g' := (mkF m 6 #[.val (.long q), .second, .val (.int t), .unset, .unset, .unset] [(.int (0 : Int32)), (.ref b1), (.ref b1)])) (fun _ k => XS.iconst X1.here hx rfl (hb hby at_5) k) ?_
  refine own_go (T' := T1) (g' := (mkF m 7 #[.val (.long q), .second, .val (.int t), .unset, .unset, .unset] [(.long q), (.int (0 : Int32)), (.ref b1), (.ref b1)])) (fun _ k => XS.lloadN X1.here hx rfl (hb hby at_6) rfl k) ?_
  refine own_go (T' := T1) (g' := (mkF m 8 #[.val (.long q), .second, .val (.int t), .unset, .unset, .unset] [(.int (q.toInt32)), (.int (0 : Int32)), (.ref b1), (.ref b1)])) (fun _ k => XS.l2i X1.here hx rfl (hb hby at_7) rfl k) ?_
  refine own_go (T' := T1) (g' := (mkF m 9 #[.val (.long q), .second, .val (.int t), .unset, .unset, .unset] [(.int ((q.toInt32).toInt8.toInt32)), (.int (0 : Int32)), (.ref b1), (.ref b1)])) (fun _ k => XS.i2b X1.here hx rfl (hb hby at_8) rfl k) ?_
  obtain ⟨c_2, Ar_2, q_2, S_2, N_2, H_2, G_2⟩ := V_b1
  have hin_2 : ¬ ((0 : Int32) < 0 ∨ c_2.slots.size ≤ ((0 : Int32)).toNatClampNeg) := inb_of S_2 ⟨by decide, by decide⟩
  obtain ⟨T2, h2, X2, e2, W2, st2⟩ := stB X1 hx hZ e1 Ar_2 (j := (0 : Int32)) hin_2 (g := (mkF m 9 #[.val (.long q), .second, .val (.int t), .unset, .unset, .unset] [(.int ((q.toInt32).toInt8.toInt32)), (.int (0 : Int32)), (.ref b1), (.ref b1)])) rfl rfl (hb hby at_9)
  have Zs := Nat.le_trans Zs (Keep.of_wr W2).1
  have V_b1 := Arv.set Ar_2 q_2 S_2 N_2 H_2 G_2 (fits_nar_byte _) W2 0 rfl (Nat.le_of_ble_eq_true rfl)
  have NF := Fr.snoc X2 NF g_b1
  refine own_go (T' := T2) (g' := (mkF m 10 #[.val (.long q), .second, .val (.int t), .unset, .unset, .unset] [(.ref b1)])) (fun _ k => st2 _ k) ?_
  refine own_go (T' := T2) (g' := (mkF m 11 #[.val (.long q), .second, .val (.int t), .unset, .unset, .unset] [(.ref b1), (.ref b1)])) (fun _ k => XS.dup X2.here hx rfl (hb hby at_10) rfl rfl k) ?_
  refine own_go (T' := T2) (g' := (mkF m 12 #[.val (.long q), .second, .val (.int t), .unset, .unset, .unset] [(.int (1 : Int32)), (.ref b1), (.ref b1)])) (fun _ k => XS.iconst X2.here hx rfl (hb hby at_11) k) ?_
  refine own_go (T' := T2) (g' := (mkF m 13 #[.val (.long q), .second, .val (.int t), .unset, .unset, .unset] [(.long q), (.int (1 : Int32)), (.ref b1), (.ref b1)])) (fun _ k => XS.lloadN X2.here hx rfl (hb hby at_12) rfl k) ?_
  refine own_go (T' := T2) (g' := (mkF m 15 #[.val (.long q), .second, .val (.int t), .unset, .unset, .unset] [(.int (8 : Int32)), (.long q), (.int (1 : Int32)), (.ref b1), (.ref b1)])) (fun _ k => XS.bipush X2.here hx rfl (hb hby at_13) k) ?_
  refine own_go (T' := T2) (g' := (mkF m 16 #[.val (.long q), .second, .val (.int t), .unset, .unset, .unset] [(.long ((q.toUInt64 >>> ((8 : Int32) &&& 0x3f).toInt64.toUInt64).toInt64)), (.int (1 : Int32)), (.ref b1), (.ref b1)])) (fun _ k => XS.lushr X2.here hx rfl (hb hby at_15) rfl k) ?_
  refine own_go (T' := T2) (g' := (mkF m 17 #[.val (.long q), .second, .val (.int t), .unset, .unset, .unset] [(.int (((q.toUInt64 >>> ((8 : Int32) &&& 0x3f).toInt64.toUInt64).toInt64).toInt32)), (.int (1 : Int32)), (.ref b1), (.ref b1)])) (fun _ k => XS.l2i X2.here hx rfl (hb hby at_16) rfl k) ?_
  refine own_go (T' := T2) (g' := (mkF m 18 #[.val (.long q), .second, .val (.int t), .unset, .unset, .unset] [(.int ((((q.toUInt64 >>> ((8 : Int32) &&& 0x3f).toInt64.toUInt64).toInt64).toInt32).toInt8.toInt32)), (.int (1 : Int32)), (.ref b1), (.ref b1)])) (fun _ k => XS.i2b X2.here hx rfl (hb hby at_17) rfl k) ?_
  obtain ⟨c_3, Ar_3, q_3, S_3, N_3, H_3, G_3⟩ := V_b1
  have hin_3 : ¬ ((1 : Int32) < 0 ∨ c_3.slots.size ≤ ((1 : Int32)).toNatClampNeg) := inb_of S_3 ⟨by decide, by decide⟩
  obtain ⟨T3, h3, X3, e3, W3, st3⟩ := stB X2 hx hZ e2 Ar_3 (j := (1 : Int32)) hin_3 (g := (mkF m 18 #[.val (.long q), .second, .val (.int t), .unset, .unset, .unset] [(.int ((((q.toUInt64 >>> ((8 : Int32) &&& 0x3f).toInt64.toUInt64).toInt64).toInt32).toInt8.toInt32)), (.int (1 : Int32)), (.ref b1), (.ref b1)])) rfl rfl (hb hby at_18)
  have Zs := Nat.le_trans Zs (Keep.of_wr W3).1
  have V_b1 := Arv.set Ar_3 q_3 S_3 N_3 H_3 G_3 (fits_nar_byte _) W3 1 rfl (Nat.le_of_ble_eq_true rfl)
  have NF := Fr.snoc X3 NF g_b1
  refine own_go (T' := T3) (g' := (mkF m 19 #[.val (.long q), .second, .val (.int t), .unset, .unset, .unset] [(.ref b1)])) (fun _ k => st3 _ k) ?_
  refine own_go (T' := T3) (g' := (mkF m 20 #[.val (.long q), .second, .val (.int t), .unset, .unset, .unset] [(.ref b1), (.ref b1)])) (fun _ k => XS.dup X3.here hx rfl (hb hby at_19) rfl rfl k) ?_
  refine own_go (T' := T3) (g' := (mkF m 21 #[.val (.long q), .second, .val (.int t), .unset, .unset, .unset] [(.int (2 : Int32)), (.ref b1), (.ref b1)])) (fun _ k => XS.iconst X3.here hx rfl (hb hby at_20) k) ?_
  refine own_go (T' := T3) (g' := (mkF m 22 #[.val (.long q), .second, .val (.int t), .unset, .unset, .unset] [(.long q), (.int (2 : Int32)), (.ref b1), (.ref b1)])) (fun _ k => XS.lloadN X3.here hx rfl (hb hby at_21) rfl k) ?_
  refine own_go (T' := T3) (g' := (mkF m 24 #[.val (.long q), .second, .val (.int t), .unset, .unset, .unset] [(.int (16 : Int32)), (.long q), (.int (2 : Int32)), (.ref b1), (.ref b1)])) (fun _ k => XS.bipush X3.here hx rfl (hb hby at_22) k) ?_
  refine own_go (T' := T3) (g' := (mkF m 25 #[.val (.long q), .second, .val (.int t), .unset, .unset, .unset] [(.long ((q.toUInt64 >>> ((16 : Int32) &&& 0x3f).toInt64.toUInt64).toInt64)), (.int (2 : Int32)), (.ref b1), (.ref b1)])) (fun _ k => XS.lushr X3.here hx rfl (hb hby at_24) rfl k) ?_
  refine own_go (T' := T3) (g' := (mkF m 26 #[.val (.long q), .second, .val (.int t), .unset, .unset, .unset] [(.int (((q.toUInt64 >>> ((16 : Int32) &&& 0x3f).toInt64.toUInt64).toInt64).toInt32)), (.int (2 : Int32)), (.ref b1), (.ref b1)])) (fun _ k => XS.l2i X3.here hx rfl (hb hby at_25) rfl k) ?_
  refine own_go (T' := T3) (g' := (mkF m 27 #[.val (.long q), .second, .val (.int t), .unset, .unset, .unset] [(.int ((((q.toUInt64 >>> ((16 : Int32) &&& 0x3f).toInt64.toUInt64).toInt64).toInt32).toInt8.toInt32)), (.int (2 : Int32)), (.ref b1), (.ref b1)])) (fun _ k => XS.i2b X3.here hx rfl (hb hby at_26) rfl k) ?_
  obtain ⟨c_4, Ar_4, q_4, S_4, N_4, H_4, G_4⟩ := V_b1
  have hin_4 : ¬ ((2 : Int32) < 0 ∨ c_4.slots.size ≤ ((2 : Int32)).toNatClampNeg) := inb_of S_4 ⟨by decide, by decide⟩
  obtain ⟨T4, h4, X4, e4, W4, st4⟩ := stB X3 hx hZ e3 Ar_4 (j := (2 : Int32)) hin_4 (g := (mkF m 27 #[.val (.long q), .second, .val (.int t), .unset, .unset, .unset] [(.int ((((q.toUInt64 >>> ((16 : Int32) &&& 0x3f).toInt64.toUInt64).toInt64).toInt32).toInt8.toInt32)), (.int (2 : Int32)), (.ref b1), (.ref b1)])) rfl rfl (hb hby at_27)
  have Zs := Nat.le_trans Zs (Keep.of_wr W4).1
  have V_b1 := Arv.set Ar_4 q_4 S_4 N_4 H_4 G_4 (fits_nar_byte _) W4 2 rfl (Nat.le_of_ble_eq_true rfl)
  have NF := Fr.snoc X4 NF g_b1
  refine own_go (T' := T4) (g' := (mkF m 28 #[.val (.long q), .second, .val (.int t), .unset, .unset, .unset] [(.ref b1)])) (fun _ k => st4 _ k) ?_
  refine own_go (T' := T4) (g' := (mkF m 29 #[.val (.long q), .second, .val (.int t), .unset, .unset, .unset] [(.ref b1), (.ref b1)])) (fun _ k => XS.dup X4.here hx rfl (hb hby at_28) rfl rfl k) ?_
  refine own_go (T' := T4) (g' := (mkF m 30 #[.val (.long q), .second, .val (.int t), .unset, .unset, .unset] [(.int (3 : Int32)), (.ref b1), (.ref b1)])) (fun _ k => XS.iconst X4.here hx rfl (hb hby at_29) k) ?_
  refine own_go (T' := T4) (g' := (mkF m 31 #[.val (.long q), .second, .val (.int t), .unset, .unset, .unset] [(.long q), (.int (3 : Int32)), (.ref b1), (.ref b1)])) (fun _ k => XS.lloadN X4.here hx rfl (hb hby at_30) rfl k) ?_
  refine own_go (T' := T4) (g' := (mkF m 33 #[.val (.long q), .second, .val (.int t), .unset, .unset, .unset] [(.int (24 : Int32)), (.long q), (.int (3 : Int32)), (.ref b1), (.ref b1)])) (fun _ k => XS.bipush X4.here hx rfl (hb hby at_31) k) ?_
  refine own_go (T' := T4) (g' := (mkF m 34 #[.val (.long q), .second, .val (.int t), .unset, .unset, .unset] [(.long ((q.toUInt64 >>> ((24 : Int32) &&& 0x3f).toInt64.toUInt64).toInt64)), (.int (3 : Int32)), (.ref b1), (.ref b1)])) (fun _ k => XS.lushr X4.here hx rfl (hb hby at_33) rfl k) ?_
  refine own_go (T' := T4) (g' := (mkF m 35 #[.val (.long q), .second, .val (.int t), .unset, .unset, .unset] [(.int (((q.toUInt64 >>> ((24 : Int32) &&& 0x3f).toInt64.toUInt64).toInt64).toInt32)), (.int (3 : Int32)), (.ref b1), (.ref b1)])) (fun _ k => XS.l2i X4.here hx rfl (hb hby at_34) rfl k) ?_
  refine own_go (T' := T4) (g' := (mkF m 36 #[.val (.long q), .second, .val (.int t), .unset, .unset, .unset] [(.int ((((q.toUInt64 >>> ((24 : Int32) &&& 0x3f).toInt64.toUInt64).toInt64).toInt32).toInt8.toInt32)), (.int (3 : Int32)), (.ref b1), (.ref b1)])) (fun _ k => XS.i2b X4.here hx rfl (hb hby at_35) rfl k) ?_
  obtain ⟨c_5, Ar_5, q_5, S_5, N_5, H_5, G_5⟩ := V_b1
  have hin_5 : ¬ ((3 : Int32) < 0 ∨ c_5.slots.size ≤ ((3 : Int32)).toNatClampNeg) := inb_of S_5 ⟨by decide, by decide⟩
  obtain ⟨T5, h5, X5, e5, W5, st5⟩ := stB X4 hx hZ e4 Ar_5 (j := (3 : Int32)) hin_5 (g := (mkF m 36 #[.val (.long q), .second, .val (.int t), .unset, .unset, .unset] [(.int ((((q.toUInt64 >>> ((24 : Int32) &&& 0x3f).toInt64.toUInt64).toInt64).toInt32).toInt8.toInt32)), (.int (3 : Int32)), (.ref b1), (.ref b1)])) rfl rfl (hb hby at_36)
  have Zs := Nat.le_trans Zs (Keep.of_wr W5).1
  have V_b1 := Arv.set Ar_5 q_5 S_5 N_5 H_5 G_5 (fits_nar_byte _) W5 3 rfl (Nat.le_of_ble_eq_true rfl)
  have NF := Fr.snoc X5 NF g_b1
  refine own_go (T' := T5) (g' := (mkF m 37 #[.val (.long q), .second, .val (.int t), .unset, .unset, .unset] [(.ref b1)])) (fun _ k => st5 _ k) ?_
  refine own_go (T' := T5) (g' := (mkF m 38 #[.val (.long q), .second, .val (.int t), .unset, .unset, .unset] [(.ref b1), (.ref b1)])) (fun _ k => XS.dup X5.here hx rfl (hb hby at_37) rfl rfl k) ?_
  refine own_go (T' := T5) (g' := (mkF m 39 #[.val (.long q), .second, .val (.int t), .unset, .unset, .unset] [(.int (4 : Int32)), (.ref b1), (.ref b1)])) (fun _ k => XS.iconst X5.here hx rfl (hb hby at_38) k) ?_
  refine own_go (T' := T5) (g' := (mkF m 40 #[.val (.long q), .second, .val (.int t), .unset, .unset, .unset] [(.long q), (.int (4 : Int32)), (.ref b1), (.ref b1)])) (fun _ k => XS.lloadN X5.here hx rfl (hb hby at_39) rfl k) ?_
  refine own_go (T' := T5) (g' := (mkF m 42 #[.val (.long q), .second, .val (.int t), .unset, .unset, .unset] [(.int (32 : Int32)), (.long q), (.int (4 : Int32)), (.ref b1), (.ref b1)])) (fun _ k => XS.bipush X5.here hx rfl (hb hby at_40) k) ?_
  refine own_go (T' := T5) (g' := (mkF m 43 #[.val (.long q), .second, .val (.int t), .unset, .unset, .unset] [(.long ((q.toUInt64 >>> ((32 : Int32) &&& 0x3f).toInt64.toUInt64).toInt64)), (.int (4 : Int32)), (.ref b1), (.ref b1)])) (fun _ k => XS.lushr X5.here hx rfl (hb hby at_42) rfl k) ?_
  refine own_go (T' := T5) (g' := (mkF m 44 #[.val (.long q), .second, .val (.int t), .unset, .unset, .unset] [(.int (((q.toUInt64 >>> ((32 : Int32) &&& 0x3f).toInt64.toUInt64).toInt64).toInt32)), (.int (4 : Int32)), (.ref b1), (.ref b1)])) (fun _ k => XS.l2i X5.here hx rfl (hb hby at_43) rfl k) ?_
  refine own_go (T' := T5) (g' := (mkF m 45 #[.val (.long q), .second, .val (.int t), .unset, .unset, .unset] [(.int ((((q.toUInt64 >>> ((32 : Int32) &&& 0x3f).toInt64.toUInt64).toInt64).toInt32).toInt8.toInt32)), (.int (4 : Int32)), (.ref b1), (.ref b1)])) (fun _ k => XS.i2b X5.here hx rfl (hb hby at_44) rfl k) ?_
  obtain ⟨c_6, Ar_6, q_6, S_6, N_6, H_6, G_6⟩ := V_b1
  have hin_6 : ¬ ((4 : Int32) < 0 ∨ c_6.slots.size ≤ ((4 : Int32)).toNatClampNeg) := inb_of S_6 ⟨by decide, by decide⟩
  obtain ⟨T6, h6, X6, e6, W6, st6⟩ := stB X5 hx hZ e5 Ar_6 (j := (4 : Int32)) hin_6 (g := (mkF m 45 #[.val (.long q), .second, .val (.int t), .unset, .unset, .unset] [(.int ((((q.toUInt64 >>> ((32 : Int32) &&& 0x3f).toInt64.toUInt64).toInt64).toInt32).toInt8.toInt32)), (.int (4 : Int32)), (.ref b1), (.ref b1)])) rfl rfl (hb hby at_45)
  have Zs := Nat.le_trans Zs (Keep.of_wr W6).1
  have V_b1 := Arv.set Ar_6 q_6 S_6 N_6 H_6 G_6 (fits_nar_byte _) W6 4 rfl (Nat.le_of_ble_eq_true rfl)
  have NF := Fr.snoc X6 NF g_b1
  refine own_go (T' := T6) (g' := (mkF m 46 #[.val (.long q), .second, .val (.int t), .unset, .unset, .unset] [(.ref b1)])) (fun _ k => st6 _ k) ?_
  refine own_go (T' := T6) (g' := (mkF m 47 #[.val (.long q), .second, .val (.int t), .unset, .unset, .unset] [(.ref b1), (.ref b1)])) (fun _ k => XS.dup X6.here hx rfl (hb hby at_46) rfl rfl k) ?_
  refine own_go (T' := T6) (g' := (mkF m 48 #[.val (.long q), .second, .val (.int t), .unset, .unset, .unset] [(.int (5 : Int32)), (.ref b1), (.ref b1)])) (fun _ k => XS.iconst X6.here hx rfl (hb hby at_47) k) ?_
  refine own_go (T' := T6) (g' := (mkF m 49 #[.val (.long q), .second, .val (.int t), .unset, .unset, .unset] [(.long q), (.int (5 : Int32)), (.ref b1), (.ref b1)])) (fun _ k => XS.lloadN X6.here hx rfl (hb hby at_48) rfl k) ?_
  refine own_go (T' := T6) (g' := (mkF m 51 #[.val (.long q), .second, .val (.int t), .unset, .unset, .unset] [(.int (40 : Int32)), (.long q), (.int (5 : Int32)), (.ref b1), (.ref b1)])) (fun _ k => XS.bipush X6.here hx rfl (hb hby at_49) k) ?_
  refine own_go (T' := T6) (g' := (mkF m 52 #[.val (.long q), .second, .val (.int t), .unset, .unset, .unset] [(.long ((q.toUInt64 >>> ((40 : Int32) &&& 0x3f).toInt64.toUInt64).toInt64)), (.int (5 : Int32)), (.ref b1), (.ref b1)])) (fun _ k => XS.lushr X6.here hx rfl (hb hby at_51) rfl k) ?_
  refine own_go (T' := T6) (g' := (mkF m 53 #[.val (.long q), .second, .val (.int t), .unset, .unset, .unset] [(.int (((q.toUInt64 >>> ((40 : Int32) &&& 0x3f).toInt64.toUInt64).toInt64).toInt32)), (.int (5 : Int32)), (.ref b1), (.ref b1)])) (fun _ k => XS.l2i X6.here hx rfl (hb hby at_52) rfl k) ?_
  refine own_go (T' := T6) (g' := (mkF m 54 #[.val (.long q), .second, .val (.int t), .unset, .unset, .unset] [(.int ((((q.toUInt64 >>> ((40 : Int32) &&& 0x3f).toInt64.toUInt64).toInt64).toInt32).toInt8.toInt32)), (.int (5 : Int32)), (.ref b1), (.ref b1)])) (fun _ k => XS.i2b X6.here hx rfl (hb hby at_53) rfl k) ?_
  obtain ⟨c_7, Ar_7, q_7, S_7, N_7, H_7, G_7⟩ := V_b1
  have hin_7 : ¬ ((5 : Int32) < 0 ∨ c_7.slots.size ≤ ((5 : Int32)).toNatClampNeg) := inb_of S_7 ⟨by decide, by decide⟩
  obtain ⟨T7, h7, X7, e7, W7, st7⟩ := stB X6 hx hZ e6 Ar_7 (j := (5 : Int32)) hin_7 (g := (mkF m 54 #[.val (.long q), .second, .val (.int t), .unset, .unset, .unset] [(.int ((((q.toUInt64 >>> ((40 : Int32) &&& 0x3f).toInt64.toUInt64).toInt64).toInt32).toInt8.toInt32)), (.int (5 : Int32)), (.ref b1), (.ref b1)])) rfl rfl (hb hby at_54)
  have Zs := Nat.le_trans Zs (Keep.of_wr W7).1
  have V_b1 := Arv.set Ar_7 q_7 S_7 N_7 H_7 G_7 (fits_nar_byte _) W7 5 rfl (Nat.le_of_ble_eq_true rfl)
  have NF := Fr.snoc X7 NF g_b1
  refine own_go (T' := T7) (g' := (mkF m 55 #[.val (.long q), .second, .val (.int t), .unset, .unset, .unset] [(.ref b1)])) (fun _ k => st7 _ k) ?_
  refine own_go (T' := T7) (g' := (mkF m 56 #[.val (.long q), .second, .val (.int t), .unset, .unset, .unset] [(.ref b1), (.ref b1)])) (fun _ k => XS.dup X7.here hx rfl (hb hby at_55) rfl rfl k) ?_
  refine own_go (T' := T7) (g' := (mkF m 58 #[.val (.long q), .second, .val (.int t), .unset, .unset, .unset] [(.int (6 : Int32)), (.ref b1), (.ref b1)])) (fun _ k => XS.bipush X7.here hx rfl (hb hby at_56) k) ?_
  refine own_go (T' := T7) (g' := (mkF m 59 #[.val (.long q), .second, .val (.int t), .unset, .unset, .unset] [(.long q), (.int (6 : Int32)), (.ref b1), (.ref b1)])) (fun _ k => XS.lloadN X7.here hx rfl (hb hby at_58) rfl k) ?_
  refine own_go (T' := T7) (g' := (mkF m 61 #[.val (.long q), .second, .val (.int t), .unset, .unset, .unset] [(.int (48 : Int32)), (.long q), (.int (6 : Int32)), (.ref b1), (.ref b1)])) (fun _ k => XS.bipush X7.here hx rfl (hb hby at_59) k) ?_
  refine own_go (T' := T7) (g' := (mkF m 62 #[.val (.long q), .second, .val (.int t), .unset, .unset, .unset] [(.long ((q.toUInt64 >>> ((48 : Int32) &&& 0x3f).toInt64.toUInt64).toInt64)), (.int (6 : Int32)), (.ref b1), (.ref b1)])) (fun _ k => XS.lushr X7.here hx rfl (hb hby at_61) rfl k) ?_
  refine own_go (T' := T7) (g' := (mkF m 63 #[.val (.long q), .second, .val (.int t), .unset, .unset, .unset] [(.int (((q.toUInt64 >>> ((48 : Int32) &&& 0x3f).toInt64.toUInt64).toInt64).toInt32)), (.int (6 : Int32)), (.ref b1), (.ref b1)])) (fun _ k => XS.l2i X7.here hx rfl (hb hby at_62) rfl k) ?_
  refine own_go (T' := T7) (g' := (mkF m 64 #[.val (.long q), .second, .val (.int t), .unset, .unset, .unset] [(.int ((((q.toUInt64 >>> ((48 : Int32) &&& 0x3f).toInt64.toUInt64).toInt64).toInt32).toInt8.toInt32)), (.int (6 : Int32)), (.ref b1), (.ref b1)])) (fun _ k => XS.i2b X7.here hx rfl (hb hby at_63) rfl k) ?_
  obtain ⟨c_8, Ar_8, q_8, S_8, N_8, H_8, G_8⟩ := V_b1
  have hin_8 : ¬ ((6 : Int32) < 0 ∨ c_8.slots.size ≤ ((6 : Int32)).toNatClampNeg) := inb_of S_8 ⟨by decide, by decide⟩
  obtain ⟨T8, h8, X8, e8, W8, st8⟩ := stB X7 hx hZ e7 Ar_8 (j := (6 : Int32)) hin_8 (g := (mkF m 64 #[.val (.long q), .second, .val (.int t), .unset, .unset, .unset] [(.int ((((q.toUInt64 >>> ((48 : Int32) &&& 0x3f).toInt64.toUInt64).toInt64).toInt32).toInt8.toInt32)), (.int (6 : Int32)), (.ref b1), (.ref b1)])) rfl rfl (hb hby at_64)
  have Zs := Nat.le_trans Zs (Keep.of_wr W8).1
  have V_b1 := Arv.set Ar_8 q_8 S_8 N_8 H_8 G_8 (fits_nar_byte _) W8 6 rfl (Nat.le_of_ble_eq_true rfl)
  have NF := Fr.snoc X8 NF g_b1
  refine own_go (T' := T8) (g' := (mkF m 65 #[.val (.long q), .second, .val (.int t), .unset, .unset, .unset] [(.ref b1)])) (fun _ k => st8 _ k) ?_
  refine own_go (T' := T8) (g' := (mkF m 66 #[.val (.long q), .second, .val (.int t), .unset, .unset, .unset] [(.ref b1), (.ref b1)])) (fun _ k => XS.dup X8.here hx rfl (hb hby at_65) rfl rfl k) ?_
  refine own_go (T' := T8) (g' := (mkF m 68 #[.val (.long q), .second, .val (.int t), .unset, .unset, .unset] [(.int (7 : Int32)), (.ref b1), (.ref b1)])) (fun _ k => XS.bipush X8.here hx rfl (hb hby at_66) k) ?_
  refine own_go (T' := T8) (g' := (mkF m 69 #[.val (.long q), .second, .val (.int t), .unset, .unset, .unset] [(.long q), (.int (7 : Int32)), (.ref b1), (.ref b1)])) (fun _ k => XS.lloadN X8.here hx rfl (hb hby at_68) rfl k) ?_
  refine own_go (T' := T8) (g' := (mkF m 71 #[.val (.long q), .second, .val (.int t), .unset, .unset, .unset] [(.int (56 : Int32)), (.long q), (.int (7 : Int32)), (.ref b1), (.ref b1)])) (fun _ k => XS.bipush X8.here hx rfl (hb hby at_69) k) ?_
  refine own_go (T' := T8) (g' := (mkF m 72 #[.val (.long q), .second, .val (.int t), .unset, .unset, .unset] [(.long ((q.toUInt64 >>> ((56 : Int32) &&& 0x3f).toInt64.toUInt64).toInt64)), (.int (7 : Int32)), (.ref b1), (.ref b1)])) (fun _ k => XS.lushr X8.here hx rfl (hb hby at_71) rfl k) ?_
  refine own_go (T' := T8) (g' := (mkF m 73 #[.val (.long q), .second, .val (.int t), .unset, .unset, .unset] [(.int (((q.toUInt64 >>> ((56 : Int32) &&& 0x3f).toInt64.toUInt64).toInt64).toInt32)), (.int (7 : Int32)), (.ref b1), (.ref b1)])) (fun _ k => XS.l2i X8.here hx rfl (hb hby at_72) rfl k) ?_
  refine own_go (T' := T8) (g' := (mkF m 74 #[.val (.long q), .second, .val (.int t), .unset, .unset, .unset] [(.int ((((q.toUInt64 >>> ((56 : Int32) &&& 0x3f).toInt64.toUInt64).toInt64).toInt32).toInt8.toInt32)), (.int (7 : Int32)), (.ref b1), (.ref b1)])) (fun _ k => XS.i2b X8.here hx rfl (hb hby at_73) rfl k) ?_
  obtain ⟨c_9, Ar_9, q_9, S_9, N_9, H_9, G_9⟩ := V_b1
  have hin_9 : ¬ ((7 : Int32) < 0 ∨ c_9.slots.size ≤ ((7 : Int32)).toNatClampNeg) := inb_of S_9 ⟨by decide, by decide⟩
  obtain ⟨T9, h9, X9, e9, W9, st9⟩ := stB X8 hx hZ e8 Ar_9 (j := (7 : Int32)) hin_9 (g := (mkF m 74 #[.val (.long q), .second, .val (.int t), .unset, .unset, .unset] [(.int ((((q.toUInt64 >>> ((56 : Int32) &&& 0x3f).toInt64.toUInt64).toInt64).toInt32).toInt8.toInt32)), (.int (7 : Int32)), (.ref b1), (.ref b1)])) rfl rfl (hb hby at_74)
  have Zs := Nat.le_trans Zs (Keep.of_wr W9).1
  have V_b1 := Arv.set Ar_9 q_9 S_9 N_9 H_9 G_9 (fits_nar_byte _) W9 7 rfl (Nat.le_of_ble_eq_true rfl)
  have NF := Fr.snoc X9 NF g_b1
  refine own_go (T' := T9) (g' := (mkF m 75 #[.val (.long q), .second, .val (.int t), .unset, .unset, .unset] [(.ref b1)])) (fun _ k => st9 _ k) ?_
  refine own_go (T' := T9) (g' := (mkF m 76 #[.val (.long q), .second, .val (.int t), .val (.ref b1), .unset, .unset] [])) (fun _ k => XS.astoreN X9.here hx rfl (hb hby at_75) rfl rfl (l' := #[.val (.long q), .second, .val (.int t), .val (.ref b1), .unset, .unset]) rfl k) ?_
  refine own_go (T' := T9) (g' := (mkF m 77 #[.val (.long q), .second, .val (.int t), .val (.ref b1), .unset, .unset] [(.int t)])) (fun _ k => XS.iloadN X9.here hx rfl (hb hby at_76) rfl k) ?_
  refine own_go (T' := T9) (g' := (mkF m 79 #[.val (.long q), .second, .val (.int t), .val (.ref b1), .unset, .unset] [(.int (15 : Int32)), (.int t)])) (fun _ k => XS.bipush X9.here hx rfl (hb hby at_77) k) ?_
  refine own_go (T' := T9) (g' := (mkF m 80 #[.val (.long q), .second, .val (.int t), .val (.ref b1), .unset, .unset] [(.int (t &&& (15 : Int32)))])) (fun _ k => XS.iand X9.here hx rfl (hb hby at_79) rfl k) ?_
  refine own_go (T' := T9) (g' := (mkF m 82 #[.val (.long q), .second, .val (.int t), .val (.ref b1), .val (.int (t &&& (15 : Int32))), .unset] [])) (fun _ k => XS.istore X9.here hx rfl (hb hby at_80) rfl (l' := #[.val (.long q), .second, .val (.int t), .val (.ref b1), .val (.int (t &&& (15 : Int32))), .unset]) rfl k) ?_
  refine own_go (T' := T9) (g' := (mkF m 83 #[.val (.long q), .second, .val (.int t), .val (.ref b1), .val (.int (t &&& (15 : Int32))), .unset] [(.long q)])) (fun _ k => XS.lloadN X9.here hx rfl (hb hby at_82) rfl k) ?_
  refine own_go (T' := T9) (g' := (mkF m 84 #[.val (.long q), .second, .val (.int t), .val (.ref b1), .val (.int (t &&& (15 : Int32))), .unset] [(.int (4 : Int32)), (.long q)])) (fun _ k => XS.iconst X9.here hx rfl (hb hby at_83) k) ?_
  refine own_go (T' := T9) (g' := (mkF m 86 #[.val (.long q), .second, .val (.int t), .val (.ref b1), .val (.int (t &&& (15 : Int32))), .unset] [(.int (t &&& (15 : Int32))), (.int (4 : Int32)), (.long q)])) (fun _ k => XS.iload X9.here hx rfl (hb hby at_84) rfl k) ?_
  refine own_go (T' := T9) (g' := (mkF m 87 #[.val (.long q), .second, .val (.int t), .val (.ref b1), .val (.int (t &&& (15 : Int32))), .unset] [(.int ((4 : Int32) * (t &&& (15 : Int32)))), (.long q)])) (fun _ k => XS.imul X9.here hx rfl (hb hby at_86) rfl k) ?_
  refine own_go (T' := T9) (g' := (mkF m 88 #[.val (.long q), .second, .val (.int t), .val (.ref b1), .val (.int (t &&& (15 : Int32))), .unset] [(.long ((q.toUInt64 >>> (((4 : Int32) * (t &&& (15 : Int32))) &&& 0x3f).toInt64.toUInt64).toInt64))])) (fun _ k => XS.lushr X9.here hx rfl (hb hby at_87) rfl k) ?_
  refine own_go (T' := T9) (g' := (mkF m 91 #[.val (.long q), .second, .val (.int t), .val (.ref b1), .val (.int (t &&& (15 : Int32))), .unset] [(.long (15 : Int64)), (.long ((q.toUInt64 >>> (((4 : Int32) * (t &&& (15 : Int32))) &&& 0x3f).toInt64.toUInt64).toInt64))])) (fun _ k => X9.ldc2Long hx hown (mvT hZ (hw _ (List.mem_of_getElem? (i := 1) rfl))) (g := (mkF m 88 #[.val (.long q), .second, .val (.int t), .val (.ref b1), .val (.int (t &&& (15 : Int32))), .unset] [(.long ((q.toUInt64 >>> (((4 : Int32) * (t &&& (15 : Int32))) &&& 0x3f).toInt64.toUInt64).toInt64))])) rfl (hb hby at_88) _ k) ?_
  refine own_go (T' := T9) (g' := (mkF m 92 #[.val (.long q), .second, .val (.int t), .val (.ref b1), .val (.int (t &&& (15 : Int32))), .unset] [(.long (((q.toUInt64 >>> (((4 : Int32) * (t &&& (15 : Int32))) &&& 0x3f).toInt64.toUInt64).toInt64) &&& (15 : Int64)))])) (fun _ k => XS.land X9.here hx rfl (hb hby at_91) rfl k) ?_
  refine own_go (T' := T9) (g' := (mkF m 93 #[.val (.long q), .second, .val (.int t), .val (.ref b1), .val (.int (t &&& (15 : Int32))), .unset] [(.int ((((q.toUInt64 >>> (((4 : Int32) * (t &&& (15 : Int32))) &&& 0x3f).toInt64.toUInt64).toInt64) &&& (15 : Int64)).toInt32))])) (fun _ k => XS.l2i X9.here hx rfl (hb hby at_92) rfl k) ?_
  refine own_go (T' := T9) (g' := (mkF m 95 #[.val (.long q), .second, .val (.int t), .val (.ref b1), .val (.int (t &&& (15 : Int32))), .val (.int ((((q.toUInt64 >>> (((4 : Int32) * (t &&& (15 : Int32))) &&& 0x3f).toInt64.toUInt64).toInt64) &&& (15 : Int64)).toInt32))] [])) (fun _ k => XS.istore X9.here hx rfl (hb hby at_93) rfl (l' := #[.val (.long q), .second, .val (.int t), .val (.ref b1), .val (.int (t &&& (15 : Int32))), .val (.int ((((q.toUInt64 >>> (((4 : Int32) * (t &&& (15 : Int32))) &&& 0x3f).toInt64.toUInt64).toInt64) &&& (15 : Int64)).toInt32))]) rfl k) ?_
  refine own_go (T' := T9) (g' := (mkF m 96 #[.val (.long q), .second, .val (.int t), .val (.ref b1), .val (.int (t &&& (15 : Int32))), .val (.int ((((q.toUInt64 >>> (((4 : Int32) * (t &&& (15 : Int32))) &&& 0x3f).toInt64.toUInt64).toInt64) &&& (15 : Int64)).toInt32))] [(.ref b1)])) (fun _ k => XS.aloadN X9.here hx rfl (hb hby at_95) rfl rfl k) ?_
  refine own_go (T' := T9) (g' := (mkF m 98 #[.val (.long q), .second, .val (.int t), .val (.ref b1), .val (.int (t &&& (15 : Int32))), .val (.int ((((q.toUInt64 >>> (((4 : Int32) * (t &&& (15 : Int32))) &&& 0x3f).toInt64.toUInt64).toInt64) &&& (15 : Int64)).toInt32))] [(.int (t &&& (15 : Int32))), (.ref b1)])) (fun _ k => XS.iload X9.here hx rfl (hb hby at_96) rfl k) ?_
  obtain ⟨_, _, ⟨T10, L10, k10, n10⟩, -, X10, ⟨Lc10, hQ10, l10, y10, z10⟩, st10⟩ := Jvm.LawKit.callS X9 hx (y := (⟨"com/example/carrier_name_resolver/carriernameresolver/card/CardBytes", "nibble", "([BI)I"⟩ : MethodName)) hown (mvT hZ (hw _ (List.mem_of_getElem? (i := 2) rfl))) (mvT hZ (hw _ (List.mem_of_getElem? (i := 3) rfl))) (mvT hZ (hw _ (List.mem_of_getElem? (i := 4) rfl))) (mvT hZ (hw _ (List.mem_of_getElem? (i := 5) rfl))) (by decide) (backOf (W := 0) (own_rm1 l Z a0 hw [] b1 (t &&& (15 : Int32)) k1 _ yv h9 n0 Zs V_b1 hp hy) hZ (hw _ (List.mem_of_getElem? (i := 5) rfl)) (hw _ (List.mem_of_getElem? (i := 4) rfl)) (by decide) (by decide)) (g := (mkF m 98 #[.val (.long q), .second, .val (.int t), .val (.ref b1), .val (.int (t &&& (15 : Int32))), .val (.int ((((q.toUInt64 >>> (((4 : Int32) * (t &&& (15 : Int32))) &&& 0x3f).toInt64.toUInt64).toInt64) &&& (15 : Int64)).toInt32))] [(.int (t &&& (15 : Int32))), (.ref b1)])) rfl (by rw [hml]; rfl) (argsL := [(.ref b1), (.int (t &&& (15 : Int32)))]) (rest := []) (lenOf own_pd0_0 rfl) rfl (by show 2 * 0 + _ ≤ _; exact Nat.le_of_eq rfl) (hb hby at_98) (fun _ _ => ⟨rfl, e9, (by decide : 1 + 0 ≤ _), (by decide : 8 + 0 ≤ _)⟩)
  dsimp only [Pt.U, Pt.locs, Pt.cells, Pt.slots] at X10 l10 y10 z10 st10 hQ10
  subst l10 y10 z10
  obtain ⟨⟨zz10, rfl, ze10, zo10⟩, NQ10, eq10⟩ := hQ10
  have NF := Fr.app NF NQ10
  refine own_go (T' := T10) (g' := (mkF m 101 #[.val (.long q), .second, .val (.int t), .val (.ref b1), .val (.int (t &&& (15 : Int32))), .val (.int ((((q.toUInt64 >>> (((4 : Int32) * (t &&& (15 : Int32))) &&& 0x3f).toInt64.toUInt64).toInt64) &&& (15 : Int64)).toInt32))] [(.int zz10)])) (fun _ k => st10 _ k) ?_
  refine own_go (T' := T10) (g' := (mkF m 103 #[.val (.long q), .second, .val (.int t), .val (.ref b1), .val (.int (t &&& (15 : Int32))), .val (.int ((((q.toUInt64 >>> (((4 : Int32) * (t &&& (15 : Int32))) &&& 0x3f).toInt64.toUInt64).toInt64) &&& (15 : Int64)).toInt32))] [(.int ((((q.toUInt64 >>> (((4 : Int32) * (t &&& (15 : Int32))) &&& 0x3f).toInt64.toUInt64).toInt64) &&& (15 : Int64)).toInt32)), (.int zz10)])) (fun _ k => XS.iload X10.here hx rfl (hb hby at_101) rfl k) ?_
  have hq : zz10 = ((((q.toUInt64 >>> (((4 : Int32) * (t &&& (15 : Int32))) &&& 0x3f).toInt64.toUInt64).toInt64) &&& (15 : Int64)).toInt32) := by
    by_cases hb : (t &&& (15 : Int32)) % (2 : Int32) = (0 : Int32)
    · rw [ze10 hb]; exact hye hb
    · rw [zo10 hb]; exact hyo hb
  refine own_go (T' := T10) (g' := (mkF m 106 #[.val (.long q), .second, .val (.int t), .val (.ref b1), .val (.int (t &&& (15 : Int32))), .val (.int ((((q.toUInt64 >>> (((4 : Int32) * (t &&& (15 : Int32))) &&& 0x3f).toInt64.toUInt64).toInt64) &&& (15 : Int64)).toInt32))] [])) (fun _ k => XS.icmpNo X10.here hx rfl (hb hby at_103) rfl (teq hq).2 k) ?_
  refine own_go (T' := T10) (g' := (mkF m 107 #[.val (.long q), .second, .val (.int t), .val (.ref b1), .val (.int (t &&& (15 : Int32))), .val (.int ((((q.toUInt64 >>> (((4 : Int32) * (t &&& (15 : Int32))) &&& 0x3f).toInt64.toUInt64).toInt64) &&& (15 : Int64)).toInt32))] [(.int (1 : Int32))])) (fun _ k => XS.iconst X10.here hx rfl (hb hby at_106) k) ?_
  refine own_go (T' := T10) (g' := (mkF m 111 #[.val (.long q), .second, .val (.int t), .val (.ref b1), .val (.int (t &&& (15 : Int32))), .val (.int ((((q.toUInt64 >>> (((4 : Int32) * (t &&& (15 : Int32))) &&& 0x3f).toInt64.toUInt64).toInt64) &&& (15 : Int64)).toInt32))] [(.int (1 : Int32))])) (fun _ k => XS.goto X10.here hx rfl (pc0 := 107) (pc' := 111) rfl (hb hby at_107) (by decide) (by decide) k) ?_
  refine own_ret X10 Bd.notSynchronized (some (.int (1 : Int32))) (fun h => by rw [Bd.returns] at h; cases h) (fun fs hr => retN X10 hx (t := .boolean) Bd.returns (by simp) (hb hby at_111) hr) ?_ (by decide) (by decide)
  show (own_Q0 Z q t h0 n0) (some (.int (1 : Int32))) T10.heap _
  rw [eq10]
  exact ⟨rfl, NF⟩
set_option maxRecDepth 65536 in
set_option maxHeartbeats 40000000 in
theorem own_comes {Post : Tables → Env → Array Value → State → Outcome → State → Prop} (hpost : ∀ tb e args s v u, (limb_1_1.after args s (.returned v) u = true ∧ limb_1_2.after args s (.returned v) u = true ∧ True) → FrameEnd s (.returned v) u (Jvm.fieldLocs frame_1_writes args s ++ Jvm.arrayLocs frame_1_arrays args s ++ Jvm.staticLocs frame_1_statics s) 16 128 → Post tb e args s (.returned v) u) :
    ArmFor flags0 classFile x code maxLocals ret World_1 tables_1 room_1 Calls_1 rest_1 Pre_1 Post := by
  intro l hfl _ _ p e ha hc hk s m args below hf hA hF happ hP
  obtain ⟨hcalls, hrest, hpre⟩ := hP
  obtain ⟨-, -, -, hnamed, -, -, -, hat⟩ := (Spec.applies_iff hf).mp happ
  obtain ⟨hg, hn⟩ := and_e (Cond.before_iff.mp (show (Jvm.Cond.and given_1 narrow_1).before args s = true from hpre))
  obtain ⟨gg1, gg2⟩ := and_e hg
  obtain ⟨gg3, gg4⟩ := and_e gg2
  obtain ⟨w0, w1, rfl⟩ : ∃ w0 w1 : Value, args = #[w0, w1] := by
    have hs : args.size = 2 := by simpa [Cond.value, given_1] using gg1
    obtain ⟨L⟩ := args
    match L, hs with
    | [w0, w1], _ => exact ⟨w0, w1, rfl⟩
  have hw := fun d (hd : d ∈ tables_1) => atoms_spec (ws := Jvm.Cond.code x code maxLocals ret :: tables_1) hat d (List.mem_cons_of_mem _ hd)
  have hfit : Fit s := fun {y c} hc i hi => by
    obtain ⟨ha, rfl⟩ := Array.getElem?_eq_some_iff.mp hc
    have q := List.all_eq_true.mp ((Array.all_eq_true_iff_forall_mem.mp hF) _ (Array.getElem_mem ha)) i (List.mem_range.mpr hi)
    simpa [Array.getElem?_eq_getElem hi] using q
  obtain ⟨i0, ei0⟩ := isL_v gg3
  obtain rfl : w0 = (.long i0) := Option.some.inj ei0
  obtain ⟨i1, ei1⟩ := is_v gg4
  obtain rfl : w1 = (.int i1) := Option.some.inj ei1
  obtain ⟨n, o, h1, h2, h3, _, L, rfl, ⟨rfl, N⟩, hq⟩ := own_rm0 l s _ hw tables_1 i0 i1 s.heap s.heap.size (Nat.le_refl _)  p e ha hc hk s m _ below hf ((Spec.applies_iff_loose hf).mp happ).1 ⟨rfl, State.Warmed39.refl s, rfl⟩ trivial
  refine ⟨n, _, h1, h2, h3, hpost _ _ _ _ _ _ ⟨Cond.after_iff.mpr rfl, Cond.after_iff.mpr (eq_i res_at (Term.int_eval (1)) rfl), trivial⟩ ⟨hq.1, hq.2.1, (hq.2.2.sift fun y hy => Or.inr (N y hy)).mono (by decide) (by decide)⟩⟩
theorem main_1_1 : Claimed_1_1 := own_comes fun _ _ _ _ _ _ h hF => ⟨h.1, hF⟩
theorem main_1_2 : Claimed_1_2 := own_comes fun _ _ _ _ _ _ h hF => ⟨h.2.1, hF⟩
end Jvm.Pilot.@@N@@
namespace Jvm.Pilot.@@N@@
open Jvm Jvm.ClassFile Sem Op Lib Jvm.Free Jvm.Stand Jvm.Pilot.@@N@@.Jvm.D
/-! MADE BY PROGRAM (witnessworld.py) out of the Statement's table words and the real class files: 9 classes; the members and pool entries that the words name. The judged class is class 1, her method 1. -/
namespace start1
open Jvm.ClassFile
def u (s : String) : CpInfo := .utf8 (stringToUtf16 s)
/-- a pool by its gaps: so many unusable entries, then the entry; so many at the end -/
def gap : Nat → List CpInfo → List CpInfo
  | 0, r => r
  | n + 1, r => .unusable :: gap n r
def poolList (es : List (Nat × CpInfo)) (last : Nat) : List CpInfo := es.foldr (fun e r => gap e.1 (e.2 :: r)) (gap last [])
def pool (es : List (Nat × CpInfo)) (last : Nat) : Array CpInfo := ⟨poolList es last⟩
def fileOf (pool : Array CpInfo) (this : Nat) (attrs : Array Attribute := #[]) (ms : Array MethodInfo := #[]) (fl : Nat := 33) (sup : Nat := 0) (ifs : Array Nat := #[]) (fds : Array FieldInfo := #[]) : ClassFile where
  minorVersion := 0
  majorVersion := 65
  constantPool := pool
  accessFlags := fl
  thisClass := this
  superClass := sup
  interfaces := ifs
  fields := fds
  methods := ms
  attributes := attrs
def plain (name : String) (sup : Option ClassId) : Class where
  name := name
  kind := .ordinary
  loader := none
  accessFlags := 33
  super := sup
  interfaces := #[]
  cf := none
  fields := #[]
  methods := #[]
  instanceTypes := #[]
  staticTypes := #[]
  resolved := #[]
  callSites := []
  init := .initialized
  statics := none
  mirror := none

def pool0 : Array CpInfo := pool [(5, u "<init>"), (0, u "()V"), (1, .class_ 10), (1, u "java/lang/Object")] 113

def k0m0 : Method := { name := "<init>", desc := "()V", sig := { parameters := [], returnType := none }, accessFlags := 1, code := none }
/-- java/lang/Object -/
def k0 : Class := { plain "java/lang/Object" none with
  accessFlags := 33
  interfaces := #[]
  cf := some (fileOf pool0 8 #[] #[{ accessFlags := 1, nameIndex := 5, descriptorIndex := 6, attributes := #[] }] 33 0 #[] #[])
  fields := #[]
  methods := #[k0m0]
  instanceTypes := #[]
  staticTypes := #[]
  resolved := Array.replicate 124 none
  statics := none }

def pool1 : Array CpInfo := pool [(2, .class_ 4), (1, u "java/lang/Object"), (0, u "<init>"), (0, u "()V"), (0, .long 15), (1, .methodref 10 11), (0, .class_ 12), (0, .nameAndType 13 14), (0, u "com/example/carrier_name_resolver/carriernameresolver/card/CardBytes"), (0, u "nibble"), (0, u "([BI)I"), (0, .class_ 16), (0, u "com/example/carrier_name_resolver/carriernameresolver/card/CardBytesNibblePinLaw"), (2, u "law"), (0, u "(JI)Z")] 5

def k1m0 : Method := { name := "<init>", desc := "()V", sig := { parameters := [], returnType := none }, accessFlags := 2, code := none }
def k1c1 : Code := { maxStack := 6, maxLocals := 6, code := code, exceptionTable := #[], attributes := #[] }
def k1m1 : Method := { name := "law", desc := "(JI)Z", sig := { parameters := [.long, .int], returnType := some .boolean }, accessFlags := 9, code := some k1c1 }
/-- com/example/carrier_name_resolver/carriernameresolver/card/CardBytesNibblePinLaw -/
def k1 : Class := { plain "com/example/carrier_name_resolver/carriernameresolver/card/CardBytesNibblePinLaw" (some 0) with
  accessFlags := 49
  interfaces := #[]
  cf := some (fileOf pool1 15 #[] #[{ accessFlags := 2, nameIndex := 5, descriptorIndex := 6, attributes := #[] }, { accessFlags := 9, nameIndex := 19, descriptorIndex := 20, attributes := #[] }] 49 2 #[] #[])
  fields := #[]
  methods := #[k1m0, k1m1]
  instanceTypes := #[]
  staticTypes := #[]
  resolved := Array.replicate 26 none
  statics := none }

def pool2 : Array CpInfo := pool [(2, .class_ 4), (1, u "java/lang/Object"), (0, u "<init>"), (0, u "()V"), (0, .class_ 8), (0, u "com/example/carrier_name_resolver/carriernameresolver/card/CardBytes"), (0, u "UNUSED"), (0, u "I"), (9, u "nibble"), (0, u "([BI)I")] 2

def k2m0 : Method := { name := "<init>", desc := "()V", sig := { parameters := [], returnType := none }, accessFlags := 2, code := none }
def k2c1 : Code := { maxStack := 3, maxLocals := 3, code := prog_7_method_3_code, exceptionTable := #[], attributes := #[] }
def k2m1 : Method := { name := "nibble", desc := "([BI)I", sig := { parameters := [(.array .byte), .int], returnType := some .int }, accessFlags := 8, code := some k2c1 }
/-- com/example/carrier_name_resolver/carriernameresolver/card/CardBytes -/
def k2 : Class := { plain "com/example/carrier_name_resolver/carriernameresolver/card/CardBytes" (some 0) with
  accessFlags := 32
  interfaces := #[]
  cf := some (fileOf pool2 7 #[] #[{ accessFlags := 2, nameIndex := 5, descriptorIndex := 6, attributes := #[] }, { accessFlags := 8, nameIndex := 20, descriptorIndex := 21, attributes := #[] }] 32 2 #[] #[{ accessFlags := 26, nameIndex := 9, descriptorIndex := 10, attributes := #[] }])
  fields := #[{ name := "UNUSED", type := .int, accessFlags := 26, slot := 0, constantValue := 0 }]
  methods := #[k2m0, k2m1]
  instanceTypes := #[]
  staticTypes := #[.int]
  resolved := Array.replicate 24 none
  statics := none }

def pool3 : Array CpInfo := pool [(1, u "java/lang/Cloneable"), (0, .class_ 1), (0, u "java/lang/Object"), (0, .class_ 3)] 3

/-- java/lang/Cloneable -/
def k3 : Class := { plain "java/lang/Cloneable" (some 0) with
  accessFlags := 1537
  interfaces := #[]
  cf := some (fileOf pool3 2 #[] #[] 1537 4 #[] #[])
  fields := #[]
  methods := #[]
  instanceTypes := #[]
  staticTypes := #[]
  resolved := Array.replicate 8 none
  statics := none }

def pool4 : Array CpInfo := pool [(1, u "java/io/Serializable"), (0, .class_ 1), (0, u "java/lang/Object"), (0, .class_ 3)] 3

/-- java/io/Serializable -/
def k4 : Class := { plain "java/io/Serializable" (some 0) with
  accessFlags := 1537
  interfaces := #[]
  cf := some (fileOf pool4 2 #[] #[] 1537 4 #[] #[])
  fields := #[]
  methods := #[]
  instanceTypes := #[]
  staticTypes := #[]
  resolved := Array.replicate 8 none
  statics := none }

/-- the primitive byte -/
def k5 : Class := { plain "byte" none with kind := .primitive 'B', accessFlags := 0x411 }
/-- [B -/
def k6 : Class := { plain "[B" (some 0) with kind := .array 5 .byte, interfaces := #[3, 4], accessFlags := 1041 }

/-- the primitive int -/
def k7 : Class := { plain "int" none with kind := .primitive 'I', accessFlags := 0x411 }
/-- [I -/
def k8 : Class := { plain "[I" (some 0) with kind := .array 7 .int, interfaces := #[3, 4], accessFlags := 1041 }

def heap : Heap := #[]
def classes : Array Class := #[k0, k1, k2, k3, k4, k5, k6, k7, k8]
def interned : List (Array UInt16 × Addr) := []
def slotsUsed : Nat := 0
def theMethod : MethodId := ⟨1, 1⟩
def args0 : Array Value := #[.long 5, .int 7]
def aboutOver (below : List Frame) : State where
  vm := { classes := classes, interned := interned.toArray }
  heap := heap
  slotsUsed := slotsUsed
  threads := #[{ frames := .invoking theMethod args0 :: below }]
def below0 : List Frame := [.native { method := ⟨0, 0⟩, args := #[] }]
def about1 : State := aboutOver below0
def p0 : Program := .bare "" "" ""
def e0 : Env := launch0.env 0 0 0
theorem w_frames : about1.frames = Frame.invoking theMethod args0 :: below0 := rfl
set_option maxRecDepth 65536 in
theorem w_args : argsFit about1.vm theMethod args0 = true := by decide +kernel
set_option maxRecDepth 65536 in
theorem w_heap : heapFits about1 = true := by decide +kernel
set_option maxRecDepth 65536 in
theorem w_runnable : about1.curStatus? = some .runnable := by decide +kernel
set_option maxRecDepth 65536 in
theorem w_alone : about1.alone = true := by decide +kernel
set_option maxRecDepth 65536 in
theorem w_named : about1.methodNamed? x = some theMethod := by decide +kernel
set_option maxRecDepth 65536 in
theorem w_hears : about1.hears theMethod below0 = true := by decide +kernel
set_option maxRecDepth 65536 in
theorem w_ripe : about1.ripe theMethod args0 below0 = true := by decide +kernel
theorem w_running : about1.status = .running := rfl
set_option maxRecDepth 65536 in
theorem w_room : about1.hasRoom e0.platform room_1 = true :=
  launch0.hasRoom_least _ room_1 (by decide +kernel) (by decide +kernel) (by decide +kernel) (by decide +kernel) (by decide +kernel) (by decide +kernel)
theorem allAtoms_all (ts : List Jvm.Cond) (a : Array Jvm.Value) (st : Jvm.State) : (allAtoms ts).before a st = ts.all (fun c => c.before a st) := by
  induction ts with
  | nil => rfl
  | cons c t ih =>
    show (Jvm.Cond.and c (allAtoms t)).before a st = _
    rw [Jvm.Cond.before_and, ih, List.all_cons]
def words1 : List Jvm.Cond := Jvm.Cond.code x code maxLocals ret :: tables_1
/-- a 'code' word, met by the world's own term for the bytes: nothing is compared byte by byte -/
theorem code_word {y : MethodName} {bytes : ByteArray} {mx : Nat} {rt : Option FieldType} {a : Array Value} {s : State} {m : MethodId} {meth : Method} {c : Code} (h1 : s.methodNamed? y = some m) (h2 : s.vm.method? m = some meth) (h3 : meth.code = some c) (h4 : c.code = bytes)
    (h5 : (c.maxLocals == mx && c.exceptionTable.isEmpty && decide (c.maxStack ≤ mostOperands) && decide (meth.sig.returnType = rt) && !meth.locks && decide (parseMethodDescriptor y.desc = some meth.sig)) = true) : (Jvm.Cond.code y bytes mx rt).before a s = true := by
  simp only [Bool.and_eq_true, beq_iff_eq, Bool.not_eq_true', decide_eq_true_eq] at h5
  obtain ⟨⟨⟨⟨⟨g1, g2⟩, g3⟩, g4⟩, g5⟩, g6⟩ := h5
  simp [Cond.before, Cond.holds, Cond.value, h1, h2, h3, h4, g1, g2, g3, g4, g5, g6]
def isCode : Jvm.Cond → Bool
  | .code _ _ _ _ => true
  | _ => false
theorem all_split {L : List Jvm.Cond} {P : Jvm.Cond → Bool} (h1 : L.all (fun c => isCode c || P c) = true) (h2 : ∀ c ∈ L.filter isCode, P c = true) : L.all P = true := by
  refine List.all_eq_true.mpr fun c hc => ?_
  have h := List.all_eq_true.mp h1 c hc
  rcases Bool.eq_false_or_eq_true (isCode c) with hi | hi
  · exact h2 c (List.mem_filter.mpr ⟨hc, hi⟩)
  · simpa [hi] using h
set_option maxRecDepth 65536 in
theorem w_c0 : (Jvm.Cond.code x code maxLocals ret).before args0 about1 = true := code_word (m := ⟨1, 1⟩) (meth := k1m1) (c := k1c1) (by decide +kernel) rfl rfl rfl (by decide +kernel)
set_option maxRecDepth 65536 in
theorem w_c1 : (Jvm.Cond.code ({ cls := "com/example/carrier_name_resolver/carriernameresolver/card/CardBytes", name := "nibble", desc := "([BI)I" } : Jvm.MethodName) prog_7_method_3_code (3 : Nat) (Option.some Jvm.ClassFile.FieldType.int)).before args0 about1 = true := code_word (m := ⟨2, 1⟩) (meth := k2m1) (c := k2c1) (by decide +kernel) rfl rfl rfl (by decide +kernel)
def codes1 : List Jvm.Cond := [Jvm.Cond.code x code maxLocals ret, Jvm.Cond.code ({ cls := "com/example/carrier_name_resolver/carriernameresolver/card/CardBytes", name := "nibble", desc := "([BI)I" } : Jvm.MethodName) prog_7_method_3_code (3 : Nat) (Option.some Jvm.ClassFile.FieldType.int)]
set_option maxRecDepth 65536 in
theorem codes_eq : words1.filter isCode = codes1 := rfl
theorem w_codes : ∀ c ∈ words1.filter isCode, c.before args0 about1 = true := by
  rw [codes_eq]
  intro c hc
  simp only [codes1, List.mem_cons, List.not_mem_nil, or_false] at hc
  rcases hc with rfl | rfl
  · exact w_c0
  · exact w_c1
set_option maxRecDepth 65536 in
theorem w_t1 : words1.all (fun c => isCode c || c.before args0 about1) = true := by decide +kernel
theorem w_tables : (allAtoms (Jvm.Cond.code x code maxLocals ret :: tables_1)).before args0 about1 = true := by
  rw [allAtoms_all]
  show words1.all (fun c => c.before args0 about1) = true
  refine all_split ?_ w_codes
  rw [w_t1]
set_option maxRecDepth 65536 in
theorem w_case : (Jvm.Cond.and given_1 narrow_1).before args0 about1 = true := by decide +kernel
theorem w_applies : (headSpec (Jvm.Cond.code x code maxLocals ret :: tables_1) room_1).applies x e0.platform about1 = true :=
  (Spec.applies_iff w_frames).mpr ⟨w_running, w_runnable, w_alone, w_named, w_hears, w_ripe, w_room, w_tables⟩
theorem atStart : AtStart classFile x code maxLocals ret World_1 tables_1 room_1 Calls_1 rest_1 Pre_1 launch0 p0 e0 about1 theMethod args0 below0 :=
  ⟨lists_1, trivial, launch0.admits_env _ _ _, launch0.least_env, fairChoices_fair.cas, fairChoices_fair.clock, w_frames, w_args, w_heap, w_applies, trivial, trivial, w_case⟩
end start1
theorem witness_1 : WitnessClaimed_1 := ⟨start1.p0, start1.e0, start1.about1, start1.theMethod, start1.args0, start1.below0, start1.atStart⟩
end Jvm.Pilot.@@N@@
