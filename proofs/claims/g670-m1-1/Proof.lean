import JvmDerived
import JvmDerived.Pilot.@@N@@Statement
import JvmDerived.Pilot.@@N@@Code
set_option linter.unusedVariables false
set_option linter.unusedSimpArgs false
namespace Jvm.RoadKit
open Sem ClassFile Op Lib Jvm.Stand Jvm.Free Jvm.LawKit
section New
variable {p : Program} {l : Launch} {e : Env} {R : Room} {s : State} {m : MethodId} {args : Array Value} {below : List Frame} {meth : Method} {c : Code} {T : State} {locs : List Loc} {cells slots : Nat}
theorem retI (X : Stand p l e R s m args below meth c T locs cells slots) (hx : p.tables.exec = Jvm.exec) {pc : Nat} {Ls : Array Slot} {z : Int32} {rest : List Value} (hret : meth.sig.returnType = some .int) (hd : decode c.code pc = .ok (.ireturn, 1)) {fs : List Frame}
    (hl : ∀ (f : JFrame) (acts : List Action), f.method = m → f.locked = none → f.entered = [] → (doReturn e (T.setTop f) acts (some (.int z))).1 = T.setFrames fs) : Steps p.tables e below (T.setTop (mkF m pc Ls (.int z :: rest))) (T.setFrames fs) := by
  have hm' : T.vm.method? m = some meth := X.method'
  have hn : narrow .int (.int z) = .int z := rfl
  show Steps p.tables e below (T.setTop { method := m, pc := pc, locals := Ls, stack := _ :: rest, locked := none }) _
  jvm_step X.here [X.here.top, hx, hd, hm', hret, hn]
  first | (intro acts; rw [hl _ acts rfl rfl rfl]) | rw [hl _ _ rfl rfl rfl]
  exact Steps.refl _
end New
end Jvm.RoadKit
namespace Jvm.Pilot.@@N@@
open Jvm Jvm.ClassFile Sem Op Lib Jvm.Free Jvm.Stand Jvm.LawKit Jvm.RoadKit Bundle Jvm.Pilot.@@N@@.Jvm.D
/-- from this frame the run comes to its end, and Q is said of what it leaves -/
def own_Dn (p : Program) (e : Env) (below : List Frame) (s : State) (Q : Option Value → Heap → List Loc → Prop) (k n : Nat) (T : State) (g : JFrame) : Prop :=
  ∃ s₂ o, Steps p.tables e below (T.setTop g) s₂ ∧ s₂.status = .running ∧ Ended s₂ below o ∧ ∃ v L, o = .returned v ∧ Q v s₂.heap L ∧ FrameEnd s o s₂ L k n
theorem own_go {p : Program} {e : Env} {below : List Frame} {s : State} {Q : Option Value → Heap → List Loc → Prop} {k n : Nat} {T T' : State} {g g' : JFrame}
    (h : ∀ t, Steps p.tables e below (T'.setTop g') t → Steps p.tables e below (T.setTop g) t) (d : own_Dn p e below s Q k n T' g') : own_Dn p e below s Q k n T g := by
  obtain ⟨s₂, o, h1, h2⟩ := d
  exact ⟨s₂, o, h _ h1, h2⟩
theorem own_as {p : Program} {e : Env} {below : List Frame} {s : State} {Q : Option Value → Heap → List Loc → Prop} {k n : Nat} {T : State} {g g' : JFrame}
    (h : g = g') (d : own_Dn p e below s Q k n T g') : own_Dn p e below s Q k n T g := h ▸ d
theorem own_ret {p : Program} {l : Launch} {e : Env} {R : Room} {s : State} {m : MethodId} {args : Array Value} {below : List Frame} {meth : Method} {c : Code} {T : State} {locs : List Loc} {cells slots : Nat}
    {Q : Option Value → Heap → List Loc → Prop} {k n : Nat} {g : JFrame} (X : Stand p l e R s m args below meth c T locs cells slots) (hlocks : meth.locks = false) (v : Option Value) (hv : meth.sig.returnType = none → v = none)
    (hr : ∀ fs : List Frame, (∀ (f : JFrame) (acts : List Action), f.method = m → f.locked = none → f.entered = [] → (doReturn e (T.setTop f) acts v).1 = T.setFrames fs) → Steps p.tables e below (T.setTop g) (T.setFrames fs))
    (hQ : Q v T.heap locs) (hk : cells ≤ k) (hn : slots ≤ n) : own_Dn p e below s Q k n T g := by
  obtain ⟨fs, h1, hrun, hended, hW, hsame⟩ := X.leave (v := v) hv hlocks
  exact ⟨_, _, hr fs h1, hrun, hended, _, _, rfl, hQ, ⟨_, rfl⟩, hW, hsame.mono hk hn⟩
theorem own_l1 : (1 : Int32).toInt = 1 := by decide
theorem own_L0 : (0 : Int64).toInt = 0 := by decide
theorem own_L1 : (1 : Int64).toInt = 1 := by decide
theorem own_L9223372036854775807 : (9223372036854775807 : Int64).toInt = 9223372036854775807 := by decide
theorem own_lrem (x y : Int64) (hx : 0 ≤ x.toInt) : (x - (x / y) * y).toInt = x.toInt % y.toInt := (c_lrem x y y.toInt rfl).1 hx
theorem own_nat (x : Int64) (hx : 0 ≤ x.toInt) : ((x.toInt.toNat : Nat) : Int) = x.toInt := Int.toNat_of_nonneg hx
theorem own_remz (x y : Int64) (hx : 0 ≤ x.toInt) (hy : 0 ≤ y.toInt) : (x - (x / y) * y) = (0 : Int64) ↔ y.toInt.toNat ∣ x.toInt.toNat := by
  rw [← Int64.toInt_inj, own_lrem x y hx, show (0 : Int64).toInt = 0 from rfl, ← Int.natCast_dvd_natCast, own_nat x hx, own_nat y hy]
  exact ⟨Int.dvd_of_emod_eq_zero, Int.emod_eq_zero_of_dvd⟩
theorem own_gz (x y : Int64) (h : y = (0 : Int64)) {n : Nat} (hG : Nat.gcd x.toInt.toNat y.toInt.toNat = n) : x.toInt.toNat = n := by
  subst h; rw [← hG, show (0 : Int64).toInt.toNat = 0 from rfl, Nat.gcd_zero_right]
theorem own_gstep (x y : Int64) (hx : 0 ≤ x.toInt) (hy : 0 ≤ y.toInt) (h : ¬ y = (0 : Int64)) : 0 ≤ (x - (x / y) * y).toInt ∧ (x - (x / y) * y).toInt < y.toInt ∧ Nat.gcd y.toInt.toNat (x - (x / y) * y).toInt.toNat = Nat.gcd x.toInt.toNat y.toInt.toNat := by
  have hy0 : y.toInt ≠ 0 := fun q => h (Int64.toInt_inj.mp (q.trans rfl))
  have hyp : 0 < y.toInt := by omega
  rw [own_lrem x y hx]
  refine ⟨Int.emod_nonneg _ hy0, Int.emod_lt_of_pos _ hyp, ?_⟩
  have e : (x.toInt % y.toInt).toNat = x.toInt.toNat % y.toInt.toNat := by
    have h1 : ((x.toInt.toNat % y.toInt.toNat : Nat) : Int) = x.toInt % y.toInt := by rw [Int.natCast_emod, own_nat x hx, own_nat y hy]
    rw [← h1]; rfl
  rw [e]
  exact (Nat.gcd_comm _ _).trans ((Nat.gcd_rec _ _).symm.trans (Nat.gcd_comm _ _))
theorem own_gzero (A B g : Int64) (hA : A = (0 : Int64)) (hB : B = (0 : Int64)) (hg0 : 0 ≤ g.toInt) (hg : g.toInt.toNat = Nat.gcd A.toInt.toNat B.toInt.toNat) : g = (0 : Int64) := by
  subst hA hB
  rw [show (0 : Int64).toInt.toNat = 0 from rfl, Nat.gcd_zero_left] at hg
  apply Int64.toInt_inj.mp
  rw [show (0 : Int64).toInt = 0 from rfl]; omega
theorem own_gpos (A B g : Int64) (hA : 0 ≤ A.toInt) (hB : 0 ≤ B.toInt) (hg0 : 0 ≤ g.toInt) (hg : g.toInt.toNat = Nat.gcd A.toInt.toNat B.toInt.toNat) (h : ¬ (A = (0 : Int64) ∧ B = (0 : Int64))) : (0 : Int64) < g := by
  rw [Int64.lt_iff_toInt_lt, show (0 : Int64).toInt = 0 from rfl]
  have h1 : g.toInt.toNat ≠ 0 := fun q => by
    rw [hg] at q
    obtain ⟨q1, q2⟩ := Nat.gcd_eq_zero_iff.mp q
    exact h ⟨Int64.toInt_inj.mp (by rw [show (0 : Int64).toInt = 0 from rfl]; omega), Int64.toInt_inj.mp (by rw [show (0 : Int64).toInt = 0 from rfl]; omega)⟩
  omega
theorem own_gdvd (A B g : Int64) (hA : 0 ≤ A.toInt) (hB : 0 ≤ B.toInt) (hg0 : 0 ≤ g.toInt) (hg : g.toInt.toNat = Nat.gcd A.toInt.toNat B.toInt.toNat) : (A - (A / g) * g) = (0 : Int64) ∧ (B - (B / g) * g) = (0 : Int64) :=
  ⟨(own_remz A g hA hg0).mpr (hg ▸ Nat.gcd_dvd_left _ _), (own_remz B g hB hg0).mpr (hg ▸ Nat.gcd_dvd_right _ _)⟩
theorem own_gcom (A B g d : Int64) (hA : 0 ≤ A.toInt) (hB : 0 ≤ B.toInt) (hg0 : 0 ≤ g.toInt) (hd : 0 ≤ d.toInt) (hg : g.toInt.toNat = Nat.gcd A.toInt.toNat B.toInt.toNat) (hdn : d ≠ 0) (h1 : (A - (A / d) * d) = (0 : Int64)) (h2 : (B - (B / d) * d) = (0 : Int64)) : (g - (g / d) * d) = (0 : Int64) :=
  (own_remz g d hg0 hd).mpr (hg ▸ Nat.dvd_gcd ((own_remz A d hA hd).mp h1) ((own_remz B d hB hd).mp h2))
theorem own_d1_0 : decode prog_78_method_9_code 0 = .ok (.lload_n 0, 1) := by decide +kernel
theorem own_d1_1 : decode prog_78_method_9_code 1 = .ok (.lstore 4, 2) := by decide +kernel
theorem own_d1_3 : decode prog_78_method_9_code 3 = .ok (.lload_n 2, 1) := by decide +kernel
theorem own_d1_4 : decode prog_78_method_9_code 4 = .ok (.lstore 6, 2) := by decide +kernel
theorem own_d1_6 : decode prog_78_method_9_code 6 = .ok (.lload 6, 2) := by decide +kernel
theorem own_d1_8 : decode prog_78_method_9_code 8 = .ok (.lconst 0, 1) := by decide +kernel
theorem own_d1_9 : decode prog_78_method_9_code 9 = .ok (.lcmp, 1) := by decide +kernel
theorem own_d1_10 : decode prog_78_method_9_code 10 = .ok (.ifCond .eq 21, 3) := by decide +kernel
theorem own_d1_13 : decode prog_78_method_9_code 13 = .ok (.lload 4, 2) := by decide +kernel
theorem own_d1_15 : decode prog_78_method_9_code 15 = .ok (.lload 6, 2) := by decide +kernel
theorem own_d1_17 : decode prog_78_method_9_code 17 = .ok (.lrem, 1) := by decide +kernel
theorem own_d1_18 : decode prog_78_method_9_code 18 = .ok (.lstore 8, 2) := by decide +kernel
theorem own_d1_20 : decode prog_78_method_9_code 20 = .ok (.lload 6, 2) := by decide +kernel
theorem own_d1_22 : decode prog_78_method_9_code 22 = .ok (.lstore 4, 2) := by decide +kernel
theorem own_d1_24 : decode prog_78_method_9_code 24 = .ok (.lload 8, 2) := by decide +kernel
theorem own_d1_26 : decode prog_78_method_9_code 26 = .ok (.lstore 6, 2) := by decide +kernel
theorem own_d1_28 : decode prog_78_method_9_code 28 = .ok (.goto (-22), 3) := by decide +kernel
theorem own_d1_31 : decode prog_78_method_9_code 31 = .ok (.lload 4, 2) := by decide +kernel
theorem own_d1_33 : decode prog_78_method_9_code 33 = .ok (.lreturn, 1) := by decide +kernel
theorem own_pn1 : plainName "com/example/ordence/ordence/LinearComparisonEncoder" = true := by first | (simp [plainName, overriddenIn]; done) | decide +kernel
theorem own_ef1 (m : MethodId) (u : Int64) (t : Int64) : entryFrame m #[(.long u), (.long t)] 10 = mkF m 0 #[.val (.long u), .second, .val (.long t), .second, .unset, .unset, .unset, .unset, .unset, .unset] [] := by first | (simp [entryFrame, mkF, argsToLocals, Value.category]; done) | rfl
def own_Q1 (Z : State) (u : Int64) (t : Int64) (h0 : Heap) (n0 : Nat) (v : Option Value) (h : Heap) (L : List Loc) : Prop := (∃ z : Int64, v = some (.long z) ∧ 0 ≤ z.toInt ∧ z.toInt.toNat = Nat.gcd u.toInt.toNat t.toInt.toNat) ∧ Fr n0 L ∧ h = h0
set_option maxRecDepth 65536 in
set_option maxHeartbeats 40000000 in
theorem own_rm1 (l : Launch) (Z : State) (a0 : Array Value) (hw : ∀ d ∈ tables_1, d.before a0 Z = true) (ws : List Jvm.Cond) (u : Int64) (t : Int64) (h0 : Heap) (n0 : Nat) (Zs : n0 ≤ h0.size) (hu : 0 ≤ u.toInt) (ht : 0 ≤ t.toInt) :
    MetFree l (⟨"com/example/ordence/ordence/LinearComparisonEncoder", "gcd", "(JJ)J"⟩ : MethodName) (head1 (Jvm.Cond.code (⟨"com/example/ordence/ordence/LinearComparisonEncoder", "gcd", "(JJ)J"⟩ : MethodName) prog_78_method_9_code 10 (some .long) :: ws) ({ frames := 0, cells := 0, slots := 0, locals := 0 } : Room)) (fun aA_ U => aA_ = #[(.long u), (.long t)] ∧ Z.Warmed39 U.vm ∧ U.heap = h0) (fun _ _ _ _ _ => True) (fun _ U o U' => ∃ v L, o = .returned v ∧ own_Q1 Z u t h0 n0 v U'.heap L ∧ FrameEnd U o U' L ({ frames := 0, cells := 0, slots := 0, locals := 0 } : Room).cells ({ frames := 0, cells := 0, slots := 0, locals := 0 } : Room).slots) := by
  refine MetFree.of_bodySF (plainFor_of_name own_pn1) hisR ?_
  intro p e s m args below meth c s₁ Bd hml0 hP hK
  obtain ⟨rfl, hZ, hh⟩ := hP
  have hx := Bd.exec
  have hby := Bd.bytes
  have hml : c.maxLocals = 10 := hml0
  have hown : s.vm.findClass "com/example/ordence/ordence/LinearComparisonEncoder" = some m.cls := findClass_of_methodNamed Bd.named
  have hnm := (name_of_methodNamed Bd.named Bd.method).1
  have X0 : Stand p l e ({ frames := 0, cells := 0, slots := 0, locals := 0 } : Room) s m #[(.long u), (.long t)] below meth c s₁ [] 0 0 := Stand.of_body Bd
  have e0 : s₁.heap = h0 := by rw [← hh, Bd.state]; rfl
  have NF := Fr.nil n0
  rw [own_ef1 m u t]
  show own_Dn p e below s (own_Q1 Z u t h0 n0) 0 0 s₁ (mkF m 0 #[.val (.long u), .second, .val (.long t), .second, .unset, .unset, .unset, .unset, .unset, .unset] [])
  refine own_go (T' := s₁) (g' := (mkF m 1 #[.val (.long u), .second, .val (.long t), .second, .unset, .unset, .unset, .unset, .unset, .unset] [(.long u)])) (fun _ k => XS.lloadN X0.here hx rfl (hb hby own_d1_0) rfl k) ?_
  refine own_go (T' := s₁) (g' := (mkF m 3 #[.val (.long u), .second, .val (.long t), .second, .val (.long u), .second, .unset, .unset, .unset, .unset] [])) (fun _ k => XS.lstore X0.here hx rfl (hb hby own_d1_1) rfl (l' := #[.val (.long u), .second, .val (.long t), .second, .val (.long u), .second, .unset, .unset, .unset, .unset]) rfl k) ?_
  refine own_go (T' := s₁) (g' := (mkF m 4 #[.val (.long u), .second, .val (.long t), .second, .val (.long u), .second, .unset, .unset, .unset, .unset] [(.long t)])) (fun _ k => XS.lloadN X0.here hx rfl (hb hby own_d1_3) rfl k) ?_
  refine own_go (T' := s₁) (g' := (mkF m 6 #[.val (.long u), .second, .val (.long t), .second, .val (.long u), .second, .val (.long t), .second, .unset, .unset] [])) (fun _ k => XS.lstore X0.here hx rfl (hb hby own_d1_4) rfl (l' := #[.val (.long u), .second, .val (.long t), .second, .val (.long u), .second, .val (.long t), .second, .unset, .unset]) rfl k) ?_
  have LP : ∀ (k : Nat) (xx yy rr : Int64), yy.toInt < k → 0 ≤ xx.toInt → 0 ≤ yy.toInt → Nat.gcd xx.toInt.toNat yy.toInt.toNat = Nat.gcd u.toInt.toNat t.toInt.toNat → own_Dn p e below s (own_Q1 Z u t h0 n0) 0 0 s₁ (mkF m 6 #[.val (.long u), .second, .val (.long t), .second, .val (.long xx), .second, .val (.long yy), .second, .val (.long rr), .second] []) := by
    intro k
    induction k with
    | zero => intro xx yy rr hk hx0 hy0 hG; exfalso; omega
    | succ k ih =>
      intro xx yy rr hk hx0 hy0 hG
      refine own_go (T' := s₁) (g' := (mkF m 8 #[.val (.long u), .second, .val (.long t), .second, .val (.long xx), .second, .val (.long yy), .second, .val (.long rr), .second] [(.long yy)])) (fun _ k => XS.lload X0.here hx rfl (hb hby own_d1_6) rfl k) ?_
      refine own_go (T' := s₁) (g' := (mkF m 9 #[.val (.long u), .second, .val (.long t), .second, .val (.long xx), .second, .val (.long yy), .second, .val (.long rr), .second] [(.long (0 : Int64)), (.long yy)])) (fun _ k => XS.lconst X0.here hx rfl (hb hby own_d1_8) k) ?_
      refine own_go (T' := s₁) (g' := (mkF m 10 #[.val (.long u), .second, .val (.long t), .second, .val (.long xx), .second, .val (.long yy), .second, .val (.long rr), .second] [(.int (lcmpW yy (0 : Int64)))])) (fun _ k => XS.lcmp X0.here hx rfl (hb hby own_d1_9) rfl k) ?_
      by_cases c1 : yy = (0 : Int64)
      · refine own_go (T' := s₁) (g' := (mkF m 31 #[.val (.long u), .second, .val (.long t), .second, .val (.long xx), .second, .val (.long yy), .second, .val (.long rr), .second] [])) (fun _ k => XS.ifYes X0.here hx rfl (pc0 := 10) (pc' := 31) rfl (hb hby own_d1_10) rfl ((if0 _ _).trans (teq ((lw_eq yy (0 : Int64)).mpr c1)).1) (by decide) (by decide) k) ?_
        refine own_go (T' := s₁) (g' := (mkF m 33 #[.val (.long u), .second, .val (.long t), .second, .val (.long xx), .second, .val (.long yy), .second, .val (.long rr), .second] [(.long xx)])) (fun _ k => XS.lload X0.here hx rfl (hb hby own_d1_31) rfl k) ?_
        refine own_ret X0 Bd.notSynchronized (some (.long xx)) (fun h => by rw [Bd.returns] at h; cases h) (fun fs hr => X0.lreturnOut hx Bd.returns (hb hby own_d1_33) hr) ?_ (by decide) (by decide)
        show (own_Q1 Z u t h0 n0) (some (.long xx)) s₁.heap _
        rw [e0]
        exact ⟨⟨_, rfl, hx0, own_gz _ _ c1 hG⟩, NF, rfl⟩
      · refine own_go (T' := s₁) (g' := (mkF m 13 #[.val (.long u), .second, .val (.long t), .second, .val (.long xx), .second, .val (.long yy), .second, .val (.long rr), .second] [])) (fun _ k => XS.ifNo X0.here hx rfl (hb hby own_d1_10) rfl ((if0 _ _).trans (feq (fun h => c1 ((lw_eq yy (0 : Int64)).mp h))).1) k) ?_
        refine own_go (T' := s₁) (g' := (mkF m 15 #[.val (.long u), .second, .val (.long t), .second, .val (.long xx), .second, .val (.long yy), .second, .val (.long rr), .second] [(.long xx)])) (fun _ k => XS.lload X0.here hx rfl (hb hby own_d1_13) rfl k) ?_
        refine own_go (T' := s₁) (g' := (mkF m 17 #[.val (.long u), .second, .val (.long t), .second, .val (.long xx), .second, .val (.long yy), .second, .val (.long rr), .second] [(.long yy), (.long xx)])) (fun _ k => XS.lload X0.here hx rfl (hb hby own_d1_15) rfl k) ?_
        refine own_go (T' := s₁) (g' := (mkF m 18 #[.val (.long u), .second, .val (.long t), .second, .val (.long xx), .second, .val (.long yy), .second, .val (.long rr), .second] [(.long (xx - (xx / yy) * yy))])) (fun _ k => XS.lrem X0.here hx rfl (hb hby own_d1_17) rfl c1 k) ?_
        refine own_go (T' := s₁) (g' := (mkF m 20 #[.val (.long u), .second, .val (.long t), .second, .val (.long xx), .second, .val (.long yy), .second, .val (.long (xx - (xx / yy) * yy)), .second] [])) (fun _ k => XS.lstore X0.here hx rfl (hb hby own_d1_18) rfl (l' := #[.val (.long u), .second, .val (.long t), .second, .val (.long xx), .second, .val (.long yy), .second, .val (.long (xx - (xx / yy) * yy)), .second]) rfl k) ?_
        refine own_go (T' := s₁) (g' := (mkF m 22 #[.val (.long u), .second, .val (.long t), .second, .val (.long xx), .second, .val (.long yy), .second, .val (.long (xx - (xx / yy) * yy)), .second] [(.long yy)])) (fun _ k => XS.lload X0.here hx rfl (hb hby own_d1_20) rfl k) ?_
        refine own_go (T' := s₁) (g' := (mkF m 24 #[.val (.long u), .second, .val (.long t), .second, .val (.long yy), .second, .val (.long yy), .second, .val (.long (xx - (xx / yy) * yy)), .second] [])) (fun _ k => XS.lstore X0.here hx rfl (hb hby own_d1_22) rfl (l' := #[.val (.long u), .second, .val (.long t), .second, .val (.long yy), .second, .val (.long yy), .second, .val (.long (xx - (xx / yy) * yy)), .second]) rfl k) ?_
        refine own_go (T' := s₁) (g' := (mkF m 26 #[.val (.long u), .second, .val (.long t), .second, .val (.long yy), .second, .val (.long yy), .second, .val (.long (xx - (xx / yy) * yy)), .second] [(.long (xx - (xx / yy) * yy))])) (fun _ k => XS.lload X0.here hx rfl (hb hby own_d1_24) rfl k) ?_
        refine own_go (T' := s₁) (g' := (mkF m 28 #[.val (.long u), .second, .val (.long t), .second, .val (.long yy), .second, .val (.long (xx - (xx / yy) * yy)), .second, .val (.long (xx - (xx / yy) * yy)), .second] [])) (fun _ k => XS.lstore X0.here hx rfl (hb hby own_d1_26) rfl (l' := #[.val (.long u), .second, .val (.long t), .second, .val (.long yy), .second, .val (.long (xx - (xx / yy) * yy)), .second, .val (.long (xx - (xx / yy) * yy)), .second]) rfl k) ?_
        refine own_go (T' := s₁) (g' := (mkF m 6 #[.val (.long u), .second, .val (.long t), .second, .val (.long yy), .second, .val (.long (xx - (xx / yy) * yy)), .second, .val (.long (xx - (xx / yy) * yy)), .second] [])) (fun _ k => XS.goto X0.here hx rfl (pc0 := 28) (pc' := 6) rfl (hb hby own_d1_28) (by decide) (by decide) k) ?_
        obtain ⟨r1, r2, r3⟩ := own_gstep xx yy hx0 hy0 c1
        exact ih _ _ _ (by omega) hy0 r1 (r3.trans hG)
  have hx0 := hu
  have hy0 := ht
  have hG : Nat.gcd u.toInt.toNat t.toInt.toNat = Nat.gcd u.toInt.toNat t.toInt.toNat := rfl
  refine own_go (T' := s₁) (g' := (mkF m 8 #[.val (.long u), .second, .val (.long t), .second, .val (.long u), .second, .val (.long t), .second, .unset, .unset] [(.long t)])) (fun _ k => XS.lload X0.here hx rfl (hb hby own_d1_6) rfl k) ?_
  refine own_go (T' := s₁) (g' := (mkF m 9 #[.val (.long u), .second, .val (.long t), .second, .val (.long u), .second, .val (.long t), .second, .unset, .unset] [(.long (0 : Int64)), (.long t)])) (fun _ k => XS.lconst X0.here hx rfl (hb hby own_d1_8) k) ?_
  refine own_go (T' := s₁) (g' := (mkF m 10 #[.val (.long u), .second, .val (.long t), .second, .val (.long u), .second, .val (.long t), .second, .unset, .unset] [(.int (lcmpW t (0 : Int64)))])) (fun _ k => XS.lcmp X0.here hx rfl (hb hby own_d1_9) rfl k) ?_
  by_cases c2 : t = (0 : Int64)
  · refine own_go (T' := s₁) (g' := (mkF m 31 #[.val (.long u), .second, .val (.long t), .second, .val (.long u), .second, .val (.long t), .second, .unset, .unset] [])) (fun _ k => XS.ifYes X0.here hx rfl (pc0 := 10) (pc' := 31) rfl (hb hby own_d1_10) rfl ((if0 _ _).trans (teq ((lw_eq t (0 : Int64)).mpr c2)).1) (by decide) (by decide) k) ?_
    refine own_go (T' := s₁) (g' := (mkF m 33 #[.val (.long u), .second, .val (.long t), .second, .val (.long u), .second, .val (.long t), .second, .unset, .unset] [(.long u)])) (fun _ k => XS.lload X0.here hx rfl (hb hby own_d1_31) rfl k) ?_
    refine own_ret X0 Bd.notSynchronized (some (.long u)) (fun h => by rw [Bd.returns] at h; cases h) (fun fs hr => X0.lreturnOut hx Bd.returns (hb hby own_d1_33) hr) ?_ (by decide) (by decide)
    show (own_Q1 Z u t h0 n0) (some (.long u)) s₁.heap _
    rw [e0]
    exact ⟨⟨_, rfl, hx0, own_gz _ _ c2 hG⟩, NF, rfl⟩
  · refine own_go (T' := s₁) (g' := (mkF m 13 #[.val (.long u), .second, .val (.long t), .second, .val (.long u), .second, .val (.long t), .second, .unset, .unset] [])) (fun _ k => XS.ifNo X0.here hx rfl (hb hby own_d1_10) rfl ((if0 _ _).trans (feq (fun h => c2 ((lw_eq t (0 : Int64)).mp h))).1) k) ?_
    refine own_go (T' := s₁) (g' := (mkF m 15 #[.val (.long u), .second, .val (.long t), .second, .val (.long u), .second, .val (.long t), .second, .unset, .unset] [(.long u)])) (fun _ k => XS.lload X0.here hx rfl (hb hby own_d1_13) rfl k) ?_
    refine own_go (T' := s₁) (g' := (mkF m 17 #[.val (.long u), .second, .val (.long t), .second, .val (.long u), .second, .val (.long t), .second, .unset, .unset] [(.long t), (.long u)])) (fun _ k => XS.lload X0.here hx rfl (hb hby own_d1_15) rfl k) ?_
    refine own_go (T' := s₁) (g' := (mkF m 18 #[.val (.long u), .second, .val (.long t), .second, .val (.long u), .second, .val (.long t), .second, .unset, .unset] [(.long (u - (u / t) * t))])) (fun _ k => XS.lrem X0.here hx rfl (hb hby own_d1_17) rfl c2 k) ?_
    refine own_go (T' := s₁) (g' := (mkF m 20 #[.val (.long u), .second, .val (.long t), .second, .val (.long u), .second, .val (.long t), .second, .val (.long (u - (u / t) * t)), .second] [])) (fun _ k => XS.lstore X0.here hx rfl (hb hby own_d1_18) rfl (l' := #[.val (.long u), .second, .val (.long t), .second, .val (.long u), .second, .val (.long t), .second, .val (.long (u - (u / t) * t)), .second]) rfl k) ?_
    refine own_go (T' := s₁) (g' := (mkF m 22 #[.val (.long u), .second, .val (.long t), .second, .val (.long u), .second, .val (.long t), .second, .val (.long (u - (u / t) * t)), .second] [(.long t)])) (fun _ k => XS.lload X0.here hx rfl (hb hby own_d1_20) rfl k) ?_
    refine own_go (T' := s₁) (g' := (mkF m 24 #[.val (.long u), .second, .val (.long t), .second, .val (.long t), .second, .val (.long t), .second, .val (.long (u - (u / t) * t)), .second] [])) (fun _ k => XS.lstore X0.here hx rfl (hb hby own_d1_22) rfl (l' := #[.val (.long u), .second, .val (.long t), .second, .val (.long t), .second, .val (.long t), .second, .val (.long (u - (u / t) * t)), .second]) rfl k) ?_
    refine own_go (T' := s₁) (g' := (mkF m 26 #[.val (.long u), .second, .val (.long t), .second, .val (.long t), .second, .val (.long t), .second, .val (.long (u - (u / t) * t)), .second] [(.long (u - (u / t) * t))])) (fun _ k => XS.lload X0.here hx rfl (hb hby own_d1_24) rfl k) ?_
    refine own_go (T' := s₁) (g' := (mkF m 28 #[.val (.long u), .second, .val (.long t), .second, .val (.long t), .second, .val (.long (u - (u / t) * t)), .second, .val (.long (u - (u / t) * t)), .second] [])) (fun _ k => XS.lstore X0.here hx rfl (hb hby own_d1_26) rfl (l' := #[.val (.long u), .second, .val (.long t), .second, .val (.long t), .second, .val (.long (u - (u / t) * t)), .second, .val (.long (u - (u / t) * t)), .second]) rfl k) ?_
    refine own_go (T' := s₁) (g' := (mkF m 6 #[.val (.long u), .second, .val (.long t), .second, .val (.long t), .second, .val (.long (u - (u / t) * t)), .second, .val (.long (u - (u / t) * t)), .second] [])) (fun _ k => XS.goto X0.here hx rfl (pc0 := 28) (pc' := 6) rfl (hb hby own_d1_28) (by decide) (by decide) k) ?_
    obtain ⟨r1, r2, r3⟩ := own_gstep u t hx0 hy0 c2
    exact LP (t.toInt.toNat + 1) _ _ _ (by omega) hy0 r1 (r3.trans hG)
theorem own_pn0 : plainName "com/example/ordence/ordence/LinearComparisonEncoderGcdPinLaw" = true := by first | (simp [plainName, overriddenIn]; done) | decide +kernel
theorem own_pd0_0 : parseMethodDescriptor "(JJ)J" = some ⟨[.long, .long], some .long⟩ := by decide +kernel
theorem own_ef0 (m : MethodId) (j0 : Int64) (j1 : Int64) (j2 : Int64) : entryFrame m #[(.long j0), (.long j1), (.long j2)] maxLocals = mkF m 0 #[.val (.long j0), .second, .val (.long j1), .second, .val (.long j2), .second, .unset, .unset, .unset, .unset, .unset, .unset, .unset, .unset] [] := by first | (simp [entryFrame, mkF, argsToLocals, Value.category, maxLocals]; done) | rfl
def own_Q0 (Z : State) (j0 : Int64) (j1 : Int64) (j2 : Int64) (h0 : Heap) (n0 : Nat) (v : Option Value) (h : Heap) (L : List Loc) : Prop := v = some (.int 1) ∧ Fr n0 L
set_option maxRecDepth 65536 in
set_option maxHeartbeats 40000000 in
theorem own_rm0 (l : Launch) (Z : State) (a0 : Array Value) (hw : ∀ d ∈ tables_1, d.before a0 Z = true) (ws : List Jvm.Cond) (j0 : Int64) (j1 : Int64) (j2 : Int64) (h0 : Heap) (n0 : Nat) (Zs : n0 ≤ h0.size)  :
    MetFree l x (head1 (Jvm.Cond.code x code maxLocals ret :: ws) room_1) (fun aA_ U => aA_ = #[(.long j0), (.long j1), (.long j2)] ∧ Z.Warmed39 U.vm ∧ U.heap = h0) (fun _ _ _ _ _ => True) (fun _ U o U' => ∃ v L, o = .returned v ∧ own_Q0 Z j0 j1 j2 h0 n0 v U'.heap L ∧ FrameEnd U o U' L room_1.cells room_1.slots) := by
  refine MetFree.of_bodySF (plainFor_of_name own_pn0) hisR ?_
  intro p e s m args below meth c s₁ Bd hml0 hP hK
  obtain ⟨rfl, hZ, hh⟩ := hP
  have hx := Bd.exec
  have hby := Bd.bytes
  have hml : c.maxLocals = 14 := hml0
  have hown : s.vm.findClass "com/example/ordence/ordence/LinearComparisonEncoderGcdPinLaw" = some m.cls := findClass_of_methodNamed Bd.named
  have hnm := (name_of_methodNamed Bd.named Bd.method).1
  have X0 : Stand p l e room_1 s m #[(.long j0), (.long j1), (.long j2)] below meth c s₁ [] 0 0 := Stand.of_body Bd
  have e0 : s₁.heap = h0 := by rw [← hh, Bd.state]; rfl
  have NF := Fr.nil n0
  rw [own_ef0 m j0 j1 j2]
  show own_Dn p e below s (own_Q0 Z j0 j1 j2 h0 n0) room_1.cells room_1.slots s₁ (mkF m 0 #[.val (.long j0), .second, .val (.long j1), .second, .val (.long j2), .second, .unset, .unset, .unset, .unset, .unset, .unset, .unset, .unset] [])
  refine own_go (T' := s₁) (g' := (mkF m 1 #[.val (.long j0), .second, .val (.long j1), .second, .val (.long j2), .second, .unset, .unset, .unset, .unset, .unset, .unset, .unset, .unset] [(.long j0)])) (fun _ k => XS.lloadN X0.here hx rfl (hb hby at_0) rfl k) ?_
  refine own_go (T' := s₁) (g' := (mkF m 4 #[.val (.long j0), .second, .val (.long j1), .second, .val (.long j2), .second, .unset, .unset, .unset, .unset, .unset, .unset, .unset, .unset] [(.long (9223372036854775807 : Int64)), (.long j0)])) (fun _ k => X0.ldc2Long hx hown (mvT hZ (hw _ (List.mem_of_getElem? (i := 0) rfl))) (g := (mkF m 1 #[.val (.long j0), .second, .val (.long j1), .second, .val (.long j2), .second, .unset, .unset, .unset, .unset, .unset, .unset, .unset, .unset] [(.long j0)])) rfl (hb hby at_1) _ k) ?_
  refine own_go (T' := s₁) (g' := (mkF m 5 #[.val (.long j0), .second, .val (.long j1), .second, .val (.long j2), .second, .unset, .unset, .unset, .unset, .unset, .unset, .unset, .unset] [(.long (j0 &&& (9223372036854775807 : Int64)))])) (fun _ k => XS.land X0.here hx rfl (hb hby at_4) rfl k) ?_
  refine own_go (T' := s₁) (g' := (mkF m 7 #[.val (.long j0), .second, .val (.long j1), .second, .val (.long j2), .second, .val (.long (j0 &&& (9223372036854775807 : Int64))), .second, .unset, .unset, .unset, .unset, .unset, .unset] [])) (fun _ k => XS.lstore X0.here hx rfl (hb hby at_5) rfl (l' := #[.val (.long j0), .second, .val (.long j1), .second, .val (.long j2), .second, .val (.long (j0 &&& (9223372036854775807 : Int64))), .second, .unset, .unset, .unset, .unset, .unset, .unset]) rfl k) ?_
  refine own_go (T' := s₁) (g' := (mkF m 8 #[.val (.long j0), .second, .val (.long j1), .second, .val (.long j2), .second, .val (.long (j0 &&& (9223372036854775807 : Int64))), .second, .unset, .unset, .unset, .unset, .unset, .unset] [(.long j1)])) (fun _ k => XS.lloadN X0.here hx rfl (hb hby at_7) rfl k) ?_
  refine own_go (T' := s₁) (g' := (mkF m 11 #[.val (.long j0), .second, .val (.long j1), .second, .val (.long j2), .second, .val (.long (j0 &&& (9223372036854775807 : Int64))), .second, .unset, .unset, .unset, .unset, .unset, .unset] [(.long (9223372036854775807 : Int64)), (.long j1)])) (fun _ k => X0.ldc2Long hx hown (mvT hZ (hw _ (List.mem_of_getElem? (i := 0) rfl))) (g := (mkF m 8 #[.val (.long j0), .second, .val (.long j1), .second, .val (.long j2), .second, .val (.long (j0 &&& (9223372036854775807 : Int64))), .second, .unset, .unset, .unset, .unset, .unset, .unset] [(.long j1)])) rfl (hb hby at_8) _ k) ?_
  refine own_go (T' := s₁) (g' := (mkF m 12 #[.val (.long j0), .second, .val (.long j1), .second, .val (.long j2), .second, .val (.long (j0 &&& (9223372036854775807 : Int64))), .second, .unset, .unset, .unset, .unset, .unset, .unset] [(.long (j1 &&& (9223372036854775807 : Int64)))])) (fun _ k => XS.land X0.here hx rfl (hb hby at_11) rfl k) ?_
  refine own_go (T' := s₁) (g' := (mkF m 14 #[.val (.long j0), .second, .val (.long j1), .second, .val (.long j2), .second, .val (.long (j0 &&& (9223372036854775807 : Int64))), .second, .val (.long (j1 &&& (9223372036854775807 : Int64))), .second, .unset, .unset, .unset, .unset] [])) (fun _ k => XS.lstore X0.here hx rfl (hb hby at_12) rfl (l' := #[.val (.long j0), .second, .val (.long j1), .second, .val (.long j2), .second, .val (.long (j0 &&& (9223372036854775807 : Int64))), .second, .val (.long (j1 &&& (9223372036854775807 : Int64))), .second, .unset, .unset, .unset, .unset]) rfl k) ?_
  refine own_go (T' := s₁) (g' := (mkF m 16 #[.val (.long j0), .second, .val (.long j1), .second, .val (.long j2), .second, .val (.long (j0 &&& (9223372036854775807 : Int64))), .second, .val (.long (j1 &&& (9223372036854775807 : Int64))), .second, .unset, .unset, .unset, .unset] [(.long j2)])) (fun _ k => XS.lload X0.here hx rfl (hb hby at_14) rfl k) ?_
  refine own_go (T' := s₁) (g' := (mkF m 19 #[.val (.long j0), .second, .val (.long j1), .second, .val (.long j2), .second, .val (.long (j0 &&& (9223372036854775807 : Int64))), .second, .val (.long (j1 &&& (9223372036854775807 : Int64))), .second, .unset, .unset, .unset, .unset] [(.long (9223372036854775807 : Int64)), (.long j2)])) (fun _ k => X0.ldc2Long hx hown (mvT hZ (hw _ (List.mem_of_getElem? (i := 0) rfl))) (g := (mkF m 16 #[.val (.long j0), .second, .val (.long j1), .second, .val (.long j2), .second, .val (.long (j0 &&& (9223372036854775807 : Int64))), .second, .val (.long (j1 &&& (9223372036854775807 : Int64))), .second, .unset, .unset, .unset, .unset] [(.long j2)])) rfl (hb hby at_16) _ k) ?_
  refine own_go (T' := s₁) (g' := (mkF m 20 #[.val (.long j0), .second, .val (.long j1), .second, .val (.long j2), .second, .val (.long (j0 &&& (9223372036854775807 : Int64))), .second, .val (.long (j1 &&& (9223372036854775807 : Int64))), .second, .unset, .unset, .unset, .unset] [(.long (j2 &&& (9223372036854775807 : Int64)))])) (fun _ k => XS.land X0.here hx rfl (hb hby at_19) rfl k) ?_
  refine own_go (T' := s₁) (g' := (mkF m 22 #[.val (.long j0), .second, .val (.long j1), .second, .val (.long j2), .second, .val (.long (j0 &&& (9223372036854775807 : Int64))), .second, .val (.long (j1 &&& (9223372036854775807 : Int64))), .second, .val (.long (j2 &&& (9223372036854775807 : Int64))), .second, .unset, .unset] [])) (fun _ k => XS.lstore X0.here hx rfl (hb hby at_20) rfl (l' := #[.val (.long j0), .second, .val (.long j1), .second, .val (.long j2), .second, .val (.long (j0 &&& (9223372036854775807 : Int64))), .second, .val (.long (j1 &&& (9223372036854775807 : Int64))), .second, .val (.long (j2 &&& (9223372036854775807 : Int64))), .second, .unset, .unset]) rfl k) ?_
  have hA0 := c_maskL j0 (9223372036854775807 : Int64) 63 (by decide) (by decide)
  have hA : 0 ≤ (j0 &&& (9223372036854775807 : Int64)).toInt := by omega
  clear hA0
  generalize (j0 &&& (9223372036854775807 : Int64)) = A at *
  have hB0 := c_maskL j1 (9223372036854775807 : Int64) 63 (by decide) (by decide)
  have hB : 0 ≤ (j1 &&& (9223372036854775807 : Int64)).toInt := by omega
  clear hB0
  generalize (j1 &&& (9223372036854775807 : Int64)) = B at *
  have hDd0 := c_maskL j2 (9223372036854775807 : Int64) 63 (by decide) (by decide)
  have hDd : 0 ≤ (j2 &&& (9223372036854775807 : Int64)).toInt := by omega
  clear hDd0
  generalize (j2 &&& (9223372036854775807 : Int64)) = Dd at *
  refine own_go (T' := s₁) (g' := (mkF m 24 #[.val (.long j0), .second, .val (.long j1), .second, .val (.long j2), .second, .val (.long A), .second, .val (.long B), .second, .val (.long Dd), .second, .unset, .unset] [(.long A)])) (fun _ k => XS.lload X0.here hx rfl (hb hby at_22) rfl k) ?_
  refine own_go (T' := s₁) (g' := (mkF m 26 #[.val (.long j0), .second, .val (.long j1), .second, .val (.long j2), .second, .val (.long A), .second, .val (.long B), .second, .val (.long Dd), .second, .unset, .unset] [(.long B), (.long A)])) (fun _ k => XS.lload X0.here hx rfl (hb hby at_24) rfl k) ?_
  obtain ⟨_, _, ⟨T1, L1, k1, n1⟩, -, X1, ⟨Lc1, hQ1, l1, y1, z1⟩, st1⟩ := Jvm.LawKit.callS X0 hx (y := (⟨"com/example/ordence/ordence/LinearComparisonEncoder", "gcd", "(JJ)J"⟩ : MethodName)) hown (mvT hZ (hw _ (List.mem_of_getElem? (i := 1) rfl))) (mvT hZ (hw _ (List.mem_of_getElem? (i := 2) rfl))) (mvT hZ (hw _ (List.mem_of_getElem? (i := 3) rfl))) (mvT hZ (hw _ (List.mem_of_getElem? (i := 4) rfl))) (by decide) (backOf (W := 0) (own_rm1 l Z a0 hw [] A B h0 n0 Zs hA hB) hZ (hw _ (List.mem_of_getElem? (i := 4) rfl)) (hw _ (List.mem_of_getElem? (i := 3) rfl)) (by decide) (by decide)) (g := (mkF m 26 #[.val (.long j0), .second, .val (.long j1), .second, .val (.long j2), .second, .val (.long A), .second, .val (.long B), .second, .val (.long Dd), .second, .unset, .unset] [(.long B), (.long A)])) rfl (by rw [hml]; rfl) (argsL := [(.long A), (.long B)]) (rest := []) (lenOf own_pd0_0 rfl) rfl (by show 2 * 0 + _ ≤ _; exact Nat.le_of_eq rfl) (hb hby at_26) (fun _ _ => ⟨rfl, e0, (by decide : 0 + 0 ≤ _), (by decide : 0 + 0 ≤ _)⟩)
  dsimp only [Pt.U, Pt.locs, Pt.cells, Pt.slots] at X1 l1 y1 z1 st1 hQ1
  subst l1 y1 z1
  obtain ⟨⟨g, rfl, hg0, hg⟩, NQ1, eq1⟩ := hQ1
  have NF := Fr.app NF NQ1
  refine own_go (T' := T1) (g' := (mkF m 29 #[.val (.long j0), .second, .val (.long j1), .second, .val (.long j2), .second, .val (.long A), .second, .val (.long B), .second, .val (.long Dd), .second, .unset, .unset] [(.long g)])) (fun _ k => st1 _ k) ?_
  refine own_go (T' := T1) (g' := (mkF m 31 #[.val (.long j0), .second, .val (.long j1), .second, .val (.long j2), .second, .val (.long A), .second, .val (.long B), .second, .val (.long Dd), .second, .val (.long g), .second] [])) (fun _ k => XS.lstore X1.here hx rfl (hb hby at_29) rfl (l' := #[.val (.long j0), .second, .val (.long j1), .second, .val (.long j2), .second, .val (.long A), .second, .val (.long B), .second, .val (.long Dd), .second, .val (.long g), .second]) rfl k) ?_
  refine own_go (T' := T1) (g' := (mkF m 33 #[.val (.long j0), .second, .val (.long j1), .second, .val (.long j2), .second, .val (.long A), .second, .val (.long B), .second, .val (.long Dd), .second, .val (.long g), .second] [(.long A)])) (fun _ k => XS.lload X1.here hx rfl (hb hby at_31) rfl k) ?_
  refine own_go (T' := T1) (g' := (mkF m 34 #[.val (.long j0), .second, .val (.long j1), .second, .val (.long j2), .second, .val (.long A), .second, .val (.long B), .second, .val (.long Dd), .second, .val (.long g), .second] [(.long (0 : Int64)), (.long A)])) (fun _ k => XS.lconst X1.here hx rfl (hb hby at_33) k) ?_
  refine own_go (T' := T1) (g' := (mkF m 35 #[.val (.long j0), .second, .val (.long j1), .second, .val (.long j2), .second, .val (.long A), .second, .val (.long B), .second, .val (.long Dd), .second, .val (.long g), .second] [(.int (lcmpW A (0 : Int64)))])) (fun _ k => XS.lcmp X1.here hx rfl (hb hby at_34) rfl k) ?_
  by_cases c2 : A = (0 : Int64)
  · refine own_go (T' := T1) (g' := (mkF m 38 #[.val (.long j0), .second, .val (.long j1), .second, .val (.long j2), .second, .val (.long A), .second, .val (.long B), .second, .val (.long Dd), .second, .val (.long g), .second] [])) (fun _ k => XS.ifNo X1.here hx rfl (hb hby at_35) rfl ((if0 _ _).trans (teq ((lw_eq A (0 : Int64)).mpr c2)).2) k) ?_
    refine own_go (T' := T1) (g' := (mkF m 40 #[.val (.long j0), .second, .val (.long j1), .second, .val (.long j2), .second, .val (.long A), .second, .val (.long B), .second, .val (.long Dd), .second, .val (.long g), .second] [(.long B)])) (fun _ k => XS.lload X1.here hx rfl (hb hby at_38) rfl k) ?_
    refine own_go (T' := T1) (g' := (mkF m 41 #[.val (.long j0), .second, .val (.long j1), .second, .val (.long j2), .second, .val (.long A), .second, .val (.long B), .second, .val (.long Dd), .second, .val (.long g), .second] [(.long (0 : Int64)), (.long B)])) (fun _ k => XS.lconst X1.here hx rfl (hb hby at_40) k) ?_
    refine own_go (T' := T1) (g' := (mkF m 42 #[.val (.long j0), .second, .val (.long j1), .second, .val (.long j2), .second, .val (.long A), .second, .val (.long B), .second, .val (.long Dd), .second, .val (.long g), .second] [(.int (lcmpW B (0 : Int64)))])) (fun _ k => XS.lcmp X1.here hx rfl (hb hby at_41) rfl k) ?_
    by_cases c3 : B = (0 : Int64)
    · refine own_go (T' := T1) (g' := (mkF m 45 #[.val (.long j0), .second, .val (.long j1), .second, .val (.long j2), .second, .val (.long A), .second, .val (.long B), .second, .val (.long Dd), .second, .val (.long g), .second] [])) (fun _ k => XS.ifNo X1.here hx rfl (hb hby at_42) rfl ((if0 _ _).trans (teq ((lw_eq B (0 : Int64)).mpr c3)).2) k) ?_
      refine own_go (T' := T1) (g' := (mkF m 47 #[.val (.long j0), .second, .val (.long j1), .second, .val (.long j2), .second, .val (.long A), .second, .val (.long B), .second, .val (.long Dd), .second, .val (.long g), .second] [(.long g)])) (fun _ k => XS.lload X1.here hx rfl (hb hby at_45) rfl k) ?_
      refine own_go (T' := T1) (g' := (mkF m 48 #[.val (.long j0), .second, .val (.long j1), .second, .val (.long j2), .second, .val (.long A), .second, .val (.long B), .second, .val (.long Dd), .second, .val (.long g), .second] [(.long (0 : Int64)), (.long g)])) (fun _ k => XS.lconst X1.here hx rfl (hb hby at_47) k) ?_
      refine own_go (T' := T1) (g' := (mkF m 49 #[.val (.long j0), .second, .val (.long j1), .second, .val (.long j2), .second, .val (.long A), .second, .val (.long B), .second, .val (.long Dd), .second, .val (.long g), .second] [(.int (lcmpW g (0 : Int64)))])) (fun _ k => XS.lcmp X1.here hx rfl (hb hby at_48) rfl k) ?_
      refine own_go (T' := T1) (g' := (mkF m 52 #[.val (.long j0), .second, .val (.long j1), .second, .val (.long j2), .second, .val (.long A), .second, .val (.long B), .second, .val (.long Dd), .second, .val (.long g), .second] [])) (fun _ k => XS.ifNo X1.here hx rfl (hb hby at_49) rfl ((if0 _ _).trans (teq ((lw_eq g (0 : Int64)).mpr (own_gzero A B g c2 c3 hg0 hg))).2) k) ?_
      refine own_go (T' := T1) (g' := (mkF m 53 #[.val (.long j0), .second, .val (.long j1), .second, .val (.long j2), .second, .val (.long A), .second, .val (.long B), .second, .val (.long Dd), .second, .val (.long g), .second] [(.int (1 : Int32))])) (fun _ k => XS.iconst X1.here hx rfl (hb hby at_52) k) ?_
      refine own_go (T' := T1) (g' := (mkF m 57 #[.val (.long j0), .second, .val (.long j1), .second, .val (.long j2), .second, .val (.long A), .second, .val (.long B), .second, .val (.long Dd), .second, .val (.long g), .second] [(.int (1 : Int32))])) (fun _ k => XS.goto X1.here hx rfl (pc0 := 53) (pc' := 57) rfl (hb hby at_53) (by decide) (by decide) k) ?_
      refine own_ret X1 Bd.notSynchronized (some (.int (1 : Int32))) (fun h => by rw [Bd.returns] at h; cases h) (fun fs hr => retN X1 hx (t := .boolean) Bd.returns (by simp) (hb hby at_57) hr) ?_ (by decide) (by decide)
      show (own_Q0 Z j0 j1 j2 h0 n0) (some (.int (1 : Int32))) T1.heap _
      rw [eq1]
      exact ⟨rfl, NF⟩
    · refine own_go (T' := T1) (g' := (mkF m 58 #[.val (.long j0), .second, .val (.long j1), .second, .val (.long j2), .second, .val (.long A), .second, .val (.long B), .second, .val (.long Dd), .second, .val (.long g), .second] [])) (fun _ k => XS.ifYes X1.here hx rfl (pc0 := 42) (pc' := 58) rfl (hb hby at_42) rfl ((if0 _ _).trans (feq (fun h => c3 ((lw_eq B (0 : Int64)).mp h))).2) (by decide) (by decide) k) ?_
      refine own_go (T' := T1) (g' := (mkF m 60 #[.val (.long j0), .second, .val (.long j1), .second, .val (.long j2), .second, .val (.long A), .second, .val (.long B), .second, .val (.long Dd), .second, .val (.long g), .second] [(.long g)])) (fun _ k => XS.lload X1.here hx rfl (hb hby at_58) rfl k) ?_
      refine own_go (T' := T1) (g' := (mkF m 61 #[.val (.long j0), .second, .val (.long j1), .second, .val (.long j2), .second, .val (.long A), .second, .val (.long B), .second, .val (.long Dd), .second, .val (.long g), .second] [(.long (0 : Int64)), (.long g)])) (fun _ k => XS.lconst X1.here hx rfl (hb hby at_60) k) ?_
      refine own_go (T' := T1) (g' := (mkF m 62 #[.val (.long j0), .second, .val (.long j1), .second, .val (.long j2), .second, .val (.long A), .second, .val (.long B), .second, .val (.long Dd), .second, .val (.long g), .second] [(.int (lcmpW g (0 : Int64)))])) (fun _ k => XS.lcmp X1.here hx rfl (hb hby at_61) rfl k) ?_
      have hgp : (0 : Int64) < g := own_gpos A B g hA hB hg0 hg (fun q => c3 q.2)
      have hgn : g ≠ 0 := fun q => by subst q; exact absurd hgp (by decide)
      have hgd := own_gdvd A B g hA hB hg0 hg
      refine own_go (T' := T1) (g' := (mkF m 67 #[.val (.long j0), .second, .val (.long j1), .second, .val (.long j2), .second, .val (.long A), .second, .val (.long B), .second, .val (.long Dd), .second, .val (.long g), .second] [])) (fun _ k => XS.ifYes X1.here hx rfl (pc0 := 62) (pc' := 67) rfl (hb hby at_62) rfl ((if0 _ _).trans (tlt ((lw_gt g (0 : Int64)).mpr hgp)).2.2.1) (by decide) (by decide) k) ?_
      refine own_go (T' := T1) (g' := (mkF m 69 #[.val (.long j0), .second, .val (.long j1), .second, .val (.long j2), .second, .val (.long A), .second, .val (.long B), .second, .val (.long Dd), .second, .val (.long g), .second] [(.long A)])) (fun _ k => XS.lload X1.here hx rfl (hb hby at_67) rfl k) ?_
      refine own_go (T' := T1) (g' := (mkF m 71 #[.val (.long j0), .second, .val (.long j1), .second, .val (.long j2), .second, .val (.long A), .second, .val (.long B), .second, .val (.long Dd), .second, .val (.long g), .second] [(.long g), (.long A)])) (fun _ k => XS.lload X1.here hx rfl (hb hby at_69) rfl k) ?_
      refine own_go (T' := T1) (g' := (mkF m 72 #[.val (.long j0), .second, .val (.long j1), .second, .val (.long j2), .second, .val (.long A), .second, .val (.long B), .second, .val (.long Dd), .second, .val (.long g), .second] [(.long (A - (A / g) * g))])) (fun _ k => XS.lrem X1.here hx rfl (hb hby at_71) rfl hgn k) ?_
      refine own_go (T' := T1) (g' := (mkF m 73 #[.val (.long j0), .second, .val (.long j1), .second, .val (.long j2), .second, .val (.long A), .second, .val (.long B), .second, .val (.long Dd), .second, .val (.long g), .second] [(.long (0 : Int64)), (.long (A - (A / g) * g))])) (fun _ k => XS.lconst X1.here hx rfl (hb hby at_72) k) ?_
      refine own_go (T' := T1) (g' := (mkF m 74 #[.val (.long j0), .second, .val (.long j1), .second, .val (.long j2), .second, .val (.long A), .second, .val (.long B), .second, .val (.long Dd), .second, .val (.long g), .second] [(.int (lcmpW (A - (A / g) * g) (0 : Int64)))])) (fun _ k => XS.lcmp X1.here hx rfl (hb hby at_73) rfl k) ?_
      refine own_go (T' := T1) (g' := (mkF m 77 #[.val (.long j0), .second, .val (.long j1), .second, .val (.long j2), .second, .val (.long A), .second, .val (.long B), .second, .val (.long Dd), .second, .val (.long g), .second] [])) (fun _ k => XS.ifNo X1.here hx rfl (hb hby at_74) rfl ((if0 _ _).trans (teq ((lw_eq (A - (A / g) * g) (0 : Int64)).mpr hgd.1)).2) k) ?_
      refine own_go (T' := T1) (g' := (mkF m 79 #[.val (.long j0), .second, .val (.long j1), .second, .val (.long j2), .second, .val (.long A), .second, .val (.long B), .second, .val (.long Dd), .second, .val (.long g), .second] [(.long B)])) (fun _ k => XS.lload X1.here hx rfl (hb hby at_77) rfl k) ?_
      refine own_go (T' := T1) (g' := (mkF m 81 #[.val (.long j0), .second, .val (.long j1), .second, .val (.long j2), .second, .val (.long A), .second, .val (.long B), .second, .val (.long Dd), .second, .val (.long g), .second] [(.long g), (.long B)])) (fun _ k => XS.lload X1.here hx rfl (hb hby at_79) rfl k) ?_
      refine own_go (T' := T1) (g' := (mkF m 82 #[.val (.long j0), .second, .val (.long j1), .second, .val (.long j2), .second, .val (.long A), .second, .val (.long B), .second, .val (.long Dd), .second, .val (.long g), .second] [(.long (B - (B / g) * g))])) (fun _ k => XS.lrem X1.here hx rfl (hb hby at_81) rfl hgn k) ?_
      refine own_go (T' := T1) (g' := (mkF m 83 #[.val (.long j0), .second, .val (.long j1), .second, .val (.long j2), .second, .val (.long A), .second, .val (.long B), .second, .val (.long Dd), .second, .val (.long g), .second] [(.long (0 : Int64)), (.long (B - (B / g) * g))])) (fun _ k => XS.lconst X1.here hx rfl (hb hby at_82) k) ?_
      refine own_go (T' := T1) (g' := (mkF m 84 #[.val (.long j0), .second, .val (.long j1), .second, .val (.long j2), .second, .val (.long A), .second, .val (.long B), .second, .val (.long Dd), .second, .val (.long g), .second] [(.int (lcmpW (B - (B / g) * g) (0 : Int64)))])) (fun _ k => XS.lcmp X1.here hx rfl (hb hby at_83) rfl k) ?_
      refine own_go (T' := T1) (g' := (mkF m 89 #[.val (.long j0), .second, .val (.long j1), .second, .val (.long j2), .second, .val (.long A), .second, .val (.long B), .second, .val (.long Dd), .second, .val (.long g), .second] [])) (fun _ k => XS.ifYes X1.here hx rfl (pc0 := 84) (pc' := 89) rfl (hb hby at_84) rfl ((if0 _ _).trans (teq ((lw_eq (B - (B / g) * g) (0 : Int64)).mpr hgd.2)).1) (by decide) (by decide) k) ?_
      refine own_go (T' := T1) (g' := (mkF m 91 #[.val (.long j0), .second, .val (.long j1), .second, .val (.long j2), .second, .val (.long A), .second, .val (.long B), .second, .val (.long Dd), .second, .val (.long g), .second] [(.long Dd)])) (fun _ k => XS.lload X1.here hx rfl (hb hby at_89) rfl k) ?_
      refine own_go (T' := T1) (g' := (mkF m 92 #[.val (.long j0), .second, .val (.long j1), .second, .val (.long j2), .second, .val (.long A), .second, .val (.long B), .second, .val (.long Dd), .second, .val (.long g), .second] [(.long (1 : Int64)), (.long Dd)])) (fun _ k => XS.lconst X1.here hx rfl (hb hby at_91) k) ?_
      refine own_go (T' := T1) (g' := (mkF m 93 #[.val (.long j0), .second, .val (.long j1), .second, .val (.long j2), .second, .val (.long A), .second, .val (.long B), .second, .val (.long Dd), .second, .val (.long g), .second] [(.int (lcmpW Dd (1 : Int64)))])) (fun _ k => XS.lcmp X1.here hx rfl (hb hby at_92) rfl k) ?_
      by_cases c4 : Dd < (1 : Int64)
      · refine own_go (T' := T1) (g' := (mkF m 132 #[.val (.long j0), .second, .val (.long j1), .second, .val (.long j2), .second, .val (.long A), .second, .val (.long B), .second, .val (.long Dd), .second, .val (.long g), .second] [])) (fun _ k => XS.ifYes X1.here hx rfl (pc0 := 93) (pc' := 132) rfl (hb hby at_93) rfl ((if0 _ _).trans (tlt ((lw_lt Dd (1 : Int64)).mpr c4)).1) (by decide) (by decide) k) ?_
        refine own_go (T' := T1) (g' := (mkF m 133 #[.val (.long j0), .second, .val (.long j1), .second, .val (.long j2), .second, .val (.long A), .second, .val (.long B), .second, .val (.long Dd), .second, .val (.long g), .second] [(.int (1 : Int32))])) (fun _ k => XS.iconst X1.here hx rfl (hb hby at_132) k) ?_
        refine own_ret X1 Bd.notSynchronized (some (.int (1 : Int32))) (fun h => by rw [Bd.returns] at h; cases h) (fun fs hr => retN X1 hx (t := .boolean) Bd.returns (by simp) (hb hby at_133) hr) ?_ (by decide) (by decide)
        show (own_Q0 Z j0 j1 j2 h0 n0) (some (.int (1 : Int32))) T1.heap _
        rw [eq1]
        exact ⟨rfl, NF⟩
      · refine own_go (T' := T1) (g' := (mkF m 96 #[.val (.long j0), .second, .val (.long j1), .second, .val (.long j2), .second, .val (.long A), .second, .val (.long B), .second, .val (.long Dd), .second, .val (.long g), .second] [])) (fun _ k => XS.ifNo X1.here hx rfl (hb hby at_93) rfl ((if0 _ _).trans (flt (fun h => c4 ((lw_lt Dd (1 : Int64)).mp h))).1) k) ?_
        have hdn : Dd ≠ 0 := fun q => by subst q; exact c4 (by decide)
        refine own_go (T' := T1) (g' := (mkF m 98 #[.val (.long j0), .second, .val (.long j1), .second, .val (.long j2), .second, .val (.long A), .second, .val (.long B), .second, .val (.long Dd), .second, .val (.long g), .second] [(.long A)])) (fun _ k => XS.lload X1.here hx rfl (hb hby at_96) rfl k) ?_
        refine own_go (T' := T1) (g' := (mkF m 100 #[.val (.long j0), .second, .val (.long j1), .second, .val (.long j2), .second, .val (.long A), .second, .val (.long B), .second, .val (.long Dd), .second, .val (.long g), .second] [(.long Dd), (.long A)])) (fun _ k => XS.lload X1.here hx rfl (hb hby at_98) rfl k) ?_
        refine own_go (T' := T1) (g' := (mkF m 101 #[.val (.long j0), .second, .val (.long j1), .second, .val (.long j2), .second, .val (.long A), .second, .val (.long B), .second, .val (.long Dd), .second, .val (.long g), .second] [(.long (A - (A / Dd) * Dd))])) (fun _ k => XS.lrem X1.here hx rfl (hb hby at_100) rfl hdn k) ?_
        refine own_go (T' := T1) (g' := (mkF m 102 #[.val (.long j0), .second, .val (.long j1), .second, .val (.long j2), .second, .val (.long A), .second, .val (.long B), .second, .val (.long Dd), .second, .val (.long g), .second] [(.long (0 : Int64)), (.long (A - (A / Dd) * Dd))])) (fun _ k => XS.lconst X1.here hx rfl (hb hby at_101) k) ?_
        refine own_go (T' := T1) (g' := (mkF m 103 #[.val (.long j0), .second, .val (.long j1), .second, .val (.long j2), .second, .val (.long A), .second, .val (.long B), .second, .val (.long Dd), .second, .val (.long g), .second] [(.int (lcmpW (A - (A / Dd) * Dd) (0 : Int64)))])) (fun _ k => XS.lcmp X1.here hx rfl (hb hby at_102) rfl k) ?_
        by_cases c5 : (A - (A / Dd) * Dd) = (0 : Int64)
        · refine own_go (T' := T1) (g' := (mkF m 106 #[.val (.long j0), .second, .val (.long j1), .second, .val (.long j2), .second, .val (.long A), .second, .val (.long B), .second, .val (.long Dd), .second, .val (.long g), .second] [])) (fun _ k => XS.ifNo X1.here hx rfl (hb hby at_103) rfl ((if0 _ _).trans (teq ((lw_eq (A - (A / Dd) * Dd) (0 : Int64)).mpr c5)).2) k) ?_
          refine own_go (T' := T1) (g' := (mkF m 108 #[.val (.long j0), .second, .val (.long j1), .second, .val (.long j2), .second, .val (.long A), .second, .val (.long B), .second, .val (.long Dd), .second, .val (.long g), .second] [(.long B)])) (fun _ k => XS.lload X1.here hx rfl (hb hby at_106) rfl k) ?_
          refine own_go (T' := T1) (g' := (mkF m 110 #[.val (.long j0), .second, .val (.long j1), .second, .val (.long j2), .second, .val (.long A), .second, .val (.long B), .second, .val (.long Dd), .second, .val (.long g), .second] [(.long Dd), (.long B)])) (fun _ k => XS.lload X1.here hx rfl (hb hby at_108) rfl k) ?_
          refine own_go (T' := T1) (g' := (mkF m 111 #[.val (.long j0), .second, .val (.long j1), .second, .val (.long j2), .second, .val (.long A), .second, .val (.long B), .second, .val (.long Dd), .second, .val (.long g), .second] [(.long (B - (B / Dd) * Dd))])) (fun _ k => XS.lrem X1.here hx rfl (hb hby at_110) rfl hdn k) ?_
          refine own_go (T' := T1) (g' := (mkF m 112 #[.val (.long j0), .second, .val (.long j1), .second, .val (.long j2), .second, .val (.long A), .second, .val (.long B), .second, .val (.long Dd), .second, .val (.long g), .second] [(.long (0 : Int64)), (.long (B - (B / Dd) * Dd))])) (fun _ k => XS.lconst X1.here hx rfl (hb hby at_111) k) ?_
          refine own_go (T' := T1) (g' := (mkF m 113 #[.val (.long j0), .second, .val (.long j1), .second, .val (.long j2), .second, .val (.long A), .second, .val (.long B), .second, .val (.long Dd), .second, .val (.long g), .second] [(.int (lcmpW (B - (B / Dd) * Dd) (0 : Int64)))])) (fun _ k => XS.lcmp X1.here hx rfl (hb hby at_112) rfl k) ?_
          by_cases c6 : (B - (B / Dd) * Dd) = (0 : Int64)
          · refine own_go (T' := T1) (g' := (mkF m 116 #[.val (.long j0), .second, .val (.long j1), .second, .val (.long j2), .second, .val (.long A), .second, .val (.long B), .second, .val (.long Dd), .second, .val (.long g), .second] [])) (fun _ k => XS.ifNo X1.here hx rfl (hb hby at_113) rfl ((if0 _ _).trans (teq ((lw_eq (B - (B / Dd) * Dd) (0 : Int64)).mpr c6)).2) k) ?_
            refine own_go (T' := T1) (g' := (mkF m 118 #[.val (.long j0), .second, .val (.long j1), .second, .val (.long j2), .second, .val (.long A), .second, .val (.long B), .second, .val (.long Dd), .second, .val (.long g), .second] [(.long g)])) (fun _ k => XS.lload X1.here hx rfl (hb hby at_116) rfl k) ?_
            refine own_go (T' := T1) (g' := (mkF m 120 #[.val (.long j0), .second, .val (.long j1), .second, .val (.long j2), .second, .val (.long A), .second, .val (.long B), .second, .val (.long Dd), .second, .val (.long g), .second] [(.long Dd), (.long g)])) (fun _ k => XS.lload X1.here hx rfl (hb hby at_118) rfl k) ?_
            refine own_go (T' := T1) (g' := (mkF m 121 #[.val (.long j0), .second, .val (.long j1), .second, .val (.long j2), .second, .val (.long A), .second, .val (.long B), .second, .val (.long Dd), .second, .val (.long g), .second] [(.long (g - (g / Dd) * Dd))])) (fun _ k => XS.lrem X1.here hx rfl (hb hby at_120) rfl hdn k) ?_
            refine own_go (T' := T1) (g' := (mkF m 122 #[.val (.long j0), .second, .val (.long j1), .second, .val (.long j2), .second, .val (.long A), .second, .val (.long B), .second, .val (.long Dd), .second, .val (.long g), .second] [(.long (0 : Int64)), (.long (g - (g / Dd) * Dd))])) (fun _ k => XS.lconst X1.here hx rfl (hb hby at_121) k) ?_
            refine own_go (T' := T1) (g' := (mkF m 123 #[.val (.long j0), .second, .val (.long j1), .second, .val (.long j2), .second, .val (.long A), .second, .val (.long B), .second, .val (.long Dd), .second, .val (.long g), .second] [(.int (lcmpW (g - (g / Dd) * Dd) (0 : Int64)))])) (fun _ k => XS.lcmp X1.here hx rfl (hb hby at_122) rfl k) ?_
            refine own_go (T' := T1) (g' := (mkF m 126 #[.val (.long j0), .second, .val (.long j1), .second, .val (.long j2), .second, .val (.long A), .second, .val (.long B), .second, .val (.long Dd), .second, .val (.long g), .second] [])) (fun _ k => XS.ifNo X1.here hx rfl (hb hby at_123) rfl ((if0 _ _).trans (teq ((lw_eq (g - (g / Dd) * Dd) (0 : Int64)).mpr (own_gcom A B g Dd hA hB hg0 hDd hg hdn c5 c6))).2) k) ?_
            refine own_go (T' := T1) (g' := (mkF m 127 #[.val (.long j0), .second, .val (.long j1), .second, .val (.long j2), .second, .val (.long A), .second, .val (.long B), .second, .val (.long Dd), .second, .val (.long g), .second] [(.int (1 : Int32))])) (fun _ k => XS.iconst X1.here hx rfl (hb hby at_126) k) ?_
            refine own_go (T' := T1) (g' := (mkF m 131 #[.val (.long j0), .second, .val (.long j1), .second, .val (.long j2), .second, .val (.long A), .second, .val (.long B), .second, .val (.long Dd), .second, .val (.long g), .second] [(.int (1 : Int32))])) (fun _ k => XS.goto X1.here hx rfl (pc0 := 127) (pc' := 131) rfl (hb hby at_127) (by decide) (by decide) k) ?_
            refine own_ret X1 Bd.notSynchronized (some (.int (1 : Int32))) (fun h => by rw [Bd.returns] at h; cases h) (fun fs hr => retN X1 hx (t := .boolean) Bd.returns (by simp) (hb hby at_131) hr) ?_ (by decide) (by decide)
            show (own_Q0 Z j0 j1 j2 h0 n0) (some (.int (1 : Int32))) T1.heap _
            rw [eq1]
            exact ⟨rfl, NF⟩
          · refine own_go (T' := T1) (g' := (mkF m 132 #[.val (.long j0), .second, .val (.long j1), .second, .val (.long j2), .second, .val (.long A), .second, .val (.long B), .second, .val (.long Dd), .second, .val (.long g), .second] [])) (fun _ k => XS.ifYes X1.here hx rfl (pc0 := 113) (pc' := 132) rfl (hb hby at_113) rfl ((if0 _ _).trans (feq (fun h => c6 ((lw_eq (B - (B / Dd) * Dd) (0 : Int64)).mp h))).2) (by decide) (by decide) k) ?_
            refine own_go (T' := T1) (g' := (mkF m 133 #[.val (.long j0), .second, .val (.long j1), .second, .val (.long j2), .second, .val (.long A), .second, .val (.long B), .second, .val (.long Dd), .second, .val (.long g), .second] [(.int (1 : Int32))])) (fun _ k => XS.iconst X1.here hx rfl (hb hby at_132) k) ?_
            refine own_ret X1 Bd.notSynchronized (some (.int (1 : Int32))) (fun h => by rw [Bd.returns] at h; cases h) (fun fs hr => retN X1 hx (t := .boolean) Bd.returns (by simp) (hb hby at_133) hr) ?_ (by decide) (by decide)
            show (own_Q0 Z j0 j1 j2 h0 n0) (some (.int (1 : Int32))) T1.heap _
            rw [eq1]
            exact ⟨rfl, NF⟩
        · refine own_go (T' := T1) (g' := (mkF m 132 #[.val (.long j0), .second, .val (.long j1), .second, .val (.long j2), .second, .val (.long A), .second, .val (.long B), .second, .val (.long Dd), .second, .val (.long g), .second] [])) (fun _ k => XS.ifYes X1.here hx rfl (pc0 := 103) (pc' := 132) rfl (hb hby at_103) rfl ((if0 _ _).trans (feq (fun h => c5 ((lw_eq (A - (A / Dd) * Dd) (0 : Int64)).mp h))).2) (by decide) (by decide) k) ?_
          refine own_go (T' := T1) (g' := (mkF m 133 #[.val (.long j0), .second, .val (.long j1), .second, .val (.long j2), .second, .val (.long A), .second, .val (.long B), .second, .val (.long Dd), .second, .val (.long g), .second] [(.int (1 : Int32))])) (fun _ k => XS.iconst X1.here hx rfl (hb hby at_132) k) ?_
          refine own_ret X1 Bd.notSynchronized (some (.int (1 : Int32))) (fun h => by rw [Bd.returns] at h; cases h) (fun fs hr => retN X1 hx (t := .boolean) Bd.returns (by simp) (hb hby at_133) hr) ?_ (by decide) (by decide)
          show (own_Q0 Z j0 j1 j2 h0 n0) (some (.int (1 : Int32))) T1.heap _
          rw [eq1]
          exact ⟨rfl, NF⟩
  · refine own_go (T' := T1) (g' := (mkF m 58 #[.val (.long j0), .second, .val (.long j1), .second, .val (.long j2), .second, .val (.long A), .second, .val (.long B), .second, .val (.long Dd), .second, .val (.long g), .second] [])) (fun _ k => XS.ifYes X1.here hx rfl (pc0 := 35) (pc' := 58) rfl (hb hby at_35) rfl ((if0 _ _).trans (feq (fun h => c2 ((lw_eq A (0 : Int64)).mp h))).2) (by decide) (by decide) k) ?_
    refine own_go (T' := T1) (g' := (mkF m 60 #[.val (.long j0), .second, .val (.long j1), .second, .val (.long j2), .second, .val (.long A), .second, .val (.long B), .second, .val (.long Dd), .second, .val (.long g), .second] [(.long g)])) (fun _ k => XS.lload X1.here hx rfl (hb hby at_58) rfl k) ?_
    refine own_go (T' := T1) (g' := (mkF m 61 #[.val (.long j0), .second, .val (.long j1), .second, .val (.long j2), .second, .val (.long A), .second, .val (.long B), .second, .val (.long Dd), .second, .val (.long g), .second] [(.long (0 : Int64)), (.long g)])) (fun _ k => XS.lconst X1.here hx rfl (hb hby at_60) k) ?_
    refine own_go (T' := T1) (g' := (mkF m 62 #[.val (.long j0), .second, .val (.long j1), .second, .val (.long j2), .second, .val (.long A), .second, .val (.long B), .second, .val (.long Dd), .second, .val (.long g), .second] [(.int (lcmpW g (0 : Int64)))])) (fun _ k => XS.lcmp X1.here hx rfl (hb hby at_61) rfl k) ?_
    have hgp : (0 : Int64) < g := own_gpos A B g hA hB hg0 hg (fun q => c2 q.1)
    have hgn : g ≠ 0 := fun q => by subst q; exact absurd hgp (by decide)
    have hgd := own_gdvd A B g hA hB hg0 hg
    refine own_go (T' := T1) (g' := (mkF m 67 #[.val (.long j0), .second, .val (.long j1), .second, .val (.long j2), .second, .val (.long A), .second, .val (.long B), .second, .val (.long Dd), .second, .val (.long g), .second] [])) (fun _ k => XS.ifYes X1.here hx rfl (pc0 := 62) (pc' := 67) rfl (hb hby at_62) rfl ((if0 _ _).trans (tlt ((lw_gt g (0 : Int64)).mpr hgp)).2.2.1) (by decide) (by decide) k) ?_
    refine own_go (T' := T1) (g' := (mkF m 69 #[.val (.long j0), .second, .val (.long j1), .second, .val (.long j2), .second, .val (.long A), .second, .val (.long B), .second, .val (.long Dd), .second, .val (.long g), .second] [(.long A)])) (fun _ k => XS.lload X1.here hx rfl (hb hby at_67) rfl k) ?_
    refine own_go (T' := T1) (g' := (mkF m 71 #[.val (.long j0), .second, .val (.long j1), .second, .val (.long j2), .second, .val (.long A), .second, .val (.long B), .second, .val (.long Dd), .second, .val (.long g), .second] [(.long g), (.long A)])) (fun _ k => XS.lload X1.here hx rfl (hb hby at_69) rfl k) ?_
    refine own_go (T' := T1) (g' := (mkF m 72 #[.val (.long j0), .second, .val (.long j1), .second, .val (.long j2), .second, .val (.long A), .second, .val (.long B), .second, .val (.long Dd), .second, .val (.long g), .second] [(.long (A - (A / g) * g))])) (fun _ k => XS.lrem X1.here hx rfl (hb hby at_71) rfl hgn k) ?_
    refine own_go (T' := T1) (g' := (mkF m 73 #[.val (.long j0), .second, .val (.long j1), .second, .val (.long j2), .second, .val (.long A), .second, .val (.long B), .second, .val (.long Dd), .second, .val (.long g), .second] [(.long (0 : Int64)), (.long (A - (A / g) * g))])) (fun _ k => XS.lconst X1.here hx rfl (hb hby at_72) k) ?_
    refine own_go (T' := T1) (g' := (mkF m 74 #[.val (.long j0), .second, .val (.long j1), .second, .val (.long j2), .second, .val (.long A), .second, .val (.long B), .second, .val (.long Dd), .second, .val (.long g), .second] [(.int (lcmpW (A - (A / g) * g) (0 : Int64)))])) (fun _ k => XS.lcmp X1.here hx rfl (hb hby at_73) rfl k) ?_
    refine own_go (T' := T1) (g' := (mkF m 77 #[.val (.long j0), .second, .val (.long j1), .second, .val (.long j2), .second, .val (.long A), .second, .val (.long B), .second, .val (.long Dd), .second, .val (.long g), .second] [])) (fun _ k => XS.ifNo X1.here hx rfl (hb hby at_74) rfl ((if0 _ _).trans (teq ((lw_eq (A - (A / g) * g) (0 : Int64)).mpr hgd.1)).2) k) ?_
    refine own_go (T' := T1) (g' := (mkF m 79 #[.val (.long j0), .second, .val (.long j1), .second, .val (.long j2), .second, .val (.long A), .second, .val (.long B), .second, .val (.long Dd), .second, .val (.long g), .second] [(.long B)])) (fun _ k => XS.lload X1.here hx rfl (hb hby at_77) rfl k) ?_
    refine own_go (T' := T1) (g' := (mkF m 81 #[.val (.long j0), .second, .val (.long j1), .second, .val (.long j2), .second, .val (.long A), .second, .val (.long B), .second, .val (.long Dd), .second, .val (.long g), .second] [(.long g), (.long B)])) (fun _ k => XS.lload X1.here hx rfl (hb hby at_79) rfl k) ?_
    refine own_go (T' := T1) (g' := (mkF m 82 #[.val (.long j0), .second, .val (.long j1), .second, .val (.long j2), .second, .val (.long A), .second, .val (.long B), .second, .val (.long Dd), .second, .val (.long g), .second] [(.long (B - (B / g) * g))])) (fun _ k => XS.lrem X1.here hx rfl (hb hby at_81) rfl hgn k) ?_
    refine own_go (T' := T1) (g' := (mkF m 83 #[.val (.long j0), .second, .val (.long j1), .second, .val (.long j2), .second, .val (.long A), .second, .val (.long B), .second, .val (.long Dd), .second, .val (.long g), .second] [(.long (0 : Int64)), (.long (B - (B / g) * g))])) (fun _ k => XS.lconst X1.here hx rfl (hb hby at_82) k) ?_
    refine own_go (T' := T1) (g' := (mkF m 84 #[.val (.long j0), .second, .val (.long j1), .second, .val (.long j2), .second, .val (.long A), .second, .val (.long B), .second, .val (.long Dd), .second, .val (.long g), .second] [(.int (lcmpW (B - (B / g) * g) (0 : Int64)))])) (fun _ k => XS.lcmp X1.here hx rfl (hb hby at_83) rfl k) ?_
    refine own_go (T' := T1) (g' := (mkF m 89 #[.val (.long j0), .second, .val (.long j1), .second, .val (.long j2), .second, .val (.long A), .second, .val (.long B), .second, .val (.long Dd), .second, .val (.long g), .second] [])) (fun _ k => XS.ifYes X1.here hx rfl (pc0 := 84) (pc' := 89) rfl (hb hby at_84) rfl ((if0 _ _).trans (teq ((lw_eq (B - (B / g) * g) (0 : Int64)).mpr hgd.2)).1) (by decide) (by decide) k) ?_
    refine own_go (T' := T1) (g' := (mkF m 91 #[.val (.long j0), .second, .val (.long j1), .second, .val (.long j2), .second, .val (.long A), .second, .val (.long B), .second, .val (.long Dd), .second, .val (.long g), .second] [(.long Dd)])) (fun _ k => XS.lload X1.here hx rfl (hb hby at_89) rfl k) ?_
    refine own_go (T' := T1) (g' := (mkF m 92 #[.val (.long j0), .second, .val (.long j1), .second, .val (.long j2), .second, .val (.long A), .second, .val (.long B), .second, .val (.long Dd), .second, .val (.long g), .second] [(.long (1 : Int64)), (.long Dd)])) (fun _ k => XS.lconst X1.here hx rfl (hb hby at_91) k) ?_
    refine own_go (T' := T1) (g' := (mkF m 93 #[.val (.long j0), .second, .val (.long j1), .second, .val (.long j2), .second, .val (.long A), .second, .val (.long B), .second, .val (.long Dd), .second, .val (.long g), .second] [(.int (lcmpW Dd (1 : Int64)))])) (fun _ k => XS.lcmp X1.here hx rfl (hb hby at_92) rfl k) ?_
    by_cases c7 : Dd < (1 : Int64)
    · refine own_go (T' := T1) (g' := (mkF m 132 #[.val (.long j0), .second, .val (.long j1), .second, .val (.long j2), .second, .val (.long A), .second, .val (.long B), .second, .val (.long Dd), .second, .val (.long g), .second] [])) (fun _ k => XS.ifYes X1.here hx rfl (pc0 := 93) (pc' := 132) rfl (hb hby at_93) rfl ((if0 _ _).trans (tlt ((lw_lt Dd (1 : Int64)).mpr c7)).1) (by decide) (by decide) k) ?_
      refine own_go (T' := T1) (g' := (mkF m 133 #[.val (.long j0), .second, .val (.long j1), .second, .val (.long j2), .second, .val (.long A), .second, .val (.long B), .second, .val (.long Dd), .second, .val (.long g), .second] [(.int (1 : Int32))])) (fun _ k => XS.iconst X1.here hx rfl (hb hby at_132) k) ?_
      refine own_ret X1 Bd.notSynchronized (some (.int (1 : Int32))) (fun h => by rw [Bd.returns] at h; cases h) (fun fs hr => retN X1 hx (t := .boolean) Bd.returns (by simp) (hb hby at_133) hr) ?_ (by decide) (by decide)
      show (own_Q0 Z j0 j1 j2 h0 n0) (some (.int (1 : Int32))) T1.heap _
      rw [eq1]
      exact ⟨rfl, NF⟩
    · refine own_go (T' := T1) (g' := (mkF m 96 #[.val (.long j0), .second, .val (.long j1), .second, .val (.long j2), .second, .val (.long A), .second, .val (.long B), .second, .val (.long Dd), .second, .val (.long g), .second] [])) (fun _ k => XS.ifNo X1.here hx rfl (hb hby at_93) rfl ((if0 _ _).trans (flt (fun h => c7 ((lw_lt Dd (1 : Int64)).mp h))).1) k) ?_
      have hdn : Dd ≠ 0 := fun q => by subst q; exact c7 (by decide)
      refine own_go (T' := T1) (g' := (mkF m 98 #[.val (.long j0), .second, .val (.long j1), .second, .val (.long j2), .second, .val (.long A), .second, .val (.long B), .second, .val (.long Dd), .second, .val (.long g), .second] [(.long A)])) (fun _ k => XS.lload X1.here hx rfl (hb hby at_96) rfl k) ?_
      refine own_go (T' := T1) (g' := (mkF m 100 #[.val (.long j0), .second, .val (.long j1), .second, .val (.long j2), .second, .val (.long A), .second, .val (.long B), .second, .val (.long Dd), .second, .val (.long g), .second] [(.long Dd), (.long A)])) (fun _ k => XS.lload X1.here hx rfl (hb hby at_98) rfl k) ?_
      refine own_go (T' := T1) (g' := (mkF m 101 #[.val (.long j0), .second, .val (.long j1), .second, .val (.long j2), .second, .val (.long A), .second, .val (.long B), .second, .val (.long Dd), .second, .val (.long g), .second] [(.long (A - (A / Dd) * Dd))])) (fun _ k => XS.lrem X1.here hx rfl (hb hby at_100) rfl hdn k) ?_
      refine own_go (T' := T1) (g' := (mkF m 102 #[.val (.long j0), .second, .val (.long j1), .second, .val (.long j2), .second, .val (.long A), .second, .val (.long B), .second, .val (.long Dd), .second, .val (.long g), .second] [(.long (0 : Int64)), (.long (A - (A / Dd) * Dd))])) (fun _ k => XS.lconst X1.here hx rfl (hb hby at_101) k) ?_
      refine own_go (T' := T1) (g' := (mkF m 103 #[.val (.long j0), .second, .val (.long j1), .second, .val (.long j2), .second, .val (.long A), .second, .val (.long B), .second, .val (.long Dd), .second, .val (.long g), .second] [(.int (lcmpW (A - (A / Dd) * Dd) (0 : Int64)))])) (fun _ k => XS.lcmp X1.here hx rfl (hb hby at_102) rfl k) ?_
      by_cases c8 : (A - (A / Dd) * Dd) = (0 : Int64)
      · refine own_go (T' := T1) (g' := (mkF m 106 #[.val (.long j0), .second, .val (.long j1), .second, .val (.long j2), .second, .val (.long A), .second, .val (.long B), .second, .val (.long Dd), .second, .val (.long g), .second] [])) (fun _ k => XS.ifNo X1.here hx rfl (hb hby at_103) rfl ((if0 _ _).trans (teq ((lw_eq (A - (A / Dd) * Dd) (0 : Int64)).mpr c8)).2) k) ?_
        refine own_go (T' := T1) (g' := (mkF m 108 #[.val (.long j0), .second, .val (.long j1), .second, .val (.long j2), .second, .val (.long A), .second, .val (.long B), .second, .val (.long Dd), .second, .val (.long g), .second] [(.long B)])) (fun _ k => XS.lload X1.here hx rfl (hb hby at_106) rfl k) ?_
        refine own_go (T' := T1) (g' := (mkF m 110 #[.val (.long j0), .second, .val (.long j1), .second, .val (.long j2), .second, .val (.long A), .second, .val (.long B), .second, .val (.long Dd), .second, .val (.long g), .second] [(.long Dd), (.long B)])) (fun _ k => XS.lload X1.here hx rfl (hb hby at_108) rfl k) ?_
        refine own_go (T' := T1) (g' := (mkF m 111 #[.val (.long j0), .second, .val (.long j1), .second, .val (.long j2), .second, .val (.long A), .second, .val (.long B), .second, .val (.long Dd), .second, .val (.long g), .second] [(.long (B - (B / Dd) * Dd))])) (fun _ k => XS.lrem X1.here hx rfl (hb hby at_110) rfl hdn k) ?_
        refine own_go (T' := T1) (g' := (mkF m 112 #[.val (.long j0), .second, .val (.long j1), .second, .val (.long j2), .second, .val (.long A), .second, .val (.long B), .second, .val (.long Dd), .second, .val (.long g), .second] [(.long (0 : Int64)), (.long (B - (B / Dd) * Dd))])) (fun _ k => XS.lconst X1.here hx rfl (hb hby at_111) k) ?_
        refine own_go (T' := T1) (g' := (mkF m 113 #[.val (.long j0), .second, .val (.long j1), .second, .val (.long j2), .second, .val (.long A), .second, .val (.long B), .second, .val (.long Dd), .second, .val (.long g), .second] [(.int (lcmpW (B - (B / Dd) * Dd) (0 : Int64)))])) (fun _ k => XS.lcmp X1.here hx rfl (hb hby at_112) rfl k) ?_
        by_cases c9 : (B - (B / Dd) * Dd) = (0 : Int64)
        · refine own_go (T' := T1) (g' := (mkF m 116 #[.val (.long j0), .second, .val (.long j1), .second, .val (.long j2), .second, .val (.long A), .second, .val (.long B), .second, .val (.long Dd), .second, .val (.long g), .second] [])) (fun _ k => XS.ifNo X1.here hx rfl (hb hby at_113) rfl ((if0 _ _).trans (teq ((lw_eq (B - (B / Dd) * Dd) (0 : Int64)).mpr c9)).2) k) ?_
          refine own_go (T' := T1) (g' := (mkF m 118 #[.val (.long j0), .second, .val (.long j1), .second, .val (.long j2), .second, .val (.long A), .second, .val (.long B), .second, .val (.long Dd), .second, .val (.long g), .second] [(.long g)])) (fun _ k => XS.lload X1.here hx rfl (hb hby at_116) rfl k) ?_
          refine own_go (T' := T1) (g' := (mkF m 120 #[.val (.long j0), .second, .val (.long j1), .second, .val (.long j2), .second, .val (.long A), .second, .val (.long B), .second, .val (.long Dd), .second, .val (.long g), .second] [(.long Dd), (.long g)])) (fun _ k => XS.lload X1.here hx rfl (hb hby at_118) rfl k) ?_
          refine own_go (T' := T1) (g' := (mkF m 121 #[.val (.long j0), .second, .val (.long j1), .second, .val (.long j2), .second, .val (.long A), .second, .val (.long B), .second, .val (.long Dd), .second, .val (.long g), .second] [(.long (g - (g / Dd) * Dd))])) (fun _ k => XS.lrem X1.here hx rfl (hb hby at_120) rfl hdn k) ?_
          refine own_go (T' := T1) (g' := (mkF m 122 #[.val (.long j0), .second, .val (.long j1), .second, .val (.long j2), .second, .val (.long A), .second, .val (.long B), .second, .val (.long Dd), .second, .val (.long g), .second] [(.long (0 : Int64)), (.long (g - (g / Dd) * Dd))])) (fun _ k => XS.lconst X1.here hx rfl (hb hby at_121) k) ?_
          refine own_go (T' := T1) (g' := (mkF m 123 #[.val (.long j0), .second, .val (.long j1), .second, .val (.long j2), .second, .val (.long A), .second, .val (.long B), .second, .val (.long Dd), .second, .val (.long g), .second] [(.int (lcmpW (g - (g / Dd) * Dd) (0 : Int64)))])) (fun _ k => XS.lcmp X1.here hx rfl (hb hby at_122) rfl k) ?_
          refine own_go (T' := T1) (g' := (mkF m 126 #[.val (.long j0), .second, .val (.long j1), .second, .val (.long j2), .second, .val (.long A), .second, .val (.long B), .second, .val (.long Dd), .second, .val (.long g), .second] [])) (fun _ k => XS.ifNo X1.here hx rfl (hb hby at_123) rfl ((if0 _ _).trans (teq ((lw_eq (g - (g / Dd) * Dd) (0 : Int64)).mpr (own_gcom A B g Dd hA hB hg0 hDd hg hdn c8 c9))).2) k) ?_
          refine own_go (T' := T1) (g' := (mkF m 127 #[.val (.long j0), .second, .val (.long j1), .second, .val (.long j2), .second, .val (.long A), .second, .val (.long B), .second, .val (.long Dd), .second, .val (.long g), .second] [(.int (1 : Int32))])) (fun _ k => XS.iconst X1.here hx rfl (hb hby at_126) k) ?_
          refine own_go (T' := T1) (g' := (mkF m 131 #[.val (.long j0), .second, .val (.long j1), .second, .val (.long j2), .second, .val (.long A), .second, .val (.long B), .second, .val (.long Dd), .second, .val (.long g), .second] [(.int (1 : Int32))])) (fun _ k => XS.goto X1.here hx rfl (pc0 := 127) (pc' := 131) rfl (hb hby at_127) (by decide) (by decide) k) ?_
          refine own_ret X1 Bd.notSynchronized (some (.int (1 : Int32))) (fun h => by rw [Bd.returns] at h; cases h) (fun fs hr => retN X1 hx (t := .boolean) Bd.returns (by simp) (hb hby at_131) hr) ?_ (by decide) (by decide)
          show (own_Q0 Z j0 j1 j2 h0 n0) (some (.int (1 : Int32))) T1.heap _
          rw [eq1]
          exact ⟨rfl, NF⟩
        · refine own_go (T' := T1) (g' := (mkF m 132 #[.val (.long j0), .second, .val (.long j1), .second, .val (.long j2), .second, .val (.long A), .second, .val (.long B), .second, .val (.long Dd), .second, .val (.long g), .second] [])) (fun _ k => XS.ifYes X1.here hx rfl (pc0 := 113) (pc' := 132) rfl (hb hby at_113) rfl ((if0 _ _).trans (feq (fun h => c9 ((lw_eq (B - (B / Dd) * Dd) (0 : Int64)).mp h))).2) (by decide) (by decide) k) ?_
          refine own_go (T' := T1) (g' := (mkF m 133 #[.val (.long j0), .second, .val (.long j1), .second, .val (.long j2), .second, .val (.long A), .second, .val (.long B), .second, .val (.long Dd), .second, .val (.long g), .second] [(.int (1 : Int32))])) (fun _ k => XS.iconst X1.here hx rfl (hb hby at_132) k) ?_
          refine own_ret X1 Bd.notSynchronized (some (.int (1 : Int32))) (fun h => by rw [Bd.returns] at h; cases h) (fun fs hr => retN X1 hx (t := .boolean) Bd.returns (by simp) (hb hby at_133) hr) ?_ (by decide) (by decide)
          show (own_Q0 Z j0 j1 j2 h0 n0) (some (.int (1 : Int32))) T1.heap _
          rw [eq1]
          exact ⟨rfl, NF⟩
      · refine own_go (T' := T1) (g' := (mkF m 132 #[.val (.long j0), .second, .val (.long j1), .second, .val (.long j2), .second, .val (.long A), .second, .val (.long B), .second, .val (.long Dd), .second, .val (.long g), .second] [])) (fun _ k => XS.ifYes X1.here hx rfl (pc0 := 103) (pc' := 132) rfl (hb hby at_103) rfl ((if0 _ _).trans (feq (fun h => c8 ((lw_eq (A - (A / Dd) * Dd) (0 : Int64)).mp h))).2) (by decide) (by decide) k) ?_
        refine own_go (T' := T1) (g' := (mkF m 133 #[.val (.long j0), .second, .val (.long j1), .second, .val (.long j2), .second, .val (.long A), .second, .val (.long B), .second, .val (.long Dd), .second, .val (.long g), .second] [(.int (1 : Int32))])) (fun _ k => XS.iconst X1.here hx rfl (hb hby at_132) k) ?_
        refine own_ret X1 Bd.notSynchronized (some (.int (1 : Int32))) (fun h => by rw [Bd.returns] at h; cases h) (fun fs hr => retN X1 hx (t := .boolean) Bd.returns (by simp) (hb hby at_133) hr) ?_ (by decide) (by decide)
        show (own_Q0 Z j0 j1 j2 h0 n0) (some (.int (1 : Int32))) T1.heap _
        rw [eq1]
        exact ⟨rfl, NF⟩
set_option maxRecDepth 65536 in
set_option maxHeartbeats 40000000 in
theorem own_comes {Post : Tables → Env → Array Value → State → Outcome → State → Prop} (hpost : ∀ tb e args s v u, (limb_1_1.after args s (.returned v) u = true ∧ limb_1_2.after args s (.returned v) u = true ∧ True) → FrameEnd s (.returned v) u (Jvm.fieldLocs frame_1_writes args s ++ Jvm.arrayLocs frame_1_arrays args s ++ Jvm.staticLocs frame_1_statics s) 0 0 → Post tb e args s (.returned v) u) :
    ArmFor flags0 classFile x code maxLocals ret World_1 tables_1 room_1 Calls_1 rest_1 Pre_1 Post := by
  intro l hfl _ _ p e ha hc hk s m args below hf hA hF happ hP
  obtain ⟨hcalls, hrest, hpre⟩ := hP
  obtain ⟨-, -, -, hnamed, -, -, -, hat⟩ := (Spec.applies_iff hf).mp happ
  obtain ⟨hg, hn⟩ := and_e (Cond.before_iff.mp (show (Jvm.Cond.and given_1 narrow_1).before args s = true from hpre))
  obtain ⟨gg1, gg2⟩ := and_e hg
  obtain ⟨gg3, gg4⟩ := and_e gg2
  obtain ⟨gg5, gg6⟩ := and_e gg4
  obtain ⟨w0, w1, w2, rfl⟩ : ∃ w0 w1 w2 : Value, args = #[w0, w1, w2] := by
    have hs : args.size = 3 := by simpa [Cond.value, given_1] using gg1
    obtain ⟨L⟩ := args
    match L, hs with
    | [w0, w1, w2], _ => exact ⟨w0, w1, w2, rfl⟩
  have hw := fun d (hd : d ∈ tables_1) => atoms_spec (ws := Jvm.Cond.code x code maxLocals ret :: tables_1) hat d (List.mem_cons_of_mem _ hd)
  have hfit : Fit s := fun {y c} hc i hi => by
    obtain ⟨ha, rfl⟩ := Array.getElem?_eq_some_iff.mp hc
    have q := List.all_eq_true.mp ((Array.all_eq_true_iff_forall_mem.mp hF) _ (Array.getElem_mem ha)) i (List.mem_range.mpr hi)
    simpa [Array.getElem?_eq_getElem hi] using q
  obtain ⟨i0, ei0⟩ := isL_v gg3
  obtain rfl : w0 = (.long i0) := Option.some.inj ei0
  obtain ⟨i1, ei1⟩ := isL_v gg5
  obtain rfl : w1 = (.long i1) := Option.some.inj ei1
  obtain ⟨i2, ei2⟩ := isL_v gg6
  obtain rfl : w2 = (.long i2) := Option.some.inj ei2
  obtain ⟨n, o, h1, h2, h3, _, L, rfl, ⟨rfl, N⟩, hq⟩ := own_rm0 l s _ hw tables_1 i0 i1 i2 s.heap s.heap.size (Nat.le_refl _)  p e ha hc hk s m _ below hf ((Spec.applies_iff_loose hf).mp happ).1 ⟨rfl, State.Warmed39.refl s, rfl⟩ trivial
  refine ⟨n, _, h1, h2, h3, hpost _ _ _ _ _ _ ⟨Cond.after_iff.mpr rfl, Cond.after_iff.mpr (eq_i res_at (Term.int_eval (1)) rfl), trivial⟩ ⟨hq.1, hq.2.1, (hq.2.2.sift fun y hy => Or.inr (N y hy)).mono (by decide) (by decide)⟩⟩
theorem main_1_1 : Claimed_1_1 := own_comes fun _ _ _ _ _ _ h hF => ⟨h.1, hF⟩
theorem main_1_2 : Claimed_1_2 := own_comes fun _ _ _ _ _ _ h hF => ⟨h.2.1, hF⟩
end Jvm.Pilot.@@N@@
namespace Jvm.Pilot.@@N@@
open Jvm Jvm.ClassFile Sem Op Lib Jvm.Free Jvm.Stand Jvm.Pilot.@@N@@.Jvm.D
/-! MADE BY PROGRAM (witnessworld.py) out of the Statement's table words and the real class files: 9 classes; the members and pool entries that the words name. The judged class is class 1, her method 1. -/
namespace start1
open Jvm.ClassFile
def u (s : String) : CpInfo := .utf8 (stringToUtf16 s)
/-- a pool by its gaps: so many unusable entries, then the entry; so many at the end -/
def gap : Nat → List CpInfo → List CpInfo
  | 0, r => r
  | n + 1, r => .unusable :: gap n r
def poolList (es : List (Nat × CpInfo)) (last : Nat) : List CpInfo := es.foldr (fun e r => gap e.1 (e.2 :: r)) (gap last [])
def pool (es : List (Nat × CpInfo)) (last : Nat) : Array CpInfo := ⟨poolList es last⟩
def fileOf (pool : Array CpInfo) (this : Nat) (attrs : Array Attribute := #[]) (ms : Array MethodInfo := #[]) (fl : Nat := 33) (sup : Nat := 0) (ifs : Array Nat := #[]) (fds : Array FieldInfo := #[]) : ClassFile where
  minorVersion := 0
  majorVersion := 65
  constantPool := pool
  accessFlags := fl
  thisClass := this
  superClass := sup
  interfaces := ifs
  fields := fds
  methods := ms
  attributes := attrs
def plain (name : String) (sup : Option ClassId) : Class where
  name := name
  kind := .ordinary
  loader := none
  accessFlags := 33
  super := sup
  interfaces := #[]
  cf := none
  fields := #[]
  methods := #[]
  instanceTypes := #[]
  staticTypes := #[]
  resolved := #[]
  callSites := []
  init := .initialized
  statics := none
  mirror := none

def pool0 : Array CpInfo := pool [(5, u "<init>"), (0, u "()V"), (1, .class_ 10), (1, u "java/lang/Object")] 113

def k0m0 : Method := { name := "<init>", desc := "()V", sig := { parameters := [], returnType := none }, accessFlags := 1, code := none }
/-- java/lang/Object -/
def k0 : Class := { plain "java/lang/Object" none with
  accessFlags := 33
  interfaces := #[]
  cf := some (fileOf pool0 8 #[] #[{ accessFlags := 1, nameIndex := 5, descriptorIndex := 6, attributes := #[] }] 33 0 #[] #[])
  fields := #[]
  methods := #[k0m0]
  instanceTypes := #[]
  staticTypes := #[]
  resolved := Array.replicate 124 none
  statics := none }

def pool1 : Array CpInfo := pool [(2, .class_ 4), (1, u "java/lang/Object"), (0, u "<init>"), (0, u "()V"), (2, .long 9223372036854775807), (1, .methodref 12 13), (0, .class_ 14), (0, .nameAndType 15 16), (0, u "com/example/ordence/ordence/LinearComparisonEncoder"), (0, u "gcd"), (0, u "(JJ)J"), (0, .class_ 18), (0, u "com/example/ordence/ordence/LinearComparisonEncoderGcdPinLaw"), (2, u "law"), (0, u "(JJJ)Z")] 3

def k1m0 : Method := { name := "<init>", desc := "()V", sig := { parameters := [], returnType := none }, accessFlags := 2, code := none }
def k1c1 : Code := { maxStack := 4, maxLocals := 14, code := code, exceptionTable := #[], attributes := #[] }
def k1m1 : Method := { name := "law", desc := "(JJJ)Z", sig := { parameters := [.long, .long, .long], returnType := some .boolean }, accessFlags := 9, code := some k1c1 }
/-- com/example/ordence/ordence/LinearComparisonEncoderGcdPinLaw -/
def k1 : Class := { plain "com/example/ordence/ordence/LinearComparisonEncoderGcdPinLaw" (some 0) with
  accessFlags := 49
  interfaces := #[]
  cf := some (fileOf pool1 17 #[] #[{ accessFlags := 2, nameIndex := 5, descriptorIndex := 6, attributes := #[] }, { accessFlags := 9, nameIndex := 21, descriptorIndex := 22, attributes := #[] }] 49 2 #[] #[])
  fields := #[]
  methods := #[k1m0, k1m1]
  instanceTypes := #[]
  staticTypes := #[]
  resolved := Array.replicate 26 none
  statics := none }

def pool2 : Array CpInfo := pool [(2, .class_ 4), (1, u "java/lang/Object"), (3, .class_ 10), (1, u "com/example/ordence/ordence/LinearComparisonEncoder"), (0, u "coefficients"), (0, u "[J"), (2, u "variables"), (0, u "[Lcom/example/ordence/ordence/IntOrderEncoding;"), (2, u "sink"), (0, u "Ljava/util/function/Consumer;"), (2, u "left"), (0, u "J"), (2, u "literals"), (0, u "[I"), (2, u "minSum"), (2, u "maxSum"), (14, u "(JJ)J"), (30, u "gcd")] 134

def k2c0 : Code := { maxStack := 4, maxLocals := 10, code := prog_78_method_9_code, exceptionTable := #[], attributes := #[] }
def k2m0 : Method := { name := "gcd", desc := "(JJ)J", sig := { parameters := [.long, .long], returnType := some .long }, accessFlags := 8, code := some k2c0 }
/-- com/example/ordence/ordence/LinearComparisonEncoder -/
def k2 : Class := { plain "com/example/ordence/ordence/LinearComparisonEncoder" (some 0) with
  accessFlags := 48
  interfaces := #[]
  cf := some (fileOf pool2 8 #[] #[{ accessFlags := 8, nameIndex := 80, descriptorIndex := 49, attributes := #[] }] 48 2 #[] #[{ accessFlags := 18, nameIndex := 11, descriptorIndex := 12, attributes := #[] }, { accessFlags := 18, nameIndex := 15, descriptorIndex := 16, attributes := #[] }, { accessFlags := 18, nameIndex := 31, descriptorIndex := 12, attributes := #[] }, { accessFlags := 18, nameIndex := 34, descriptorIndex := 12, attributes := #[] }, { accessFlags := 18, nameIndex := 27, descriptorIndex := 28, attributes := #[] }, { accessFlags := 18, nameIndex := 19, descriptorIndex := 20, attributes := #[] }, { accessFlags := 2, nameIndex := 23, descriptorIndex := 24, attributes := #[] }])
  fields := #[{ name := "coefficients", type := (.array .long), accessFlags := 18, slot := 0, constantValue := 0 }, { name := "variables", type := (.array (.object "com/example/ordence/ordence/IntOrderEncoding")), accessFlags := 18, slot := 1, constantValue := 0 }, { name := "minSum", type := (.array .long), accessFlags := 18, slot := 2, constantValue := 0 }, { name := "maxSum", type := (.array .long), accessFlags := 18, slot := 3, constantValue := 0 }, { name := "literals", type := (.array .int), accessFlags := 18, slot := 4, constantValue := 0 }, { name := "sink", type := (.object "java/util/function/Consumer"), accessFlags := 18, slot := 5, constantValue := 0 }, { name := "left", type := .long, accessFlags := 2, slot := 6, constantValue := 0 }]
  methods := #[k2m0]
  instanceTypes := #[(.array .long), (.array (.object "com/example/ordence/ordence/IntOrderEncoding")), (.array .long), (.array .long), (.array .int), (.object "java/util/function/Consumer"), .long]
  staticTypes := #[]
  resolved := Array.replicate 215 none
  statics := none }

def pool3 : Array CpInfo := pool [(1, u "java/lang/Cloneable"), (0, .class_ 1), (0, u "java/lang/Object"), (0, .class_ 3)] 3

/-- java/lang/Cloneable -/
def k3 : Class := { plain "java/lang/Cloneable" (some 0) with
  accessFlags := 1537
  interfaces := #[]
  cf := some (fileOf pool3 2 #[] #[] 1537 4 #[] #[])
  fields := #[]
  methods := #[]
  instanceTypes := #[]
  staticTypes := #[]
  resolved := Array.replicate 8 none
  statics := none }

def pool4 : Array CpInfo := pool [(1, u "java/io/Serializable"), (0, .class_ 1), (0, u "java/lang/Object"), (0, .class_ 3)] 3

/-- java/io/Serializable -/
def k4 : Class := { plain "java/io/Serializable" (some 0) with
  accessFlags := 1537
  interfaces := #[]
  cf := some (fileOf pool4 2 #[] #[] 1537 4 #[] #[])
  fields := #[]
  methods := #[]
  instanceTypes := #[]
  staticTypes := #[]
  resolved := Array.replicate 8 none
  statics := none }

/-- the primitive byte -/
def k5 : Class := { plain "byte" none with kind := .primitive 'B', accessFlags := 0x411 }
/-- [B -/
def k6 : Class := { plain "[B" (some 0) with kind := .array 5 .byte, interfaces := #[3, 4], accessFlags := 1041 }

/-- the primitive int -/
def k7 : Class := { plain "int" none with kind := .primitive 'I', accessFlags := 0x411 }
/-- [I -/
def k8 : Class := { plain "[I" (some 0) with kind := .array 7 .int, interfaces := #[3, 4], accessFlags := 1041 }

def heap : Heap := #[]
def classes : Array Class := #[k0, k1, k2, k3, k4, k5, k6, k7, k8]
def interned : List (Array UInt16 × Addr) := []
def slotsUsed : Nat := 0
def theMethod : MethodId := ⟨1, 1⟩
def args0 : Array Value := #[.long 12, .long 18, .long 3]
def aboutOver (below : List Frame) : State where
  vm := { classes := classes, interned := interned.toArray }
  heap := heap
  slotsUsed := slotsUsed
  threads := #[{ frames := .invoking theMethod args0 :: below }]
def below0 : List Frame := [.native { method := ⟨0, 0⟩, args := #[] }]
def about1 : State := aboutOver below0
def p0 : Program := .bare "" "" ""
def e0 : Env := launch0.env 0 0 0
theorem w_frames : about1.frames = Frame.invoking theMethod args0 :: below0 := rfl
set_option maxRecDepth 65536 in
theorem w_args : argsFit about1.vm theMethod args0 = true := by decide +kernel
set_option maxRecDepth 65536 in
theorem w_heap : heapFits about1 = true := by decide +kernel
set_option maxRecDepth 65536 in
theorem w_runnable : about1.curStatus? = some .runnable := by decide +kernel
set_option maxRecDepth 65536 in
theorem w_alone : about1.alone = true := by decide +kernel
set_option maxRecDepth 65536 in
theorem w_named : about1.methodNamed? x = some theMethod := by decide +kernel
set_option maxRecDepth 65536 in
theorem w_hears : about1.hears theMethod below0 = true := by decide +kernel
set_option maxRecDepth 65536 in
theorem w_ripe : about1.ripe theMethod args0 below0 = true := by decide +kernel
theorem w_running : about1.status = .running := rfl
set_option maxRecDepth 65536 in
theorem w_room : about1.hasRoom e0.platform room_1 = true :=
  launch0.hasRoom_least _ room_1 (by decide +kernel) (by decide +kernel) (by decide +kernel) (by decide +kernel) (by decide +kernel) (by decide +kernel)
theorem allAtoms_all (ts : List Jvm.Cond) (a : Array Jvm.Value) (st : Jvm.State) : (allAtoms ts).before a st = ts.all (fun c => c.before a st) := by
  induction ts with
  | nil => rfl
  | cons c t ih =>
    show (Jvm.Cond.and c (allAtoms t)).before a st = _
    rw [Jvm.Cond.before_and, ih, List.all_cons]
def words1 : List Jvm.Cond := Jvm.Cond.code x code maxLocals ret :: tables_1
/-- a 'code' word, met by the world's own term for the bytes: nothing is compared byte by byte -/
theorem code_word {y : MethodName} {bytes : ByteArray} {mx : Nat} {rt : Option FieldType} {a : Array Value} {s : State} {m : MethodId} {meth : Method} {c : Code} (h1 : s.methodNamed? y = some m) (h2 : s.vm.method? m = some meth) (h3 : meth.code = some c) (h4 : c.code = bytes)
    (h5 : (c.maxLocals == mx && c.exceptionTable.isEmpty && decide (c.maxStack ≤ mostOperands) && decide (meth.sig.returnType = rt) && !meth.locks && decide (parseMethodDescriptor y.desc = some meth.sig)) = true) : (Jvm.Cond.code y bytes mx rt).before a s = true := by
  simp only [Bool.and_eq_true, beq_iff_eq, Bool.not_eq_true', decide_eq_true_eq] at h5
  obtain ⟨⟨⟨⟨⟨g1, g2⟩, g3⟩, g4⟩, g5⟩, g6⟩ := h5
  simp [Cond.before, Cond.holds, Cond.value, h1, h2, h3, h4, g1, g2, g3, g4, g5, g6]
def isCode : Jvm.Cond → Bool
  | .code _ _ _ _ => true
  | _ => false
theorem all_split {L : List Jvm.Cond} {P : Jvm.Cond → Bool} (h1 : L.all (fun c => isCode c || P c) = true) (h2 : ∀ c ∈ L.filter isCode, P c = true) : L.all P = true := by
  refine List.all_eq_true.mpr fun c hc => ?_
  have h := List.all_eq_true.mp h1 c hc
  rcases Bool.eq_false_or_eq_true (isCode c) with hi | hi
  · exact h2 c (List.mem_filter.mpr ⟨hc, hi⟩)
  · simpa [hi] using h
set_option maxRecDepth 65536 in
theorem w_c0 : (Jvm.Cond.code x code maxLocals ret).before args0 about1 = true := code_word (m := ⟨1, 1⟩) (meth := k1m1) (c := k1c1) (by decide +kernel) rfl rfl rfl (by decide +kernel)
set_option maxRecDepth 65536 in
theorem w_c1 : (Jvm.Cond.code ({ cls := "com/example/ordence/ordence/LinearComparisonEncoder", name := "gcd", desc := "(JJ)J" } : Jvm.MethodName) prog_78_method_9_code (10 : Nat) (Option.some Jvm.ClassFile.FieldType.long)).before args0 about1 = true := code_word (m := ⟨2, 0⟩) (meth := k2m0) (c := k2c0) (by decide +kernel) rfl rfl rfl (by decide +kernel)
def codes1 : List Jvm.Cond := [Jvm.Cond.code x code maxLocals ret, Jvm.Cond.code ({ cls := "com/example/ordence/ordence/LinearComparisonEncoder", name := "gcd", desc := "(JJ)J" } : Jvm.MethodName) prog_78_method_9_code (10 : Nat) (Option.some Jvm.ClassFile.FieldType.long)]
set_option maxRecDepth 65536 in
theorem codes_eq : words1.filter isCode = codes1 := rfl
theorem w_codes : ∀ c ∈ words1.filter isCode, c.before args0 about1 = true := by
  rw [codes_eq]
  intro c hc
  simp only [codes1, List.mem_cons, List.not_mem_nil, or_false] at hc
  rcases hc with rfl | rfl
  · exact w_c0
  · exact w_c1
set_option maxRecDepth 65536 in
theorem w_t1 : words1.all (fun c => isCode c || c.before args0 about1) = true := by decide +kernel
theorem w_tables : (allAtoms (Jvm.Cond.code x code maxLocals ret :: tables_1)).before args0 about1 = true := by
  rw [allAtoms_all]
  show words1.all (fun c => c.before args0 about1) = true
  refine all_split ?_ w_codes
  rw [w_t1]
set_option maxRecDepth 65536 in
theorem w_case : (Jvm.Cond.and given_1 narrow_1).before args0 about1 = true := by decide +kernel
theorem w_applies : (headSpec (Jvm.Cond.code x code maxLocals ret :: tables_1) room_1).applies x e0.platform about1 = true :=
  (Spec.applies_iff w_frames).mpr ⟨w_running, w_runnable, w_alone, w_named, w_hears, w_ripe, w_room, w_tables⟩
theorem atStart : AtStart classFile x code maxLocals ret World_1 tables_1 room_1 Calls_1 rest_1 Pre_1 launch0 p0 e0 about1 theMethod args0 below0 :=
  ⟨lists_1, trivial, launch0.admits_env _ _ _, launch0.least_env, fairChoices_fair.cas, fairChoices_fair.clock, w_frames, w_args, w_heap, w_applies, trivial, trivial, w_case⟩
end start1
theorem witness_1 : WitnessClaimed_1 := ⟨start1.p0, start1.e0, start1.about1, start1.theMethod, start1.args0, start1.below0, start1.atStart⟩
end Jvm.Pilot.@@N@@
