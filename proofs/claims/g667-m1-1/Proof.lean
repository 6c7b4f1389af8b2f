import JvmDerived
import JvmDerived.Pilot.@@N@@Statement
import JvmDerived.Pilot.@@N@@Code
set_option linter.unusedVariables false
set_option linter.unusedSimpArgs false
namespace Jvm.RoadKit
open Sem ClassFile Op Lib Jvm.Stand Jvm.Free Jvm.LawKit
section New
variable {p : Program} {l : Launch} {e : Env} {R : Room} {s : State} {m : MethodId} {args : Array Value} {below : List Frame} {meth : Method} {c : Code} {T : State} {locs : List Loc} {cells slots : Nat}
theorem retI (X : Stand p l e R s m args below meth c T locs cells slots) (hx : p.tables.exec = Jvm.exec) {pc : Nat} {Ls : Array Slot} {z : Int32} {rest : List Value} (hret : meth.sig.returnType = some .int) (hd : decode c.code pc = .ok (.ireturn, 1)) {fs : List Frame}
    (hl : ∀ (f : JFrame) (acts : List Action), f.method = m → f.locked = none → f.entered = [] → (doReturn e (T.setTop f) acts (some (.int z))).1 = T.setFrames fs) : Steps p.tables e below (T.setTop (mkF m pc Ls (.int z :: rest))) (T.setFrames fs) := by
  have hm' : T.vm.method? m = some meth := X.method'
  have hn : narrow .int (.int z) = .int z := rfl
  show Steps p.tables e below (T.setTop { method := m, pc := pc, locals := Ls, stack := _ :: rest, locked := none }) _
  jvm_step X.here [X.here.top, hx, hd, hm', hret, hn]
  first | (intro acts; rw [hl _ acts rfl rfl rfl]) | rw [hl _ _ rfl rfl rfl]
  exact Steps.refl _
end New
end Jvm.RoadKit
namespace Jvm.Pilot.@@N@@
open Jvm Jvm.ClassFile Sem Op Lib Jvm.Free Jvm.Stand Jvm.LawKit Jvm.RoadKit Bundle Jvm.Pilot.@@N@@.Jvm.D
/-- from this frame the run comes to its end, and Q is said of what it leaves -/
def own_Dn (p : Program) (e : Env) (below : List Frame) (s : State) (Q : Option Value → Heap → List Loc → Prop) (k n : Nat) (T : State) (g : JFrame) : Prop :=
  ∃ s₂ o, Steps p.tables e below (T.setTop g) s₂ ∧ s₂.status = .running ∧ Ended s₂ below o ∧ ∃ v L, o = .returned v ∧ Q v s₂.heap L ∧ FrameEnd s o s₂ L k n
theorem own_go {p : Program} {e : Env} {below : List Frame} {s : State} {Q : Option Value → Heap → List Loc → Prop} {k n : Nat} {T T' : State} {g g' : JFrame}
    (h : ∀ t, Steps p.tables e below (T'.setTop g') t → Steps p.tables e below (T.setTop g) t) (d : own_Dn p e below s Q k n T' g') : own_Dn p e below s Q k n T g := by
  obtain ⟨s₂, o, h1, h2⟩ := d
  exact ⟨s₂, o, h _ h1, h2⟩
theorem own_as {p : Program} {e : Env} {below : List Frame} {s : State} {Q : Option Value → Heap → List Loc → Prop} {k n : Nat} {T : State} {g g' : JFrame}
    (h : g = g') (d : own_Dn p e below s Q k n T g') : own_Dn p e below s Q k n T g := h ▸ d
theorem own_ret {p : Program} {l : Launch} {e : Env} {R : Room} {s : State} {m : MethodId} {args : Array Value} {below : List Frame} {meth : Method} {c : Code} {T : State} {locs : List Loc} {cells slots : Nat}
    {Q : Option Value → Heap → List Loc → Prop} {k n : Nat} {g : JFrame} (X : Stand p l e R s m args below meth c T locs cells slots) (hlocks : meth.locks = false) (v : Option Value) (hv : meth.sig.returnType = none → v = none)
    (hr : ∀ fs : List Frame, (∀ (f : JFrame) (acts : List Action), f.method = m → f.locked = none → f.entered = [] → (doReturn e (T.setTop f) acts v).1 = T.setFrames fs) → Steps p.tables e below (T.setTop g) (T.setFrames fs))
    (hQ : Q v T.heap locs) (hk : cells ≤ k) (hn : slots ≤ n) : own_Dn p e below s Q k n T g := by
  obtain ⟨fs, h1, hrun, hended, hW, hsame⟩ := X.leave (v := v) hv hlocks
  exact ⟨_, _, hr fs h1, hrun, hended, _, _, rfl, hQ, ⟨_, rfl⟩, hW, hsame.mono hk hn⟩
theorem own_ln1 : (-1 : Int32).toInt = -1 := by decide
theorem own_l0 : (0 : Int32).toInt = 0 := by decide
theorem own_l1 : (1 : Int32).toInt = 1 := by decide
theorem own_l2 : (2 : Int32).toInt = 2 := by decide
theorem own_l3 : (3 : Int32).toInt = 3 := by decide
theorem own_l4 : (4 : Int32).toInt = 4 := by decide
theorem own_l5 : (5 : Int32).toInt = 5 := by decide
theorem own_l6 : (6 : Int32).toInt = 6 := by decide
theorem own_l7 : (7 : Int32).toInt = 7 := by decide
theorem own_l8 : (8 : Int32).toInt = 8 := by decide
theorem own_l9 : (9 : Int32).toInt = 9 := by decide
theorem own_l12 : (12 : Int32).toInt = 12 := by decide
theorem own_l32 : (32 : Int32).toInt = 32 := by decide
theorem own_L0 : (0 : Int64).toInt = 0 := by decide
theorem own_L1 : (1 : Int64).toInt = 1 := by decide
theorem own_L2 : (2 : Int64).toInt = 2 := by decide
theorem own_L3 : (3 : Int64).toInt = 3 := by decide
theorem own_L7 : (7 : Int64).toInt = 7 := by decide
def own_IA (Z : State) (h : Heap) (a : Addr) (z : Int32) (f : Nat → Int32) : Prop := ∃ c : Cell, Arr Z h a c .int ∧ c.slots.size = z.toNatClampNeg ∧ ¬ z < 0 ∧ ∀ j, j < c.slots.size → c.slots[j]? = some (.int (f j))
def own_up (f : Nat → Int32) (j : Nat) (v : Int32) : Nat → Int32 := fun i => if i = j then v else f i
theorem own_up_eq (f : Nat → Int32) (j : Nat) (v : Int32) : own_up f j v j = v := if_pos rfl
theorem own_up_ne (f : Nat → Int32) {i j : Nat} (v : Int32) (h : i ≠ j) : own_up f j v i = f i := if_neg h
theorem own_IA.lt {Z : State} {h : Heap} {a : Addr} {z : Int32} {f : Nat → Int32} (F : own_IA Z h a z f) : a < h.size := by obtain ⟨c, A, -⟩ := F; exact A.lt
theorem own_IA.ext {Z : State} {h h' : Heap} {a : Addr} {z : Int32} {f : Nat → Int32} (F : own_IA Z h a z f) (E : Ext h h') : own_IA Z h' a z f := by obtain ⟨c, A, r⟩ := F; exact ⟨c, A.ext E, r⟩
theorem own_IA.other {Z : State} {h h' : Heap} {a b : Addr} {z : Int32} {f : Nat → Int32} {sl : Nat} {v : Value} (F : own_IA Z h b z f) (W : Wr h h' a sl v) (q : b ≠ a) : own_IA Z h' b z f := by obtain ⟨c, A, r⟩ := F; exact ⟨c, A.other W q, r⟩
theorem own_IA.keep {Z : State} {h h' : Heap} {a : Addr} {z : Int32} {f : Nat → Int32} {ws : List Addr} (F : own_IA Z h a z f) (K : Keep h h' ws) (q : a ∉ ws) : own_IA Z h' a z f := by obtain ⟨c, A, r⟩ := F; exact ⟨c, ⟨K.2.1 a c A.1 q, A.2⟩, r⟩
theorem own_IA.new {Z : State} {h : Heap} {a : Addr} {k : ClassId} {z : Int32} (A : Arr Z h a (newA k .int z) .int) (q : ¬ z < 0) : own_IA Z h a z (fun _ => (0 : Int32)) :=
  by obtain ⟨c, A', -, S, N, H, -⟩ := Arv.new A q; exact ⟨c, A', S, N, fun j hj => by show c.slots[j]? = some (defaultValue .int); simpa using H j hj⟩
theorem own_IA.set {Z : State} {h h' : Heap} {a : Addr} {z j v : Int32} {f : Nat → Int32} {c : Cell} (A : Arr Z h a c .int) (S : c.slots.size = z.toNatClampNeg) (N : ¬ z < 0) (H : ∀ j, j < c.slots.size → c.slots[j]? = some (.int (f j))) (hj : ¬ (j < 0 ∨ c.slots.size ≤ j.toNatClampNeg)) (W : Wr h h' a j.toNatClampNeg (.int v)) : own_IA Z h' a z (own_up f j.toNatClampNeg v) := by
  refine ⟨_, A.same W, (sz_set _ _ _).trans S, N, fun i hi => ?_⟩
  rw [sz_set] at hi
  by_cases q : i = j.toNatClampNeg
  · subst q; rw [own_up_eq]; simp [Cell.setSlot, hi]
  · rw [own_up_ne _ _ q, ← H i hi]; exact Array.getElem?_setIfInBounds_ne (Ne.symm q)
theorem own_IA.same {Z : State} {h : Heap} {a : Addr} {z : Int32} {f g : Nat → Int32} (F : own_IA Z h a z f) (q : ∀ j, j < z.toNatClampNeg → f j = g j) : own_IA Z h a z g := by
  obtain ⟨c, A, S, N, H⟩ := F; exact ⟨c, A, S, N, fun j hj => by rw [← q j (S ▸ hj)]; exact H j hj⟩
def own_occ (f : Nat → Int32) : Nat → Int → Int
  | 0, _ => 0
  | n + 1, j => own_occ f n j + (if (f n).toInt = j then 1 else 0)
def own_cnt (f : Nat → Int32) : Nat → Int → Int
  | 0, _ => 0
  | n + 1, j => own_cnt f n j + (if (f n).toInt < j then 1 else 0)
theorem own_occ_b (f : Nat → Int32) (n : Nat) (j : Int) : 0 ≤ own_occ f n j ∧ own_occ f n j ≤ n := by
  induction n with
  | zero => simp [own_occ]
  | succ n ih => simp only [own_occ]; split <;> omega
theorem own_cnt_b (f : Nat → Int32) (n : Nat) (j : Int) : 0 ≤ own_cnt f n j ∧ own_cnt f n j ≤ n := by
  induction n with
  | zero => simp [own_cnt]
  | succ n ih => simp only [own_cnt]; split <;> omega
theorem own_cnt_s (f : Nat → Int32) (n : Nat) (j : Int) : own_cnt f n (j + 1) = own_cnt f n j + own_occ f n j := by
  induction n with
  | zero => simp [own_cnt, own_occ]
  | succ n ih => simp only [own_cnt, own_occ]; split <;> split <;> split <;> omega
theorem own_cnt_0 (f : Nat → Int32) (n : Nat) (h : ∀ i, i < n → 0 ≤ (f i).toInt) : own_cnt f n 0 = 0 := by
  induction n with
  | zero => rfl
  | succ n ih => simp only [own_cnt]; rw [ih (fun i hi => h i (by omega)), if_neg (by have := h n (by omega); omega)]; rfl
def own_P1 (fn : Nat → Int32) (i N : Nat) (f : Nat → Int32) : Prop := ∀ j : Nat, j ≤ N → (f j).toInt = if j = 0 then 0 else own_occ fn i ((j : Int) - 1)
def own_P2 (fn : Nat → Int32) (sz t N : Nat) (f : Nat → Int32) : Prop := ∀ j : Nat, j ≤ N → (f j).toInt = if j ≤ t then own_cnt fn sz (j : Int) else own_occ fn sz ((j : Int) - 1)
theorem own_P10 (fn : Nat → Int32) (N : Nat) : own_P1 fn 0 N (fun _ => (0 : Int32)) := fun j hj => by
  by_cases j0 : j = 0
  · rw [if_pos j0]; rfl
  · rw [if_neg j0]; rfl
theorem own_add1 (x : Int32) (h : 0 ≤ x.toInt ∧ x.toInt ≤ 1000) : (x + (1 : Int32)).toInt = x.toInt + 1 := by
  have f1 := c_iadd x (1 : Int32)
  have r1 := rng32 (x + (1 : Int32))
  have e : (1 : Int32).toInt = 1 := by decide
  rw [e] at f1
  omega
theorem own_add2 (x y : Int32) (h : 0 ≤ x.toInt ∧ x.toInt ≤ 1000 ∧ 0 ≤ y.toInt ∧ y.toInt ≤ 1000) : (x + y).toInt = x.toInt + y.toInt := by
  have f1 := c_iadd x y
  have r1 := rng32 (x + y)
  omega
theorem own_nat (x : Int32) (h : 0 ≤ x.toInt) : ((x.toNatClampNeg : Nat) : Int) = x.toInt := by
  have : ¬ x < 0 := by rw [Int32.lt_iff_toInt_lt]; have e : (0 : Int32).toInt = 0 := by decide
                       omega
  exact (nat_of this).symm
theorem own_step1 (fn f : Nat → Int32) (i N : Nat) (hi : i < 1000) (h : own_P1 fn i N f) (x : Int32) (hx : x = fn i) (h0 : 0 ≤ x.toInt ∧ x.toInt < N) (hN : N ≤ 100) : own_P1 fn (i + 1) N (own_up f (x + (1 : Int32)).toNatClampNeg (f (x + (1 : Int32)).toNatClampNeg + (1 : Int32))) := by
  have e1 := own_add1 x (by omega)
  have e2 := own_nat (x + (1 : Int32)) (by omega)
  intro j hj
  by_cases q : j = (x + (1 : Int32)).toNatClampNeg
  · subst q
    rw [own_up_eq]
    have hf := h _ hj
    have hb := own_occ_b fn i (((x + (1 : Int32)).toNatClampNeg : Int) - 1)
    rw [if_neg (by omega)] at hf ⊢
    rw [own_add1 _ (by omega), hf]
    simp only [own_occ]
    rw [if_pos (by rw [← hx]; omega)]
  · rw [own_up_ne _ _ q, h j hj]
    by_cases j0 : j = 0
    · rw [if_pos j0, if_pos j0]
    · rw [if_neg j0, if_neg j0]
      simp only [own_occ]
      rw [if_neg (by rw [← hx]; omega)]; omega
theorem own_step2 (fn f : Nat → Int32) (sz t N : Nat) (hs : sz ≤ 500) (h : own_P2 fn sz t N f) (x : Int32) (hx : x.toInt = t) (ht : t < N) (hN : N ≤ 100) : own_P2 fn sz (t + 1) N (own_up f (x + (1 : Int32)).toNatClampNeg (f (x + (1 : Int32)).toNatClampNeg + f x.toNatClampNeg)) := by
  have e1 := own_add1 x (by omega)
  have e2 := own_nat (x + (1 : Int32)) (by omega)
  have e3 := own_nat x (by omega)
  intro j hj
  by_cases q : j = (x + (1 : Int32)).toNatClampNeg
  · subst q
    rw [own_up_eq]
    have hf := h _ hj
    have hg := h x.toNatClampNeg (by omega)
    rw [if_neg (by omega)] at hf
    rw [if_pos (by omega)] at hg ⊢
    have hb := own_occ_b fn sz (((x + (1 : Int32)).toNatClampNeg : Int) - 1)
    have hc := own_cnt_b fn sz (x.toNatClampNeg : Int)
    rw [own_add2 _ _ (by omega), hf, hg]
    have es := own_cnt_s fn sz (x.toNatClampNeg : Int)
    have e4 : ((x + (1 : Int32)).toNatClampNeg : Int) = (x.toNatClampNeg : Int) + 1 := by omega
    rw [e4, es]
    have e5 : (x.toNatClampNeg : Int) + 1 - 1 = (x.toNatClampNeg : Int) := by omega
    rw [e5]; omega
  · rw [own_up_ne _ _ q, h j hj]
    by_cases j0 : j ≤ t
    · rw [if_pos j0, if_pos (by omega)]
    · rw [if_neg j0, if_neg (by omega)]
theorem own_P12 (fn f : Nat → Int32) (sz N : Nat) (h : own_P1 fn sz N f) (hn : ∀ i, i < sz → 0 ≤ (fn i).toInt) : own_P2 fn sz 0 N f := by
  intro j hj
  rw [h j hj]
  by_cases j0 : j = 0
  · subst j0; rw [if_pos rfl, if_pos (Nat.le_refl _)]; exact (own_cnt_0 fn sz hn).symm
  · rw [if_neg j0, if_neg (by omega)]
theorem own_d1_0 : decode jdk_29_method_65_code 0 = .ok (.iload_n 0, 1) := by decide +kernel
theorem own_d1_1 : decode jdk_29_method_65_code 1 = .ok (.iload_n 1, 1) := by decide +kernel
theorem own_d1_2 : decode jdk_29_method_65_code 2 = .ok (.if_icmp .lt 7, 3) := by decide +kernel
theorem own_d1_5 : decode jdk_29_method_65_code 5 = .ok (.iload_n 0, 1) := by decide +kernel
theorem own_d1_6 : decode jdk_29_method_65_code 6 = .ok (.goto 4, 3) := by decide +kernel
theorem own_d1_9 : decode jdk_29_method_65_code 9 = .ok (.iload_n 1, 1) := by decide +kernel
theorem own_d1_10 : decode jdk_29_method_65_code 10 = .ok (.ireturn, 1) := by decide +kernel
theorem own_ef1 (m : MethodId) (u : Int32) (t : Int32) : entryFrame m #[(.int u), (.int t)] 2 = mkF m 0 #[.val (.int u), .val (.int t)] [] := by first | (simp [entryFrame, mkF, argsToLocals, Value.category]; done) | rfl
def own_Q1 (Z : State) (u : Int32) (t : Int32) (h0 : Heap) (n0 : Nat) (v : Option Value) (h : Heap) (L : List Loc) : Prop := ∃ z : Int32, v = some (.int z) ∧ Fr n0 L ∧ h = h0 ∧ ((u.toInt ≤ t.toInt ∧ z.toInt = t.toInt) ∨ (t.toInt ≤ u.toInt ∧ z.toInt = u.toInt))
set_option maxRecDepth 65536 in
set_option maxHeartbeats 40000000 in
theorem own_rm1 (l : Launch) (Z : State) (a0 : Array Value) (hw : ∀ d ∈ tables_1, d.before a0 Z = true) (ws : List Jvm.Cond) (u : Int32) (t : Int32) (h0 : Heap) (n0 : Nat) (Zs : n0 ≤ h0.size)  :
    MetFree l (⟨"java/lang/Math", "max", "(II)I"⟩ : MethodName) (head1 (Jvm.Cond.code (⟨"java/lang/Math", "max", "(II)I"⟩ : MethodName) jdk_29_method_65_code 2 (some .int) :: ws) ({ frames := 0, cells := 0, slots := 0, locals := 0 } : Room)) (fun aA_ U => aA_ = #[(.int u), (.int t)] ∧ Z.Warmed39 U.vm ∧ U.heap = h0) (fun _ _ _ _ _ => True) (fun _ U o U' => ∃ v L, o = .returned v ∧ own_Q1 Z u t h0 n0 v U'.heap L ∧ FrameEnd U o U' L ({ frames := 0, cells := 0, slots := 0, locals := 0 } : Room).cells ({ frames := 0, cells := 0, slots := 0, locals := 0 } : Room).slots) := by
  refine MetFree.of_bodySF (Jvm.Free.JP.mathPlain rfl (by decide +kernel)) hisR ?_
  intro p e s m args below meth c s₁ Bd hml0 hP hK
  obtain ⟨rfl, hZ, hh⟩ := hP
  have hx := Bd.exec
  have hby := Bd.bytes
  have hml : c.maxLocals = 2 := hml0
  have hown : s.vm.findClass "java/lang/Math" = some m.cls := findClass_of_methodNamed Bd.named
  have hnm := (name_of_methodNamed Bd.named Bd.method).1
  have X0 : Stand p l e ({ frames := 0, cells := 0, slots := 0, locals := 0 } : Room) s m #[(.int u), (.int t)] below meth c s₁ [] 0 0 := Stand.of_body Bd
  have e0 : s₁.heap = h0 := by rw [← hh, Bd.state]; rfl
  have NF := Fr.nil n0
  rw [own_ef1 m u t]
  show own_Dn p e below s (own_Q1 Z u t h0 n0) 0 0 s₁ (mkF m 0 #[.val (.int u), .val (.int t)] [])
  refine own_go (T' := s₁) (g' := (mkF m 1 #[.val (.int u), .val (.int t)] [(.int u)])) (fun _ k => XS.iloadN X0.here hx rfl (hb hby own_d1_0) rfl k) ?_
  refine own_go (T' := s₁) (g' := (mkF m 2 #[.val (.int u), .val (.int t)] [(.int t), (.int u)])) (fun _ k => XS.iloadN X0.here hx rfl (hb hby own_d1_1) rfl k) ?_
  by_cases c1 : u < t
  · refine own_go (T' := s₁) (g' := (mkF m 9 #[.val (.int u), .val (.int t)] [])) (fun _ k => XS.icmpYes X0.here hx rfl (pc0 := 2) (pc' := 9) rfl (hb hby own_d1_2) rfl (tlt c1).1 (by decide) (by decide) k) ?_
    refine own_go (T' := s₁) (g' := (mkF m 10 #[.val (.int u), .val (.int t)] [(.int t)])) (fun _ k => XS.iloadN X0.here hx rfl (hb hby own_d1_9) rfl k) ?_
    refine own_ret X0 Bd.notSynchronized (some (.int t)) (fun h => by rw [Bd.returns] at h; cases h) (fun fs hr => retI X0 hx Bd.returns (hb hby own_d1_10) hr) ?_ (by decide) (by decide)
    show (own_Q1 Z u t h0 n0) (some (.int t)) s₁.heap _
    rw [e0]
    exact ⟨_, rfl, NF, rfl, by (try simp only [own_ln1, own_l0, own_l1, own_l2, own_l3, own_l4, own_l5, own_l6, own_l7, own_l8, own_l9, own_l12, own_l32, own_L0, own_L1, own_L2, own_L3, own_L7, Int32.lt_iff_toInt_lt, ← Int32.toInt_inj, Int64.lt_iff_toInt_lt, ← Int64.toInt_inj, and_true, true_and, and_false, false_and, or_true, true_or, or_false, false_or, not_true_eq_false, not_false_eq_true, ne_eq, true_implies, false_implies, implies_true] at c1 ⊢) <;> omega⟩
  · refine own_go (T' := s₁) (g' := (mkF m 5 #[.val (.int u), .val (.int t)] [])) (fun _ k => XS.icmpNo X0.here hx rfl (hb hby own_d1_2) rfl (flt c1).1 k) ?_
    refine own_go (T' := s₁) (g' := (mkF m 6 #[.val (.int u), .val (.int t)] [(.int u)])) (fun _ k => XS.iloadN X0.here hx rfl (hb hby own_d1_5) rfl k) ?_
    refine own_go (T' := s₁) (g' := (mkF m 10 #[.val (.int u), .val (.int t)] [(.int u)])) (fun _ k => XS.goto X0.here hx rfl (pc0 := 6) (pc' := 10) rfl (hb hby own_d1_6) (by decide) (by decide) k) ?_
    refine own_ret X0 Bd.notSynchronized (some (.int u)) (fun h => by rw [Bd.returns] at h; cases h) (fun fs hr => retI X0 hx Bd.returns (hb hby own_d1_10) hr) ?_ (by decide) (by decide)
    show (own_Q1 Z u t h0 n0) (some (.int u)) s₁.heap _
    rw [e0]
    exact ⟨_, rfl, NF, rfl, by (try simp only [own_ln1, own_l0, own_l1, own_l2, own_l3, own_l4, own_l5, own_l6, own_l7, own_l8, own_l9, own_l12, own_l32, own_L0, own_L1, own_L2, own_L3, own_L7, Int32.lt_iff_toInt_lt, ← Int32.toInt_inj, Int64.lt_iff_toInt_lt, ← Int64.toInt_inj, and_true, true_and, and_false, false_and, or_true, true_or, or_false, false_or, not_true_eq_false, not_false_eq_true, ne_eq, true_implies, false_implies, implies_true] at c1 ⊢) <;> omega⟩
theorem own_d2_0 : decode prog_95_method_1_code 0 = .ok (.aload_n 0, 1) := by decide +kernel
theorem own_d2_1 : decode prog_95_method_1_code 1 = .ok (.invokespecial 1, 3) := by decide +kernel
theorem own_d2_4 : decode prog_95_method_1_code 4 = .ok (.aload_n 0, 1) := by decide +kernel
theorem own_d2_5 : decode prog_95_method_1_code 5 = .ok (.iconst 1, 1) := by decide +kernel
theorem own_d2_6 : decode prog_95_method_1_code 6 = .ok (.newarray .int, 2) := by decide +kernel
theorem own_d2_8 : decode prog_95_method_1_code 8 = .ok (.putfield 7, 3) := by decide +kernel
theorem own_d2_11 : decode prog_95_method_1_code 11 = .ok (.aload_n 0, 1) := by decide +kernel
theorem own_d2_12 : decode prog_95_method_1_code 12 = .ok (.iconst 0, 1) := by decide +kernel
theorem own_d2_13 : decode prog_95_method_1_code 13 = .ok (.newarray .int, 2) := by decide +kernel
theorem own_d2_15 : decode prog_95_method_1_code 15 = .ok (.putfield 13, 3) := by decide +kernel
theorem own_d2_18 : decode prog_95_method_1_code 18 = .ok (.iconst 1, 1) := by decide +kernel
theorem own_d2_19 : decode prog_95_method_1_code 19 = .ok (.iload_n 1, 1) := by decide +kernel
theorem own_d2_20 : decode prog_95_method_1_code 20 = .ok (.invokestatic 16, 3) := by decide +kernel
theorem own_d2_23 : decode prog_95_method_1_code 23 = .ok (.istore_n 2, 1) := by decide +kernel
theorem own_d2_24 : decode prog_95_method_1_code 24 = .ok (.aload_n 0, 1) := by decide +kernel
theorem own_d2_25 : decode prog_95_method_1_code 25 = .ok (.iload_n 2, 1) := by decide +kernel
theorem own_d2_26 : decode prog_95_method_1_code 26 = .ok (.newarray .int, 2) := by decide +kernel
theorem own_d2_28 : decode prog_95_method_1_code 28 = .ok (.putfield 22, 3) := by decide +kernel
theorem own_d2_31 : decode prog_95_method_1_code 31 = .ok (.aload_n 0, 1) := by decide +kernel
theorem own_d2_32 : decode prog_95_method_1_code 32 = .ok (.iload_n 2, 1) := by decide +kernel
theorem own_d2_33 : decode prog_95_method_1_code 33 = .ok (.newarray .int, 2) := by decide +kernel
theorem own_d2_35 : decode prog_95_method_1_code 35 = .ok (.putfield 25, 3) := by decide +kernel
theorem own_d2_38 : decode prog_95_method_1_code 38 = .ok (.aload_n 0, 1) := by decide +kernel
theorem own_d2_39 : decode prog_95_method_1_code 39 = .ok (.iload_n 2, 1) := by decide +kernel
theorem own_d2_40 : decode prog_95_method_1_code 40 = .ok (.iconst 1, 1) := by decide +kernel
theorem own_d2_41 : decode prog_95_method_1_code 41 = .ok (.iadd, 1) := by decide +kernel
theorem own_d2_42 : decode prog_95_method_1_code 42 = .ok (.newarray .int, 2) := by decide +kernel
theorem own_d2_44 : decode prog_95_method_1_code 44 = .ok (.putfield 28, 3) := by decide +kernel
theorem own_d2_47 : decode prog_95_method_1_code 47 = .ok (.aload_n 0, 1) := by decide +kernel
theorem own_d2_48 : decode prog_95_method_1_code 48 = .ok (.iload_n 2, 1) := by decide +kernel
theorem own_d2_49 : decode prog_95_method_1_code 49 = .ok (.newarray .long, 2) := by decide +kernel
theorem own_d2_51 : decode prog_95_method_1_code 51 = .ok (.putfield 31, 3) := by decide +kernel
theorem own_d2_54 : decode prog_95_method_1_code 54 = .ok (.aload_n 0, 1) := by decide +kernel
theorem own_d2_55 : decode prog_95_method_1_code 55 = .ok (.iload_n 2, 1) := by decide +kernel
theorem own_d2_56 : decode prog_95_method_1_code 56 = .ok (.newarray .long, 2) := by decide +kernel
theorem own_d2_58 : decode prog_95_method_1_code 58 = .ok (.putfield 35, 3) := by decide +kernel
theorem own_d2_61 : decode prog_95_method_1_code 61 = .ok (.aload_n 0, 1) := by decide +kernel
theorem own_d2_62 : decode prog_95_method_1_code 62 = .ok (.iload_n 2, 1) := by decide +kernel
theorem own_d2_63 : decode prog_95_method_1_code 63 = .ok (.newarray .int, 2) := by decide +kernel
theorem own_d2_65 : decode prog_95_method_1_code 65 = .ok (.putfield 38, 3) := by decide +kernel
theorem own_d2_68 : decode prog_95_method_1_code 68 = .ok (.aload_n 0, 1) := by decide +kernel
theorem own_d2_69 : decode prog_95_method_1_code 69 = .ok (.iload_n 2, 1) := by decide +kernel
theorem own_d2_70 : decode prog_95_method_1_code 70 = .ok (.newarray .int, 2) := by decide +kernel
theorem own_d2_72 : decode prog_95_method_1_code 72 = .ok (.putfield 41, 3) := by decide +kernel
theorem own_d2_75 : decode prog_95_method_1_code 75 = .ok (.return_, 1) := by decide +kernel
theorem own_pn2 : plainName "com/example/nimble_twig/nimbletwig/index/store/StoredStreams" = true := by first | (simp [plainName, overriddenIn]; done) | decide +kernel
theorem own_pd2_0 : parseMethodDescriptor "(II)I" = some ⟨[.int, .int], some .int⟩ := by decide +kernel
theorem own_ef2 (m : MethodId) (a : Addr) (t : Int32) : entryFrame m #[(.ref a), (.int t)] 3 = mkF m 0 #[.val (.ref a), .val (.int t), .unset] [] := by first | (simp [entryFrame, mkF, argsToLocals, Value.category]; done) | rfl
def own_Q2 (Z : State) (a : Addr) (t : Int32) (h0 : Heap) (n0 : Nat) (v : Option Value) (h : Heap) (L : List Loc) : Prop := v = none ∧ Fr n0 L ∧ Keep h0 h [a] ∧ Exa Z h a "com/example/nimble_twig/nimbletwig/index/store/StoredStreams" ∧ (∃ nA dA fA sA tA : Addr, (h0.size ≤ nA ∧ h0.size ≤ dA ∧ h0.size ≤ fA ∧ nA ≠ dA ∧ nA ≠ fA ∧ dA ≠ fA) ∧ Fld Z h a "com/example/nimble_twig/nimbletwig/index/store/StoredStreams" "firstStreams" "[I" (.ref sA) ∧ Fld Z h a "com/example/nimble_twig/nimbletwig/index/store/StoredStreams" "firstDepths" "[I" (.ref tA) ∧ Fld Z h a "com/example/nimble_twig/nimbletwig/index/store/StoredStreams" "names" "[I" (.ref nA) ∧ Fld Z h a "com/example/nimble_twig/nimbletwig/index/store/StoredStreams" "depths" "[I" (.ref dA) ∧ Fld Z h a "com/example/nimble_twig/nimbletwig/index/store/StoredStreams" "firstExtents" "[I" (.ref fA) ∧ Fld Z h a "com/example/nimble_twig/nimbletwig/index/store/StoredStreams" "size" "I" (.int (0 : Int32)) ∧ Fld Z h a "com/example/nimble_twig/nimbletwig/index/store/StoredStreams" "extents" "I" (.int (0 : Int32)) ∧ own_IA Z h nA t (fun _ => (0 : Int32)) ∧ own_IA Z h dA t (fun _ => (0 : Int32)) ∧ own_IA Z h fA (t + (1 : Int32)) (fun _ => (0 : Int32)))
set_option maxRecDepth 65536 in
set_option maxHeartbeats 40000000 in
theorem own_rm2 (l : Launch) (Z : State) (a0 : Array Value) (hw : ∀ d ∈ tables_1, d.before a0 Z = true) (ws : List Jvm.Cond) (a : Addr) (t : Int32) (h0 : Heap) (n0 : Nat) (Zs : n0 ≤ h0.size) (F_a_firstStreams : Fld Z h0 a "com/example/nimble_twig/nimbletwig/index/store/StoredStreams" "firstStreams" "[I" .null) (F_a_firstDepths : Fld Z h0 a "com/example/nimble_twig/nimbletwig/index/store/StoredStreams" "firstDepths" "[I" .null) (F_a_names : Fld Z h0 a "com/example/nimble_twig/nimbletwig/index/store/StoredStreams" "names" "[I" .null) (F_a_depths : Fld Z h0 a "com/example/nimble_twig/nimbletwig/index/store/StoredStreams" "depths" "[I" .null) (F_a_firstExtents : Fld Z h0 a "com/example/nimble_twig/nimbletwig/index/store/StoredStreams" "firstExtents" "[I" .null) (F_a_size : Fld Z h0 a "com/example/nimble_twig/nimbletwig/index/store/StoredStreams" "size" "I" (.int (0 : Int32))) (F_a_extents : Fld Z h0 a "com/example/nimble_twig/nimbletwig/index/store/StoredStreams" "extents" "I" (.int (0 : Int32))) (F_a_offsets : Fld Z h0 a "com/example/nimble_twig/nimbletwig/index/store/StoredStreams" "offsets" "[J" .null) (F_a_starts : Fld Z h0 a "com/example/nimble_twig/nimbletwig/index/store/StoredStreams" "starts" "[J" .null) (F_a_sizes : Fld Z h0 a "com/example/nimble_twig/nimbletwig/index/store/StoredStreams" "sizes" "[I" .null) (F_a_checksums : Fld Z h0 a "com/example/nimble_twig/nimbletwig/index/store/StoredStreams" "checksums" "[I" .null) (E_a : Exa Z h0 a "com/example/nimble_twig/nimbletwig/index/store/StoredStreams") (g_a : n0 ≤ a) (ht : 1 ≤ t.toInt ∧ t.toInt ≤ 6) :
    MetFree l (⟨"com/example/nimble_twig/nimbletwig/index/store/StoredStreams", "<init>", "(I)V"⟩ : MethodName) (head1 (Jvm.Cond.code (⟨"com/example/nimble_twig/nimbletwig/index/store/StoredStreams", "<init>", "(I)V"⟩ : MethodName) prog_95_method_1_code 3 none :: ws) ({ frames := 1, cells := 9, slots := 44, locals := 13 } : Room)) (fun aA_ U => aA_ = #[(.ref a), (.int t)] ∧ Z.Warmed39 U.vm ∧ U.heap = h0) (fun _ _ _ _ _ => True) (fun _ U o U' => ∃ v L, o = .returned v ∧ own_Q2 Z a t h0 n0 v U'.heap L ∧ FrameEnd U o U' L ({ frames := 1, cells := 9, slots := 44, locals := 13 } : Room).cells ({ frames := 1, cells := 9, slots := 44, locals := 13 } : Room).slots) := by
  refine MetFree.of_bodySF (plainFor_of_name own_pn2) hisR ?_
  intro p e s m args below meth c s₁ Bd hml0 hP hK
  obtain ⟨rfl, hZ, hh⟩ := hP
  have hx := Bd.exec
  have hby := Bd.bytes
  have hml : c.maxLocals = 3 := hml0
  have hown : s.vm.findClass "com/example/nimble_twig/nimbletwig/index/store/StoredStreams" = some m.cls := findClass_of_methodNamed Bd.named
  have hnm := (name_of_methodNamed Bd.named Bd.method).1
  have X0 : Stand p l e ({ frames := 1, cells := 9, slots := 44, locals := 13 } : Room) s m #[(.ref a), (.int t)] below meth c s₁ [] 0 0 := Stand.of_body Bd
  have e0 : s₁.heap = h0 := by rw [← hh, Bd.state]; rfl
  have NF := Fr.nil n0
  rw [own_ef2 m a t]
  show own_Dn p e below s (own_Q2 Z a t h0 n0) 9 44 s₁ (mkF m 0 #[.val (.ref a), .val (.int t), .unset] [])
  have KP := Keep.refl h0 [a]
  have hn : ¬ t < 0 := by (try simp only [own_ln1, own_l0, own_l1, own_l2, own_l3, own_l4, own_l5, own_l6, own_l7, own_l8, own_l9, own_l12, own_l32, own_L0, own_L1, own_L2, own_L3, own_L7, Int32.lt_iff_toInt_lt, ← Int32.toInt_inj, Int64.lt_iff_toInt_lt, ← Int64.toInt_inj, and_true, true_and, and_false, false_and, or_true, true_or, or_false, false_or, not_true_eq_false, not_false_eq_true, ne_eq, true_implies, false_implies, implies_true] at  ⊢) <;> omega
  have hc0 : t.toNatClampNeg ≤ 6 := by have := nat_of hn; omega
  have f1 := c_iadd t (1 : Int32)
  have r1 := rng32 (t + (1 : Int32))
  simp only [own_ln1, own_l0, own_l1, own_l2, own_l3, own_l4, own_l5, own_l6, own_l7, own_l8, own_l9, own_l12, own_l32, own_L0, own_L1, own_L2, own_L3, own_L7] at f1
  have hn1 : ¬ (t + (1 : Int32)) < 0 := by (try simp only [own_ln1, own_l0, own_l1, own_l2, own_l3, own_l4, own_l5, own_l6, own_l7, own_l8, own_l9, own_l12, own_l32, own_L0, own_L1, own_L2, own_L3, own_L7, Int32.lt_iff_toInt_lt, ← Int32.toInt_inj, Int64.lt_iff_toInt_lt, ← Int64.toInt_inj, and_true, true_and, and_false, false_and, or_true, true_or, or_false, false_or, not_true_eq_false, not_false_eq_true, ne_eq, true_implies, false_implies, implies_true] at  ⊢) <;> omega
  have hc1 : (t + (1 : Int32)).toNatClampNeg ≤ 7 := by have := nat_of hn1; omega
  refine own_go (T' := s₁) (g' := (mkF m 1 #[.val (.ref a), .val (.int t), .unset] [(.ref a)])) (fun _ k => XS.aloadN X0.here hx rfl (hb hby own_d2_0) rfl rfl k) ?_
  obtain ⟨T1, X1, e1, st1⟩ := initO X0 hx hZ hown (hw _ (List.mem_of_getElem? (i := 6) rfl)) (hw _ (List.mem_of_getElem? (i := 7) rfl)) (hw _ (List.mem_of_getElem? (i := 8) rfl)) e0 (g := (mkF m 1 #[.val (.ref a), .val (.int t), .unset] [(.ref a)])) rfl (by rw [hml]; rfl) rfl (hb hby own_d2_1) (by decide) (W := 0) (by show 2 * 0 + _ ≤ _; exact Nat.le_of_eq rfl) (by decide)
  refine own_go (T' := T1) (g' := (mkF m 4 #[.val (.ref a), .val (.int t), .unset] [])) (fun _ k => st1 _ k) ?_
  refine own_go (T' := T1) (g' := (mkF m 5 #[.val (.ref a), .val (.int t), .unset] [(.ref a)])) (fun _ k => XS.aloadN X1.here hx rfl (hb hby own_d2_4) rfl rfl k) ?_
  refine own_go (T' := T1) (g' := (mkF m 6 #[.val (.ref a), .val (.int t), .unset] [(.int (1 : Int32)), (.ref a)])) (fun _ k => XS.iconst X1.here hx rfl (hb hby own_d2_5) k) ?_
  obtain ⟨T2, h2, k2, X2, e2, E2, A2, st2⟩ := newP X1 hx hZ (hw _ (List.mem_of_getElem? (i := 9) rfl)) e1 (g := (mkF m 6 #[.val (.ref a), .val (.int t), .unset] [(.int (1 : Int32)), (.ref a)])) rfl (hb hby own_d2_6) rfl (by decide) (cap := 1) (by decide) (by decide) (by decide) (by decide)
  obtain ⟨b2, g2⟩ : ∃ z, z = h0.size := ⟨_, rfl⟩
  rw [← g2] at A2 st2
  have ne_a_b2 : a ≠ b2 := Nat.ne_of_lt (Nat.lt_of_lt_of_le E_a.lt (Nat.le_of_eq g2.symm))
  have g_b2 : n0 ≤ b2 := Nat.le_trans Zs (Nat.le_of_eq g2.symm)
  have sz_b2 : h0.size ≤ b2 := Nat.le_trans KP.1 (Nat.le_of_eq g2.symm)
  have E_a := E_a.ext E2
  have F_a_firstStreams := F_a_firstStreams.ext E2
  have F_a_firstDepths := F_a_firstDepths.ext E2
  have F_a_names := F_a_names.ext E2
  have F_a_depths := F_a_depths.ext E2
  have F_a_firstExtents := F_a_firstExtents.ext E2
  have F_a_size := F_a_size.ext E2
  have F_a_extents := F_a_extents.ext E2
  have F_a_offsets := F_a_offsets.ext E2
  have F_a_starts := F_a_starts.ext E2
  have F_a_sizes := F_a_sizes.ext E2
  have F_a_checksums := F_a_checksums.ext E2
  have KP := KP.ext E2
  have Zs := Nat.le_trans Zs E2.1
  have I_b2 := own_IA.new A2 (by decide)
  refine own_go (T' := T2) (g' := (mkF m 8 #[.val (.ref a), .val (.int t), .unset] [(.ref b2), (.ref a)])) (fun _ k => st2 _ k) ?_
  obtain ⟨T3, h3, X3, e3, W3, st3⟩ := putF X2 hx hZ hown (host := "") (Or.inl (hw _ (List.mem_of_getElem? (i := 10) rfl))) Via.refl e2 F_a_firstStreams E_a (Or.inl (hw _ (List.mem_of_getElem? (i := 11) rfl))) (hw _ (List.mem_of_getElem? (i := 1) rfl)) (ty := (.array .int)) (by decide) rfl rfl (g := (mkF m 8 #[.val (.ref a), .val (.int t), .unset] [(.ref b2), (.ref a)])) rfl rfl (hb hby own_d2_8)
  have E_a := E_a.wr W3
  have F_a_firstDepths := F_a_firstDepths.other W3 (Or.inr (slot_ne (Or.inl (hw _ (List.mem_of_getElem? (i := 13) rfl))) (Or.inl (hw _ (List.mem_of_getElem? (i := 11) rfl))) (by decide) (t := (.array .int)) (t' := (.array .int)) (by decide) (by decide)))
  have F_a_names := F_a_names.other W3 (Or.inr (slot_ne (Or.inl (hw _ (List.mem_of_getElem? (i := 19) rfl))) (Or.inl (hw _ (List.mem_of_getElem? (i := 11) rfl))) (by decide) (t := (.array .int)) (t' := (.array .int)) (by decide) (by decide)))
  have F_a_depths := F_a_depths.other W3 (Or.inr (slot_ne (Or.inl (hw _ (List.mem_of_getElem? (i := 21) rfl))) (Or.inl (hw _ (List.mem_of_getElem? (i := 11) rfl))) (by decide) (t := (.array .int)) (t' := (.array .int)) (by decide) (by decide)))
  have F_a_firstExtents := F_a_firstExtents.other W3 (Or.inr (slot_ne (Or.inl (hw _ (List.mem_of_getElem? (i := 23) rfl))) (Or.inl (hw _ (List.mem_of_getElem? (i := 11) rfl))) (by decide) (t := (.array .int)) (t' := (.array .int)) (by decide) (by decide)))
  have F_a_size := F_a_size.other W3 (Or.inr (slot_ne (Or.inl (hw _ (List.mem_of_getElem? (i := 39) rfl))) (Or.inl (hw _ (List.mem_of_getElem? (i := 11) rfl))) (by decide) (t := .int) (t' := (.array .int)) (by decide) (by decide)))
  have F_a_extents := F_a_extents.other W3 (Or.inr (slot_ne (Or.inl (hw _ (List.mem_of_getElem? (i := 41) rfl))) (Or.inl (hw _ (List.mem_of_getElem? (i := 11) rfl))) (by decide) (t := .int) (t' := (.array .int)) (by decide) (by decide)))
  have F_a_offsets := F_a_offsets.other W3 (Or.inr (slot_ne (Or.inl (hw _ (List.mem_of_getElem? (i := 26) rfl))) (Or.inl (hw _ (List.mem_of_getElem? (i := 11) rfl))) (by decide) (t := (.array .long)) (t' := (.array .int)) (by decide) (by decide)))
  have F_a_starts := F_a_starts.other W3 (Or.inr (slot_ne (Or.inl (hw _ (List.mem_of_getElem? (i := 28) rfl))) (Or.inl (hw _ (List.mem_of_getElem? (i := 11) rfl))) (by decide) (t := (.array .long)) (t' := (.array .int)) (by decide) (by decide)))
  have F_a_sizes := F_a_sizes.other W3 (Or.inr (slot_ne (Or.inl (hw _ (List.mem_of_getElem? (i := 30) rfl))) (Or.inl (hw _ (List.mem_of_getElem? (i := 11) rfl))) (by decide) (t := (.array .int)) (t' := (.array .int)) (by decide) (by decide)))
  have F_a_checksums := F_a_checksums.other W3 (Or.inr (slot_ne (Or.inl (hw _ (List.mem_of_getElem? (i := 32) rfl))) (Or.inl (hw _ (List.mem_of_getElem? (i := 11) rfl))) (by decide) (t := (.array .int)) (t' := (.array .int)) (by decide) (by decide)))
  have I_b2 := I_b2.other W3 (Ne.symm ne_a_b2)
  have Zs := Nat.le_trans Zs (Keep.of_wr W3).1
  have F_a_firstStreams := F_a_firstStreams.same W3
  have KP := KP.wr W3 (Or.inl (by simp))
  have NF := Fr.snoc X3 NF g_a
  refine own_go (T' := T3) (g' := (mkF m 11 #[.val (.ref a), .val (.int t), .unset] [])) (fun _ k => st3 _ k) ?_
  refine own_go (T' := T3) (g' := (mkF m 12 #[.val (.ref a), .val (.int t), .unset] [(.ref a)])) (fun _ k => XS.aloadN X3.here hx rfl (hb hby own_d2_11) rfl rfl k) ?_
  refine own_go (T' := T3) (g' := (mkF m 13 #[.val (.ref a), .val (.int t), .unset] [(.int (0 : Int32)), (.ref a)])) (fun _ k => XS.iconst X3.here hx rfl (hb hby own_d2_12) k) ?_
  obtain ⟨T4, h4, k4, X4, e4, E4, A4, st4⟩ := newP X3 hx hZ (hw _ (List.mem_of_getElem? (i := 9) rfl)) e3 (g := (mkF m 13 #[.val (.ref a), .val (.int t), .unset] [(.int (0 : Int32)), (.ref a)])) rfl (hb hby own_d2_13) rfl (by decide) (cap := 0) (by decide) (by decide) (by decide) (by decide)
  obtain ⟨b4, g4⟩ : ∃ z, z = h3.size := ⟨_, rfl⟩
  rw [← g4] at A4 st4
  have ne_a_b4 : a ≠ b4 := Nat.ne_of_lt (Nat.lt_of_lt_of_le E_a.lt (Nat.le_of_eq g4.symm))
  have ne_b2_b4 : b2 ≠ b4 := Nat.ne_of_lt (Nat.lt_of_lt_of_le I_b2.lt (Nat.le_of_eq g4.symm))
  have g_b4 : n0 ≤ b4 := Nat.le_trans Zs (Nat.le_of_eq g4.symm)
  have sz_b4 : h0.size ≤ b4 := Nat.le_trans KP.1 (Nat.le_of_eq g4.symm)
  have E_a := E_a.ext E4
  have F_a_firstDepths := F_a_firstDepths.ext E4
  have F_a_names := F_a_names.ext E4
  have F_a_depths := F_a_depths.ext E4
  have F_a_firstExtents := F_a_firstExtents.ext E4
  have F_a_size := F_a_size.ext E4
  have F_a_extents := F_a_extents.ext E4
  have F_a_offsets := F_a_offsets.ext E4
  have F_a_starts := F_a_starts.ext E4
  have F_a_sizes := F_a_sizes.ext E4
  have F_a_checksums := F_a_checksums.ext E4
  have I_b2 := I_b2.ext E4
  have F_a_firstStreams := F_a_firstStreams.ext E4
  have KP := KP.ext E4
  have Zs := Nat.le_trans Zs E4.1
  have I_b4 := own_IA.new A4 (by decide)
  refine own_go (T' := T4) (g' := (mkF m 15 #[.val (.ref a), .val (.int t), .unset] [(.ref b4), (.ref a)])) (fun _ k => st4 _ k) ?_
  obtain ⟨T5, h5, X5, e5, W5, st5⟩ := putF X4 hx hZ hown (host := "") (Or.inl (hw _ (List.mem_of_getElem? (i := 12) rfl))) Via.refl e4 F_a_firstDepths E_a (Or.inl (hw _ (List.mem_of_getElem? (i := 13) rfl))) (hw _ (List.mem_of_getElem? (i := 1) rfl)) (ty := (.array .int)) (by decide) rfl rfl (g := (mkF m 15 #[.val (.ref a), .val (.int t), .unset] [(.ref b4), (.ref a)])) rfl rfl (hb hby own_d2_15)
  have E_a := E_a.wr W5
  have F_a_names := F_a_names.other W5 (Or.inr (slot_ne (Or.inl (hw _ (List.mem_of_getElem? (i := 19) rfl))) (Or.inl (hw _ (List.mem_of_getElem? (i := 13) rfl))) (by decide) (t := (.array .int)) (t' := (.array .int)) (by decide) (by decide)))
  have F_a_depths := F_a_depths.other W5 (Or.inr (slot_ne (Or.inl (hw _ (List.mem_of_getElem? (i := 21) rfl))) (Or.inl (hw _ (List.mem_of_getElem? (i := 13) rfl))) (by decide) (t := (.array .int)) (t' := (.array .int)) (by decide) (by decide)))
  have F_a_firstExtents := F_a_firstExtents.other W5 (Or.inr (slot_ne (Or.inl (hw _ (List.mem_of_getElem? (i := 23) rfl))) (Or.inl (hw _ (List.mem_of_getElem? (i := 13) rfl))) (by decide) (t := (.array .int)) (t' := (.array .int)) (by decide) (by decide)))
  have F_a_size := F_a_size.other W5 (Or.inr (slot_ne (Or.inl (hw _ (List.mem_of_getElem? (i := 39) rfl))) (Or.inl (hw _ (List.mem_of_getElem? (i := 13) rfl))) (by decide) (t := .int) (t' := (.array .int)) (by decide) (by decide)))
  have F_a_extents := F_a_extents.other W5 (Or.inr (slot_ne (Or.inl (hw _ (List.mem_of_getElem? (i := 41) rfl))) (Or.inl (hw _ (List.mem_of_getElem? (i := 13) rfl))) (by decide) (t := .int) (t' := (.array .int)) (by decide) (by decide)))
  have F_a_offsets := F_a_offsets.other W5 (Or.inr (slot_ne (Or.inl (hw _ (List.mem_of_getElem? (i := 26) rfl))) (Or.inl (hw _ (List.mem_of_getElem? (i := 13) rfl))) (by decide) (t := (.array .long)) (t' := (.array .int)) (by decide) (by decide)))
  have F_a_starts := F_a_starts.other W5 (Or.inr (slot_ne (Or.inl (hw _ (List.mem_of_getElem? (i := 28) rfl))) (Or.inl (hw _ (List.mem_of_getElem? (i := 13) rfl))) (by decide) (t := (.array .long)) (t' := (.array .int)) (by decide) (by decide)))
  have F_a_sizes := F_a_sizes.other W5 (Or.inr (slot_ne (Or.inl (hw _ (List.mem_of_getElem? (i := 30) rfl))) (Or.inl (hw _ (List.mem_of_getElem? (i := 13) rfl))) (by decide) (t := (.array .int)) (t' := (.array .int)) (by decide) (by decide)))
  have F_a_checksums := F_a_checksums.other W5 (Or.inr (slot_ne (Or.inl (hw _ (List.mem_of_getElem? (i := 32) rfl))) (Or.inl (hw _ (List.mem_of_getElem? (i := 13) rfl))) (by decide) (t := (.array .int)) (t' := (.array .int)) (by decide) (by decide)))
  have I_b2 := I_b2.other W5 (Ne.symm ne_a_b2)
  have F_a_firstStreams := F_a_firstStreams.other W5 (Or.inr (slot_ne (Or.inl (hw _ (List.mem_of_getElem? (i := 11) rfl))) (Or.inl (hw _ (List.mem_of_getElem? (i := 13) rfl))) (by decide) (t := (.array .int)) (t' := (.array .int)) (by decide) (by decide)))
  have I_b4 := I_b4.other W5 (Ne.symm ne_a_b4)
  have Zs := Nat.le_trans Zs (Keep.of_wr W5).1
  have F_a_firstDepths := F_a_firstDepths.same W5
  have KP := KP.wr W5 (Or.inl (by simp))
  have NF := Fr.snoc X5 NF g_a
  refine own_go (T' := T5) (g' := (mkF m 18 #[.val (.ref a), .val (.int t), .unset] [])) (fun _ k => st5 _ k) ?_
  refine own_go (T' := T5) (g' := (mkF m 19 #[.val (.ref a), .val (.int t), .unset] [(.int (1 : Int32))])) (fun _ k => XS.iconst X5.here hx rfl (hb hby own_d2_18) k) ?_
  refine own_go (T' := T5) (g' := (mkF m 20 #[.val (.ref a), .val (.int t), .unset] [(.int t), (.int (1 : Int32))])) (fun _ k => XS.iloadN X5.here hx rfl (hb hby own_d2_19) rfl k) ?_
  obtain ⟨_, _, ⟨T6, L6, k6, n6⟩, -, X6, ⟨Lc6, hQ6, l6, y6, z6⟩, st6⟩ := Jvm.LawKit.callS X5 hx (y := (⟨"java/lang/Math", "max", "(II)I"⟩ : MethodName)) hown (mvT hZ (hw _ (List.mem_of_getElem? (i := 14) rfl))) (mvT hZ (hw _ (List.mem_of_getElem? (i := 15) rfl))) (mvT hZ (hw _ (List.mem_of_getElem? (i := 16) rfl))) (mvT hZ (hw _ (List.mem_of_getElem? (i := 17) rfl))) (by decide) (backOf (W := 0) (own_rm1 l Z a0 hw [] (1 : Int32) t h5 n0 Zs) hZ (hw _ (List.mem_of_getElem? (i := 17) rfl)) (hw _ (List.mem_of_getElem? (i := 16) rfl)) (by decide) (by decide)) (g := (mkF m 20 #[.val (.ref a), .val (.int t), .unset] [(.int t), (.int (1 : Int32))])) rfl (by rw [hml]; rfl) (argsL := [(.int (1 : Int32)), (.int t)]) (rest := []) (lenOf own_pd2_0 rfl) rfl (by show 2 * 0 + _ ≤ _; exact Nat.le_of_eq rfl) (hb hby own_d2_20) (fun _ _ => ⟨rfl, e5, (by decide : 2 + 0 ≤ _), (by decide : 1 + 0 ≤ _)⟩)
  dsimp only [Pt.U, Pt.locs, Pt.cells, Pt.slots] at X6 l6 y6 z6 st6 hQ6
  subst l6 y6 z6
  obtain ⟨zz6, rfl, NQ6, eq6, hz6⟩ := hQ6
  have NF := Fr.app NF NQ6
  simp only [own_ln1, own_l0, own_l1, own_l2, own_l3, own_l4, own_l5, own_l6, own_l7, own_l8, own_l9, own_l12, own_l32, own_L0, own_L1, own_L2, own_L3, own_L7] at hz6
  obtain rfl : t = zz6 := Int32.toInt_inj.mp (by omega)
  refine own_go (T' := T6) (g' := (mkF m 23 #[.val (.ref a), .val (.int t), .unset] [(.int t)])) (fun _ k => st6 _ k) ?_
  refine own_go (T' := T6) (g' := (mkF m 24 #[.val (.ref a), .val (.int t), .val (.int t)] [])) (fun _ k => XS.istoreN X6.here hx rfl (hb hby own_d2_23) rfl (l' := #[.val (.ref a), .val (.int t), .val (.int t)]) rfl k) ?_
  refine own_go (T' := T6) (g' := (mkF m 25 #[.val (.ref a), .val (.int t), .val (.int t)] [(.ref a)])) (fun _ k => XS.aloadN X6.here hx rfl (hb hby own_d2_24) rfl rfl k) ?_
  refine own_go (T' := T6) (g' := (mkF m 26 #[.val (.ref a), .val (.int t), .val (.int t)] [(.int t), (.ref a)])) (fun _ k => XS.iloadN X6.here hx rfl (hb hby own_d2_25) rfl k) ?_
  obtain ⟨T7, h7, k7, X7, e7, E7, A7, st7⟩ := newP X6 hx hZ (hw _ (List.mem_of_getElem? (i := 9) rfl)) eq6 (g := (mkF m 26 #[.val (.ref a), .val (.int t), .val (.int t)] [(.int t), (.ref a)])) rfl (hb hby own_d2_26) rfl hn (cap := 6) hc0 (by decide) (by decide) (by decide)
  obtain ⟨b7, g7⟩ : ∃ z, z = h5.size := ⟨_, rfl⟩
  rw [← g7] at A7 st7
  have ne_a_b7 : a ≠ b7 := Nat.ne_of_lt (Nat.lt_of_lt_of_le E_a.lt (Nat.le_of_eq g7.symm))
  have ne_b2_b7 : b2 ≠ b7 := Nat.ne_of_lt (Nat.lt_of_lt_of_le I_b2.lt (Nat.le_of_eq g7.symm))
  have ne_b4_b7 : b4 ≠ b7 := Nat.ne_of_lt (Nat.lt_of_lt_of_le I_b4.lt (Nat.le_of_eq g7.symm))
  have g_b7 : n0 ≤ b7 := Nat.le_trans Zs (Nat.le_of_eq g7.symm)
  have sz_b7 : h0.size ≤ b7 := Nat.le_trans KP.1 (Nat.le_of_eq g7.symm)
  have E_a := E_a.ext E7
  have F_a_names := F_a_names.ext E7
  have F_a_depths := F_a_depths.ext E7
  have F_a_firstExtents := F_a_firstExtents.ext E7
  have F_a_size := F_a_size.ext E7
  have F_a_extents := F_a_extents.ext E7
  have F_a_offsets := F_a_offsets.ext E7
  have F_a_starts := F_a_starts.ext E7
  have F_a_sizes := F_a_sizes.ext E7
  have F_a_checksums := F_a_checksums.ext E7
  have I_b2 := I_b2.ext E7
  have F_a_firstStreams := F_a_firstStreams.ext E7
  have I_b4 := I_b4.ext E7
  have F_a_firstDepths := F_a_firstDepths.ext E7
  have KP := KP.ext E7
  have Zs := Nat.le_trans Zs E7.1
  have I_b7 := own_IA.new A7 hn
  refine own_go (T' := T7) (g' := (mkF m 28 #[.val (.ref a), .val (.int t), .val (.int t)] [(.ref b7), (.ref a)])) (fun _ k => st7 _ k) ?_
  obtain ⟨T8, h8, X8, e8, W8, st8⟩ := putF X7 hx hZ hown (host := "") (Or.inl (hw _ (List.mem_of_getElem? (i := 18) rfl))) Via.refl e7 F_a_names E_a (Or.inl (hw _ (List.mem_of_getElem? (i := 19) rfl))) (hw _ (List.mem_of_getElem? (i := 1) rfl)) (ty := (.array .int)) (by decide) rfl rfl (g := (mkF m 28 #[.val (.ref a), .val (.int t), .val (.int t)] [(.ref b7), (.ref a)])) rfl rfl (hb hby own_d2_28)
  have E_a := E_a.wr W8
  have F_a_depths := F_a_depths.other W8 (Or.inr (slot_ne (Or.inl (hw _ (List.mem_of_getElem? (i := 21) rfl))) (Or.inl (hw _ (List.mem_of_getElem? (i := 19) rfl))) (by decide) (t := (.array .int)) (t' := (.array .int)) (by decide) (by decide)))
  have F_a_firstExtents := F_a_firstExtents.other W8 (Or.inr (slot_ne (Or.inl (hw _ (List.mem_of_getElem? (i := 23) rfl))) (Or.inl (hw _ (List.mem_of_getElem? (i := 19) rfl))) (by decide) (t := (.array .int)) (t' := (.array .int)) (by decide) (by decide)))
  have F_a_size := F_a_size.other W8 (Or.inr (slot_ne (Or.inl (hw _ (List.mem_of_getElem? (i := 39) rfl))) (Or.inl (hw _ (List.mem_of_getElem? (i := 19) rfl))) (by decide) (t := .int) (t' := (.array .int)) (by decide) (by decide)))
  have F_a_extents := F_a_extents.other W8 (Or.inr (slot_ne (Or.inl (hw _ (List.mem_of_getElem? (i := 41) rfl))) (Or.inl (hw _ (List.mem_of_getElem? (i := 19) rfl))) (by decide) (t := .int) (t' := (.array .int)) (by decide) (by decide)))
  have F_a_offsets := F_a_offsets.other W8 (Or.inr (slot_ne (Or.inl (hw _ (List.mem_of_getElem? (i := 26) rfl))) (Or.inl (hw _ (List.mem_of_getElem? (i := 19) rfl))) (by decide) (t := (.array .long)) (t' := (.array .int)) (by decide) (by decide)))
  have F_a_starts := F_a_starts.other W8 (Or.inr (slot_ne (Or.inl (hw _ (List.mem_of_getElem? (i := 28) rfl))) (Or.inl (hw _ (List.mem_of_getElem? (i := 19) rfl))) (by decide) (t := (.array .long)) (t' := (.array .int)) (by decide) (by decide)))
  have F_a_sizes := F_a_sizes.other W8 (Or.inr (slot_ne (Or.inl (hw _ (List.mem_of_getElem? (i := 30) rfl))) (Or.inl (hw _ (List.mem_of_getElem? (i := 19) rfl))) (by decide) (t := (.array .int)) (t' := (.array .int)) (by decide) (by decide)))
  have F_a_checksums := F_a_checksums.other W8 (Or.inr (slot_ne (Or.inl (hw _ (List.mem_of_getElem? (i := 32) rfl))) (Or.inl (hw _ (List.mem_of_getElem? (i := 19) rfl))) (by decide) (t := (.array .int)) (t' := (.array .int)) (by decide) (by decide)))
  have I_b2 := I_b2.other W8 (Ne.symm ne_a_b2)
  have F_a_firstStreams := F_a_firstStreams.other W8 (Or.inr (slot_ne (Or.inl (hw _ (List.mem_of_getElem? (i := 11) rfl))) (Or.inl (hw _ (List.mem_of_getElem? (i := 19) rfl))) (by decide) (t := (.array .int)) (t' := (.array .int)) (by decide) (by decide)))
  have I_b4 := I_b4.other W8 (Ne.symm ne_a_b4)
  have F_a_firstDepths := F_a_firstDepths.other W8 (Or.inr (slot_ne (Or.inl (hw _ (List.mem_of_getElem? (i := 13) rfl))) (Or.inl (hw _ (List.mem_of_getElem? (i := 19) rfl))) (by decide) (t := (.array .int)) (t' := (.array .int)) (by decide) (by decide)))
  have I_b7 := I_b7.other W8 (Ne.symm ne_a_b7)
  have Zs := Nat.le_trans Zs (Keep.of_wr W8).1
  have F_a_names := F_a_names.same W8
  have KP := KP.wr W8 (Or.inl (by simp))
  have NF := Fr.snoc X8 NF g_a
  refine own_go (T' := T8) (g' := (mkF m 31 #[.val (.ref a), .val (.int t), .val (.int t)] [])) (fun _ k => st8 _ k) ?_
  refine own_go (T' := T8) (g' := (mkF m 32 #[.val (.ref a), .val (.int t), .val (.int t)] [(.ref a)])) (fun _ k => XS.aloadN X8.here hx rfl (hb hby own_d2_31) rfl rfl k) ?_
  refine own_go (T' := T8) (g' := (mkF m 33 #[.val (.ref a), .val (.int t), .val (.int t)] [(.int t), (.ref a)])) (fun _ k => XS.iloadN X8.here hx rfl (hb hby own_d2_32) rfl k) ?_
  obtain ⟨T9, h9, k9, X9, e9, E9, A9, st9⟩ := newP X8 hx hZ (hw _ (List.mem_of_getElem? (i := 9) rfl)) e8 (g := (mkF m 33 #[.val (.ref a), .val (.int t), .val (.int t)] [(.int t), (.ref a)])) rfl (hb hby own_d2_33) rfl hn (cap := 6) hc0 (by decide) (by decide) (by decide)
  obtain ⟨b9, g9⟩ : ∃ z, z = h8.size := ⟨_, rfl⟩
  rw [← g9] at A9 st9
  have ne_a_b9 : a ≠ b9 := Nat.ne_of_lt (Nat.lt_of_lt_of_le E_a.lt (Nat.le_of_eq g9.symm))
  have ne_b2_b9 : b2 ≠ b9 := Nat.ne_of_lt (Nat.lt_of_lt_of_le I_b2.lt (Nat.le_of_eq g9.symm))
  have ne_b4_b9 : b4 ≠ b9 := Nat.ne_of_lt (Nat.lt_of_lt_of_le I_b4.lt (Nat.le_of_eq g9.symm))
  have ne_b7_b9 : b7 ≠ b9 := Nat.ne_of_lt (Nat.lt_of_lt_of_le I_b7.lt (Nat.le_of_eq g9.symm))
  have g_b9 : n0 ≤ b9 := Nat.le_trans Zs (Nat.le_of_eq g9.symm)
  have sz_b9 : h0.size ≤ b9 := Nat.le_trans KP.1 (Nat.le_of_eq g9.symm)
  have E_a := E_a.ext E9
  have F_a_depths := F_a_depths.ext E9
  have F_a_firstExtents := F_a_firstExtents.ext E9
  have F_a_size := F_a_size.ext E9
  have F_a_extents := F_a_extents.ext E9
  have F_a_offsets := F_a_offsets.ext E9
  have F_a_starts := F_a_starts.ext E9
  have F_a_sizes := F_a_sizes.ext E9
  have F_a_checksums := F_a_checksums.ext E9
  have I_b2 := I_b2.ext E9
  have F_a_firstStreams := F_a_firstStreams.ext E9
  have I_b4 := I_b4.ext E9
  have F_a_firstDepths := F_a_firstDepths.ext E9
  have I_b7 := I_b7.ext E9
  have F_a_names := F_a_names.ext E9
  have KP := KP.ext E9
  have Zs := Nat.le_trans Zs E9.1
  have I_b9 := own_IA.new A9 hn
  refine own_go (T' := T9) (g' := (mkF m 35 #[.val (.ref a), .val (.int t), .val (.int t)] [(.ref b9), (.ref a)])) (fun _ k => st9 _ k) ?_
  obtain ⟨T10, h10, X10, e10, W10, st10⟩ := putF X9 hx hZ hown (host := "") (Or.inl (hw _ (List.mem_of_getElem? (i := 20) rfl))) Via.refl e9 F_a_depths E_a (Or.inl (hw _ (List.mem_of_getElem? (i := 21) rfl))) (hw _ (List.mem_of_getElem? (i := 1) rfl)) (ty := (.array .int)) (by decide) rfl rfl (g := (mkF m 35 #[.val (.ref a), .val (.int t), .val (.int t)] [(.ref b9), (.ref a)])) rfl rfl (hb hby own_d2_35)
  have E_a := E_a.wr W10
  have F_a_firstExtents := F_a_firstExtents.other W10 (Or.inr (slot_ne (Or.inl (hw _ (List.mem_of_getElem? (i := 23) rfl))) (Or.inl (hw _ (List.mem_of_getElem? (i := 21) rfl))) (by decide) (t := (.array .int)) (t' := (.array .int)) (by decide) (by decide)))
  have F_a_size := F_a_size.other W10 (Or.inr (slot_ne (Or.inl (hw _ (List.mem_of_getElem? (i := 39) rfl))) (Or.inl (hw _ (List.mem_of_getElem? (i := 21) rfl))) (by decide) (t := .int) (t' := (.array .int)) (by decide) (by decide)))
  have F_a_extents := F_a_extents.other W10 (Or.inr (slot_ne (Or.inl (hw _ (List.mem_of_getElem? (i := 41) rfl))) (Or.inl (hw _ (List.mem_of_getElem? (i := 21) rfl))) (by decide) (t := .int) (t' := (.array .int)) (by decide) (by decide)))
  have F_a_offsets := F_a_offsets.other W10 (Or.inr (slot_ne (Or.inl (hw _ (List.mem_of_getElem? (i := 26) rfl))) (Or.inl (hw _ (List.mem_of_getElem? (i := 21) rfl))) (by decide) (t := (.array .long)) (t' := (.array .int)) (by decide) (by decide)))
  have F_a_starts := F_a_starts.other W10 (Or.inr (slot_ne (Or.inl (hw _ (List.mem_of_getElem? (i := 28) rfl))) (Or.inl (hw _ (List.mem_of_getElem? (i := 21) rfl))) (by decide) (t := (.array .long)) (t' := (.array .int)) (by decide) (by decide)))
  have F_a_sizes := F_a_sizes.other W10 (Or.inr (slot_ne (Or.inl (hw _ (List.mem_of_getElem? (i := 30) rfl))) (Or.inl (hw _ (List.mem_of_getElem? (i := 21) rfl))) (by decide) (t := (.array .int)) (t' := (.array .int)) (by decide) (by decide)))
  have F_a_checksums := F_a_checksums.other W10 (Or.inr (slot_ne (Or.inl (hw _ (List.mem_of_getElem? (i := 32) rfl))) (Or.inl (hw _ (List.mem_of_getElem? (i := 21) rfl))) (by decide) (t := (.array .int)) (t' := (.array .int)) (by decide) (by decide)))
  have I_b2 := I_b2.other W10 (Ne.symm ne_a_b2)
  have F_a_firstStreams := F_a_firstStreams.other W10 (Or.inr (slot_ne (Or.inl (hw _ (List.mem_of_getElem? (i := 11) rfl))) (Or.inl (hw _ (List.mem_of_getElem? (i := 21) rfl))) (by decide) (t := (.array .int)) (t' := (.array .int)) (by decide) (by decide)))
  have I_b4 := I_b4.other W10 (Ne.symm ne_a_b4)
  have F_a_firstDepths := F_a_firstDepths.other W10 (Or.inr (slot_ne (Or.inl (hw _ (List.mem_of_getElem? (i := 13) rfl))) (Or.inl (hw _ (List.mem_of_getElem? (i := 21) rfl))) (by decide) (t := (.array .int)) (t' := (.array .int)) (by decide) (by decide)))
  have I_b7 := I_b7.other W10 (Ne.symm ne_a_b7)
  have F_a_names := F_a_names.other W10 (Or.inr (slot_ne (Or.inl (hw _ (List.mem_of_getElem? (i := 19) rfl))) (Or.inl (hw _ (List.mem_of_getElem? (i := 21) rfl))) (by decide) (t := (.array .int)) (t' := (.array .int)) (by decide) (by decide)))
  have I_b9 := I_b9.other W10 (Ne.symm ne_a_b9)
  have Zs := Nat.le_trans Zs (Keep.of_wr W10).1
  have F_a_depths := F_a_depths.same W10
  have KP := KP.wr W10 (Or.inl (by simp))
  have NF := Fr.snoc X10 NF g_a
  refine own_go (T' := T10) (g' := (mkF m 38 #[.val (.ref a), .val (.int t), .val (.int t)] [])) (fun _ k => st10 _ k) ?_
  refine own_go (T' := T10) (g' := (mkF m 39 #[.val (.ref a), .val (.int t), .val (.int t)] [(.ref a)])) (fun _ k => XS.aloadN X10.here hx rfl (hb hby own_d2_38) rfl rfl k) ?_
  refine own_go (T' := T10) (g' := (mkF m 40 #[.val (.ref a), .val (.int t), .val (.int t)] [(.int t), (.ref a)])) (fun _ k => XS.iloadN X10.here hx rfl (hb hby own_d2_39) rfl k) ?_
  refine own_go (T' := T10) (g' := (mkF m 41 #[.val (.ref a), .val (.int t), .val (.int t)] [(.int (1 : Int32)), (.int t), (.ref a)])) (fun _ k => XS.iconst X10.here hx rfl (hb hby own_d2_40) k) ?_
  refine own_go (T' := T10) (g' := (mkF m 42 #[.val (.ref a), .val (.int t), .val (.int t)] [(.int (t + (1 : Int32))), (.ref a)])) (fun _ k => XS.iadd X10.here hx rfl (hb hby own_d2_41) rfl k) ?_
  obtain ⟨T11, h11, k11, X11, e11, E11, A11, st11⟩ := newP X10 hx hZ (hw _ (List.mem_of_getElem? (i := 9) rfl)) e10 (g := (mkF m 42 #[.val (.ref a), .val (.int t), .val (.int t)] [(.int (t + (1 : Int32))), (.ref a)])) rfl (hb hby own_d2_42) rfl hn1 (cap := 7) hc1 (by decide) (by decide) (by decide)
  obtain ⟨b11, g11⟩ : ∃ z, z = h10.size := ⟨_, rfl⟩
  rw [← g11] at A11 st11
  have ne_a_b11 : a ≠ b11 := Nat.ne_of_lt (Nat.lt_of_lt_of_le E_a.lt (Nat.le_of_eq g11.symm))
  have ne_b2_b11 : b2 ≠ b11 := Nat.ne_of_lt (Nat.lt_of_lt_of_le I_b2.lt (Nat.le_of_eq g11.symm))
  have ne_b4_b11 : b4 ≠ b11 := Nat.ne_of_lt (Nat.lt_of_lt_of_le I_b4.lt (Nat.le_of_eq g11.symm))
  have ne_b7_b11 : b7 ≠ b11 := Nat.ne_of_lt (Nat.lt_of_lt_of_le I_b7.lt (Nat.le_of_eq g11.symm))
  have ne_b9_b11 : b9 ≠ b11 := Nat.ne_of_lt (Nat.lt_of_lt_of_le I_b9.lt (Nat.le_of_eq g11.symm))
  have g_b11 : n0 ≤ b11 := Nat.le_trans Zs (Nat.le_of_eq g11.symm)
  have sz_b11 : h0.size ≤ b11 := Nat.le_trans KP.1 (Nat.le_of_eq g11.symm)
  have E_a := E_a.ext E11
  have F_a_firstExtents := F_a_firstExtents.ext E11
  have F_a_size := F_a_size.ext E11
  have F_a_extents := F_a_extents.ext E11
  have F_a_offsets := F_a_offsets.ext E11
  have F_a_starts := F_a_starts.ext E11
  have F_a_sizes := F_a_sizes.ext E11
  have F_a_checksums := F_a_checksums.ext E11
  have I_b2 := I_b2.ext E11
  have F_a_firstStreams := F_a_firstStreams.ext E11
  have I_b4 := I_b4.ext E11
  have F_a_firstDepths := F_a_firstDepths.ext E11
  have I_b7 := I_b7.ext E11
  have F_a_names := F_a_names.ext E11
  have I_b9 := I_b9.ext E11
  have F_a_depths := F_a_depths.ext E11
  have KP := KP.ext E11
  have Zs := Nat.le_trans Zs E11.1
  have I_b11 := own_IA.new A11 hn1
  refine own_go (T' := T11) (g' := (mkF m 44 #[.val (.ref a), .val (.int t), .val (.int t)] [(.ref b11), (.ref a)])) (fun _ k => st11 _ k) ?_
  obtain ⟨T12, h12, X12, e12, W12, st12⟩ := putF X11 hx hZ hown (host := "") (Or.inl (hw _ (List.mem_of_getElem? (i := 22) rfl))) Via.refl e11 F_a_firstExtents E_a (Or.inl (hw _ (List.mem_of_getElem? (i := 23) rfl))) (hw _ (List.mem_of_getElem? (i := 1) rfl)) (ty := (.array .int)) (by decide) rfl rfl (g := (mkF m 44 #[.val (.ref a), .val (.int t), .val (.int t)] [(.ref b11), (.ref a)])) rfl rfl (hb hby own_d2_44)
  have E_a := E_a.wr W12
  have F_a_size := F_a_size.other W12 (Or.inr (slot_ne (Or.inl (hw _ (List.mem_of_getElem? (i := 39) rfl))) (Or.inl (hw _ (List.mem_of_getElem? (i := 23) rfl))) (by decide) (t := .int) (t' := (.array .int)) (by decide) (by decide)))
  have F_a_extents := F_a_extents.other W12 (Or.inr (slot_ne (Or.inl (hw _ (List.mem_of_getElem? (i := 41) rfl))) (Or.inl (hw _ (List.mem_of_getElem? (i := 23) rfl))) (by decide) (t := .int) (t' := (.array .int)) (by decide) (by decide)))
  have F_a_offsets := F_a_offsets.other W12 (Or.inr (slot_ne (Or.inl (hw _ (List.mem_of_getElem? (i := 26) rfl))) (Or.inl (hw _ (List.mem_of_getElem? (i := 23) rfl))) (by decide) (t := (.array .long)) (t' := (.array .int)) (by decide) (by decide)))
  have F_a_starts := F_a_starts.other W12 (Or.inr (slot_ne (Or.inl (hw _ (List.mem_of_getElem? (i := 28) rfl))) (Or.inl (hw _ (List.mem_of_getElem? (i := 23) rfl))) (by decide) (t := (.array .long)) (t' := (.array .int)) (by decide) (by decide)))
  have F_a_sizes := F_a_sizes.other W12 (Or.inr (slot_ne (Or.inl (hw _ (List.mem_of_getElem? (i := 30) rfl))) (Or.inl (hw _ (List.mem_of_getElem? (i := 23) rfl))) (by decide) (t := (.array .int)) (t' := (.array .int)) (by decide) (by decide)))
  have F_a_checksums := F_a_checksums.other W12 (Or.inr (slot_ne (Or.inl (hw _ (List.mem_of_getElem? (i := 32) rfl))) (Or.inl (hw _ (List.mem_of_getElem? (i := 23) rfl))) (by decide) (t := (.array .int)) (t' := (.array .int)) (by decide) (by decide)))
  have I_b2 := I_b2.other W12 (Ne.symm ne_a_b2)
  have F_a_firstStreams := F_a_firstStreams.other W12 (Or.inr (slot_ne (Or.inl (hw _ (List.mem_of_getElem? (i := 11) rfl))) (Or.inl (hw _ (List.mem_of_getElem? (i := 23) rfl))) (by decide) (t := (.array .int)) (t' := (.array .int)) (by decide) (by decide)))
  have I_b4 := I_b4.other W12 (Ne.symm ne_a_b4)
  have F_a_firstDepths := F_a_firstDepths.other W12 (Or.inr (slot_ne (Or.inl (hw _ (List.mem_of_getElem? (i := 13) rfl))) (Or.inl (hw _ (List.mem_of_getElem? (i := 23) rfl))) (by decide) (t := (.array .int)) (t' := (.array .int)) (by decide) (by decide)))
  have I_b7 := I_b7.other W12 (Ne.symm ne_a_b7)
  have F_a_names := F_a_names.other W12 (Or.inr (slot_ne (Or.inl (hw _ (List.mem_of_getElem? (i := 19) rfl))) (Or.inl (hw _ (List.mem_of_getElem? (i := 23) rfl))) (by decide) (t := (.array .int)) (t' := (.array .int)) (by decide) (by decide)))
  have I_b9 := I_b9.other W12 (Ne.symm ne_a_b9)
  have F_a_depths := F_a_depths.other W12 (Or.inr (slot_ne (Or.inl (hw _ (List.mem_of_getElem? (i := 21) rfl))) (Or.inl (hw _ (List.mem_of_getElem? (i := 23) rfl))) (by decide) (t := (.array .int)) (t' := (.array .int)) (by decide) (by decide)))
  have I_b11 := I_b11.other W12 (Ne.symm ne_a_b11)
  have Zs := Nat.le_trans Zs (Keep.of_wr W12).1
  have F_a_firstExtents := F_a_firstExtents.same W12
  have KP := KP.wr W12 (Or.inl (by simp))
  have NF := Fr.snoc X12 NF g_a
  refine own_go (T' := T12) (g' := (mkF m 47 #[.val (.ref a), .val (.int t), .val (.int t)] [])) (fun _ k => st12 _ k) ?_
  refine own_go (T' := T12) (g' := (mkF m 48 #[.val (.ref a), .val (.int t), .val (.int t)] [(.ref a)])) (fun _ k => XS.aloadN X12.here hx rfl (hb hby own_d2_47) rfl rfl k) ?_
  refine own_go (T' := T12) (g' := (mkF m 49 #[.val (.ref a), .val (.int t), .val (.int t)] [(.int t), (.ref a)])) (fun _ k => XS.iloadN X12.here hx rfl (hb hby own_d2_48) rfl k) ?_
  obtain ⟨T13, h13, k13, X13, e13, E13, A13, st13⟩ := newP X12 hx hZ (hw _ (List.mem_of_getElem? (i := 24) rfl)) e12 (g := (mkF m 49 #[.val (.ref a), .val (.int t), .val (.int t)] [(.int t), (.ref a)])) rfl (hb hby own_d2_49) rfl hn (cap := 6) hc0 (by decide) (by decide) (by decide)
  obtain ⟨b13, g13⟩ : ∃ z, z = h12.size := ⟨_, rfl⟩
  rw [← g13] at A13 st13
  have ne_a_b13 : a ≠ b13 := Nat.ne_of_lt (Nat.lt_of_lt_of_le E_a.lt (Nat.le_of_eq g13.symm))
  have ne_b11_b13 : b11 ≠ b13 := Nat.ne_of_lt (Nat.lt_of_lt_of_le I_b11.lt (Nat.le_of_eq g13.symm))
  have ne_b2_b13 : b2 ≠ b13 := Nat.ne_of_lt (Nat.lt_of_lt_of_le I_b2.lt (Nat.le_of_eq g13.symm))
  have ne_b4_b13 : b4 ≠ b13 := Nat.ne_of_lt (Nat.lt_of_lt_of_le I_b4.lt (Nat.le_of_eq g13.symm))
  have ne_b7_b13 : b7 ≠ b13 := Nat.ne_of_lt (Nat.lt_of_lt_of_le I_b7.lt (Nat.le_of_eq g13.symm))
  have ne_b9_b13 : b9 ≠ b13 := Nat.ne_of_lt (Nat.lt_of_lt_of_le I_b9.lt (Nat.le_of_eq g13.symm))
  have g_b13 : n0 ≤ b13 := Nat.le_trans Zs (Nat.le_of_eq g13.symm)
  have sz_b13 : h0.size ≤ b13 := Nat.le_trans KP.1 (Nat.le_of_eq g13.symm)
  have E_a := E_a.ext E13
  have F_a_size := F_a_size.ext E13
  have F_a_extents := F_a_extents.ext E13
  have F_a_offsets := F_a_offsets.ext E13
  have F_a_starts := F_a_starts.ext E13
  have F_a_sizes := F_a_sizes.ext E13
  have F_a_checksums := F_a_checksums.ext E13
  have I_b2 := I_b2.ext E13
  have F_a_firstStreams := F_a_firstStreams.ext E13
  have I_b4 := I_b4.ext E13
  have F_a_firstDepths := F_a_firstDepths.ext E13
  have I_b7 := I_b7.ext E13
  have F_a_names := F_a_names.ext E13
  have I_b9 := I_b9.ext E13
  have F_a_depths := F_a_depths.ext E13
  have I_b11 := I_b11.ext E13
  have F_a_firstExtents := F_a_firstExtents.ext E13
  have KP := KP.ext E13
  have Zs := Nat.le_trans Zs E13.1
  refine own_go (T' := T13) (g' := (mkF m 51 #[.val (.ref a), .val (.int t), .val (.int t)] [(.ref b13), (.ref a)])) (fun _ k => st13 _ k) ?_
  obtain ⟨T14, h14, X14, e14, W14, st14⟩ := putF X13 hx hZ hown (host := "") (Or.inl (hw _ (List.mem_of_getElem? (i := 25) rfl))) Via.refl e13 F_a_offsets E_a (Or.inl (hw _ (List.mem_of_getElem? (i := 26) rfl))) (hw _ (List.mem_of_getElem? (i := 1) rfl)) (ty := (.array .long)) (by decide) rfl rfl (g := (mkF m 51 #[.val (.ref a), .val (.int t), .val (.int t)] [(.ref b13), (.ref a)])) rfl rfl (hb hby own_d2_51)
  have E_a := E_a.wr W14
  have F_a_size := F_a_size.other W14 (Or.inr (slot_ne (Or.inl (hw _ (List.mem_of_getElem? (i := 39) rfl))) (Or.inl (hw _ (List.mem_of_getElem? (i := 26) rfl))) (by decide) (t := .int) (t' := (.array .long)) (by decide) (by decide)))
  have F_a_extents := F_a_extents.other W14 (Or.inr (slot_ne (Or.inl (hw _ (List.mem_of_getElem? (i := 41) rfl))) (Or.inl (hw _ (List.mem_of_getElem? (i := 26) rfl))) (by decide) (t := .int) (t' := (.array .long)) (by decide) (by decide)))
  have F_a_starts := F_a_starts.other W14 (Or.inr (slot_ne (Or.inl (hw _ (List.mem_of_getElem? (i := 28) rfl))) (Or.inl (hw _ (List.mem_of_getElem? (i := 26) rfl))) (by decide) (t := (.array .long)) (t' := (.array .long)) (by decide) (by decide)))
  have F_a_sizes := F_a_sizes.other W14 (Or.inr (slot_ne (Or.inl (hw _ (List.mem_of_getElem? (i := 30) rfl))) (Or.inl (hw _ (List.mem_of_getElem? (i := 26) rfl))) (by decide) (t := (.array .int)) (t' := (.array .long)) (by decide) (by decide)))
  have F_a_checksums := F_a_checksums.other W14 (Or.inr (slot_ne (Or.inl (hw _ (List.mem_of_getElem? (i := 32) rfl))) (Or.inl (hw _ (List.mem_of_getElem? (i := 26) rfl))) (by decide) (t := (.array .int)) (t' := (.array .long)) (by decide) (by decide)))
  have I_b2 := I_b2.other W14 (Ne.symm ne_a_b2)
  have F_a_firstStreams := F_a_firstStreams.other W14 (Or.inr (slot_ne (Or.inl (hw _ (List.mem_of_getElem? (i := 11) rfl))) (Or.inl (hw _ (List.mem_of_getElem? (i := 26) rfl))) (by decide) (t := (.array .int)) (t' := (.array .long)) (by decide) (by decide)))
  have I_b4 := I_b4.other W14 (Ne.symm ne_a_b4)
  have F_a_firstDepths := F_a_firstDepths.other W14 (Or.inr (slot_ne (Or.inl (hw _ (List.mem_of_getElem? (i := 13) rfl))) (Or.inl (hw _ (List.mem_of_getElem? (i := 26) rfl))) (by decide) (t := (.array .int)) (t' := (.array .long)) (by decide) (by decide)))
  have I_b7 := I_b7.other W14 (Ne.symm ne_a_b7)
  have F_a_names := F_a_names.other W14 (Or.inr (slot_ne (Or.inl (hw _ (List.mem_of_getElem? (i := 19) rfl))) (Or.inl (hw _ (List.mem_of_getElem? (i := 26) rfl))) (by decide) (t := (.array .int)) (t' := (.array .long)) (by decide) (by decide)))
  have I_b9 := I_b9.other W14 (Ne.symm ne_a_b9)
  have F_a_depths := F_a_depths.other W14 (Or.inr (slot_ne (Or.inl (hw _ (List.mem_of_getElem? (i := 21) rfl))) (Or.inl (hw _ (List.mem_of_getElem? (i := 26) rfl))) (by decide) (t := (.array .int)) (t' := (.array .long)) (by decide) (by decide)))
  have I_b11 := I_b11.other W14 (Ne.symm ne_a_b11)
  have F_a_firstExtents := F_a_firstExtents.other W14 (Or.inr (slot_ne (Or.inl (hw _ (List.mem_of_getElem? (i := 23) rfl))) (Or.inl (hw _ (List.mem_of_getElem? (i := 26) rfl))) (by decide) (t := (.array .int)) (t' := (.array .long)) (by decide) (by decide)))
  have Zs := Nat.le_trans Zs (Keep.of_wr W14).1
  have F_a_offsets := F_a_offsets.same W14
  have KP := KP.wr W14 (Or.inl (by simp))
  have NF := Fr.snoc X14 NF g_a
  refine own_go (T' := T14) (g' := (mkF m 54 #[.val (.ref a), .val (.int t), .val (.int t)] [])) (fun _ k => st14 _ k) ?_
  refine own_go (T' := T14) (g' := (mkF m 55 #[.val (.ref a), .val (.int t), .val (.int t)] [(.ref a)])) (fun _ k => XS.aloadN X14.here hx rfl (hb hby own_d2_54) rfl rfl k) ?_
  refine own_go (T' := T14) (g' := (mkF m 56 #[.val (.ref a), .val (.int t), .val (.int t)] [(.int t), (.ref a)])) (fun _ k => XS.iloadN X14.here hx rfl (hb hby own_d2_55) rfl k) ?_
  obtain ⟨T15, h15, k15, X15, e15, E15, A15, st15⟩ := newP X14 hx hZ (hw _ (List.mem_of_getElem? (i := 24) rfl)) e14 (g := (mkF m 56 #[.val (.ref a), .val (.int t), .val (.int t)] [(.int t), (.ref a)])) rfl (hb hby own_d2_56) rfl hn (cap := 6) hc0 (by decide) (by decide) (by decide)
  obtain ⟨b15, g15⟩ : ∃ z, z = h14.size := ⟨_, rfl⟩
  rw [← g15] at A15 st15
  have ne_a_b15 : a ≠ b15 := Nat.ne_of_lt (Nat.lt_of_lt_of_le E_a.lt (Nat.le_of_eq g15.symm))
  have ne_b11_b15 : b11 ≠ b15 := Nat.ne_of_lt (Nat.lt_of_lt_of_le I_b11.lt (Nat.le_of_eq g15.symm))
  have ne_b2_b15 : b2 ≠ b15 := Nat.ne_of_lt (Nat.lt_of_lt_of_le I_b2.lt (Nat.le_of_eq g15.symm))
  have ne_b4_b15 : b4 ≠ b15 := Nat.ne_of_lt (Nat.lt_of_lt_of_le I_b4.lt (Nat.le_of_eq g15.symm))
  have ne_b7_b15 : b7 ≠ b15 := Nat.ne_of_lt (Nat.lt_of_lt_of_le I_b7.lt (Nat.le_of_eq g15.symm))
  have ne_b9_b15 : b9 ≠ b15 := Nat.ne_of_lt (Nat.lt_of_lt_of_le I_b9.lt (Nat.le_of_eq g15.symm))
  have g_b15 : n0 ≤ b15 := Nat.le_trans Zs (Nat.le_of_eq g15.symm)
  have sz_b15 : h0.size ≤ b15 := Nat.le_trans KP.1 (Nat.le_of_eq g15.symm)
  have E_a := E_a.ext E15
  have F_a_size := F_a_size.ext E15
  have F_a_extents := F_a_extents.ext E15
  have F_a_starts := F_a_starts.ext E15
  have F_a_sizes := F_a_sizes.ext E15
  have F_a_checksums := F_a_checksums.ext E15
  have I_b2 := I_b2.ext E15
  have F_a_firstStreams := F_a_firstStreams.ext E15
  have I_b4 := I_b4.ext E15
  have F_a_firstDepths := F_a_firstDepths.ext E15
  have I_b7 := I_b7.ext E15
  have F_a_names := F_a_names.ext E15
  have I_b9 := I_b9.ext E15
  have F_a_depths := F_a_depths.ext E15
  have I_b11 := I_b11.ext E15
  have F_a_firstExtents := F_a_firstExtents.ext E15
  have F_a_offsets := F_a_offsets.ext E15
  have KP := KP.ext E15
  have Zs := Nat.le_trans Zs E15.1
  refine own_go (T' := T15) (g' := (mkF m 58 #[.val (.ref a), .val (.int t), .val (.int t)] [(.ref b15), (.ref a)])) (fun _ k => st15 _ k) ?_
  obtain ⟨T16, h16, X16, e16, W16, st16⟩ := putF X15 hx hZ hown (host := "") (Or.inl (hw _ (List.mem_of_getElem? (i := 27) rfl))) Via.refl e15 F_a_starts E_a (Or.inl (hw _ (List.mem_of_getElem? (i := 28) rfl))) (hw _ (List.mem_of_getElem? (i := 1) rfl)) (ty := (.array .long)) (by decide) rfl rfl (g := (mkF m 58 #[.val (.ref a), .val (.int t), .val (.int t)] [(.ref b15), (.ref a)])) rfl rfl (hb hby own_d2_58)
  have E_a := E_a.wr W16
  have F_a_size := F_a_size.other W16 (Or.inr (slot_ne (Or.inl (hw _ (List.mem_of_getElem? (i := 39) rfl))) (Or.inl (hw _ (List.mem_of_getElem? (i := 28) rfl))) (by decide) (t := .int) (t' := (.array .long)) (by decide) (by decide)))
  have F_a_extents := F_a_extents.other W16 (Or.inr (slot_ne (Or.inl (hw _ (List.mem_of_getElem? (i := 41) rfl))) (Or.inl (hw _ (List.mem_of_getElem? (i := 28) rfl))) (by decide) (t := .int) (t' := (.array .long)) (by decide) (by decide)))
  have F_a_sizes := F_a_sizes.other W16 (Or.inr (slot_ne (Or.inl (hw _ (List.mem_of_getElem? (i := 30) rfl))) (Or.inl (hw _ (List.mem_of_getElem? (i := 28) rfl))) (by decide) (t := (.array .int)) (t' := (.array .long)) (by decide) (by decide)))
  have F_a_checksums := F_a_checksums.other W16 (Or.inr (slot_ne (Or.inl (hw _ (List.mem_of_getElem? (i := 32) rfl))) (Or.inl (hw _ (List.mem_of_getElem? (i := 28) rfl))) (by decide) (t := (.array .int)) (t' := (.array .long)) (by decide) (by decide)))
  have I_b2 := I_b2.other W16 (Ne.symm ne_a_b2)
  have F_a_firstStreams := F_a_firstStreams.other W16 (Or.inr (slot_ne (Or.inl (hw _ (List.mem_of_getElem? (i := 11) rfl))) (Or.inl (hw _ (List.mem_of_getElem? (i := 28) rfl))) (by decide) (t := (.array .int)) (t' := (.array .long)) (by decide) (by decide)))
  have I_b4 := I_b4.other W16 (Ne.symm ne_a_b4)
  have F_a_firstDepths := F_a_firstDepths.other W16 (Or.inr (slot_ne (Or.inl (hw _ (List.mem_of_getElem? (i := 13) rfl))) (Or.inl (hw _ (List.mem_of_getElem? (i := 28) rfl))) (by decide) (t := (.array .int)) (t' := (.array .long)) (by decide) (by decide)))
  have I_b7 := I_b7.other W16 (Ne.symm ne_a_b7)
  have F_a_names := F_a_names.other W16 (Or.inr (slot_ne (Or.inl (hw _ (List.mem_of_getElem? (i := 19) rfl))) (Or.inl (hw _ (List.mem_of_getElem? (i := 28) rfl))) (by decide) (t := (.array .int)) (t' := (.array .long)) (by decide) (by decide)))
  have I_b9 := I_b9.other W16 (Ne.symm ne_a_b9)
  have F_a_depths := F_a_depths.other W16 (Or.inr (slot_ne (Or.inl (hw _ (List.mem_of_getElem? (i := 21) rfl))) (Or.inl (hw _ (List.mem_of_getElem? (i := 28) rfl))) (by decide) (t := (.array .int)) (t' := (.array .long)) (by decide) (by decide)))
  have I_b11 := I_b11.other W16 (Ne.symm ne_a_b11)
  have F_a_firstExtents := F_a_firstExtents.other W16 (Or.inr (slot_ne (Or.inl (hw _ (List.mem_of_getElem? (i := 23) rfl))) (Or.inl (hw _ (List.mem_of_getElem? (i := 28) rfl))) (by decide) (t := (.array .int)) (t' := (.array .long)) (by decide) (by decide)))
  have F_a_offsets := F_a_offsets.other W16 (Or.inr (slot_ne (Or.inl (hw _ (List.mem_of_getElem? (i := 26) rfl))) (Or.inl (hw _ (List.mem_of_getElem? (i := 28) rfl))) (by decide) (t := (.array .long)) (t' := (.array .long)) (by decide) (by decide)))
  have Zs := Nat.le_trans Zs (Keep.of_wr W16).1
  have F_a_starts := F_a_starts.same W16
  have KP := KP.wr W16 (Or.inl (by simp))
  have NF := Fr.snoc X16 NF g_a
  refine own_go (T' := T16) (g' := (mkF m 61 #[.val (.ref a), .val (.int t), .val (.int t)] [])) (fun _ k => st16 _ k) ?_
  refine own_go (T' := T16) (g' := (mkF m 62 #[.val (.ref a), .val (.int t), .val (.int t)] [(.ref a)])) (fun _ k => XS.aloadN X16.here hx rfl (hb hby own_d2_61) rfl rfl k) ?_
  refine own_go (T' := T16) (g' := (mkF m 63 #[.val (.ref a), .val (.int t), .val (.int t)] [(.int t), (.ref a)])) (fun _ k => XS.iloadN X16.here hx rfl (hb hby own_d2_62) rfl k) ?_
  obtain ⟨T17, h17, k17, X17, e17, E17, A17, st17⟩ := newP X16 hx hZ (hw _ (List.mem_of_getElem? (i := 9) rfl)) e16 (g := (mkF m 63 #[.val (.ref a), .val (.int t), .val (.int t)] [(.int t), (.ref a)])) rfl (hb hby own_d2_63) rfl hn (cap := 6) hc0 (by decide) (by decide) (by decide)
  obtain ⟨b17, g17⟩ : ∃ z, z = h16.size := ⟨_, rfl⟩
  rw [← g17] at A17 st17
  have ne_a_b17 : a ≠ b17 := Nat.ne_of_lt (Nat.lt_of_lt_of_le E_a.lt (Nat.le_of_eq g17.symm))
  have ne_b11_b17 : b11 ≠ b17 := Nat.ne_of_lt (Nat.lt_of_lt_of_le I_b11.lt (Nat.le_of_eq g17.symm))
  have ne_b2_b17 : b2 ≠ b17 := Nat.ne_of_lt (Nat.lt_of_lt_of_le I_b2.lt (Nat.le_of_eq g17.symm))
  have ne_b4_b17 : b4 ≠ b17 := Nat.ne_of_lt (Nat.lt_of_lt_of_le I_b4.lt (Nat.le_of_eq g17.symm))
  have ne_b7_b17 : b7 ≠ b17 := Nat.ne_of_lt (Nat.lt_of_lt_of_le I_b7.lt (Nat.le_of_eq g17.symm))
  have ne_b9_b17 : b9 ≠ b17 := Nat.ne_of_lt (Nat.lt_of_lt_of_le I_b9.lt (Nat.le_of_eq g17.symm))
  have g_b17 : n0 ≤ b17 := Nat.le_trans Zs (Nat.le_of_eq g17.symm)
  have sz_b17 : h0.size ≤ b17 := Nat.le_trans KP.1 (Nat.le_of_eq g17.symm)
  have E_a := E_a.ext E17
  have F_a_size := F_a_size.ext E17
  have F_a_extents := F_a_extents.ext E17
  have F_a_sizes := F_a_sizes.ext E17
  have F_a_checksums := F_a_checksums.ext E17
  have I_b2 := I_b2.ext E17
  have F_a_firstStreams := F_a_firstStreams.ext E17
  have I_b4 := I_b4.ext E17
  have F_a_firstDepths := F_a_firstDepths.ext E17
  have I_b7 := I_b7.ext E17
  have F_a_names := F_a_names.ext E17
  have I_b9 := I_b9.ext E17
  have F_a_depths := F_a_depths.ext E17
  have I_b11 := I_b11.ext E17
  have F_a_firstExtents := F_a_firstExtents.ext E17
  have F_a_offsets := F_a_offsets.ext E17
  have F_a_starts := F_a_starts.ext E17
  have KP := KP.ext E17
  have Zs := Nat.le_trans Zs E17.1
  have I_b17 := own_IA.new A17 hn
  refine own_go (T' := T17) (g' := (mkF m 65 #[.val (.ref a), .val (.int t), .val (.int t)] [(.ref b17), (.ref a)])) (fun _ k => st17 _ k) ?_
  obtain ⟨T18, h18, X18, e18, W18, st18⟩ := putF X17 hx hZ hown (host := "") (Or.inl (hw _ (List.mem_of_getElem? (i := 29) rfl))) Via.refl e17 F_a_sizes E_a (Or.inl (hw _ (List.mem_of_getElem? (i := 30) rfl))) (hw _ (List.mem_of_getElem? (i := 1) rfl)) (ty := (.array .int)) (by decide) rfl rfl (g := (mkF m 65 #[.val (.ref a), .val (.int t), .val (.int t)] [(.ref b17), (.ref a)])) rfl rfl (hb hby own_d2_65)
  have E_a := E_a.wr W18
  have F_a_size := F_a_size.other W18 (Or.inr (slot_ne (Or.inl (hw _ (List.mem_of_getElem? (i := 39) rfl))) (Or.inl (hw _ (List.mem_of_getElem? (i := 30) rfl))) (by decide) (t := .int) (t' := (.array .int)) (by decide) (by decide)))
  have F_a_extents := F_a_extents.other W18 (Or.inr (slot_ne (Or.inl (hw _ (List.mem_of_getElem? (i := 41) rfl))) (Or.inl (hw _ (List.mem_of_getElem? (i := 30) rfl))) (by decide) (t := .int) (t' := (.array .int)) (by decide) (by decide)))
  have F_a_checksums := F_a_checksums.other W18 (Or.inr (slot_ne (Or.inl (hw _ (List.mem_of_getElem? (i := 32) rfl))) (Or.inl (hw _ (List.mem_of_getElem? (i := 30) rfl))) (by decide) (t := (.array .int)) (t' := (.array .int)) (by decide) (by decide)))
  have I_b2 := I_b2.other W18 (Ne.symm ne_a_b2)
  have F_a_firstStreams := F_a_firstStreams.other W18 (Or.inr (slot_ne (Or.inl (hw _ (List.mem_of_getElem? (i := 11) rfl))) (Or.inl (hw _ (List.mem_of_getElem? (i := 30) rfl))) (by decide) (t := (.array .int)) (t' := (.array .int)) (by decide) (by decide)))
  have I_b4 := I_b4.other W18 (Ne.symm ne_a_b4)
  have F_a_firstDepths := F_a_firstDepths.other W18 (Or.inr (slot_ne (Or.inl (hw _ (List.mem_of_getElem? (i := 13) rfl))) (Or.inl (hw _ (List.mem_of_getElem? (i := 30) rfl))) (by decide) (t := (.array .int)) (t' := (.array .int)) (by decide) (by decide)))
  have I_b7 := I_b7.other W18 (Ne.symm ne_a_b7)
  have F_a_names := F_a_names.other W18 (Or.inr (slot_ne (Or.inl (hw _ (List.mem_of_getElem? (i := 19) rfl))) (Or.inl (hw _ (List.mem_of_getElem? (i := 30) rfl))) (by decide) (t := (.array .int)) (t' := (.array .int)) (by decide) (by decide)))
  have I_b9 := I_b9.other W18 (Ne.symm ne_a_b9)
  have F_a_depths := F_a_depths.other W18 (Or.inr (slot_ne (Or.inl (hw _ (List.mem_of_getElem? (i := 21) rfl))) (Or.inl (hw _ (List.mem_of_getElem? (i := 30) rfl))) (by decide) (t := (.array .int)) (t' := (.array .int)) (by decide) (by decide)))
  have I_b11 := I_b11.other W18 (Ne.symm ne_a_b11)
  have F_a_firstExtents := F_a_firstExtents.other W18 (Or.inr (slot_ne (Or.inl (hw _ (List.mem_of_getElem? (i := 23) rfl))) (Or.inl (hw _ (List.mem_of_getElem? (i := 30) rfl))) (by decide) (t := (.array .int)) (t' := (.array .int)) (by decide) (by decide)))
  have F_a_offsets := F_a_offsets.other W18 (Or.inr (slot_ne (Or.inl (hw _ (List.mem_of_getElem? (i := 26) rfl))) (Or.inl (hw _ (List.mem_of_getElem? (i := 30) rfl))) (by decide) (t := (.array .long)) (t' := (.array .int)) (by decide) (by decide)))
  have F_a_starts := F_a_starts.other W18 (Or.inr (slot_ne (Or.inl (hw _ (List.mem_of_getElem? (i := 28) rfl))) (Or.inl (hw _ (List.mem_of_getElem? (i := 30) rfl))) (by decide) (t := (.array .long)) (t' := (.array .int)) (by decide) (by decide)))
  have I_b17 := I_b17.other W18 (Ne.symm ne_a_b17)
  have Zs := Nat.le_trans Zs (Keep.of_wr W18).1
  have F_a_sizes := F_a_sizes.same W18
  have KP := KP.wr W18 (Or.inl (by simp))
  have NF := Fr.snoc X18 NF g_a
  refine own_go (T' := T18) (g' := (mkF m 68 #[.val (.ref a), .val (.int t), .val (.int t)] [])) (fun _ k => st18 _ k) ?_
  refine own_go (T' := T18) (g' := (mkF m 69 #[.val (.ref a), .val (.int t), .val (.int t)] [(.ref a)])) (fun _ k => XS.aloadN X18.here hx rfl (hb hby own_d2_68) rfl rfl k) ?_
  refine own_go (T' := T18) (g' := (mkF m 70 #[.val (.ref a), .val (.int t), .val (.int t)] [(.int t), (.ref a)])) (fun _ k => XS.iloadN X18.here hx rfl (hb hby own_d2_69) rfl k) ?_
  obtain ⟨T19, h19, k19, X19, e19, E19, A19, st19⟩ := newP X18 hx hZ (hw _ (List.mem_of_getElem? (i := 9) rfl)) e18 (g := (mkF m 70 #[.val (.ref a), .val (.int t), .val (.int t)] [(.int t), (.ref a)])) rfl (hb hby own_d2_70) rfl hn (cap := 6) hc0 (by decide) (by decide) (by decide)
  obtain ⟨b19, g19⟩ : ∃ z, z = h18.size := ⟨_, rfl⟩
  rw [← g19] at A19 st19
  have ne_a_b19 : a ≠ b19 := Nat.ne_of_lt (Nat.lt_of_lt_of_le E_a.lt (Nat.le_of_eq g19.symm))
  have ne_b11_b19 : b11 ≠ b19 := Nat.ne_of_lt (Nat.lt_of_lt_of_le I_b11.lt (Nat.le_of_eq g19.symm))
  have ne_b17_b19 : b17 ≠ b19 := Nat.ne_of_lt (Nat.lt_of_lt_of_le I_b17.lt (Nat.le_of_eq g19.symm))
  have ne_b2_b19 : b2 ≠ b19 := Nat.ne_of_lt (Nat.lt_of_lt_of_le I_b2.lt (Nat.le_of_eq g19.symm))
  have ne_b4_b19 : b4 ≠ b19 := Nat.ne_of_lt (Nat.lt_of_lt_of_le I_b4.lt (Nat.le_of_eq g19.symm))
  have ne_b7_b19 : b7 ≠ b19 := Nat.ne_of_lt (Nat.lt_of_lt_of_le I_b7.lt (Nat.le_of_eq g19.symm))
  have ne_b9_b19 : b9 ≠ b19 := Nat.ne_of_lt (Nat.lt_of_lt_of_le I_b9.lt (Nat.le_of_eq g19.symm))
  have g_b19 : n0 ≤ b19 := Nat.le_trans Zs (Nat.le_of_eq g19.symm)
  have sz_b19 : h0.size ≤ b19 := Nat.le_trans KP.1 (Nat.le_of_eq g19.symm)
  have E_a := E_a.ext E19
  have F_a_size := F_a_size.ext E19
  have F_a_extents := F_a_extents.ext E19
  have F_a_checksums := F_a_checksums.ext E19
  have I_b2 := I_b2.ext E19
  have F_a_firstStreams := F_a_firstStreams.ext E19
  have I_b4 := I_b4.ext E19
  have F_a_firstDepths := F_a_firstDepths.ext E19
  have I_b7 := I_b7.ext E19
  have F_a_names := F_a_names.ext E19
  have I_b9 := I_b9.ext E19
  have F_a_depths := F_a_depths.ext E19
  have I_b11 := I_b11.ext E19
  have F_a_firstExtents := F_a_firstExtents.ext E19
  have F_a_offsets := F_a_offsets.ext E19
  have F_a_starts := F_a_starts.ext E19
  have I_b17 := I_b17.ext E19
  have F_a_sizes := F_a_sizes.ext E19
  have KP := KP.ext E19
  have Zs := Nat.le_trans Zs E19.1
  have I_b19 := own_IA.new A19 hn
  refine own_go (T' := T19) (g' := (mkF m 72 #[.val (.ref a), .val (.int t), .val (.int t)] [(.ref b19), (.ref a)])) (fun _ k => st19 _ k) ?_
  obtain ⟨T20, h20, X20, e20, W20, st20⟩ := putF X19 hx hZ hown (host := "") (Or.inl (hw _ (List.mem_of_getElem? (i := 31) rfl))) Via.refl e19 F_a_checksums E_a (Or.inl (hw _ (List.mem_of_getElem? (i := 32) rfl))) (hw _ (List.mem_of_getElem? (i := 1) rfl)) (ty := (.array .int)) (by decide) rfl rfl (g := (mkF m 72 #[.val (.ref a), .val (.int t), .val (.int t)] [(.ref b19), (.ref a)])) rfl rfl (hb hby own_d2_72)
  have E_a := E_a.wr W20
  have F_a_size := F_a_size.other W20 (Or.inr (slot_ne (Or.inl (hw _ (List.mem_of_getElem? (i := 39) rfl))) (Or.inl (hw _ (List.mem_of_getElem? (i := 32) rfl))) (by decide) (t := .int) (t' := (.array .int)) (by decide) (by decide)))
  have F_a_extents := F_a_extents.other W20 (Or.inr (slot_ne (Or.inl (hw _ (List.mem_of_getElem? (i := 41) rfl))) (Or.inl (hw _ (List.mem_of_getElem? (i := 32) rfl))) (by decide) (t := .int) (t' := (.array .int)) (by decide) (by decide)))
  have I_b2 := I_b2.other W20 (Ne.symm ne_a_b2)
  have F_a_firstStreams := F_a_firstStreams.other W20 (Or.inr (slot_ne (Or.inl (hw _ (List.mem_of_getElem? (i := 11) rfl))) (Or.inl (hw _ (List.mem_of_getElem? (i := 32) rfl))) (by decide) (t := (.array .int)) (t' := (.array .int)) (by decide) (by decide)))
  have I_b4 := I_b4.other W20 (Ne.symm ne_a_b4)
  have F_a_firstDepths := F_a_firstDepths.other W20 (Or.inr (slot_ne (Or.inl (hw _ (List.mem_of_getElem? (i := 13) rfl))) (Or.inl (hw _ (List.mem_of_getElem? (i := 32) rfl))) (by decide) (t := (.array .int)) (t' := (.array .int)) (by decide) (by decide)))
  have I_b7 := I_b7.other W20 (Ne.symm ne_a_b7)
  have F_a_names := F_a_names.other W20 (Or.inr (slot_ne (Or.inl (hw _ (List.mem_of_getElem? (i := 19) rfl))) (Or.inl (hw _ (List.mem_of_getElem? (i := 32) rfl))) (by decide) (t := (.array .int)) (t' := (.array .int)) (by decide) (by decide)))
  have I_b9 := I_b9.other W20 (Ne.symm ne_a_b9)
  have F_a_depths := F_a_depths.other W20 (Or.inr (slot_ne (Or.inl (hw _ (List.mem_of_getElem? (i := 21) rfl))) (Or.inl (hw _ (List.mem_of_getElem? (i := 32) rfl))) (by decide) (t := (.array .int)) (t' := (.array .int)) (by decide) (by decide)))
  have I_b11 := I_b11.other W20 (Ne.symm ne_a_b11)
  have F_a_firstExtents := F_a_firstExtents.other W20 (Or.inr (slot_ne (Or.inl (hw _ (List.mem_of_getElem? (i := 23) rfl))) (Or.inl (hw _ (List.mem_of_getElem? (i := 32) rfl))) (by decide) (t := (.array .int)) (t' := (.array .int)) (by decide) (by decide)))
  have F_a_offsets := F_a_offsets.other W20 (Or.inr (slot_ne (Or.inl (hw _ (List.mem_of_getElem? (i := 26) rfl))) (Or.inl (hw _ (List.mem_of_getElem? (i := 32) rfl))) (by decide) (t := (.array .long)) (t' := (.array .int)) (by decide) (by decide)))
  have F_a_starts := F_a_starts.other W20 (Or.inr (slot_ne (Or.inl (hw _ (List.mem_of_getElem? (i := 28) rfl))) (Or.inl (hw _ (List.mem_of_getElem? (i := 32) rfl))) (by decide) (t := (.array .long)) (t' := (.array .int)) (by decide) (by decide)))
  have I_b17 := I_b17.other W20 (Ne.symm ne_a_b17)
  have F_a_sizes := F_a_sizes.other W20 (Or.inr (slot_ne (Or.inl (hw _ (List.mem_of_getElem? (i := 30) rfl))) (Or.inl (hw _ (List.mem_of_getElem? (i := 32) rfl))) (by decide) (t := (.array .int)) (t' := (.array .int)) (by decide) (by decide)))
  have I_b19 := I_b19.other W20 (Ne.symm ne_a_b19)
  have Zs := Nat.le_trans Zs (Keep.of_wr W20).1
  have F_a_checksums := F_a_checksums.same W20
  have KP := KP.wr W20 (Or.inl (by simp))
  have NF := Fr.snoc X20 NF g_a
  refine own_go (T' := T20) (g' := (mkF m 75 #[.val (.ref a), .val (.int t), .val (.int t)] [])) (fun _ k => st20 _ k) ?_
  refine own_ret X20 Bd.notSynchronized none (fun _ => rfl) (fun fs hr => X20.returnOut hx Bd.returns (hb hby own_d2_75) hr) ?_ (by decide) (by decide)
  show (own_Q2 Z a t h0 n0) none T20.heap _
  rw [e20]
  exact ⟨rfl, NF, KP, E_a, b7, b9, b11, b2, b4, ⟨sz_b7, sz_b9, sz_b11, ne_b7_b9, ne_b7_b11, ne_b9_b11⟩, F_a_firstStreams, F_a_firstDepths, F_a_names, F_a_depths, F_a_firstExtents, F_a_size, F_a_extents, I_b7, I_b9, I_b11⟩
theorem own_d3_0 : decode prog_95_method_3_code 0 = .ok (.aload_n 0, 1) := by decide +kernel
theorem own_d3_1 : decode prog_95_method_3_code 1 = .ok (.getfield 49, 3) := by decide +kernel
theorem own_d3_4 : decode prog_95_method_3_code 4 = .ok (.aload_n 0, 1) := by decide +kernel
theorem own_d3_5 : decode prog_95_method_3_code 5 = .ok (.getfield 22, 3) := by decide +kernel
theorem own_d3_8 : decode prog_95_method_3_code 8 = .ok (.arraylength, 1) := by decide +kernel
theorem own_d3_9 : decode prog_95_method_3_code 9 = .ok (.if_icmp .ne 51, 3) := by decide +kernel
theorem own_d3_60 : decode prog_95_method_3_code 60 = .ok (.aload_n 0, 1) := by decide +kernel
theorem own_d3_61 : decode prog_95_method_3_code 61 = .ok (.getfield 22, 3) := by decide +kernel
theorem own_d3_64 : decode prog_95_method_3_code 64 = .ok (.aload_n 0, 1) := by decide +kernel
theorem own_d3_65 : decode prog_95_method_3_code 65 = .ok (.getfield 49, 3) := by decide +kernel
theorem own_d3_68 : decode prog_95_method_3_code 68 = .ok (.iload_n 1, 1) := by decide +kernel
theorem own_d3_69 : decode prog_95_method_3_code 69 = .ok (.iastore, 1) := by decide +kernel
theorem own_d3_70 : decode prog_95_method_3_code 70 = .ok (.aload_n 0, 1) := by decide +kernel
theorem own_d3_71 : decode prog_95_method_3_code 71 = .ok (.getfield 25, 3) := by decide +kernel
theorem own_d3_74 : decode prog_95_method_3_code 74 = .ok (.aload_n 0, 1) := by decide +kernel
theorem own_d3_75 : decode prog_95_method_3_code 75 = .ok (.getfield 49, 3) := by decide +kernel
theorem own_d3_78 : decode prog_95_method_3_code 78 = .ok (.iload_n 2, 1) := by decide +kernel
theorem own_d3_79 : decode prog_95_method_3_code 79 = .ok (.iastore, 1) := by decide +kernel
theorem own_d3_80 : decode prog_95_method_3_code 80 = .ok (.aload_n 0, 1) := by decide +kernel
theorem own_d3_81 : decode prog_95_method_3_code 81 = .ok (.dup, 1) := by decide +kernel
theorem own_d3_82 : decode prog_95_method_3_code 82 = .ok (.getfield 49, 3) := by decide +kernel
theorem own_d3_85 : decode prog_95_method_3_code 85 = .ok (.iconst 1, 1) := by decide +kernel
theorem own_d3_86 : decode prog_95_method_3_code 86 = .ok (.iadd, 1) := by decide +kernel
theorem own_d3_87 : decode prog_95_method_3_code 87 = .ok (.putfield 49, 3) := by decide +kernel
theorem own_d3_90 : decode prog_95_method_3_code 90 = .ok (.aload_n 0, 1) := by decide +kernel
theorem own_d3_91 : decode prog_95_method_3_code 91 = .ok (.getfield 28, 3) := by decide +kernel
theorem own_d3_94 : decode prog_95_method_3_code 94 = .ok (.aload_n 0, 1) := by decide +kernel
theorem own_d3_95 : decode prog_95_method_3_code 95 = .ok (.getfield 49, 3) := by decide +kernel
theorem own_d3_98 : decode prog_95_method_3_code 98 = .ok (.aload_n 0, 1) := by decide +kernel
theorem own_d3_99 : decode prog_95_method_3_code 99 = .ok (.getfield 67, 3) := by decide +kernel
theorem own_d3_102 : decode prog_95_method_3_code 102 = .ok (.iastore, 1) := by decide +kernel
theorem own_d3_103 : decode prog_95_method_3_code 103 = .ok (.return_, 1) := by decide +kernel
theorem own_pn3 : plainName "com/example/nimble_twig/nimbletwig/index/store/StoredStreams" = true := by first | (simp [plainName, overriddenIn]; done) | decide +kernel
theorem own_ef3 (m : MethodId) (a : Addr) (nm : Int32) (dp : Int32) : entryFrame m #[(.ref a), (.int nm), (.int dp)] 4 = mkF m 0 #[.val (.ref a), .val (.int nm), .val (.int dp), .unset] [] := by first | (simp [entryFrame, mkF, argsToLocals, Value.category]; done) | rfl
def own_Q3 (Z : State) (a : Addr) (nm : Int32) (dp : Int32) (sA : Addr) (tA : Addr) (nA : Addr) (dA : Addr) (fA : Addr) (cp : Int32) (cp1 : Int32) (sz : Int32) (fn : Nat → Int32) (fd : Nat → Int32) (fx : Nat → Int32) (h0 : Heap) (n0 : Nat) (v : Option Value) (h : Heap) (L : List Loc) : Prop := v = none ∧ Fr n0 L ∧ Keep h0 h [a, nA, dA, fA] ∧ Exa Z h a "com/example/nimble_twig/nimbletwig/index/store/StoredStreams" ∧ Fld Z h a "com/example/nimble_twig/nimbletwig/index/store/StoredStreams" "firstStreams" "[I" (.ref sA) ∧ Fld Z h a "com/example/nimble_twig/nimbletwig/index/store/StoredStreams" "firstDepths" "[I" (.ref tA) ∧ Fld Z h a "com/example/nimble_twig/nimbletwig/index/store/StoredStreams" "names" "[I" (.ref nA) ∧ Fld Z h a "com/example/nimble_twig/nimbletwig/index/store/StoredStreams" "depths" "[I" (.ref dA) ∧ Fld Z h a "com/example/nimble_twig/nimbletwig/index/store/StoredStreams" "firstExtents" "[I" (.ref fA) ∧ Fld Z h a "com/example/nimble_twig/nimbletwig/index/store/StoredStreams" "size" "I" (.int (sz + (1 : Int32))) ∧ Fld Z h a "com/example/nimble_twig/nimbletwig/index/store/StoredStreams" "extents" "I" (.int (0 : Int32)) ∧ own_IA Z h nA cp (own_up fn sz.toNatClampNeg nm) ∧ own_IA Z h dA cp (own_up fd sz.toNatClampNeg dp) ∧ own_IA Z h fA cp1 (own_up fx (sz + (1 : Int32)).toNatClampNeg (0 : Int32))
set_option maxRecDepth 65536 in
set_option maxHeartbeats 40000000 in
theorem own_rm3 (l : Launch) (Z : State) (a0 : Array Value) (hw : ∀ d ∈ tables_1, d.before a0 Z = true) (ws : List Jvm.Cond) (a : Addr) (nm : Int32) (dp : Int32) (sA : Addr) (tA : Addr) (nA : Addr) (dA : Addr) (fA : Addr) (cp : Int32) (cp1 : Int32) (sz : Int32) (fn : Nat → Int32) (fd : Nat → Int32) (fx : Nat → Int32) (h0 : Heap) (n0 : Nat) (Zs : n0 ≤ h0.size) (F_a_firstStreams : Fld Z h0 a "com/example/nimble_twig/nimbletwig/index/store/StoredStreams" "firstStreams" "[I" (.ref sA)) (F_a_firstDepths : Fld Z h0 a "com/example/nimble_twig/nimbletwig/index/store/StoredStreams" "firstDepths" "[I" (.ref tA)) (F_a_names : Fld Z h0 a "com/example/nimble_twig/nimbletwig/index/store/StoredStreams" "names" "[I" (.ref nA)) (F_a_depths : Fld Z h0 a "com/example/nimble_twig/nimbletwig/index/store/StoredStreams" "depths" "[I" (.ref dA)) (F_a_firstExtents : Fld Z h0 a "com/example/nimble_twig/nimbletwig/index/store/StoredStreams" "firstExtents" "[I" (.ref fA)) (F_a_size : Fld Z h0 a "com/example/nimble_twig/nimbletwig/index/store/StoredStreams" "size" "I" (.int sz)) (F_a_extents : Fld Z h0 a "com/example/nimble_twig/nimbletwig/index/store/StoredStreams" "extents" "I" (.int (0 : Int32))) (E_a : Exa Z h0 a "com/example/nimble_twig/nimbletwig/index/store/StoredStreams") (g_a : n0 ≤ a) (g_nA : n0 ≤ nA) (g_dA : n0 ≤ dA) (g_fA : n0 ≤ fA) (ne_a_nA : a ≠ nA) (ne_a_dA : a ≠ dA) (ne_a_fA : a ≠ fA) (ne_nA_dA : nA ≠ dA) (ne_nA_fA : nA ≠ fA) (ne_dA_fA : dA ≠ fA) (I_nA : own_IA Z h0 nA cp fn) (I_dA : own_IA Z h0 dA cp fd) (I_fA : own_IA Z h0 fA cp1 fx) (hs : 0 ≤ sz.toInt ∧ sz.toInt < cp.toInt ∧ cp.toInt ≤ 6 ∧ cp1.toInt = cp.toInt + 1) :
    MetFree l (⟨"com/example/nimble_twig/nimbletwig/index/store/StoredStreams", "add", "(II)V"⟩ : MethodName) (head1 (Jvm.Cond.code (⟨"com/example/nimble_twig/nimbletwig/index/store/StoredStreams", "add", "(II)V"⟩ : MethodName) prog_95_method_3_code 4 none :: ws) ({ frames := 0, cells := 0, slots := 0, locals := 0 } : Room)) (fun aA_ U => aA_ = #[(.ref a), (.int nm), (.int dp)] ∧ Z.Warmed39 U.vm ∧ U.heap = h0) (fun _ _ _ _ _ => True) (fun _ U o U' => ∃ v L, o = .returned v ∧ own_Q3 Z a nm dp sA tA nA dA fA cp cp1 sz fn fd fx h0 n0 v U'.heap L ∧ FrameEnd U o U' L ({ frames := 0, cells := 0, slots := 0, locals := 0 } : Room).cells ({ frames := 0, cells := 0, slots := 0, locals := 0 } : Room).slots) := by
  refine MetFree.of_bodySF (plainFor_of_name own_pn3) hisR ?_
  intro p e s m args below meth c s₁ Bd hml0 hP hK
  obtain ⟨rfl, hZ, hh⟩ := hP
  have hx := Bd.exec
  have hby := Bd.bytes
  have hml : c.maxLocals = 4 := hml0
  have hown : s.vm.findClass "com/example/nimble_twig/nimbletwig/index/store/StoredStreams" = some m.cls := findClass_of_methodNamed Bd.named
  have hnm := (name_of_methodNamed Bd.named Bd.method).1
  have X0 : Stand p l e ({ frames := 0, cells := 0, slots := 0, locals := 0 } : Room) s m #[(.ref a), (.int nm), (.int dp)] below meth c s₁ [] 0 0 := Stand.of_body Bd
  have e0 : s₁.heap = h0 := by rw [← hh, Bd.state]; rfl
  have NF := Fr.nil n0
  rw [own_ef3 m a nm dp]
  show own_Dn p e below s (own_Q3 Z a nm dp sA tA nA dA fA cp cp1 sz fn fd fx h0 n0) 0 0 s₁ (mkF m 0 #[.val (.ref a), .val (.int nm), .val (.int dp), .unset] [])
  have KP := Keep.refl h0 [a, nA, dA, fA]
  have f1 := c_iadd sz (1 : Int32)
  have r1 := rng32 (sz + (1 : Int32))
  simp only [own_ln1, own_l0, own_l1, own_l2, own_l3, own_l4, own_l5, own_l6, own_l7, own_l8, own_l9, own_l12, own_l32, own_L0, own_L1, own_L2, own_L3, own_L7] at f1
  refine own_go (T' := s₁) (g' := (mkF m 1 #[.val (.ref a), .val (.int nm), .val (.int dp), .unset] [(.ref a)])) (fun _ k => XS.aloadN X0.here hx rfl (hb hby own_d3_0) rfl rfl k) ?_
  obtain ⟨T1, X1, e1, st1⟩ := getF X0 hx hZ hown (host := "") (Or.inl (hw _ (List.mem_of_getElem? (i := 38) rfl))) Via.refl e0 F_a_size (g := (mkF m 1 #[.val (.ref a), .val (.int nm), .val (.int dp), .unset] [(.ref a)])) rfl rfl (hb hby own_d3_1)
  refine own_go (T' := T1) (g' := (mkF m 4 #[.val (.ref a), .val (.int nm), .val (.int dp), .unset] [(.int sz)])) (fun _ k => st1 _ k) ?_
  refine own_go (T' := T1) (g' := (mkF m 5 #[.val (.ref a), .val (.int nm), .val (.int dp), .unset] [(.ref a), (.int sz)])) (fun _ k => XS.aloadN X1.here hx rfl (hb hby own_d3_4) rfl rfl k) ?_
  obtain ⟨T2, X2, e2, st2⟩ := getF X1 hx hZ hown (host := "") (Or.inl (hw _ (List.mem_of_getElem? (i := 18) rfl))) Via.refl e1 F_a_names (g := (mkF m 5 #[.val (.ref a), .val (.int nm), .val (.int dp), .unset] [(.ref a), (.int sz)])) rfl rfl (hb hby own_d3_5)
  refine own_go (T' := T2) (g' := (mkF m 8 #[.val (.ref a), .val (.int nm), .val (.int dp), .unset] [(.ref nA), (.int sz)])) (fun _ k => st2 _ k) ?_
  obtain ⟨c_3, Ar_3, S_3, N_3, H_3⟩ := id I_nA
  refine own_go (T' := T2) (g' := (mkF m 9 #[.val (.ref a), .val (.int nm), .val (.int dp), .unset] [(.int cp), (.int sz)])) (fun _ k => X2.arraylength hx (by rw [e2]; exact Ar_3.1) (State.isArrayOf_alike hZ.alike Ar_3.2.1) (g := (mkF m 8 #[.val (.ref a), .val (.int nm), .val (.int dp), .unset] [(.ref nA), (.int sz)])) rfl rfl (hb hby own_d3_8) _ (by rw [len_of S_3 N_3]; exact k)) ?_
  have hq : ¬ (sz = cp) := by (try simp only [own_ln1, own_l0, own_l1, own_l2, own_l3, own_l4, own_l5, own_l6, own_l7, own_l8, own_l9, own_l12, own_l32, own_L0, own_L1, own_L2, own_L3, own_L7, Int32.lt_iff_toInt_lt, ← Int32.toInt_inj, Int64.lt_iff_toInt_lt, ← Int64.toInt_inj, and_true, true_and, and_false, false_and, or_true, true_or, or_false, false_or, not_true_eq_false, not_false_eq_true, ne_eq, true_implies, false_implies, implies_true] at  ⊢) <;> omega
  refine own_go (T' := T2) (g' := (mkF m 60 #[.val (.ref a), .val (.int nm), .val (.int dp), .unset] [])) (fun _ k => XS.icmpYes X2.here hx rfl (pc0 := 9) (pc' := 60) rfl (hb hby own_d3_9) rfl (feq hq).2 (by decide) (by decide) k) ?_
  refine own_go (T' := T2) (g' := (mkF m 61 #[.val (.ref a), .val (.int nm), .val (.int dp), .unset] [(.ref a)])) (fun _ k => XS.aloadN X2.here hx rfl (hb hby own_d3_60) rfl rfl k) ?_
  obtain ⟨T4, X4, e4, st4⟩ := getF X2 hx hZ hown (host := "") (Or.inl (hw _ (List.mem_of_getElem? (i := 18) rfl))) Via.refl e2 F_a_names (g := (mkF m 61 #[.val (.ref a), .val (.int nm), .val (.int dp), .unset] [(.ref a)])) rfl rfl (hb hby own_d3_61)
  refine own_go (T' := T4) (g' := (mkF m 64 #[.val (.ref a), .val (.int nm), .val (.int dp), .unset] [(.ref nA)])) (fun _ k => st4 _ k) ?_
  refine own_go (T' := T4) (g' := (mkF m 65 #[.val (.ref a), .val (.int nm), .val (.int dp), .unset] [(.ref a), (.ref nA)])) (fun _ k => XS.aloadN X4.here hx rfl (hb hby own_d3_64) rfl rfl k) ?_
  obtain ⟨T5, X5, e5, st5⟩ := getF X4 hx hZ hown (host := "") (Or.inl (hw _ (List.mem_of_getElem? (i := 38) rfl))) Via.refl e4 F_a_size (g := (mkF m 65 #[.val (.ref a), .val (.int nm), .val (.int dp), .unset] [(.ref a), (.ref nA)])) rfl rfl (hb hby own_d3_65)
  refine own_go (T' := T5) (g' := (mkF m 68 #[.val (.ref a), .val (.int nm), .val (.int dp), .unset] [(.int sz), (.ref nA)])) (fun _ k => st5 _ k) ?_
  refine own_go (T' := T5) (g' := (mkF m 69 #[.val (.ref a), .val (.int nm), .val (.int dp), .unset] [(.int nm), (.int sz), (.ref nA)])) (fun _ k => XS.iloadN X5.here hx rfl (hb hby own_d3_68) rfl k) ?_
  obtain ⟨c_6, Ar_6, S_6, N_6, H_6⟩ := id I_nA
  have hin_6 : ¬ (sz < 0 ∨ c_6.slots.size ≤ (sz).toNatClampNeg) := inb_of S_6 ⟨by (try simp only [own_ln1, own_l0, own_l1, own_l2, own_l3, own_l4, own_l5, own_l6, own_l7, own_l8, own_l9, own_l12, own_l32, own_L0, own_L1, own_L2, own_L3, own_L7, Int32.lt_iff_toInt_lt, ← Int32.toInt_inj, Int64.lt_iff_toInt_lt, ← Int64.toInt_inj, and_true, true_and, and_false, false_and, or_true, true_or, or_false, false_or, not_true_eq_false, not_false_eq_true, ne_eq, true_implies, false_implies, implies_true] at  ⊢) <;> omega, by (try simp only [own_ln1, own_l0, own_l1, own_l2, own_l3, own_l4, own_l5, own_l6, own_l7, own_l8, own_l9, own_l12, own_l32, own_L0, own_L1, own_L2, own_L3, own_L7, Int32.lt_iff_toInt_lt, ← Int32.toInt_inj, Int64.lt_iff_toInt_lt, ← Int64.toInt_inj, and_true, true_and, and_false, false_and, or_true, true_or, or_false, false_or, not_true_eq_false, not_false_eq_true, ne_eq, true_implies, false_implies, implies_true] at  ⊢) <;> omega⟩
  obtain ⟨T6, h6, X6, e6, W6, st6⟩ := stI X5 hx hZ e5 Ar_6 (j := sz) hin_6 (g := (mkF m 69 #[.val (.ref a), .val (.int nm), .val (.int dp), .unset] [(.int nm), (.int sz), (.ref nA)])) rfl rfl (hb hby own_d3_69)
  have E_a := E_a.wr W6
  have F_a_firstStreams := F_a_firstStreams.other W6 (Or.inl ne_a_nA)
  have F_a_firstDepths := F_a_firstDepths.other W6 (Or.inl ne_a_nA)
  have F_a_names := F_a_names.other W6 (Or.inl ne_a_nA)
  have F_a_depths := F_a_depths.other W6 (Or.inl ne_a_nA)
  have F_a_firstExtents := F_a_firstExtents.other W6 (Or.inl ne_a_nA)
  have F_a_size := F_a_size.other W6 (Or.inl ne_a_nA)
  have F_a_extents := F_a_extents.other W6 (Or.inl ne_a_nA)
  have I_dA := I_dA.other W6 (Ne.symm ne_nA_dA)
  have I_fA := I_fA.other W6 (Ne.symm ne_nA_fA)
  have Zs := Nat.le_trans Zs (Keep.of_wr W6).1
  have I_nA := own_IA.set Ar_6 S_6 N_6 H_6 hin_6 W6
  have KP := KP.wr W6 (Or.inl (by simp))
  have NF := Fr.snoc X6 NF g_nA
  refine own_go (T' := T6) (g' := (mkF m 70 #[.val (.ref a), .val (.int nm), .val (.int dp), .unset] [])) (fun _ k => st6 _ k) ?_
  refine own_go (T' := T6) (g' := (mkF m 71 #[.val (.ref a), .val (.int nm), .val (.int dp), .unset] [(.ref a)])) (fun _ k => XS.aloadN X6.here hx rfl (hb hby own_d3_70) rfl rfl k) ?_
  obtain ⟨T7, X7, e7, st7⟩ := getF X6 hx hZ hown (host := "") (Or.inl (hw _ (List.mem_of_getElem? (i := 20) rfl))) Via.refl e6 F_a_depths (g := (mkF m 71 #[.val (.ref a), .val (.int nm), .val (.int dp), .unset] [(.ref a)])) rfl rfl (hb hby own_d3_71)
  refine own_go (T' := T7) (g' := (mkF m 74 #[.val (.ref a), .val (.int nm), .val (.int dp), .unset] [(.ref dA)])) (fun _ k => st7 _ k) ?_
  refine own_go (T' := T7) (g' := (mkF m 75 #[.val (.ref a), .val (.int nm), .val (.int dp), .unset] [(.ref a), (.ref dA)])) (fun _ k => XS.aloadN X7.here hx rfl (hb hby own_d3_74) rfl rfl k) ?_
  obtain ⟨T8, X8, e8, st8⟩ := getF X7 hx hZ hown (host := "") (Or.inl (hw _ (List.mem_of_getElem? (i := 38) rfl))) Via.refl e7 F_a_size (g := (mkF m 75 #[.val (.ref a), .val (.int nm), .val (.int dp), .unset] [(.ref a), (.ref dA)])) rfl rfl (hb hby own_d3_75)
  refine own_go (T' := T8) (g' := (mkF m 78 #[.val (.ref a), .val (.int nm), .val (.int dp), .unset] [(.int sz), (.ref dA)])) (fun _ k => st8 _ k) ?_
  refine own_go (T' := T8) (g' := (mkF m 79 #[.val (.ref a), .val (.int nm), .val (.int dp), .unset] [(.int dp), (.int sz), (.ref dA)])) (fun _ k => XS.iloadN X8.here hx rfl (hb hby own_d3_78) rfl k) ?_
  obtain ⟨c_9, Ar_9, S_9, N_9, H_9⟩ := id I_dA
  have hin_9 : ¬ (sz < 0 ∨ c_9.slots.size ≤ (sz).toNatClampNeg) := inb_of S_9 ⟨by (try simp only [own_ln1, own_l0, own_l1, own_l2, own_l3, own_l4, own_l5, own_l6, own_l7, own_l8, own_l9, own_l12, own_l32, own_L0, own_L1, own_L2, own_L3, own_L7, Int32.lt_iff_toInt_lt, ← Int32.toInt_inj, Int64.lt_iff_toInt_lt, ← Int64.toInt_inj, and_true, true_and, and_false, false_and, or_true, true_or, or_false, false_or, not_true_eq_false, not_false_eq_true, ne_eq, true_implies, false_implies, implies_true] at  ⊢) <;> omega, by (try simp only [own_ln1, own_l0, own_l1, own_l2, own_l3, own_l4, own_l5, own_l6, own_l7, own_l8, own_l9, own_l12, own_l32, own_L0, own_L1, own_L2, own_L3, own_L7, Int32.lt_iff_toInt_lt, ← Int32.toInt_inj, Int64.lt_iff_toInt_lt, ← Int64.toInt_inj, and_true, true_and, and_false, false_and, or_true, true_or, or_false, false_or, not_true_eq_false, not_false_eq_true, ne_eq, true_implies, false_implies, implies_true] at  ⊢) <;> omega⟩
  obtain ⟨T9, h9, X9, e9, W9, st9⟩ := stI X8 hx hZ e8 Ar_9 (j := sz) hin_9 (g := (mkF m 79 #[.val (.ref a), .val (.int nm), .val (.int dp), .unset] [(.int dp), (.int sz), (.ref dA)])) rfl rfl (hb hby own_d3_79)
  have E_a := E_a.wr W9
  have F_a_firstStreams := F_a_firstStreams.other W9 (Or.inl ne_a_dA)
  have F_a_firstDepths := F_a_firstDepths.other W9 (Or.inl ne_a_dA)
  have F_a_names := F_a_names.other W9 (Or.inl ne_a_dA)
  have F_a_depths := F_a_depths.other W9 (Or.inl ne_a_dA)
  have F_a_firstExtents := F_a_firstExtents.other W9 (Or.inl ne_a_dA)
  have F_a_size := F_a_size.other W9 (Or.inl ne_a_dA)
  have F_a_extents := F_a_extents.other W9 (Or.inl ne_a_dA)
  have I_fA := I_fA.other W9 (Ne.symm ne_dA_fA)
  have I_nA := I_nA.other W9 ne_nA_dA
  have Zs := Nat.le_trans Zs (Keep.of_wr W9).1
  have I_dA := own_IA.set Ar_9 S_9 N_9 H_9 hin_9 W9
  have KP := KP.wr W9 (Or.inl (by simp))
  have NF := Fr.snoc X9 NF g_dA
  refine own_go (T' := T9) (g' := (mkF m 80 #[.val (.ref a), .val (.int nm), .val (.int dp), .unset] [])) (fun _ k => st9 _ k) ?_
  refine own_go (T' := T9) (g' := (mkF m 81 #[.val (.ref a), .val (.int nm), .val (.int dp), .unset] [(.ref a)])) (fun _ k => XS.aloadN X9.here hx rfl (hb hby own_d3_80) rfl rfl k) ?_
  refine own_go (T' := T9) (g' := (mkF m 82 #[.val (.ref a), .val (.int nm), .val (.int dp), .unset] [(.ref a), (.ref a)])) (fun _ k => XS.dup X9.here hx rfl (hb hby own_d3_81) rfl rfl k) ?_
  obtain ⟨T10, X10, e10, st10⟩ := getF X9 hx hZ hown (host := "") (Or.inl (hw _ (List.mem_of_getElem? (i := 38) rfl))) Via.refl e9 F_a_size (g := (mkF m 82 #[.val (.ref a), .val (.int nm), .val (.int dp), .unset] [(.ref a), (.ref a)])) rfl rfl (hb hby own_d3_82)
  refine own_go (T' := T10) (g' := (mkF m 85 #[.val (.ref a), .val (.int nm), .val (.int dp), .unset] [(.int sz), (.ref a)])) (fun _ k => st10 _ k) ?_
  refine own_go (T' := T10) (g' := (mkF m 86 #[.val (.ref a), .val (.int nm), .val (.int dp), .unset] [(.int (1 : Int32)), (.int sz), (.ref a)])) (fun _ k => XS.iconst X10.here hx rfl (hb hby own_d3_85) k) ?_
  refine own_go (T' := T10) (g' := (mkF m 87 #[.val (.ref a), .val (.int nm), .val (.int dp), .unset] [(.int (sz + (1 : Int32))), (.ref a)])) (fun _ k => XS.iadd X10.here hx rfl (hb hby own_d3_86) rfl k) ?_
  obtain ⟨T11, h11, X11, e11, W11, st11⟩ := putF X10 hx hZ hown (host := "") (Or.inl (hw _ (List.mem_of_getElem? (i := 38) rfl))) Via.refl e10 F_a_size E_a (Or.inl (hw _ (List.mem_of_getElem? (i := 39) rfl))) (hw _ (List.mem_of_getElem? (i := 1) rfl)) (ty := .int) (by decide) rfl rfl (g := (mkF m 87 #[.val (.ref a), .val (.int nm), .val (.int dp), .unset] [(.int (sz + (1 : Int32))), (.ref a)])) rfl rfl (hb hby own_d3_87)
  have E_a := E_a.wr W11
  have F_a_firstStreams := F_a_firstStreams.other W11 (Or.inr (slot_ne (Or.inl (hw _ (List.mem_of_getElem? (i := 11) rfl))) (Or.inl (hw _ (List.mem_of_getElem? (i := 39) rfl))) (by decide) (t := (.array .int)) (t' := .int) (by decide) (by decide)))
  have F_a_firstDepths := F_a_firstDepths.other W11 (Or.inr (slot_ne (Or.inl (hw _ (List.mem_of_getElem? (i := 13) rfl))) (Or.inl (hw _ (List.mem_of_getElem? (i := 39) rfl))) (by decide) (t := (.array .int)) (t' := .int) (by decide) (by decide)))
  have F_a_names := F_a_names.other W11 (Or.inr (slot_ne (Or.inl (hw _ (List.mem_of_getElem? (i := 19) rfl))) (Or.inl (hw _ (List.mem_of_getElem? (i := 39) rfl))) (by decide) (t := (.array .int)) (t' := .int) (by decide) (by decide)))
  have F_a_depths := F_a_depths.other W11 (Or.inr (slot_ne (Or.inl (hw _ (List.mem_of_getElem? (i := 21) rfl))) (Or.inl (hw _ (List.mem_of_getElem? (i := 39) rfl))) (by decide) (t := (.array .int)) (t' := .int) (by decide) (by decide)))
  have F_a_firstExtents := F_a_firstExtents.other W11 (Or.inr (slot_ne (Or.inl (hw _ (List.mem_of_getElem? (i := 23) rfl))) (Or.inl (hw _ (List.mem_of_getElem? (i := 39) rfl))) (by decide) (t := (.array .int)) (t' := .int) (by decide) (by decide)))
  have F_a_extents := F_a_extents.other W11 (Or.inr (slot_ne (Or.inl (hw _ (List.mem_of_getElem? (i := 41) rfl))) (Or.inl (hw _ (List.mem_of_getElem? (i := 39) rfl))) (by decide) (t := .int) (t' := .int) (by decide) (by decide)))
  have I_fA := I_fA.other W11 (Ne.symm ne_a_fA)
  have I_nA := I_nA.other W11 (Ne.symm ne_a_nA)
  have I_dA := I_dA.other W11 (Ne.symm ne_a_dA)
  have Zs := Nat.le_trans Zs (Keep.of_wr W11).1
  have F_a_size := F_a_size.same W11
  have KP := KP.wr W11 (Or.inl (by simp))
  have NF := Fr.snoc X11 NF g_a
  refine own_go (T' := T11) (g' := (mkF m 90 #[.val (.ref a), .val (.int nm), .val (.int dp), .unset] [])) (fun _ k => st11 _ k) ?_
  refine own_go (T' := T11) (g' := (mkF m 91 #[.val (.ref a), .val (.int nm), .val (.int dp), .unset] [(.ref a)])) (fun _ k => XS.aloadN X11.here hx rfl (hb hby own_d3_90) rfl rfl k) ?_
  obtain ⟨T12, X12, e12, st12⟩ := getF X11 hx hZ hown (host := "") (Or.inl (hw _ (List.mem_of_getElem? (i := 22) rfl))) Via.refl e11 F_a_firstExtents (g := (mkF m 91 #[.val (.ref a), .val (.int nm), .val (.int dp), .unset] [(.ref a)])) rfl rfl (hb hby own_d3_91)
  refine own_go (T' := T12) (g' := (mkF m 94 #[.val (.ref a), .val (.int nm), .val (.int dp), .unset] [(.ref fA)])) (fun _ k => st12 _ k) ?_
  refine own_go (T' := T12) (g' := (mkF m 95 #[.val (.ref a), .val (.int nm), .val (.int dp), .unset] [(.ref a), (.ref fA)])) (fun _ k => XS.aloadN X12.here hx rfl (hb hby own_d3_94) rfl rfl k) ?_
  obtain ⟨T13, X13, e13, st13⟩ := getF X12 hx hZ hown (host := "") (Or.inl (hw _ (List.mem_of_getElem? (i := 38) rfl))) Via.refl e12 F_a_size (g := (mkF m 95 #[.val (.ref a), .val (.int nm), .val (.int dp), .unset] [(.ref a), (.ref fA)])) rfl rfl (hb hby own_d3_95)
  refine own_go (T' := T13) (g' := (mkF m 98 #[.val (.ref a), .val (.int nm), .val (.int dp), .unset] [(.int (sz + (1 : Int32))), (.ref fA)])) (fun _ k => st13 _ k) ?_
  refine own_go (T' := T13) (g' := (mkF m 99 #[.val (.ref a), .val (.int nm), .val (.int dp), .unset] [(.ref a), (.int (sz + (1 : Int32))), (.ref fA)])) (fun _ k => XS.aloadN X13.here hx rfl (hb hby own_d3_98) rfl rfl k) ?_
  obtain ⟨T14, X14, e14, st14⟩ := getF X13 hx hZ hown (host := "") (Or.inl (hw _ (List.mem_of_getElem? (i := 40) rfl))) Via.refl e13 F_a_extents (g := (mkF m 99 #[.val (.ref a), .val (.int nm), .val (.int dp), .unset] [(.ref a), (.int (sz + (1 : Int32))), (.ref fA)])) rfl rfl (hb hby own_d3_99)
  refine own_go (T' := T14) (g' := (mkF m 102 #[.val (.ref a), .val (.int nm), .val (.int dp), .unset] [(.int (0 : Int32)), (.int (sz + (1 : Int32))), (.ref fA)])) (fun _ k => st14 _ k) ?_
  obtain ⟨c_15, Ar_15, S_15, N_15, H_15⟩ := id I_fA
  have hin_15 : ¬ ((sz + (1 : Int32)) < 0 ∨ c_15.slots.size ≤ ((sz + (1 : Int32))).toNatClampNeg) := inb_of S_15 ⟨by (try simp only [own_ln1, own_l0, own_l1, own_l2, own_l3, own_l4, own_l5, own_l6, own_l7, own_l8, own_l9, own_l12, own_l32, own_L0, own_L1, own_L2, own_L3, own_L7, Int32.lt_iff_toInt_lt, ← Int32.toInt_inj, Int64.lt_iff_toInt_lt, ← Int64.toInt_inj, and_true, true_and, and_false, false_and, or_true, true_or, or_false, false_or, not_true_eq_false, not_false_eq_true, ne_eq, true_implies, false_implies, implies_true] at  ⊢) <;> omega, by (try simp only [own_ln1, own_l0, own_l1, own_l2, own_l3, own_l4, own_l5, own_l6, own_l7, own_l8, own_l9, own_l12, own_l32, own_L0, own_L1, own_L2, own_L3, own_L7, Int32.lt_iff_toInt_lt, ← Int32.toInt_inj, Int64.lt_iff_toInt_lt, ← Int64.toInt_inj, and_true, true_and, and_false, false_and, or_true, true_or, or_false, false_or, not_true_eq_false, not_false_eq_true, ne_eq, true_implies, false_implies, implies_true] at  ⊢) <;> omega⟩
  obtain ⟨T15, h15, X15, e15, W15, st15⟩ := stI X14 hx hZ e14 Ar_15 (j := (sz + (1 : Int32))) hin_15 (g := (mkF m 102 #[.val (.ref a), .val (.int nm), .val (.int dp), .unset] [(.int (0 : Int32)), (.int (sz + (1 : Int32))), (.ref fA)])) rfl rfl (hb hby own_d3_102)
  have E_a := E_a.wr W15
  have F_a_firstStreams := F_a_firstStreams.other W15 (Or.inl ne_a_fA)
  have F_a_firstDepths := F_a_firstDepths.other W15 (Or.inl ne_a_fA)
  have F_a_names := F_a_names.other W15 (Or.inl ne_a_fA)
  have F_a_depths := F_a_depths.other W15 (Or.inl ne_a_fA)
  have F_a_firstExtents := F_a_firstExtents.other W15 (Or.inl ne_a_fA)
  have F_a_extents := F_a_extents.other W15 (Or.inl ne_a_fA)
  have I_nA := I_nA.other W15 ne_nA_fA
  have I_dA := I_dA.other W15 ne_dA_fA
  have F_a_size := F_a_size.other W15 (Or.inl ne_a_fA)
  have Zs := Nat.le_trans Zs (Keep.of_wr W15).1
  have I_fA := own_IA.set Ar_15 S_15 N_15 H_15 hin_15 W15
  have KP := KP.wr W15 (Or.inl (by simp))
  have NF := Fr.snoc X15 NF g_fA
  refine own_go (T' := T15) (g' := (mkF m 103 #[.val (.ref a), .val (.int nm), .val (.int dp), .unset] [])) (fun _ k => st15 _ k) ?_
  refine own_ret X15 Bd.notSynchronized none (fun _ => rfl) (fun fs hr => X15.returnOut hx Bd.returns (hb hby own_d3_103) hr) ?_ (by decide) (by decide)
  show (own_Q3 Z a nm dp sA tA nA dA fA cp cp1 sz fn fd fx h0 n0) none T15.heap _
  rw [e15]
  exact ⟨rfl, NF, KP, E_a, F_a_firstStreams, F_a_firstDepths, F_a_names, F_a_depths, F_a_firstExtents, F_a_size, F_a_extents, I_nA, I_dA, I_fA⟩
theorem own_d4_0 : decode prog_95_method_5_code 0 = .ok (.aload_n 0, 1) := by decide +kernel
theorem own_d4_1 : decode prog_95_method_5_code 1 = .ok (.iload_n 1, 1) := by decide +kernel
theorem own_d4_2 : decode prog_95_method_5_code 2 = .ok (.iconst 1, 1) := by decide +kernel
theorem own_d4_3 : decode prog_95_method_5_code 3 = .ok (.iadd, 1) := by decide +kernel
theorem own_d4_4 : decode prog_95_method_5_code 4 = .ok (.newarray .int, 2) := by decide +kernel
theorem own_d4_6 : decode prog_95_method_5_code 6 = .ok (.putfield 7, 3) := by decide +kernel
theorem own_d4_9 : decode prog_95_method_5_code 9 = .ok (.iconst 0, 1) := by decide +kernel
theorem own_d4_10 : decode prog_95_method_5_code 10 = .ok (.istore_n 2, 1) := by decide +kernel
theorem own_d4_11 : decode prog_95_method_5_code 11 = .ok (.iload_n 2, 1) := by decide +kernel
theorem own_d4_12 : decode prog_95_method_5_code 12 = .ok (.aload_n 0, 1) := by decide +kernel
theorem own_d4_13 : decode prog_95_method_5_code 13 = .ok (.getfield 49, 3) := by decide +kernel
theorem own_d4_16 : decode prog_95_method_5_code 16 = .ok (.if_icmp .ge 26, 3) := by decide +kernel
theorem own_d4_19 : decode prog_95_method_5_code 19 = .ok (.aload_n 0, 1) := by decide +kernel
theorem own_d4_20 : decode prog_95_method_5_code 20 = .ok (.getfield 7, 3) := by decide +kernel
theorem own_d4_23 : decode prog_95_method_5_code 23 = .ok (.aload_n 0, 1) := by decide +kernel
theorem own_d4_24 : decode prog_95_method_5_code 24 = .ok (.getfield 22, 3) := by decide +kernel
theorem own_d4_27 : decode prog_95_method_5_code 27 = .ok (.iload_n 2, 1) := by decide +kernel
theorem own_d4_28 : decode prog_95_method_5_code 28 = .ok (.iaload, 1) := by decide +kernel
theorem own_d4_29 : decode prog_95_method_5_code 29 = .ok (.iconst 1, 1) := by decide +kernel
theorem own_d4_30 : decode prog_95_method_5_code 30 = .ok (.iadd, 1) := by decide +kernel
theorem own_d4_31 : decode prog_95_method_5_code 31 = .ok (.dup2, 1) := by decide +kernel
theorem own_d4_32 : decode prog_95_method_5_code 32 = .ok (.iaload, 1) := by decide +kernel
theorem own_d4_33 : decode prog_95_method_5_code 33 = .ok (.iconst 1, 1) := by decide +kernel
theorem own_d4_34 : decode prog_95_method_5_code 34 = .ok (.iadd, 1) := by decide +kernel
theorem own_d4_35 : decode prog_95_method_5_code 35 = .ok (.iastore, 1) := by decide +kernel
theorem own_d4_36 : decode prog_95_method_5_code 36 = .ok (.iinc 2 1, 3) := by decide +kernel
theorem own_d4_39 : decode prog_95_method_5_code 39 = .ok (.goto (-28), 3) := by decide +kernel
theorem own_d4_42 : decode prog_95_method_5_code 42 = .ok (.iconst 0, 1) := by decide +kernel
theorem own_d4_43 : decode prog_95_method_5_code 43 = .ok (.istore_n 2, 1) := by decide +kernel
theorem own_d4_44 : decode prog_95_method_5_code 44 = .ok (.iload_n 2, 1) := by decide +kernel
theorem own_d4_45 : decode prog_95_method_5_code 45 = .ok (.iload_n 1, 1) := by decide +kernel
theorem own_d4_46 : decode prog_95_method_5_code 46 = .ok (.if_icmp .ge 26, 3) := by decide +kernel
theorem own_d4_49 : decode prog_95_method_5_code 49 = .ok (.aload_n 0, 1) := by decide +kernel
theorem own_d4_50 : decode prog_95_method_5_code 50 = .ok (.getfield 7, 3) := by decide +kernel
theorem own_d4_53 : decode prog_95_method_5_code 53 = .ok (.iload_n 2, 1) := by decide +kernel
theorem own_d4_54 : decode prog_95_method_5_code 54 = .ok (.iconst 1, 1) := by decide +kernel
theorem own_d4_55 : decode prog_95_method_5_code 55 = .ok (.iadd, 1) := by decide +kernel
theorem own_d4_56 : decode prog_95_method_5_code 56 = .ok (.dup2, 1) := by decide +kernel
theorem own_d4_57 : decode prog_95_method_5_code 57 = .ok (.iaload, 1) := by decide +kernel
theorem own_d4_58 : decode prog_95_method_5_code 58 = .ok (.aload_n 0, 1) := by decide +kernel
theorem own_d4_59 : decode prog_95_method_5_code 59 = .ok (.getfield 7, 3) := by decide +kernel
theorem own_d4_62 : decode prog_95_method_5_code 62 = .ok (.iload_n 2, 1) := by decide +kernel
theorem own_d4_63 : decode prog_95_method_5_code 63 = .ok (.iaload, 1) := by decide +kernel
theorem own_d4_64 : decode prog_95_method_5_code 64 = .ok (.iadd, 1) := by decide +kernel
theorem own_d4_65 : decode prog_95_method_5_code 65 = .ok (.iastore, 1) := by decide +kernel
theorem own_d4_66 : decode prog_95_method_5_code 66 = .ok (.iinc 2 1, 3) := by decide +kernel
theorem own_d4_69 : decode prog_95_method_5_code 69 = .ok (.goto (-25), 3) := by decide +kernel
theorem own_d4_72 : decode prog_95_method_5_code 72 = .ok (.aload_n 0, 1) := by decide +kernel
theorem own_d4_73 : decode prog_95_method_5_code 73 = .ok (.iload_n 1, 1) := by decide +kernel
theorem own_d4_74 : decode prog_95_method_5_code 74 = .ok (.newarray .int, 2) := by decide +kernel
theorem own_d4_76 : decode prog_95_method_5_code 76 = .ok (.putfield 13, 3) := by decide +kernel
theorem own_d4_79 : decode prog_95_method_5_code 79 = .ok (.iconst 0, 1) := by decide +kernel
theorem own_d4_80 : decode prog_95_method_5_code 80 = .ok (.istore_n 2, 1) := by decide +kernel
theorem own_d4_81 : decode prog_95_method_5_code 81 = .ok (.iload_n 2, 1) := by decide +kernel
theorem own_d4_82 : decode prog_95_method_5_code 82 = .ok (.iload_n 1, 1) := by decide +kernel
theorem own_d4_83 : decode prog_95_method_5_code 83 = .ok (.if_icmp .ge 43, 3) := by decide +kernel
theorem own_d4_86 : decode prog_95_method_5_code 86 = .ok (.aload_n 0, 1) := by decide +kernel
theorem own_d4_87 : decode prog_95_method_5_code 87 = .ok (.getfield 7, 3) := by decide +kernel
theorem own_d4_90 : decode prog_95_method_5_code 90 = .ok (.iload_n 2, 1) := by decide +kernel
theorem own_d4_91 : decode prog_95_method_5_code 91 = .ok (.iaload, 1) := by decide +kernel
theorem own_d4_92 : decode prog_95_method_5_code 92 = .ok (.aload_n 0, 1) := by decide +kernel
theorem own_d4_93 : decode prog_95_method_5_code 93 = .ok (.getfield 7, 3) := by decide +kernel
theorem own_d4_96 : decode prog_95_method_5_code 96 = .ok (.iload_n 2, 1) := by decide +kernel
theorem own_d4_97 : decode prog_95_method_5_code 97 = .ok (.iconst 1, 1) := by decide +kernel
theorem own_d4_98 : decode prog_95_method_5_code 98 = .ok (.iadd, 1) := by decide +kernel
theorem own_d4_99 : decode prog_95_method_5_code 99 = .ok (.iaload, 1) := by decide +kernel
theorem own_d4_100 : decode prog_95_method_5_code 100 = .ok (.if_icmp .ge 20, 3) := by decide +kernel
theorem own_d4_103 : decode prog_95_method_5_code 103 = .ok (.aload_n 0, 1) := by decide +kernel
theorem own_d4_104 : decode prog_95_method_5_code 104 = .ok (.getfield 13, 3) := by decide +kernel
theorem own_d4_107 : decode prog_95_method_5_code 107 = .ok (.iload_n 2, 1) := by decide +kernel
theorem own_d4_108 : decode prog_95_method_5_code 108 = .ok (.aload_n 0, 1) := by decide +kernel
theorem own_d4_109 : decode prog_95_method_5_code 109 = .ok (.getfield 25, 3) := by decide +kernel
theorem own_d4_112 : decode prog_95_method_5_code 112 = .ok (.aload_n 0, 1) := by decide +kernel
theorem own_d4_113 : decode prog_95_method_5_code 113 = .ok (.getfield 7, 3) := by decide +kernel
theorem own_d4_116 : decode prog_95_method_5_code 116 = .ok (.iload_n 2, 1) := by decide +kernel
theorem own_d4_117 : decode prog_95_method_5_code 117 = .ok (.iaload, 1) := by decide +kernel
theorem own_d4_118 : decode prog_95_method_5_code 118 = .ok (.iaload, 1) := by decide +kernel
theorem own_d4_119 : decode prog_95_method_5_code 119 = .ok (.iastore, 1) := by decide +kernel
theorem own_d4_120 : decode prog_95_method_5_code 120 = .ok (.iinc 2 1, 3) := by decide +kernel
theorem own_d4_123 : decode prog_95_method_5_code 123 = .ok (.goto (-42), 3) := by decide +kernel
theorem own_d4_126 : decode prog_95_method_5_code 126 = .ok (.return_, 1) := by decide +kernel
theorem own_pn4 : plainName "com/example/nimble_twig/nimbletwig/index/store/StoredStreams" = true := by first | (simp [plainName, overriddenIn]; done) | decide +kernel
theorem own_ef4 (m : MethodId) (a : Addr) (N : Int32) : entryFrame m #[(.ref a), (.int N)] 3 = mkF m 0 #[.val (.ref a), .val (.int N), .unset] [] := by first | (simp [entryFrame, mkF, argsToLocals, Value.category]; done) | rfl
def own_Q4 (Z : State) (a : Addr) (N : Int32) (sA : Addr) (tA : Addr) (nA : Addr) (dA : Addr) (fA : Addr) (cp : Int32) (sz : Int32) (fn : Nat → Int32) (fd : Nat → Int32) (h0 : Heap) (n0 : Nat) (v : Option Value) (h : Heap) (L : List Loc) : Prop := v = none ∧ Fr n0 L ∧ Keep h0 h [a] ∧ Exa Z h a "com/example/nimble_twig/nimbletwig/index/store/StoredStreams" ∧ (∃ (s2 t2 : Addr) (fS fT : Nat → Int32), Fld Z h a "com/example/nimble_twig/nimbletwig/index/store/StoredStreams" "firstStreams" "[I" (.ref s2) ∧ Fld Z h a "com/example/nimble_twig/nimbletwig/index/store/StoredStreams" "firstDepths" "[I" (.ref t2) ∧ Fld Z h a "com/example/nimble_twig/nimbletwig/index/store/StoredStreams" "names" "[I" (.ref nA) ∧ Fld Z h a "com/example/nimble_twig/nimbletwig/index/store/StoredStreams" "depths" "[I" (.ref dA) ∧ Fld Z h a "com/example/nimble_twig/nimbletwig/index/store/StoredStreams" "firstExtents" "[I" (.ref fA) ∧ Fld Z h a "com/example/nimble_twig/nimbletwig/index/store/StoredStreams" "size" "I" (.int sz) ∧ Fld Z h a "com/example/nimble_twig/nimbletwig/index/store/StoredStreams" "extents" "I" (.int (0 : Int32)) ∧ own_IA Z h s2 (N + (1 : Int32)) fS ∧ own_IA Z h t2 N fT ∧ (∀ j : Nat, j ≤ N.toNatClampNeg → (fS j).toInt = own_cnt fn sz.toNatClampNeg (j : Int)))
set_option maxRecDepth 65536 in
set_option maxHeartbeats 40000000 in
theorem own_rm4 (l : Launch) (Z : State) (a0 : Array Value) (hw : ∀ d ∈ tables_1, d.before a0 Z = true) (ws : List Jvm.Cond) (a : Addr) (N : Int32) (sA : Addr) (tA : Addr) (nA : Addr) (dA : Addr) (fA : Addr) (cp : Int32) (sz : Int32) (fn : Nat → Int32) (fd : Nat → Int32) (h0 : Heap) (n0 : Nat) (Zs : n0 ≤ h0.size) (F_a_firstStreams : Fld Z h0 a "com/example/nimble_twig/nimbletwig/index/store/StoredStreams" "firstStreams" "[I" (.ref sA)) (F_a_firstDepths : Fld Z h0 a "com/example/nimble_twig/nimbletwig/index/store/StoredStreams" "firstDepths" "[I" (.ref tA)) (F_a_names : Fld Z h0 a "com/example/nimble_twig/nimbletwig/index/store/StoredStreams" "names" "[I" (.ref nA)) (F_a_depths : Fld Z h0 a "com/example/nimble_twig/nimbletwig/index/store/StoredStreams" "depths" "[I" (.ref dA)) (F_a_firstExtents : Fld Z h0 a "com/example/nimble_twig/nimbletwig/index/store/StoredStreams" "firstExtents" "[I" (.ref fA)) (F_a_size : Fld Z h0 a "com/example/nimble_twig/nimbletwig/index/store/StoredStreams" "size" "I" (.int sz)) (F_a_extents : Fld Z h0 a "com/example/nimble_twig/nimbletwig/index/store/StoredStreams" "extents" "I" (.int (0 : Int32))) (E_a : Exa Z h0 a "com/example/nimble_twig/nimbletwig/index/store/StoredStreams") (g_a : n0 ≤ a) (ne_a_nA : a ≠ nA) (ne_a_dA : a ≠ dA) (I_nA : own_IA Z h0 nA cp fn) (I_dA : own_IA Z h0 dA cp fd) (hs : 0 ≤ sz.toInt ∧ sz.toInt ≤ cp.toInt ∧ cp.toInt ≤ 6 ∧ 0 ≤ N.toInt ∧ N.toInt ≤ 5) (hn : ∀ i : Nat, i < sz.toNatClampNeg → 0 ≤ (fn i).toInt ∧ (fn i).toInt < N.toInt) :
    MetFree l (⟨"com/example/nimble_twig/nimbletwig/index/store/StoredStreams", "findByName", "(I)V"⟩ : MethodName) (head1 (Jvm.Cond.code (⟨"com/example/nimble_twig/nimbletwig/index/store/StoredStreams", "findByName", "(I)V"⟩ : MethodName) prog_95_method_5_code 3 none :: ws) ({ frames := 0, cells := 2, slots := 11, locals := 0 } : Room)) (fun aA_ U => aA_ = #[(.ref a), (.int N)] ∧ Z.Warmed39 U.vm ∧ U.heap = h0) (fun _ _ _ _ _ => True) (fun _ U o U' => ∃ v L, o = .returned v ∧ own_Q4 Z a N sA tA nA dA fA cp sz fn fd h0 n0 v U'.heap L ∧ FrameEnd U o U' L ({ frames := 0, cells := 2, slots := 11, locals := 0 } : Room).cells ({ frames := 0, cells := 2, slots := 11, locals := 0 } : Room).slots) := by
  refine MetFree.of_bodySF (plainFor_of_name own_pn4) hisR ?_
  intro p e s m args below meth c s₁ Bd hml0 hP hK
  obtain ⟨rfl, hZ, hh⟩ := hP
  have hx := Bd.exec
  have hby := Bd.bytes
  have hml : c.maxLocals = 3 := hml0
  have hown : s.vm.findClass "com/example/nimble_twig/nimbletwig/index/store/StoredStreams" = some m.cls := findClass_of_methodNamed Bd.named
  have hnm := (name_of_methodNamed Bd.named Bd.method).1
  have X0 : Stand p l e ({ frames := 0, cells := 2, slots := 11, locals := 0 } : Room) s m #[(.ref a), (.int N)] below meth c s₁ [] 0 0 := Stand.of_body Bd
  have e0 : s₁.heap = h0 := by rw [← hh, Bd.state]; rfl
  have NF := Fr.nil n0
  rw [own_ef4 m a N]
  show own_Dn p e below s (own_Q4 Z a N sA tA nA dA fA cp sz fn fd h0 n0) 2 11 s₁ (mkF m 0 #[.val (.ref a), .val (.int N), .unset] [])
  have KP := Keep.refl h0 [a]
  have hN1 := own_add1 N (by omega)
  have hNn : ¬ N < 0 := by (try simp only [own_ln1, own_l0, own_l1, own_l2, own_l3, own_l4, own_l5, own_l6, own_l7, own_l8, own_l9, own_l12, own_l32, own_L0, own_L1, own_L2, own_L3, own_L7, Int32.lt_iff_toInt_lt, ← Int32.toInt_inj, Int64.lt_iff_toInt_lt, ← Int64.toInt_inj, and_true, true_and, and_false, false_and, or_true, true_or, or_false, false_or, not_true_eq_false, not_false_eq_true, ne_eq, true_implies, false_implies, implies_true] at  ⊢) <;> omega
  have hN1n : ¬ (N + (1 : Int32)) < 0 := by (try simp only [own_ln1, own_l0, own_l1, own_l2, own_l3, own_l4, own_l5, own_l6, own_l7, own_l8, own_l9, own_l12, own_l32, own_L0, own_L1, own_L2, own_L3, own_L7, Int32.lt_iff_toInt_lt, ← Int32.toInt_inj, Int64.lt_iff_toInt_lt, ← Int64.toInt_inj, and_true, true_and, and_false, false_and, or_true, true_or, or_false, false_or, not_true_eq_false, not_false_eq_true, ne_eq, true_implies, false_implies, implies_true] at  ⊢) <;> omega
  have hcN : N.toNatClampNeg ≤ 5 := by have := nat_of hNn; omega
  have hcN1 : (N + (1 : Int32)).toNatClampNeg ≤ 6 := by have := nat_of hN1n; omega
  have eN := own_nat N (by omega)
  have eS := own_nat sz (by omega)
  refine own_go (T' := s₁) (g' := (mkF m 1 #[.val (.ref a), .val (.int N), .unset] [(.ref a)])) (fun _ k => XS.aloadN X0.here hx rfl (hb hby own_d4_0) rfl rfl k) ?_
  refine own_go (T' := s₁) (g' := (mkF m 2 #[.val (.ref a), .val (.int N), .unset] [(.int N), (.ref a)])) (fun _ k => XS.iloadN X0.here hx rfl (hb hby own_d4_1) rfl k) ?_
  refine own_go (T' := s₁) (g' := (mkF m 3 #[.val (.ref a), .val (.int N), .unset] [(.int (1 : Int32)), (.int N), (.ref a)])) (fun _ k => XS.iconst X0.here hx rfl (hb hby own_d4_2) k) ?_
  refine own_go (T' := s₁) (g' := (mkF m 4 #[.val (.ref a), .val (.int N), .unset] [(.int (N + (1 : Int32))), (.ref a)])) (fun _ k => XS.iadd X0.here hx rfl (hb hby own_d4_3) rfl k) ?_
  obtain ⟨T1, h1, k1, X1, e1, E1, A1, st1⟩ := newP X0 hx hZ (hw _ (List.mem_of_getElem? (i := 9) rfl)) e0 (g := (mkF m 4 #[.val (.ref a), .val (.int N), .unset] [(.int (N + (1 : Int32))), (.ref a)])) rfl (hb hby own_d4_4) rfl hN1n (cap := 6) hcN1 (by decide) (by decide) (by decide)
  obtain ⟨b1, g1⟩ : ∃ z, z = h0.size := ⟨_, rfl⟩
  rw [← g1] at A1 st1
  have ne_a_b1 : a ≠ b1 := Nat.ne_of_lt (Nat.lt_of_lt_of_le E_a.lt (Nat.le_of_eq g1.symm))
  have ne_dA_b1 : dA ≠ b1 := Nat.ne_of_lt (Nat.lt_of_lt_of_le I_dA.lt (Nat.le_of_eq g1.symm))
  have ne_nA_b1 : nA ≠ b1 := Nat.ne_of_lt (Nat.lt_of_lt_of_le I_nA.lt (Nat.le_of_eq g1.symm))
  have g_b1 : n0 ≤ b1 := Nat.le_trans Zs (Nat.le_of_eq g1.symm)
  have sz_b1 : h0.size ≤ b1 := Nat.le_trans KP.1 (Nat.le_of_eq g1.symm)
  have E_a := E_a.ext E1
  have F_a_firstStreams := F_a_firstStreams.ext E1
  have F_a_firstDepths := F_a_firstDepths.ext E1
  have F_a_names := F_a_names.ext E1
  have F_a_depths := F_a_depths.ext E1
  have F_a_firstExtents := F_a_firstExtents.ext E1
  have F_a_size := F_a_size.ext E1
  have F_a_extents := F_a_extents.ext E1
  have I_nA := I_nA.ext E1
  have I_dA := I_dA.ext E1
  have KP := KP.ext E1
  have Zs := Nat.le_trans Zs E1.1
  have I_b1 := own_IA.new A1 hN1n
  refine own_go (T' := T1) (g' := (mkF m 6 #[.val (.ref a), .val (.int N), .unset] [(.ref b1), (.ref a)])) (fun _ k => st1 _ k) ?_
  obtain ⟨T2, h2, X2, e2, W2, st2⟩ := putF X1 hx hZ hown (host := "") (Or.inl (hw _ (List.mem_of_getElem? (i := 10) rfl))) Via.refl e1 F_a_firstStreams E_a (Or.inl (hw _ (List.mem_of_getElem? (i := 11) rfl))) (hw _ (List.mem_of_getElem? (i := 1) rfl)) (ty := (.array .int)) (by decide) rfl rfl (g := (mkF m 6 #[.val (.ref a), .val (.int N), .unset] [(.ref b1), (.ref a)])) rfl rfl (hb hby own_d4_6)
  have E_a := E_a.wr W2
  have F_a_firstDepths := F_a_firstDepths.other W2 (Or.inr (slot_ne (Or.inl (hw _ (List.mem_of_getElem? (i := 13) rfl))) (Or.inl (hw _ (List.mem_of_getElem? (i := 11) rfl))) (by decide) (t := (.array .int)) (t' := (.array .int)) (by decide) (by decide)))
  have F_a_names := F_a_names.other W2 (Or.inr (slot_ne (Or.inl (hw _ (List.mem_of_getElem? (i := 19) rfl))) (Or.inl (hw _ (List.mem_of_getElem? (i := 11) rfl))) (by decide) (t := (.array .int)) (t' := (.array .int)) (by decide) (by decide)))
  have F_a_depths := F_a_depths.other W2 (Or.inr (slot_ne (Or.inl (hw _ (List.mem_of_getElem? (i := 21) rfl))) (Or.inl (hw _ (List.mem_of_getElem? (i := 11) rfl))) (by decide) (t := (.array .int)) (t' := (.array .int)) (by decide) (by decide)))
  have F_a_firstExtents := F_a_firstExtents.other W2 (Or.inr (slot_ne (Or.inl (hw _ (List.mem_of_getElem? (i := 23) rfl))) (Or.inl (hw _ (List.mem_of_getElem? (i := 11) rfl))) (by decide) (t := (.array .int)) (t' := (.array .int)) (by decide) (by decide)))
  have F_a_size := F_a_size.other W2 (Or.inr (slot_ne (Or.inl (hw _ (List.mem_of_getElem? (i := 39) rfl))) (Or.inl (hw _ (List.mem_of_getElem? (i := 11) rfl))) (by decide) (t := .int) (t' := (.array .int)) (by decide) (by decide)))
  have F_a_extents := F_a_extents.other W2 (Or.inr (slot_ne (Or.inl (hw _ (List.mem_of_getElem? (i := 41) rfl))) (Or.inl (hw _ (List.mem_of_getElem? (i := 11) rfl))) (by decide) (t := .int) (t' := (.array .int)) (by decide) (by decide)))
  have I_nA := I_nA.other W2 (Ne.symm ne_a_nA)
  have I_dA := I_dA.other W2 (Ne.symm ne_a_dA)
  have I_b1 := I_b1.other W2 (Ne.symm ne_a_b1)
  have Zs := Nat.le_trans Zs (Keep.of_wr W2).1
  have F_a_firstStreams := F_a_firstStreams.same W2
  have KP := KP.wr W2 (Or.inl (by simp))
  have NF := Fr.snoc X2 NF g_a
  refine own_go (T' := T2) (g' := (mkF m 9 #[.val (.ref a), .val (.int N), .unset] [])) (fun _ k => st2 _ k) ?_
  refine own_go (T' := T2) (g' := (mkF m 10 #[.val (.ref a), .val (.int N), .unset] [(.int (0 : Int32))])) (fun _ k => XS.iconst X2.here hx rfl (hb hby own_d4_9) k) ?_
  refine own_go (T' := T2) (g' := (mkF m 11 #[.val (.ref a), .val (.int N), .val (.int (0 : Int32))] [])) (fun _ k => XS.istoreN X2.here hx rfl (hb hby own_d4_10) rfl (l' := #[.val (.ref a), .val (.int N), .val (.int (0 : Int32))]) rfl k) ?_
  have LP1 : ∀ (k : Nat) (i : Int32) (ff : Nat → Int32) (TL : State) (locs : List Loc) (hL : Heap), (sz.toInt - i.toInt < k) → (0 ≤ i.toInt ∧ i.toInt ≤ sz.toInt) → (own_P1 fn i.toNatClampNeg N.toNatClampNeg ff) → Stand p l e ({ frames := 0, cells := 2, slots := 11, locals := 0 } : Room) s m #[(.ref a), (.int N)] below meth c TL locs 1 6 → TL.heap = hL → Fr n0 locs → n0 ≤ hL.size → Keep h0 hL [a] → Exa Z hL a "com/example/nimble_twig/nimbletwig/index/store/StoredStreams" → Fld Z hL a "com/example/nimble_twig/nimbletwig/index/store/StoredStreams" "firstStreams" "[I" (.ref b1) → Fld Z hL a "com/example/nimble_twig/nimbletwig/index/store/StoredStreams" "firstDepths" "[I" (.ref tA) → Fld Z hL a "com/example/nimble_twig/nimbletwig/index/store/StoredStreams" "names" "[I" (.ref nA) → Fld Z hL a "com/example/nimble_twig/nimbletwig/index/store/StoredStreams" "depths" "[I" (.ref dA) → Fld Z hL a "com/example/nimble_twig/nimbletwig/index/store/StoredStreams" "firstExtents" "[I" (.ref fA) → Fld Z hL a "com/example/nimble_twig/nimbletwig/index/store/StoredStreams" "size" "I" (.int sz) → Fld Z hL a "com/example/nimble_twig/nimbletwig/index/store/StoredStreams" "extents" "I" (.int (0 : Int32)) → own_IA Z hL nA cp fn → own_IA Z hL dA cp fd → own_IA Z hL b1 (N + (1 : Int32)) ff → own_Dn p e below s (own_Q4 Z a N sA tA nA dA fA cp sz fn fd h0 n0) 2 11 TL (mkF m 11 #[.val (.ref a), .val (.int N), .val (.int i)] []) := by
    intro k
    induction k with
    | zero => intro i ff TL locs hL hk hI hP XL eL NF Zs KP E_a F_a_firstStreams F_a_firstDepths F_a_names F_a_depths F_a_firstExtents F_a_size F_a_extents I_nA I_dA I_b1; exfalso; omega
    | succ k ih =>
      intro i ff TL locs hL hk hI hP XL eL NF Zs KP E_a F_a_firstStreams F_a_firstDepths F_a_names F_a_depths F_a_firstExtents F_a_size F_a_extents I_nA I_dA I_b1
      refine own_go (T' := TL) (g' := (mkF m 12 #[.val (.ref a), .val (.int N), .val (.int i)] [(.int i)])) (fun _ k => XS.iloadN XL.here hx rfl (hb hby own_d4_11) rfl k) ?_
      refine own_go (T' := TL) (g' := (mkF m 13 #[.val (.ref a), .val (.int N), .val (.int i)] [(.ref a), (.int i)])) (fun _ k => XS.aloadN XL.here hx rfl (hb hby own_d4_12) rfl rfl k) ?_
      obtain ⟨T3, X3, e3, st3⟩ := getF XL hx hZ hown (host := "") (Or.inl (hw _ (List.mem_of_getElem? (i := 38) rfl))) Via.refl eL F_a_size (g := (mkF m 13 #[.val (.ref a), .val (.int N), .val (.int i)] [(.ref a), (.int i)])) rfl rfl (hb hby own_d4_13)
      refine own_go (T' := T3) (g' := (mkF m 16 #[.val (.ref a), .val (.int N), .val (.int i)] [(.int sz), (.int i)])) (fun _ k => st3 _ k) ?_
      by_cases c4 : i < sz
      · refine own_go (T' := T3) (g' := (mkF m 19 #[.val (.ref a), .val (.int N), .val (.int i)] [])) (fun _ k => XS.icmpNo X3.here hx rfl (hb hby own_d4_16) rfl (tlt c4).2.1 k) ?_
        refine own_go (T' := T3) (g' := (mkF m 20 #[.val (.ref a), .val (.int N), .val (.int i)] [(.ref a)])) (fun _ k => XS.aloadN X3.here hx rfl (hb hby own_d4_19) rfl rfl k) ?_
        obtain ⟨T5, X5, e5, st5⟩ := getF X3 hx hZ hown (host := "") (Or.inl (hw _ (List.mem_of_getElem? (i := 10) rfl))) Via.refl e3 F_a_firstStreams (g := (mkF m 20 #[.val (.ref a), .val (.int N), .val (.int i)] [(.ref a)])) rfl rfl (hb hby own_d4_20)
        refine own_go (T' := T5) (g' := (mkF m 23 #[.val (.ref a), .val (.int N), .val (.int i)] [(.ref b1)])) (fun _ k => st5 _ k) ?_
        refine own_go (T' := T5) (g' := (mkF m 24 #[.val (.ref a), .val (.int N), .val (.int i)] [(.ref a), (.ref b1)])) (fun _ k => XS.aloadN X5.here hx rfl (hb hby own_d4_23) rfl rfl k) ?_
        obtain ⟨T6, X6, e6, st6⟩ := getF X5 hx hZ hown (host := "") (Or.inl (hw _ (List.mem_of_getElem? (i := 18) rfl))) Via.refl e5 F_a_names (g := (mkF m 24 #[.val (.ref a), .val (.int N), .val (.int i)] [(.ref a), (.ref b1)])) rfl rfl (hb hby own_d4_24)
        refine own_go (T' := T6) (g' := (mkF m 27 #[.val (.ref a), .val (.int N), .val (.int i)] [(.ref nA), (.ref b1)])) (fun _ k => st6 _ k) ?_
        refine own_go (T' := T6) (g' := (mkF m 28 #[.val (.ref a), .val (.int N), .val (.int i)] [(.int i), (.ref nA), (.ref b1)])) (fun _ k => XS.iloadN X6.here hx rfl (hb hby own_d4_27) rfl k) ?_
        obtain ⟨c_7, Ar_7, S_7, N_7, H_7⟩ := id I_nA
        have ei := own_nat i (by omega)
        have hii : i.toInt < sz.toInt := by (try simp only [own_ln1, own_l0, own_l1, own_l2, own_l3, own_l4, own_l5, own_l6, own_l7, own_l8, own_l9, own_l12, own_l32, own_L0, own_L1, own_L2, own_L3, own_L7, Int32.lt_iff_toInt_lt, ← Int32.toInt_inj, Int64.lt_iff_toInt_lt, ← Int64.toInt_inj, and_true, true_and, and_false, false_and, or_true, true_or, or_false, false_or, not_true_eq_false, not_false_eq_true, ne_eq, true_implies, false_implies, implies_true] at hI hP c4 ⊢) <;> omega
        have hfi := hn i.toNatClampNeg (by omega)
        have hx1 := own_add1 (fn i.toNatClampNeg) (by omega)
        have hin_7 : ¬ (i < 0 ∨ c_7.slots.size ≤ (i).toNatClampNeg) := inb_of S_7 ⟨by (try simp only [own_ln1, own_l0, own_l1, own_l2, own_l3, own_l4, own_l5, own_l6, own_l7, own_l8, own_l9, own_l12, own_l32, own_L0, own_L1, own_L2, own_L3, own_L7, Int32.lt_iff_toInt_lt, ← Int32.toInt_inj, Int64.lt_iff_toInt_lt, ← Int64.toInt_inj, and_true, true_and, and_false, false_and, or_true, true_or, or_false, false_or, not_true_eq_false, not_false_eq_true, ne_eq, true_implies, false_implies, implies_true] at hI hP c4 ⊢) <;> omega, by (try simp only [own_ln1, own_l0, own_l1, own_l2, own_l3, own_l4, own_l5, own_l6, own_l7, own_l8, own_l9, own_l12, own_l32, own_L0, own_L1, own_L2, own_L3, own_L7, Int32.lt_iff_toInt_lt, ← Int32.toInt_inj, Int64.lt_iff_toInt_lt, ← Int64.toInt_inj, and_true, true_and, and_false, false_and, or_true, true_or, or_false, false_or, not_true_eq_false, not_false_eq_true, ne_eq, true_implies, false_implies, implies_true] at hI hP c4 ⊢) <;> omega⟩
        have hat_7 : c_7.slots[(i).toNatClampNeg]? = some (.int (fn (i).toNatClampNeg)) := H_7 _ (Nat.lt_of_not_le fun y => hin_7 (Or.inr y))
        refine own_go (T' := T6) (g' := (mkF m 29 #[.val (.ref a), .val (.int N), .val (.int i)] [(.int (fn (i).toNatClampNeg)), (.ref b1)])) (fun _ k => X6.iaload hx (j := i) (v := (.int (fn (i).toNatClampNeg))) (by rw [e6]; exact Ar_7.1) (State.isArrayOf_alike hZ.alike Ar_7.2.1) Ar_7.2.2 hin_7 hat_7 (g := (mkF m 28 #[.val (.ref a), .val (.int N), .val (.int i)] [(.int i), (.ref nA), (.ref b1)])) rfl rfl (hb hby own_d4_28) _ k) ?_
        refine own_go (T' := T6) (g' := (mkF m 30 #[.val (.ref a), .val (.int N), .val (.int i)] [(.int (1 : Int32)), (.int (fn (i).toNatClampNeg)), (.ref b1)])) (fun _ k => XS.iconst X6.here hx rfl (hb hby own_d4_29) k) ?_
        refine own_go (T' := T6) (g' := (mkF m 31 #[.val (.ref a), .val (.int N), .val (.int i)] [(.int ((fn (i).toNatClampNeg) + (1 : Int32))), (.ref b1)])) (fun _ k => XS.iadd X6.here hx rfl (hb hby own_d4_30) rfl k) ?_
        refine own_go (T' := T6) (g' := (mkF m 32 #[.val (.ref a), .val (.int N), .val (.int i)] [(.int ((fn (i).toNatClampNeg) + (1 : Int32))), (.ref b1), (.int ((fn (i).toNatClampNeg) + (1 : Int32))), (.ref b1)])) (fun _ k => Jvm.Free.XT.dup2 X6.here hx rfl (hb hby own_d4_31) rfl rfl rfl k) ?_
        obtain ⟨c_8, Ar_8, S_8, N_8, H_8⟩ := id I_b1
        have hin_8 : ¬ (((fn (i).toNatClampNeg) + (1 : Int32)) < 0 ∨ c_8.slots.size ≤ (((fn (i).toNatClampNeg) + (1 : Int32))).toNatClampNeg) := inb_of S_8 ⟨by (try simp only [own_ln1, own_l0, own_l1, own_l2, own_l3, own_l4, own_l5, own_l6, own_l7, own_l8, own_l9, own_l12, own_l32, own_L0, own_L1, own_L2, own_L3, own_L7, Int32.lt_iff_toInt_lt, ← Int32.toInt_inj, Int64.lt_iff_toInt_lt, ← Int64.toInt_inj, and_true, true_and, and_false, false_and, or_true, true_or, or_false, false_or, not_true_eq_false, not_false_eq_true, ne_eq, true_implies, false_implies, implies_true] at hI hP c4 ⊢) <;> omega, by (try simp only [own_ln1, own_l0, own_l1, own_l2, own_l3, own_l4, own_l5, own_l6, own_l7, own_l8, own_l9, own_l12, own_l32, own_L0, own_L1, own_L2, own_L3, own_L7, Int32.lt_iff_toInt_lt, ← Int32.toInt_inj, Int64.lt_iff_toInt_lt, ← Int64.toInt_inj, and_true, true_and, and_false, false_and, or_true, true_or, or_false, false_or, not_true_eq_false, not_false_eq_true, ne_eq, true_implies, false_implies, implies_true] at hI hP c4 ⊢) <;> omega⟩
        have hat_8 : c_8.slots[(((fn (i).toNatClampNeg) + (1 : Int32))).toNatClampNeg]? = some (.int (ff (((fn (i).toNatClampNeg) + (1 : Int32))).toNatClampNeg)) := H_8 _ (Nat.lt_of_not_le fun y => hin_8 (Or.inr y))
        refine own_go (T' := T6) (g' := (mkF m 33 #[.val (.ref a), .val (.int N), .val (.int i)] [(.int (ff (((fn (i).toNatClampNeg) + (1 : Int32))).toNatClampNeg)), (.int ((fn (i).toNatClampNeg) + (1 : Int32))), (.ref b1)])) (fun _ k => X6.iaload hx (j := ((fn (i).toNatClampNeg) + (1 : Int32))) (v := (.int (ff (((fn (i).toNatClampNeg) + (1 : Int32))).toNatClampNeg))) (by rw [e6]; exact Ar_8.1) (State.isArrayOf_alike hZ.alike Ar_8.2.1) Ar_8.2.2 hin_8 hat_8 (g := (mkF m 32 #[.val (.ref a), .val (.int N), .val (.int i)] [(.int ((fn (i).toNatClampNeg) + (1 : Int32))), (.ref b1), (.int ((fn (i).toNatClampNeg) + (1 : Int32))), (.ref b1)])) rfl rfl (hb hby own_d4_32) _ k) ?_
        refine own_go (T' := T6) (g' := (mkF m 34 #[.val (.ref a), .val (.int N), .val (.int i)] [(.int (1 : Int32)), (.int (ff (((fn (i).toNatClampNeg) + (1 : Int32))).toNatClampNeg)), (.int ((fn (i).toNatClampNeg) + (1 : Int32))), (.ref b1)])) (fun _ k => XS.iconst X6.here hx rfl (hb hby own_d4_33) k) ?_
        refine own_go (T' := T6) (g' := (mkF m 35 #[.val (.ref a), .val (.int N), .val (.int i)] [(.int ((ff (((fn (i).toNatClampNeg) + (1 : Int32))).toNatClampNeg) + (1 : Int32))), (.int ((fn (i).toNatClampNeg) + (1 : Int32))), (.ref b1)])) (fun _ k => XS.iadd X6.here hx rfl (hb hby own_d4_34) rfl k) ?_
        obtain ⟨c_9, Ar_9, S_9, N_9, H_9⟩ := id I_b1
        have hin_9 : ¬ (((fn (i).toNatClampNeg) + (1 : Int32)) < 0 ∨ c_9.slots.size ≤ (((fn (i).toNatClampNeg) + (1 : Int32))).toNatClampNeg) := inb_of S_9 ⟨by (try simp only [own_ln1, own_l0, own_l1, own_l2, own_l3, own_l4, own_l5, own_l6, own_l7, own_l8, own_l9, own_l12, own_l32, own_L0, own_L1, own_L2, own_L3, own_L7, Int32.lt_iff_toInt_lt, ← Int32.toInt_inj, Int64.lt_iff_toInt_lt, ← Int64.toInt_inj, and_true, true_and, and_false, false_and, or_true, true_or, or_false, false_or, not_true_eq_false, not_false_eq_true, ne_eq, true_implies, false_implies, implies_true] at hI hP c4 ⊢) <;> omega, by (try simp only [own_ln1, own_l0, own_l1, own_l2, own_l3, own_l4, own_l5, own_l6, own_l7, own_l8, own_l9, own_l12, own_l32, own_L0, own_L1, own_L2, own_L3, own_L7, Int32.lt_iff_toInt_lt, ← Int32.toInt_inj, Int64.lt_iff_toInt_lt, ← Int64.toInt_inj, and_true, true_and, and_false, false_and, or_true, true_or, or_false, false_or, not_true_eq_false, not_false_eq_true, ne_eq, true_implies, false_implies, implies_true] at hI hP c4 ⊢) <;> omega⟩
        obtain ⟨T9, h9, X9, e9, W9, st9⟩ := stI X6 hx hZ e6 Ar_9 (j := ((fn (i).toNatClampNeg) + (1 : Int32))) hin_9 (g := (mkF m 35 #[.val (.ref a), .val (.int N), .val (.int i)] [(.int ((ff (((fn (i).toNatClampNeg) + (1 : Int32))).toNatClampNeg) + (1 : Int32))), (.int ((fn (i).toNatClampNeg) + (1 : Int32))), (.ref b1)])) rfl rfl (hb hby own_d4_35)
        have E_a := E_a.wr W9
        have F_a_firstDepths := F_a_firstDepths.other W9 (Or.inl ne_a_b1)
        have F_a_names := F_a_names.other W9 (Or.inl ne_a_b1)
        have F_a_depths := F_a_depths.other W9 (Or.inl ne_a_b1)
        have F_a_firstExtents := F_a_firstExtents.other W9 (Or.inl ne_a_b1)
        have F_a_size := F_a_size.other W9 (Or.inl ne_a_b1)
        have F_a_extents := F_a_extents.other W9 (Or.inl ne_a_b1)
        have I_nA := I_nA.other W9 ne_nA_b1
        have I_dA := I_dA.other W9 ne_dA_b1
        have F_a_firstStreams := F_a_firstStreams.other W9 (Or.inl ne_a_b1)
        have Zs := Nat.le_trans Zs (Keep.of_wr W9).1
        have I_b1 := own_IA.set Ar_9 S_9 N_9 H_9 hin_9 W9
        have KP := KP.wr W9 (Or.inr sz_b1)
        have NF := Fr.snoc X9 NF g_b1
        refine own_go (T' := T9) (g' := (mkF m 36 #[.val (.ref a), .val (.int N), .val (.int i)] [])) (fun _ k => st9 _ k) ?_
        refine own_go (T' := T9) (g' := (mkF m 39 #[.val (.ref a), .val (.int N), .val (.int (i + (1 : Int32)))] [])) (fun _ k => XS.iinc X9.here hx rfl (hb hby own_d4_36) rfl (l' := #[.val (.ref a), .val (.int N), .val (.int (i + (1 : Int32)))]) rfl k) ?_
        refine own_go (T' := T9) (g' := (mkF m 11 #[.val (.ref a), .val (.int N), .val (.int (i + (1 : Int32)))] [])) (fun _ k => XS.goto X9.here hx rfl (pc0 := 39) (pc' := 11) rfl (hb hby own_d4_39) (by decide) (by decide) k) ?_
        have q1 := own_add1 i (by omega)
        have q2 := own_nat i (by omega)
        have q3 := own_nat (i + (1 : Int32)) (by omega)
        have q4 : (i + (1 : Int32)).toNatClampNeg = i.toNatClampNeg + 1 := by omega
        have q0 : i.toInt < sz.toInt := by (try simp only [own_ln1, own_l0, own_l1, own_l2, own_l3, own_l4, own_l5, own_l6, own_l7, own_l8, own_l9, own_l12, own_l32, own_L0, own_L1, own_L2, own_L3, own_L7, Int32.lt_iff_toInt_lt, ← Int32.toInt_inj, Int64.lt_iff_toInt_lt, ← Int64.toInt_inj, and_true, true_and, and_false, false_and, or_true, true_or, or_false, false_or, not_true_eq_false, not_false_eq_true, ne_eq, true_implies, false_implies, implies_true] at hI hP c4 ⊢) <;> omega
        have q5 := own_step1 fn ff i.toNatClampNeg N.toNatClampNeg (by omega) hP (fn i.toNatClampNeg) rfl (by omega) (by omega)
        rw [← q4] at q5
        exact ih (i + (1 : Int32)) _ _ _ _ (by omega) (by omega) q5 X9 e9 NF Zs KP E_a F_a_firstStreams F_a_firstDepths F_a_names F_a_depths F_a_firstExtents F_a_size F_a_extents I_nA I_dA I_b1
      · refine own_go (T' := T3) (g' := (mkF m 42 #[.val (.ref a), .val (.int N), .val (.int i)] [])) (fun _ k => XS.icmpYes X3.here hx rfl (pc0 := 16) (pc' := 42) rfl (hb hby own_d4_16) rfl (flt c4).2.1 (by decide) (by decide) k) ?_
        have ez0 : i = sz := Int32.toInt_inj.mp (by (try simp only [own_ln1, own_l0, own_l1, own_l2, own_l3, own_l4, own_l5, own_l6, own_l7, own_l8, own_l9, own_l12, own_l32, own_L0, own_L1, own_L2, own_L3, own_L7, Int32.lt_iff_toInt_lt, ← Int32.toInt_inj, Int64.lt_iff_toInt_lt, ← Int64.toInt_inj, and_true, true_and, and_false, false_and, or_true, true_or, or_false, false_or, not_true_eq_false, not_false_eq_true, ne_eq, true_implies, false_implies, implies_true] at hI c4 ⊢) <;> omega)
        have hP2 : own_P2 fn sz.toNatClampNeg 0 N.toNatClampNeg ff := own_P12 fn ff _ _ (by rw [← ez0]; exact hP) (fun i hi => (hn i hi).1)
        refine own_go (T' := T3) (g' := (mkF m 43 #[.val (.ref a), .val (.int N), .val (.int i)] [(.int (0 : Int32))])) (fun _ k => XS.iconst X3.here hx rfl (hb hby own_d4_42) k) ?_
        refine own_go (T' := T3) (g' := (mkF m 44 #[.val (.ref a), .val (.int N), .val (.int (0 : Int32))] [])) (fun _ k => XS.istoreN X3.here hx rfl (hb hby own_d4_43) rfl (l' := #[.val (.ref a), .val (.int N), .val (.int (0 : Int32))]) rfl k) ?_
        have LP2 : ∀ (k : Nat) (t : Int32) (ff2 : Nat → Int32) (TL : State) (locs : List Loc) (hL : Heap), (N.toInt - t.toInt < k) → (0 ≤ t.toInt ∧ t.toInt ≤ N.toInt) → (own_P2 fn sz.toNatClampNeg t.toNatClampNeg N.toNatClampNeg ff2) → Stand p l e ({ frames := 0, cells := 2, slots := 11, locals := 0 } : Room) s m #[(.ref a), (.int N)] below meth c TL locs 1 6 → TL.heap = hL → Fr n0 locs → n0 ≤ hL.size → Keep h0 hL [a] → Exa Z hL a "com/example/nimble_twig/nimbletwig/index/store/StoredStreams" → Fld Z hL a "com/example/nimble_twig/nimbletwig/index/store/StoredStreams" "firstStreams" "[I" (.ref b1) → Fld Z hL a "com/example/nimble_twig/nimbletwig/index/store/StoredStreams" "firstDepths" "[I" (.ref tA) → Fld Z hL a "com/example/nimble_twig/nimbletwig/index/store/StoredStreams" "names" "[I" (.ref nA) → Fld Z hL a "com/example/nimble_twig/nimbletwig/index/store/StoredStreams" "depths" "[I" (.ref dA) → Fld Z hL a "com/example/nimble_twig/nimbletwig/index/store/StoredStreams" "firstExtents" "[I" (.ref fA) → Fld Z hL a "com/example/nimble_twig/nimbletwig/index/store/StoredStreams" "size" "I" (.int sz) → Fld Z hL a "com/example/nimble_twig/nimbletwig/index/store/StoredStreams" "extents" "I" (.int (0 : Int32)) → own_IA Z hL nA cp fn → own_IA Z hL dA cp fd → own_IA Z hL b1 (N + (1 : Int32)) ff2 → own_Dn p e below s (own_Q4 Z a N sA tA nA dA fA cp sz fn fd h0 n0) 2 11 TL (mkF m 44 #[.val (.ref a), .val (.int N), .val (.int t)] []) := by
          intro k
          induction k with
          | zero => intro t ff2 TL locs hL hk hI hP2 XL eL NF Zs KP E_a F_a_firstStreams F_a_firstDepths F_a_names F_a_depths F_a_firstExtents F_a_size F_a_extents I_nA I_dA I_b1; exfalso; omega
          | succ k ih =>
            intro t ff2 TL locs hL hk hI hP2 XL eL NF Zs KP E_a F_a_firstStreams F_a_firstDepths F_a_names F_a_depths F_a_firstExtents F_a_size F_a_extents I_nA I_dA I_b1
            refine own_go (T' := TL) (g' := (mkF m 45 #[.val (.ref a), .val (.int N), .val (.int t)] [(.int t)])) (fun _ k => XS.iloadN XL.here hx rfl (hb hby own_d4_44) rfl k) ?_
            refine own_go (T' := TL) (g' := (mkF m 46 #[.val (.ref a), .val (.int N), .val (.int t)] [(.int N), (.int t)])) (fun _ k => XS.iloadN XL.here hx rfl (hb hby own_d4_45) rfl k) ?_
            by_cases c10 : t < N
            · refine own_go (T' := TL) (g' := (mkF m 49 #[.val (.ref a), .val (.int N), .val (.int t)] [])) (fun _ k => XS.icmpNo XL.here hx rfl (hb hby own_d4_46) rfl (tlt c10).2.1 k) ?_
              refine own_go (T' := TL) (g' := (mkF m 50 #[.val (.ref a), .val (.int N), .val (.int t)] [(.ref a)])) (fun _ k => XS.aloadN XL.here hx rfl (hb hby own_d4_49) rfl rfl k) ?_
              obtain ⟨T11, X11, e11, st11⟩ := getF XL hx hZ hown (host := "") (Or.inl (hw _ (List.mem_of_getElem? (i := 10) rfl))) Via.refl eL F_a_firstStreams (g := (mkF m 50 #[.val (.ref a), .val (.int N), .val (.int t)] [(.ref a)])) rfl rfl (hb hby own_d4_50)
              refine own_go (T' := T11) (g' := (mkF m 53 #[.val (.ref a), .val (.int N), .val (.int t)] [(.ref b1)])) (fun _ k => st11 _ k) ?_
              refine own_go (T' := T11) (g' := (mkF m 54 #[.val (.ref a), .val (.int N), .val (.int t)] [(.int t), (.ref b1)])) (fun _ k => XS.iloadN X11.here hx rfl (hb hby own_d4_53) rfl k) ?_
              refine own_go (T' := T11) (g' := (mkF m 55 #[.val (.ref a), .val (.int N), .val (.int t)] [(.int (1 : Int32)), (.int t), (.ref b1)])) (fun _ k => XS.iconst X11.here hx rfl (hb hby own_d4_54) k) ?_
              refine own_go (T' := T11) (g' := (mkF m 56 #[.val (.ref a), .val (.int N), .val (.int t)] [(.int (t + (1 : Int32))), (.ref b1)])) (fun _ k => XS.iadd X11.here hx rfl (hb hby own_d4_55) rfl k) ?_
              refine own_go (T' := T11) (g' := (mkF m 57 #[.val (.ref a), .val (.int N), .val (.int t)] [(.int (t + (1 : Int32))), (.ref b1), (.int (t + (1 : Int32))), (.ref b1)])) (fun _ k => Jvm.Free.XT.dup2 X11.here hx rfl (hb hby own_d4_56) rfl rfl rfl k) ?_
              obtain ⟨c_12, Ar_12, S_12, N_12, H_12⟩ := id I_b1
              have et := own_nat t (by omega)
              have et1 := own_add1 t (by omega)
              have htN : t.toInt < N.toInt := by (try simp only [own_ln1, own_l0, own_l1, own_l2, own_l3, own_l4, own_l5, own_l6, own_l7, own_l8, own_l9, own_l12, own_l32, own_L0, own_L1, own_L2, own_L3, own_L7, Int32.lt_iff_toInt_lt, ← Int32.toInt_inj, Int64.lt_iff_toInt_lt, ← Int64.toInt_inj, and_true, true_and, and_false, false_and, or_true, true_or, or_false, false_or, not_true_eq_false, not_false_eq_true, ne_eq, true_implies, false_implies, implies_true] at hI hP c4 hI hP2 c10 ⊢) <;> omega
              have hin_12 : ¬ ((t + (1 : Int32)) < 0 ∨ c_12.slots.size ≤ ((t + (1 : Int32))).toNatClampNeg) := inb_of S_12 ⟨by (try simp only [own_ln1, own_l0, own_l1, own_l2, own_l3, own_l4, own_l5, own_l6, own_l7, own_l8, own_l9, own_l12, own_l32, own_L0, own_L1, own_L2, own_L3, own_L7, Int32.lt_iff_toInt_lt, ← Int32.toInt_inj, Int64.lt_iff_toInt_lt, ← Int64.toInt_inj, and_true, true_and, and_false, false_and, or_true, true_or, or_false, false_or, not_true_eq_false, not_false_eq_true, ne_eq, true_implies, false_implies, implies_true] at hI hP c4 hI hP2 c10 ⊢) <;> omega, by (try simp only [own_ln1, own_l0, own_l1, own_l2, own_l3, own_l4, own_l5, own_l6, own_l7, own_l8, own_l9, own_l12, own_l32, own_L0, own_L1, own_L2, own_L3, own_L7, Int32.lt_iff_toInt_lt, ← Int32.toInt_inj, Int64.lt_iff_toInt_lt, ← Int64.toInt_inj, and_true, true_and, and_false, false_and, or_true, true_or, or_false, false_or, not_true_eq_false, not_false_eq_true, ne_eq, true_implies, false_implies, implies_true] at hI hP c4 hI hP2 c10 ⊢) <;> omega⟩
              have hat_12 : c_12.slots[((t + (1 : Int32))).toNatClampNeg]? = some (.int (ff2 ((t + (1 : Int32))).toNatClampNeg)) := H_12 _ (Nat.lt_of_not_le fun y => hin_12 (Or.inr y))
              refine own_go (T' := T11) (g' := (mkF m 58 #[.val (.ref a), .val (.int N), .val (.int t)] [(.int (ff2 ((t + (1 : Int32))).toNatClampNeg)), (.int (t + (1 : Int32))), (.ref b1)])) (fun _ k => X11.iaload hx (j := (t + (1 : Int32))) (v := (.int (ff2 ((t + (1 : Int32))).toNatClampNeg))) (by rw [e11]; exact Ar_12.1) (State.isArrayOf_alike hZ.alike Ar_12.2.1) Ar_12.2.2 hin_12 hat_12 (g := (mkF m 57 #[.val (.ref a), .val (.int N), .val (.int t)] [(.int (t + (1 : Int32))), (.ref b1), (.int (t + (1 : Int32))), (.ref b1)])) rfl rfl (hb hby own_d4_57) _ k) ?_
              refine own_go (T' := T11) (g' := (mkF m 59 #[.val (.ref a), .val (.int N), .val (.int t)] [(.ref a), (.int (ff2 ((t + (1 : Int32))).toNatClampNeg)), (.int (t + (1 : Int32))), (.ref b1)])) (fun _ k => XS.aloadN X11.here hx rfl (hb hby own_d4_58) rfl rfl k) ?_
              obtain ⟨T13, X13, e13, st13⟩ := getF X11 hx hZ hown (host := "") (Or.inl (hw _ (List.mem_of_getElem? (i := 10) rfl))) Via.refl e11 F_a_firstStreams (g := (mkF m 59 #[.val (.ref a), .val (.int N), .val (.int t)] [(.ref a), (.int (ff2 ((t + (1 : Int32))).toNatClampNeg)), (.int (t + (1 : Int32))), (.ref b1)])) rfl rfl (hb hby own_d4_59)
              refine own_go (T' := T13) (g' := (mkF m 62 #[.val (.ref a), .val (.int N), .val (.int t)] [(.ref b1), (.int (ff2 ((t + (1 : Int32))).toNatClampNeg)), (.int (t + (1 : Int32))), (.ref b1)])) (fun _ k => st13 _ k) ?_
              refine own_go (T' := T13) (g' := (mkF m 63 #[.val (.ref a), .val (.int N), .val (.int t)] [(.int t), (.ref b1), (.int (ff2 ((t + (1 : Int32))).toNatClampNeg)), (.int (t + (1 : Int32))), (.ref b1)])) (fun _ k => XS.iloadN X13.here hx rfl (hb hby own_d4_62) rfl k) ?_
              obtain ⟨c_14, Ar_14, S_14, N_14, H_14⟩ := id I_b1
              have hin_14 : ¬ (t < 0 ∨ c_14.slots.size ≤ (t).toNatClampNeg) := inb_of S_14 ⟨by (try simp only [own_ln1, own_l0, own_l1, own_l2, own_l3, own_l4, own_l5, own_l6, own_l7, own_l8, own_l9, own_l12, own_l32, own_L0, own_L1, own_L2, own_L3, own_L7, Int32.lt_iff_toInt_lt, ← Int32.toInt_inj, Int64.lt_iff_toInt_lt, ← Int64.toInt_inj, and_true, true_and, and_false, false_and, or_true, true_or, or_false, false_or, not_true_eq_false, not_false_eq_true, ne_eq, true_implies, false_implies, implies_true] at hI hP c4 hI hP2 c10 ⊢) <;> omega, by (try simp only [own_ln1, own_l0, own_l1, own_l2, own_l3, own_l4, own_l5, own_l6, own_l7, own_l8, own_l9, own_l12, own_l32, own_L0, own_L1, own_L2, own_L3, own_L7, Int32.lt_iff_toInt_lt, ← Int32.toInt_inj, Int64.lt_iff_toInt_lt, ← Int64.toInt_inj, and_true, true_and, and_false, false_and, or_true, true_or, or_false, false_or, not_true_eq_false, not_false_eq_true, ne_eq, true_implies, false_implies, implies_true] at hI hP c4 hI hP2 c10 ⊢) <;> omega⟩
              have hat_14 : c_14.slots[(t).toNatClampNeg]? = some (.int (ff2 (t).toNatClampNeg)) := H_14 _ (Nat.lt_of_not_le fun y => hin_14 (Or.inr y))
              refine own_go (T' := T13) (g' := (mkF m 64 #[.val (.ref a), .val (.int N), .val (.int t)] [(.int (ff2 (t).toNatClampNeg)), (.int (ff2 ((t + (1 : Int32))).toNatClampNeg)), (.int (t + (1 : Int32))), (.ref b1)])) (fun _ k => X13.iaload hx (j := t) (v := (.int (ff2 (t).toNatClampNeg))) (by rw [e13]; exact Ar_14.1) (State.isArrayOf_alike hZ.alike Ar_14.2.1) Ar_14.2.2 hin_14 hat_14 (g := (mkF m 63 #[.val (.ref a), .val (.int N), .val (.int t)] [(.int t), (.ref b1), (.int (ff2 ((t + (1 : Int32))).toNatClampNeg)), (.int (t + (1 : Int32))), (.ref b1)])) rfl rfl (hb hby own_d4_63) _ k) ?_
              refine own_go (T' := T13) (g' := (mkF m 65 #[.val (.ref a), .val (.int N), .val (.int t)] [(.int ((ff2 ((t + (1 : Int32))).toNatClampNeg) + (ff2 (t).toNatClampNeg))), (.int (t + (1 : Int32))), (.ref b1)])) (fun _ k => XS.iadd X13.here hx rfl (hb hby own_d4_64) rfl k) ?_
              obtain ⟨c_15, Ar_15, S_15, N_15, H_15⟩ := id I_b1
              have hin_15 : ¬ ((t + (1 : Int32)) < 0 ∨ c_15.slots.size ≤ ((t + (1 : Int32))).toNatClampNeg) := inb_of S_15 ⟨by (try simp only [own_ln1, own_l0, own_l1, own_l2, own_l3, own_l4, own_l5, own_l6, own_l7, own_l8, own_l9, own_l12, own_l32, own_L0, own_L1, own_L2, own_L3, own_L7, Int32.lt_iff_toInt_lt, ← Int32.toInt_inj, Int64.lt_iff_toInt_lt, ← Int64.toInt_inj, and_true, true_and, and_false, false_and, or_true, true_or, or_false, false_or, not_true_eq_false, not_false_eq_true, ne_eq, true_implies, false_implies, implies_true] at hI hP c4 hI hP2 c10 ⊢) <;> omega, by (try simp only [own_ln1, own_l0, own_l1, own_l2, own_l3, own_l4, own_l5, own_l6, own_l7, own_l8, own_l9, own_l12, own_l32, own_L0, own_L1, own_L2, own_L3, own_L7, Int32.lt_iff_toInt_lt, ← Int32.toInt_inj, Int64.lt_iff_toInt_lt, ← Int64.toInt_inj, and_true, true_and, and_false, false_and, or_true, true_or, or_false, false_or, not_true_eq_false, not_false_eq_true, ne_eq, true_implies, false_implies, implies_true] at hI hP c4 hI hP2 c10 ⊢) <;> omega⟩
              obtain ⟨T15, h15, X15, e15, W15, st15⟩ := stI X13 hx hZ e13 Ar_15 (j := (t + (1 : Int32))) hin_15 (g := (mkF m 65 #[.val (.ref a), .val (.int N), .val (.int t)] [(.int ((ff2 ((t + (1 : Int32))).toNatClampNeg) + (ff2 (t).toNatClampNeg))), (.int (t + (1 : Int32))), (.ref b1)])) rfl rfl (hb hby own_d4_65)
              have E_a := E_a.wr W15
              have F_a_firstDepths := F_a_firstDepths.other W15 (Or.inl ne_a_b1)
              have F_a_names := F_a_names.other W15 (Or.inl ne_a_b1)
              have F_a_depths := F_a_depths.other W15 (Or.inl ne_a_b1)
              have F_a_firstExtents := F_a_firstExtents.other W15 (Or.inl ne_a_b1)
              have F_a_size := F_a_size.other W15 (Or.inl ne_a_b1)
              have F_a_extents := F_a_extents.other W15 (Or.inl ne_a_b1)
              have I_nA := I_nA.other W15 ne_nA_b1
              have I_dA := I_dA.other W15 ne_dA_b1
              have F_a_firstStreams := F_a_firstStreams.other W15 (Or.inl ne_a_b1)
              have Zs := Nat.le_trans Zs (Keep.of_wr W15).1
              have I_b1 := own_IA.set Ar_15 S_15 N_15 H_15 hin_15 W15
              have KP := KP.wr W15 (Or.inr sz_b1)
              have NF := Fr.snoc X15 NF g_b1
              refine own_go (T' := T15) (g' := (mkF m 66 #[.val (.ref a), .val (.int N), .val (.int t)] [])) (fun _ k => st15 _ k) ?_
              refine own_go (T' := T15) (g' := (mkF m 69 #[.val (.ref a), .val (.int N), .val (.int (t + (1 : Int32)))] [])) (fun _ k => XS.iinc X15.here hx rfl (hb hby own_d4_66) rfl (l' := #[.val (.ref a), .val (.int N), .val (.int (t + (1 : Int32)))]) rfl k) ?_
              refine own_go (T' := T15) (g' := (mkF m 44 #[.val (.ref a), .val (.int N), .val (.int (t + (1 : Int32)))] [])) (fun _ k => XS.goto X15.here hx rfl (pc0 := 69) (pc' := 44) rfl (hb hby own_d4_69) (by decide) (by decide) k) ?_
              have q1 := own_add1 t (by omega)
              have q2 := own_nat t (by omega)
              have q3 := own_nat (t + (1 : Int32)) (by omega)
              have q4 : (t + (1 : Int32)).toNatClampNeg = t.toNatClampNeg + 1 := by omega
              have q5 := own_step2 fn ff2 sz.toNatClampNeg t.toNatClampNeg N.toNatClampNeg (by omega) hP2 t (by omega) (by omega) (by omega)
              rw [← q4] at q5
              exact ih (t + (1 : Int32)) _ _ _ _ (by omega) (by omega) q5 X15 e15 NF Zs KP E_a F_a_firstStreams F_a_firstDepths F_a_names F_a_depths F_a_firstExtents F_a_size F_a_extents I_nA I_dA I_b1
            · refine own_go (T' := TL) (g' := (mkF m 72 #[.val (.ref a), .val (.int N), .val (.int t)] [])) (fun _ k => XS.icmpYes XL.here hx rfl (pc0 := 46) (pc' := 72) rfl (hb hby own_d4_46) rfl (flt c10).2.1 (by decide) (by decide) k) ?_
              have ez1 : t = N := Int32.toInt_inj.mp (by (try simp only [own_ln1, own_l0, own_l1, own_l2, own_l3, own_l4, own_l5, own_l6, own_l7, own_l8, own_l9, own_l12, own_l32, own_L0, own_L1, own_L2, own_L3, own_L7, Int32.lt_iff_toInt_lt, ← Int32.toInt_inj, Int64.lt_iff_toInt_lt, ← Int64.toInt_inj, and_true, true_and, and_false, false_and, or_true, true_or, or_false, false_or, not_true_eq_false, not_false_eq_true, ne_eq, true_implies, false_implies, implies_true] at hI c4 hI c10 ⊢) <;> omega)
              have hP3 : ∀ j : Nat, j ≤ N.toNatClampNeg → (ff2 j).toInt = own_cnt fn sz.toNatClampNeg (j : Int) := fun j hj => by have hq := hP2 j hj; rw [if_pos (by rw [ez1]; exact hj)] at hq; exact hq
              refine own_go (T' := TL) (g' := (mkF m 73 #[.val (.ref a), .val (.int N), .val (.int t)] [(.ref a)])) (fun _ k => XS.aloadN XL.here hx rfl (hb hby own_d4_72) rfl rfl k) ?_
              refine own_go (T' := TL) (g' := (mkF m 74 #[.val (.ref a), .val (.int N), .val (.int t)] [(.int N), (.ref a)])) (fun _ k => XS.iloadN XL.here hx rfl (hb hby own_d4_73) rfl k) ?_
              obtain ⟨T16, h16, k16, X16, e16, E16, A16, st16⟩ := newP XL hx hZ (hw _ (List.mem_of_getElem? (i := 9) rfl)) eL (g := (mkF m 74 #[.val (.ref a), .val (.int N), .val (.int t)] [(.int N), (.ref a)])) rfl (hb hby own_d4_74) rfl hNn (cap := 5) hcN (by decide) (by decide) (by decide)
              obtain ⟨b16, g16⟩ : ∃ z, z = hL.size := ⟨_, rfl⟩
              rw [← g16] at A16 st16
              have ne_a_b16 : a ≠ b16 := Nat.ne_of_lt (Nat.lt_of_lt_of_le E_a.lt (Nat.le_of_eq g16.symm))
              have ne_b1_b16 : b1 ≠ b16 := Nat.ne_of_lt (Nat.lt_of_lt_of_le I_b1.lt (Nat.le_of_eq g16.symm))
              have ne_dA_b16 : dA ≠ b16 := Nat.ne_of_lt (Nat.lt_of_lt_of_le I_dA.lt (Nat.le_of_eq g16.symm))
              have ne_nA_b16 : nA ≠ b16 := Nat.ne_of_lt (Nat.lt_of_lt_of_le I_nA.lt (Nat.le_of_eq g16.symm))
              have g_b16 : n0 ≤ b16 := Nat.le_trans Zs (Nat.le_of_eq g16.symm)
              have sz_b16 : h0.size ≤ b16 := Nat.le_trans KP.1 (Nat.le_of_eq g16.symm)
              have E_a := E_a.ext E16
              have F_a_firstDepths := F_a_firstDepths.ext E16
              have F_a_names := F_a_names.ext E16
              have F_a_depths := F_a_depths.ext E16
              have F_a_firstExtents := F_a_firstExtents.ext E16
              have F_a_size := F_a_size.ext E16
              have F_a_extents := F_a_extents.ext E16
              have I_nA := I_nA.ext E16
              have I_dA := I_dA.ext E16
              have I_b1 := I_b1.ext E16
              have F_a_firstStreams := F_a_firstStreams.ext E16
              have KP := KP.ext E16
              have Zs := Nat.le_trans Zs E16.1
              have I_b16 := own_IA.new A16 hNn
              refine own_go (T' := T16) (g' := (mkF m 76 #[.val (.ref a), .val (.int N), .val (.int t)] [(.ref b16), (.ref a)])) (fun _ k => st16 _ k) ?_
              obtain ⟨T17, h17, X17, e17, W17, st17⟩ := putF X16 hx hZ hown (host := "") (Or.inl (hw _ (List.mem_of_getElem? (i := 12) rfl))) Via.refl e16 F_a_firstDepths E_a (Or.inl (hw _ (List.mem_of_getElem? (i := 13) rfl))) (hw _ (List.mem_of_getElem? (i := 1) rfl)) (ty := (.array .int)) (by decide) rfl rfl (g := (mkF m 76 #[.val (.ref a), .val (.int N), .val (.int t)] [(.ref b16), (.ref a)])) rfl rfl (hb hby own_d4_76)
              have E_a := E_a.wr W17
              have F_a_names := F_a_names.other W17 (Or.inr (slot_ne (Or.inl (hw _ (List.mem_of_getElem? (i := 19) rfl))) (Or.inl (hw _ (List.mem_of_getElem? (i := 13) rfl))) (by decide) (t := (.array .int)) (t' := (.array .int)) (by decide) (by decide)))
              have F_a_depths := F_a_depths.other W17 (Or.inr (slot_ne (Or.inl (hw _ (List.mem_of_getElem? (i := 21) rfl))) (Or.inl (hw _ (List.mem_of_getElem? (i := 13) rfl))) (by decide) (t := (.array .int)) (t' := (.array .int)) (by decide) (by decide)))
              have F_a_firstExtents := F_a_firstExtents.other W17 (Or.inr (slot_ne (Or.inl (hw _ (List.mem_of_getElem? (i := 23) rfl))) (Or.inl (hw _ (List.mem_of_getElem? (i := 13) rfl))) (by decide) (t := (.array .int)) (t' := (.array .int)) (by decide) (by decide)))
              have F_a_size := F_a_size.other W17 (Or.inr (slot_ne (Or.inl (hw _ (List.mem_of_getElem? (i := 39) rfl))) (Or.inl (hw _ (List.mem_of_getElem? (i := 13) rfl))) (by decide) (t := .int) (t' := (.array .int)) (by decide) (by decide)))
              have F_a_extents := F_a_extents.other W17 (Or.inr (slot_ne (Or.inl (hw _ (List.mem_of_getElem? (i := 41) rfl))) (Or.inl (hw _ (List.mem_of_getElem? (i := 13) rfl))) (by decide) (t := .int) (t' := (.array .int)) (by decide) (by decide)))
              have I_nA := I_nA.other W17 (Ne.symm ne_a_nA)
              have I_dA := I_dA.other W17 (Ne.symm ne_a_dA)
              have I_b1 := I_b1.other W17 (Ne.symm ne_a_b1)
              have F_a_firstStreams := F_a_firstStreams.other W17 (Or.inr (slot_ne (Or.inl (hw _ (List.mem_of_getElem? (i := 11) rfl))) (Or.inl (hw _ (List.mem_of_getElem? (i := 13) rfl))) (by decide) (t := (.array .int)) (t' := (.array .int)) (by decide) (by decide)))
              have I_b16 := I_b16.other W17 (Ne.symm ne_a_b16)
              have Zs := Nat.le_trans Zs (Keep.of_wr W17).1
              have F_a_firstDepths := F_a_firstDepths.same W17
              have KP := KP.wr W17 (Or.inl (by simp))
              have NF := Fr.snoc X17 NF g_a
              refine own_go (T' := T17) (g' := (mkF m 79 #[.val (.ref a), .val (.int N), .val (.int t)] [])) (fun _ k => st17 _ k) ?_
              refine own_go (T' := T17) (g' := (mkF m 80 #[.val (.ref a), .val (.int N), .val (.int t)] [(.int (0 : Int32))])) (fun _ k => XS.iconst X17.here hx rfl (hb hby own_d4_79) k) ?_
              refine own_go (T' := T17) (g' := (mkF m 81 #[.val (.ref a), .val (.int N), .val (.int (0 : Int32))] [])) (fun _ k => XS.istoreN X17.here hx rfl (hb hby own_d4_80) rfl (l' := #[.val (.ref a), .val (.int N), .val (.int (0 : Int32))]) rfl k) ?_
              have LP3 : ∀ (k : Nat) (j : Int32) (ft : Nat → Int32) (TL : State) (locs : List Loc) (hL : Heap), (N.toInt - j.toInt < k) → (0 ≤ j.toInt ∧ j.toInt ≤ N.toInt) → Stand p l e ({ frames := 0, cells := 2, slots := 11, locals := 0 } : Room) s m #[(.ref a), (.int N)] below meth c TL locs 2 11 → TL.heap = hL → Fr n0 locs → n0 ≤ hL.size → Keep h0 hL [a] → Exa Z hL a "com/example/nimble_twig/nimbletwig/index/store/StoredStreams" → Fld Z hL a "com/example/nimble_twig/nimbletwig/index/store/StoredStreams" "firstStreams" "[I" (.ref b1) → Fld Z hL a "com/example/nimble_twig/nimbletwig/index/store/StoredStreams" "firstDepths" "[I" (.ref b16) → Fld Z hL a "com/example/nimble_twig/nimbletwig/index/store/StoredStreams" "names" "[I" (.ref nA) → Fld Z hL a "com/example/nimble_twig/nimbletwig/index/store/StoredStreams" "depths" "[I" (.ref dA) → Fld Z hL a "com/example/nimble_twig/nimbletwig/index/store/StoredStreams" "firstExtents" "[I" (.ref fA) → Fld Z hL a "com/example/nimble_twig/nimbletwig/index/store/StoredStreams" "size" "I" (.int sz) → Fld Z hL a "com/example/nimble_twig/nimbletwig/index/store/StoredStreams" "extents" "I" (.int (0 : Int32)) → own_IA Z hL nA cp fn → own_IA Z hL dA cp fd → own_IA Z hL b1 (N + (1 : Int32)) ff2 → own_IA Z hL b16 N ft → own_Dn p e below s (own_Q4 Z a N sA tA nA dA fA cp sz fn fd h0 n0) 2 11 TL (mkF m 81 #[.val (.ref a), .val (.int N), .val (.int j)] []) := by
                intro k
                induction k with
                | zero => intro j ft TL locs hL hk hI XL eL NF Zs KP E_a F_a_firstStreams F_a_firstDepths F_a_names F_a_depths F_a_firstExtents F_a_size F_a_extents I_nA I_dA I_b1 I_b16; exfalso; omega
                | succ k ih =>
                  intro j ft TL locs hL hk hI XL eL NF Zs KP E_a F_a_firstStreams F_a_firstDepths F_a_names F_a_depths F_a_firstExtents F_a_size F_a_extents I_nA I_dA I_b1 I_b16
                  refine own_go (T' := TL) (g' := (mkF m 82 #[.val (.ref a), .val (.int N), .val (.int j)] [(.int j)])) (fun _ k => XS.iloadN XL.here hx rfl (hb hby own_d4_81) rfl k) ?_
                  refine own_go (T' := TL) (g' := (mkF m 83 #[.val (.ref a), .val (.int N), .val (.int j)] [(.int N), (.int j)])) (fun _ k => XS.iloadN XL.here hx rfl (hb hby own_d4_82) rfl k) ?_
                  by_cases c18 : j < N
                  · refine own_go (T' := TL) (g' := (mkF m 86 #[.val (.ref a), .val (.int N), .val (.int j)] [])) (fun _ k => XS.icmpNo XL.here hx rfl (hb hby own_d4_83) rfl (tlt c18).2.1 k) ?_
                    refine own_go (T' := TL) (g' := (mkF m 87 #[.val (.ref a), .val (.int N), .val (.int j)] [(.ref a)])) (fun _ k => XS.aloadN XL.here hx rfl (hb hby own_d4_86) rfl rfl k) ?_
                    obtain ⟨T19, X19, e19, st19⟩ := getF XL hx hZ hown (host := "") (Or.inl (hw _ (List.mem_of_getElem? (i := 10) rfl))) Via.refl eL F_a_firstStreams (g := (mkF m 87 #[.val (.ref a), .val (.int N), .val (.int j)] [(.ref a)])) rfl rfl (hb hby own_d4_87)
                    refine own_go (T' := T19) (g' := (mkF m 90 #[.val (.ref a), .val (.int N), .val (.int j)] [(.ref b1)])) (fun _ k => st19 _ k) ?_
                    refine own_go (T' := T19) (g' := (mkF m 91 #[.val (.ref a), .val (.int N), .val (.int j)] [(.int j), (.ref b1)])) (fun _ k => XS.iloadN X19.here hx rfl (hb hby own_d4_90) rfl k) ?_
                    obtain ⟨c_20, Ar_20, S_20, N_20, H_20⟩ := id I_b1
                    have ej := own_nat j (by omega)
                    have ej1 := own_add1 j (by omega)
                    have hjN : j.toInt < N.toInt := by (try simp only [own_ln1, own_l0, own_l1, own_l2, own_l3, own_l4, own_l5, own_l6, own_l7, own_l8, own_l9, own_l12, own_l32, own_L0, own_L1, own_L2, own_L3, own_L7, Int32.lt_iff_toInt_lt, ← Int32.toInt_inj, Int64.lt_iff_toInt_lt, ← Int64.toInt_inj, and_true, true_and, and_false, false_and, or_true, true_or, or_false, false_or, not_true_eq_false, not_false_eq_true, ne_eq, true_implies, false_implies, implies_true] at hI hP c4 hI hP2 c10 hI c18 ⊢) <;> omega
                    have ej2 := own_nat (j + (1 : Int32)) (by omega)
                    have hA := hP3 j.toNatClampNeg (by omega)
                    have hB := hP3 (j + (1 : Int32)).toNatClampNeg (by omega)
                    have hbA := own_cnt_b fn sz.toNatClampNeg (j.toNatClampNeg : Int)
                    have hbB := own_cnt_b fn sz.toNatClampNeg ((j + (1 : Int32)).toNatClampNeg : Int)
                    have hin_20 : ¬ (j < 0 ∨ c_20.slots.size ≤ (j).toNatClampNeg) := inb_of S_20 ⟨by (try simp only [own_ln1, own_l0, own_l1, own_l2, own_l3, own_l4, own_l5, own_l6, own_l7, own_l8, own_l9, own_l12, own_l32, own_L0, own_L1, own_L2, own_L3, own_L7, Int32.lt_iff_toInt_lt, ← Int32.toInt_inj, Int64.lt_iff_toInt_lt, ← Int64.toInt_inj, and_true, true_and, and_false, false_and, or_true, true_or, or_false, false_or, not_true_eq_false, not_false_eq_true, ne_eq, true_implies, false_implies, implies_true] at hI hP c4 hI hP2 c10 hI c18 ⊢) <;> omega, by (try simp only [own_ln1, own_l0, own_l1, own_l2, own_l3, own_l4, own_l5, own_l6, own_l7, own_l8, own_l9, own_l12, own_l32, own_L0, own_L1, own_L2, own_L3, own_L7, Int32.lt_iff_toInt_lt, ← Int32.toInt_inj, Int64.lt_iff_toInt_lt, ← Int64.toInt_inj, and_true, true_and, and_false, false_and, or_true, true_or, or_false, false_or, not_true_eq_false, not_false_eq_true, ne_eq, true_implies, false_implies, implies_true] at hI hP c4 hI hP2 c10 hI c18 ⊢) <;> omega⟩
                    have hat_20 : c_20.slots[(j).toNatClampNeg]? = some (.int (ff2 (j).toNatClampNeg)) := H_20 _ (Nat.lt_of_not_le fun y => hin_20 (Or.inr y))
                    refine own_go (T' := T19) (g' := (mkF m 92 #[.val (.ref a), .val (.int N), .val (.int j)] [(.int (ff2 (j).toNatClampNeg))])) (fun _ k => X19.iaload hx (j := j) (v := (.int (ff2 (j).toNatClampNeg))) (by rw [e19]; exact Ar_20.1) (State.isArrayOf_alike hZ.alike Ar_20.2.1) Ar_20.2.2 hin_20 hat_20 (g := (mkF m 91 #[.val (.ref a), .val (.int N), .val (.int j)] [(.int j), (.ref b1)])) rfl rfl (hb hby own_d4_91) _ k) ?_
                    refine own_go (T' := T19) (g' := (mkF m 93 #[.val (.ref a), .val (.int N), .val (.int j)] [(.ref a), (.int (ff2 (j).toNatClampNeg))])) (fun _ k => XS.aloadN X19.here hx rfl (hb hby own_d4_92) rfl rfl k) ?_
                    obtain ⟨T21, X21, e21, st21⟩ := getF X19 hx hZ hown (host := "") (Or.inl (hw _ (List.mem_of_getElem? (i := 10) rfl))) Via.refl e19 F_a_firstStreams (g := (mkF m 93 #[.val (.ref a), .val (.int N), .val (.int j)] [(.ref a), (.int (ff2 (j).toNatClampNeg))])) rfl rfl (hb hby own_d4_93)
                    refine own_go (T' := T21) (g' := (mkF m 96 #[.val (.ref a), .val (.int N), .val (.int j)] [(.ref b1), (.int (ff2 (j).toNatClampNeg))])) (fun _ k => st21 _ k) ?_
                    refine own_go (T' := T21) (g' := (mkF m 97 #[.val (.ref a), .val (.int N), .val (.int j)] [(.int j), (.ref b1), (.int (ff2 (j).toNatClampNeg))])) (fun _ k => XS.iloadN X21.here hx rfl (hb hby own_d4_96) rfl k) ?_
                    refine own_go (T' := T21) (g' := (mkF m 98 #[.val (.ref a), .val (.int N), .val (.int j)] [(.int (1 : Int32)), (.int j), (.ref b1), (.int (ff2 (j).toNatClampNeg))])) (fun _ k => XS.iconst X21.here hx rfl (hb hby own_d4_97) k) ?_
                    refine own_go (T' := T21) (g' := (mkF m 99 #[.val (.ref a), .val (.int N), .val (.int j)] [(.int (j + (1 : Int32))), (.ref b1), (.int (ff2 (j).toNatClampNeg))])) (fun _ k => XS.iadd X21.here hx rfl (hb hby own_d4_98) rfl k) ?_
                    obtain ⟨c_22, Ar_22, S_22, N_22, H_22⟩ := id I_b1
                    have hin_22 : ¬ ((j + (1 : Int32)) < 0 ∨ c_22.slots.size ≤ ((j + (1 : Int32))).toNatClampNeg) := inb_of S_22 ⟨by (try simp only [own_ln1, own_l0, own_l1, own_l2, own_l3, own_l4, own_l5, own_l6, own_l7, own_l8, own_l9, own_l12, own_l32, own_L0, own_L1, own_L2, own_L3, own_L7, Int32.lt_iff_toInt_lt, ← Int32.toInt_inj, Int64.lt_iff_toInt_lt, ← Int64.toInt_inj, and_true, true_and, and_false, false_and, or_true, true_or, or_false, false_or, not_true_eq_false, not_false_eq_true, ne_eq, true_implies, false_implies, implies_true] at hI hP c4 hI hP2 c10 hI c18 ⊢) <;> omega, by (try simp only [own_ln1, own_l0, own_l1, own_l2, own_l3, own_l4, own_l5, own_l6, own_l7, own_l8, own_l9, own_l12, own_l32, own_L0, own_L1, own_L2, own_L3, own_L7, Int32.lt_iff_toInt_lt, ← Int32.toInt_inj, Int64.lt_iff_toInt_lt, ← Int64.toInt_inj, and_true, true_and, and_false, false_and, or_true, true_or, or_false, false_or, not_true_eq_false, not_false_eq_true, ne_eq, true_implies, false_implies, implies_true] at hI hP c4 hI hP2 c10 hI c18 ⊢) <;> omega⟩
                    have hat_22 : c_22.slots[((j + (1 : Int32))).toNatClampNeg]? = some (.int (ff2 ((j + (1 : Int32))).toNatClampNeg)) := H_22 _ (Nat.lt_of_not_le fun y => hin_22 (Or.inr y))
                    refine own_go (T' := T21) (g' := (mkF m 100 #[.val (.ref a), .val (.int N), .val (.int j)] [(.int (ff2 ((j + (1 : Int32))).toNatClampNeg)), (.int (ff2 (j).toNatClampNeg))])) (fun _ k => X21.iaload hx (j := (j + (1 : Int32))) (v := (.int (ff2 ((j + (1 : Int32))).toNatClampNeg))) (by rw [e21]; exact Ar_22.1) (State.isArrayOf_alike hZ.alike Ar_22.2.1) Ar_22.2.2 hin_22 hat_22 (g := (mkF m 99 #[.val (.ref a), .val (.int N), .val (.int j)] [(.int (j + (1 : Int32))), (.ref b1), (.int (ff2 (j).toNatClampNeg))])) rfl rfl (hb hby own_d4_99) _ k) ?_
                    by_cases c23 : (ff2 (j).toNatClampNeg) < (ff2 ((j + (1 : Int32))).toNatClampNeg)
                    · refine own_go (T' := T21) (g' := (mkF m 103 #[.val (.ref a), .val (.int N), .val (.int j)] [])) (fun _ k => XS.icmpNo X21.here hx rfl (hb hby own_d4_100) rfl (tlt c23).2.1 k) ?_
                      refine own_go (T' := T21) (g' := (mkF m 104 #[.val (.ref a), .val (.int N), .val (.int j)] [(.ref a)])) (fun _ k => XS.aloadN X21.here hx rfl (hb hby own_d4_103) rfl rfl k) ?_
                      obtain ⟨T24, X24, e24, st24⟩ := getF X21 hx hZ hown (host := "") (Or.inl (hw _ (List.mem_of_getElem? (i := 12) rfl))) Via.refl e21 F_a_firstDepths (g := (mkF m 104 #[.val (.ref a), .val (.int N), .val (.int j)] [(.ref a)])) rfl rfl (hb hby own_d4_104)
                      refine own_go (T' := T24) (g' := (mkF m 107 #[.val (.ref a), .val (.int N), .val (.int j)] [(.ref b16)])) (fun _ k => st24 _ k) ?_
                      refine own_go (T' := T24) (g' := (mkF m 108 #[.val (.ref a), .val (.int N), .val (.int j)] [(.int j), (.ref b16)])) (fun _ k => XS.iloadN X24.here hx rfl (hb hby own_d4_107) rfl k) ?_
                      refine own_go (T' := T24) (g' := (mkF m 109 #[.val (.ref a), .val (.int N), .val (.int j)] [(.ref a), (.int j), (.ref b16)])) (fun _ k => XS.aloadN X24.here hx rfl (hb hby own_d4_108) rfl rfl k) ?_
                      obtain ⟨T25, X25, e25, st25⟩ := getF X24 hx hZ hown (host := "") (Or.inl (hw _ (List.mem_of_getElem? (i := 20) rfl))) Via.refl e24 F_a_depths (g := (mkF m 109 #[.val (.ref a), .val (.int N), .val (.int j)] [(.ref a), (.int j), (.ref b16)])) rfl rfl (hb hby own_d4_109)
                      refine own_go (T' := T25) (g' := (mkF m 112 #[.val (.ref a), .val (.int N), .val (.int j)] [(.ref dA), (.int j), (.ref b16)])) (fun _ k => st25 _ k) ?_
                      refine own_go (T' := T25) (g' := (mkF m 113 #[.val (.ref a), .val (.int N), .val (.int j)] [(.ref a), (.ref dA), (.int j), (.ref b16)])) (fun _ k => XS.aloadN X25.here hx rfl (hb hby own_d4_112) rfl rfl k) ?_
                      obtain ⟨T26, X26, e26, st26⟩ := getF X25 hx hZ hown (host := "") (Or.inl (hw _ (List.mem_of_getElem? (i := 10) rfl))) Via.refl e25 F_a_firstStreams (g := (mkF m 113 #[.val (.ref a), .val (.int N), .val (.int j)] [(.ref a), (.ref dA), (.int j), (.ref b16)])) rfl rfl (hb hby own_d4_113)
                      refine own_go (T' := T26) (g' := (mkF m 116 #[.val (.ref a), .val (.int N), .val (.int j)] [(.ref b1), (.ref dA), (.int j), (.ref b16)])) (fun _ k => st26 _ k) ?_
                      refine own_go (T' := T26) (g' := (mkF m 117 #[.val (.ref a), .val (.int N), .val (.int j)] [(.int j), (.ref b1), (.ref dA), (.int j), (.ref b16)])) (fun _ k => XS.iloadN X26.here hx rfl (hb hby own_d4_116) rfl k) ?_
                      obtain ⟨c_27, Ar_27, S_27, N_27, H_27⟩ := id I_b1
                      have hin_27 : ¬ (j < 0 ∨ c_27.slots.size ≤ (j).toNatClampNeg) := inb_of S_27 ⟨by (try simp only [own_ln1, own_l0, own_l1, own_l2, own_l3, own_l4, own_l5, own_l6, own_l7, own_l8, own_l9, own_l12, own_l32, own_L0, own_L1, own_L2, own_L3, own_L7, Int32.lt_iff_toInt_lt, ← Int32.toInt_inj, Int64.lt_iff_toInt_lt, ← Int64.toInt_inj, and_true, true_and, and_false, false_and, or_true, true_or, or_false, false_or, not_true_eq_false, not_false_eq_true, ne_eq, true_implies, false_implies, implies_true] at hI hP c4 hI hP2 c10 hI c18 c23 ⊢) <;> omega, by (try simp only [own_ln1, own_l0, own_l1, own_l2, own_l3, own_l4, own_l5, own_l6, own_l7, own_l8, own_l9, own_l12, own_l32, own_L0, own_L1, own_L2, own_L3, own_L7, Int32.lt_iff_toInt_lt, ← Int32.toInt_inj, Int64.lt_iff_toInt_lt, ← Int64.toInt_inj, and_true, true_and, and_false, false_and, or_true, true_or, or_false, false_or, not_true_eq_false, not_false_eq_true, ne_eq, true_implies, false_implies, implies_true] at hI hP c4 hI hP2 c10 hI c18 c23 ⊢) <;> omega⟩
                      have hat_27 : c_27.slots[(j).toNatClampNeg]? = some (.int (ff2 (j).toNatClampNeg)) := H_27 _ (Nat.lt_of_not_le fun y => hin_27 (Or.inr y))
                      refine own_go (T' := T26) (g' := (mkF m 118 #[.val (.ref a), .val (.int N), .val (.int j)] [(.int (ff2 (j).toNatClampNeg)), (.ref dA), (.int j), (.ref b16)])) (fun _ k => X26.iaload hx (j := j) (v := (.int (ff2 (j).toNatClampNeg))) (by rw [e26]; exact Ar_27.1) (State.isArrayOf_alike hZ.alike Ar_27.2.1) Ar_27.2.2 hin_27 hat_27 (g := (mkF m 117 #[.val (.ref a), .val (.int N), .val (.int j)] [(.int j), (.ref b1), (.ref dA), (.int j), (.ref b16)])) rfl rfl (hb hby own_d4_117) _ k) ?_
                      obtain ⟨c_28, Ar_28, S_28, N_28, H_28⟩ := id I_dA
                      have hin_28 : ¬ ((ff2 (j).toNatClampNeg) < 0 ∨ c_28.slots.size ≤ ((ff2 (j).toNatClampNeg)).toNatClampNeg) := inb_of S_28 ⟨by (try simp only [own_ln1, own_l0, own_l1, own_l2, own_l3, own_l4, own_l5, own_l6, own_l7, own_l8, own_l9, own_l12, own_l32, own_L0, own_L1, own_L2, own_L3, own_L7, Int32.lt_iff_toInt_lt, ← Int32.toInt_inj, Int64.lt_iff_toInt_lt, ← Int64.toInt_inj, and_true, true_and, and_false, false_and, or_true, true_or, or_false, false_or, not_true_eq_false, not_false_eq_true, ne_eq, true_implies, false_implies, implies_true] at hI hP c4 hI hP2 c10 hI c18 c23 ⊢) <;> omega, by (try simp only [own_ln1, own_l0, own_l1, own_l2, own_l3, own_l4, own_l5, own_l6, own_l7, own_l8, own_l9, own_l12, own_l32, own_L0, own_L1, own_L2, own_L3, own_L7, Int32.lt_iff_toInt_lt, ← Int32.toInt_inj, Int64.lt_iff_toInt_lt, ← Int64.toInt_inj, and_true, true_and, and_false, false_and, or_true, true_or, or_false, false_or, not_true_eq_false, not_false_eq_true, ne_eq, true_implies, false_implies, implies_true] at hI hP c4 hI hP2 c10 hI c18 c23 ⊢) <;> omega⟩
                      have hat_28 : c_28.slots[((ff2 (j).toNatClampNeg)).toNatClampNeg]? = some (.int (fd ((ff2 (j).toNatClampNeg)).toNatClampNeg)) := H_28 _ (Nat.lt_of_not_le fun y => hin_28 (Or.inr y))
                      refine own_go (T' := T26) (g' := (mkF m 119 #[.val (.ref a), .val (.int N), .val (.int j)] [(.int (fd ((ff2 (j).toNatClampNeg)).toNatClampNeg)), (.int j), (.ref b16)])) (fun _ k => X26.iaload hx (j := (ff2 (j).toNatClampNeg)) (v := (.int (fd ((ff2 (j).toNatClampNeg)).toNatClampNeg))) (by rw [e26]; exact Ar_28.1) (State.isArrayOf_alike hZ.alike Ar_28.2.1) Ar_28.2.2 hin_28 hat_28 (g := (mkF m 118 #[.val (.ref a), .val (.int N), .val (.int j)] [(.int (ff2 (j).toNatClampNeg)), (.ref dA), (.int j), (.ref b16)])) rfl rfl (hb hby own_d4_118) _ k) ?_
                      obtain ⟨c_29, Ar_29, S_29, N_29, H_29⟩ := id I_b16
                      have hin_29 : ¬ (j < 0 ∨ c_29.slots.size ≤ (j).toNatClampNeg) := inb_of S_29 ⟨by (try simp only [own_ln1, own_l0, own_l1, own_l2, own_l3, own_l4, own_l5, own_l6, own_l7, own_l8, own_l9, own_l12, own_l32, own_L0, own_L1, own_L2, own_L3, own_L7, Int32.lt_iff_toInt_lt, ← Int32.toInt_inj, Int64.lt_iff_toInt_lt, ← Int64.toInt_inj, and_true, true_and, and_false, false_and, or_true, true_or, or_false, false_or, not_true_eq_false, not_false_eq_true, ne_eq, true_implies, false_implies, implies_true] at hI hP c4 hI hP2 c10 hI c18 c23 ⊢) <;> omega, by (try simp only [own_ln1, own_l0, own_l1, own_l2, own_l3, own_l4, own_l5, own_l6, own_l7, own_l8, own_l9, own_l12, own_l32, own_L0, own_L1, own_L2, own_L3, own_L7, Int32.lt_iff_toInt_lt, ← Int32.toInt_inj, Int64.lt_iff_toInt_lt, ← Int64.toInt_inj, and_true, true_and, and_false, false_and, or_true, true_or, or_false, false_or, not_true_eq_false, not_false_eq_true, ne_eq, true_implies, false_implies, implies_true] at hI hP c4 hI hP2 c10 hI c18 c23 ⊢) <;> omega⟩
                      obtain ⟨T29, h29, X29, e29, W29, st29⟩ := stI X26 hx hZ e26 Ar_29 (j := j) hin_29 (g := (mkF m 119 #[.val (.ref a), .val (.int N), .val (.int j)] [(.int (fd ((ff2 (j).toNatClampNeg)).toNatClampNeg)), (.int j), (.ref b16)])) rfl rfl (hb hby own_d4_119)
                      have E_a := E_a.wr W29
                      have F_a_names := F_a_names.other W29 (Or.inl ne_a_b16)
                      have F_a_depths := F_a_depths.other W29 (Or.inl ne_a_b16)
                      have F_a_firstExtents := F_a_firstExtents.other W29 (Or.inl ne_a_b16)
                      have F_a_size := F_a_size.other W29 (Or.inl ne_a_b16)
                      have F_a_extents := F_a_extents.other W29 (Or.inl ne_a_b16)
                      have I_nA := I_nA.other W29 ne_nA_b16
                      have I_dA := I_dA.other W29 ne_dA_b16
                      have I_b1 := I_b1.other W29 ne_b1_b16
                      have F_a_firstStreams := F_a_firstStreams.other W29 (Or.inl ne_a_b16)
                      have F_a_firstDepths := F_a_firstDepths.other W29 (Or.inl ne_a_b16)
                      have Zs := Nat.le_trans Zs (Keep.of_wr W29).1
                      have I_b16 := own_IA.set Ar_29 S_29 N_29 H_29 hin_29 W29
                      have KP := KP.wr W29 (Or.inr sz_b16)
                      have NF := Fr.snoc X29 NF g_b16
                      refine own_go (T' := T29) (g' := (mkF m 120 #[.val (.ref a), .val (.int N), .val (.int j)] [])) (fun _ k => st29 _ k) ?_
                      refine own_go (T' := T29) (g' := (mkF m 123 #[.val (.ref a), .val (.int N), .val (.int (j + (1 : Int32)))] [])) (fun _ k => XS.iinc X29.here hx rfl (hb hby own_d4_120) rfl (l' := #[.val (.ref a), .val (.int N), .val (.int (j + (1 : Int32)))]) rfl k) ?_
                      refine own_go (T' := T29) (g' := (mkF m 81 #[.val (.ref a), .val (.int N), .val (.int (j + (1 : Int32)))] [])) (fun _ k => XS.goto X29.here hx rfl (pc0 := 123) (pc' := 81) rfl (hb hby own_d4_123) (by decide) (by decide) k) ?_
                      have q1 := own_add1 j (by omega)
                      exact ih (j + (1 : Int32)) _ _ _ _ (by omega) (by omega) X29 e29 NF Zs KP E_a F_a_firstStreams F_a_firstDepths F_a_names F_a_depths F_a_firstExtents F_a_size F_a_extents I_nA I_dA I_b1 I_b16
                    · refine own_go (T' := T21) (g' := (mkF m 120 #[.val (.ref a), .val (.int N), .val (.int j)] [])) (fun _ k => XS.icmpYes X21.here hx rfl (pc0 := 100) (pc' := 120) rfl (hb hby own_d4_100) rfl (flt c23).2.1 (by decide) (by decide) k) ?_
                      refine own_go (T' := T21) (g' := (mkF m 123 #[.val (.ref a), .val (.int N), .val (.int (j + (1 : Int32)))] [])) (fun _ k => XS.iinc X21.here hx rfl (hb hby own_d4_120) rfl (l' := #[.val (.ref a), .val (.int N), .val (.int (j + (1 : Int32)))]) rfl k) ?_
                      refine own_go (T' := T21) (g' := (mkF m 81 #[.val (.ref a), .val (.int N), .val (.int (j + (1 : Int32)))] [])) (fun _ k => XS.goto X21.here hx rfl (pc0 := 123) (pc' := 81) rfl (hb hby own_d4_123) (by decide) (by decide) k) ?_
                      have q1 := own_add1 j (by omega)
                      exact ih (j + (1 : Int32)) _ _ _ _ (by omega) (by omega) X21 e21 NF Zs KP E_a F_a_firstStreams F_a_firstDepths F_a_names F_a_depths F_a_firstExtents F_a_size F_a_extents I_nA I_dA I_b1 I_b16
                  · refine own_go (T' := TL) (g' := (mkF m 126 #[.val (.ref a), .val (.int N), .val (.int j)] [])) (fun _ k => XS.icmpYes XL.here hx rfl (pc0 := 83) (pc' := 126) rfl (hb hby own_d4_83) rfl (flt c18).2.1 (by decide) (by decide) k) ?_
                    refine own_ret XL Bd.notSynchronized none (fun _ => rfl) (fun fs hr => XL.returnOut hx Bd.returns (hb hby own_d4_126) hr) ?_ (by decide) (by decide)
                    show (own_Q4 Z a N sA tA nA dA fA cp sz fn fd h0 n0) none TL.heap _
                    rw [eL]
                    exact ⟨rfl, NF, KP, E_a, b1, b16, ff2, ft, F_a_firstStreams, F_a_firstDepths, F_a_names, F_a_depths, F_a_firstExtents, F_a_size, F_a_extents, I_b1, I_b16, hP3⟩
              exact LP3 (N.toNatClampNeg + 1) (0 : Int32) _ _ _ _ (by first | decide | (simp only [own_l0]; omega)) (by first | decide | (simp only [own_l0]; omega)) X17 e17 NF Zs KP E_a F_a_firstStreams F_a_firstDepths F_a_names F_a_depths F_a_firstExtents F_a_size F_a_extents I_nA I_dA I_b1 I_b16
        exact LP2 (N.toNatClampNeg + 1) (0 : Int32) _ _ _ _ (by first | decide | (simp only [own_l0]; omega)) (by first | decide | (simp only [own_l0]; omega)) hP2 X3 e3 NF Zs KP E_a F_a_firstStreams F_a_firstDepths F_a_names F_a_depths F_a_firstExtents F_a_size F_a_extents I_nA I_dA I_b1
  exact LP1 (sz.toNatClampNeg + 1) (0 : Int32) _ _ _ _ (by first | decide | (simp only [own_l0]; omega)) (by first | decide | (simp only [own_l0]; omega)) (own_P10 fn N.toNatClampNeg) X2 e2 NF Zs KP E_a F_a_firstStreams F_a_firstDepths F_a_names F_a_depths F_a_firstExtents F_a_size F_a_extents I_nA I_dA I_b1
theorem own_d5_0 : decode prog_95_method_6_code 0 = .ok (.lload_n 1, 1) := by decide +kernel
theorem own_d5_1 : decode prog_95_method_6_code 1 = .ok (.lconst 0, 1) := by decide +kernel
theorem own_d5_2 : decode prog_95_method_6_code 2 = .ok (.lcmp, 1) := by decide +kernel
theorem own_d5_3 : decode prog_95_method_6_code 3 = .ok (.ifCond .lt 16, 3) := by decide +kernel
theorem own_d5_6 : decode prog_95_method_6_code 6 = .ok (.lload_n 1, 1) := by decide +kernel
theorem own_d5_7 : decode prog_95_method_6_code 7 = .ok (.aload_n 0, 1) := by decide +kernel
theorem own_d5_8 : decode prog_95_method_6_code 8 = .ok (.getfield 7, 3) := by decide +kernel
theorem own_d5_11 : decode prog_95_method_6_code 11 = .ok (.arraylength, 1) := by decide +kernel
theorem own_d5_12 : decode prog_95_method_6_code 12 = .ok (.iconst 1, 1) := by decide +kernel
theorem own_d5_13 : decode prog_95_method_6_code 13 = .ok (.isub, 1) := by decide +kernel
theorem own_d5_14 : decode prog_95_method_6_code 14 = .ok (.i2l, 1) := by decide +kernel
theorem own_d5_15 : decode prog_95_method_6_code 15 = .ok (.lcmp, 1) := by decide +kernel
theorem own_d5_16 : decode prog_95_method_6_code 16 = .ok (.ifCond .lt 5, 3) := by decide +kernel
theorem own_d5_19 : decode prog_95_method_6_code 19 = .ok (.iconst (-1), 1) := by decide +kernel
theorem own_d5_20 : decode prog_95_method_6_code 20 = .ok (.ireturn, 1) := by decide +kernel
theorem own_d5_21 : decode prog_95_method_6_code 21 = .ok (.aload_n 0, 1) := by decide +kernel
theorem own_d5_22 : decode prog_95_method_6_code 22 = .ok (.getfield 7, 3) := by decide +kernel
theorem own_d5_25 : decode prog_95_method_6_code 25 = .ok (.lload_n 1, 1) := by decide +kernel
theorem own_d5_26 : decode prog_95_method_6_code 26 = .ok (.l2i, 1) := by decide +kernel
theorem own_d5_27 : decode prog_95_method_6_code 27 = .ok (.iaload, 1) := by decide +kernel
theorem own_d5_28 : decode prog_95_method_6_code 28 = .ok (.istore 5, 2) := by decide +kernel
theorem own_d5_30 : decode prog_95_method_6_code 30 = .ok (.aload_n 0, 1) := by decide +kernel
theorem own_d5_31 : decode prog_95_method_6_code 31 = .ok (.getfield 7, 3) := by decide +kernel
theorem own_d5_34 : decode prog_95_method_6_code 34 = .ok (.lload_n 1, 1) := by decide +kernel
theorem own_d5_35 : decode prog_95_method_6_code 35 = .ok (.l2i, 1) := by decide +kernel
theorem own_d5_36 : decode prog_95_method_6_code 36 = .ok (.iconst 1, 1) := by decide +kernel
theorem own_d5_37 : decode prog_95_method_6_code 37 = .ok (.iadd, 1) := by decide +kernel
theorem own_d5_38 : decode prog_95_method_6_code 38 = .ok (.iaload, 1) := by decide +kernel
theorem own_d5_39 : decode prog_95_method_6_code 39 = .ok (.iconst 1, 1) := by decide +kernel
theorem own_d5_40 : decode prog_95_method_6_code 40 = .ok (.isub, 1) := by decide +kernel
theorem own_d5_41 : decode prog_95_method_6_code 41 = .ok (.istore 6, 2) := by decide +kernel
theorem own_d5_43 : decode prog_95_method_6_code 43 = .ok (.iconst (-1), 1) := by decide +kernel
theorem own_d5_44 : decode prog_95_method_6_code 44 = .ok (.istore 7, 2) := by decide +kernel
theorem own_d5_46 : decode prog_95_method_6_code 46 = .ok (.iload 5, 2) := by decide +kernel
theorem own_d5_48 : decode prog_95_method_6_code 48 = .ok (.iload 6, 2) := by decide +kernel
theorem own_d5_50 : decode prog_95_method_6_code 50 = .ok (.if_icmp .gt 56, 3) := by decide +kernel
theorem own_d5_53 : decode prog_95_method_6_code 53 = .ok (.iload 5, 2) := by decide +kernel
theorem own_d5_55 : decode prog_95_method_6_code 55 = .ok (.i2l, 1) := by decide +kernel
theorem own_d5_56 : decode prog_95_method_6_code 56 = .ok (.lload_n 3, 1) := by decide +kernel
theorem own_d5_57 : decode prog_95_method_6_code 57 = .ok (.aload_n 0, 1) := by decide +kernel
theorem own_d5_58 : decode prog_95_method_6_code 58 = .ok (.getfield 13, 3) := by decide +kernel
theorem own_d5_61 : decode prog_95_method_6_code 61 = .ok (.lload_n 1, 1) := by decide +kernel
theorem own_d5_62 : decode prog_95_method_6_code 62 = .ok (.l2i, 1) := by decide +kernel
theorem own_d5_63 : decode prog_95_method_6_code 63 = .ok (.iaload, 1) := by decide +kernel
theorem own_d5_64 : decode prog_95_method_6_code 64 = .ok (.i2l, 1) := by decide +kernel
theorem own_d5_65 : decode prog_95_method_6_code 65 = .ok (.lsub, 1) := by decide +kernel
theorem own_d5_66 : decode prog_95_method_6_code 66 = .ok (.ladd, 1) := by decide +kernel
theorem own_d5_67 : decode prog_95_method_6_code 67 = .ok (.lstore 8, 2) := by decide +kernel
theorem own_d5_69 : decode prog_95_method_6_code 69 = .ok (.lload 8, 2) := by decide +kernel
theorem own_d5_71 : decode prog_95_method_6_code 71 = .ok (.iload 5, 2) := by decide +kernel
theorem own_d5_73 : decode prog_95_method_6_code 73 = .ok (.i2l, 1) := by decide +kernel
theorem own_d5_74 : decode prog_95_method_6_code 74 = .ok (.lcmp, 1) := by decide +kernel
theorem own_d5_75 : decode prog_95_method_6_code 75 = .ok (.ifCond .lt 31, 3) := by decide +kernel
theorem own_d5_78 : decode prog_95_method_6_code 78 = .ok (.lload 8, 2) := by decide +kernel
theorem own_d5_80 : decode prog_95_method_6_code 80 = .ok (.iload 6, 2) := by decide +kernel
theorem own_d5_82 : decode prog_95_method_6_code 82 = .ok (.i2l, 1) := by decide +kernel
theorem own_d5_83 : decode prog_95_method_6_code 83 = .ok (.lcmp, 1) := by decide +kernel
theorem own_d5_84 : decode prog_95_method_6_code 84 = .ok (.ifCond .gt 22, 3) := by decide +kernel
theorem own_d5_87 : decode prog_95_method_6_code 87 = .ok (.aload_n 0, 1) := by decide +kernel
theorem own_d5_88 : decode prog_95_method_6_code 88 = .ok (.getfield 25, 3) := by decide +kernel
theorem own_d5_91 : decode prog_95_method_6_code 91 = .ok (.lload 8, 2) := by decide +kernel
theorem own_d5_93 : decode prog_95_method_6_code 93 = .ok (.l2i, 1) := by decide +kernel
theorem own_d5_94 : decode prog_95_method_6_code 94 = .ok (.iaload, 1) := by decide +kernel
theorem own_d5_95 : decode prog_95_method_6_code 95 = .ok (.i2l, 1) := by decide +kernel
theorem own_d5_96 : decode prog_95_method_6_code 96 = .ok (.lload_n 3, 1) := by decide +kernel
theorem own_d5_97 : decode prog_95_method_6_code 97 = .ok (.lcmp, 1) := by decide +kernel
theorem own_d5_98 : decode prog_95_method_6_code 98 = .ok (.ifCond .ne 8, 3) := by decide +kernel
theorem own_d5_101 : decode prog_95_method_6_code 101 = .ok (.lload 8, 2) := by decide +kernel
theorem own_d5_103 : decode prog_95_method_6_code 103 = .ok (.l2i, 1) := by decide +kernel
theorem own_d5_104 : decode prog_95_method_6_code 104 = .ok (.istore 7, 2) := by decide +kernel
theorem own_d5_106 : decode prog_95_method_6_code 106 = .ok (.iload 7, 2) := by decide +kernel
theorem own_d5_108 : decode prog_95_method_6_code 108 = .ok (.ifCond .ge 70, 3) := by decide +kernel
theorem own_d5_111 : decode prog_95_method_6_code 111 = .ok (.iload 5, 2) := by decide +kernel
theorem own_d5_113 : decode prog_95_method_6_code 113 = .ok (.iload 6, 2) := by decide +kernel
theorem own_d5_115 : decode prog_95_method_6_code 115 = .ok (.if_icmp .gt 63, 3) := by decide +kernel
theorem own_d5_118 : decode prog_95_method_6_code 118 = .ok (.iload 5, 2) := by decide +kernel
theorem own_d5_120 : decode prog_95_method_6_code 120 = .ok (.iload 6, 2) := by decide +kernel
theorem own_d5_122 : decode prog_95_method_6_code 122 = .ok (.iadd, 1) := by decide +kernel
theorem own_d5_123 : decode prog_95_method_6_code 123 = .ok (.iconst 1, 1) := by decide +kernel
theorem own_d5_124 : decode prog_95_method_6_code 124 = .ok (.iushr, 1) := by decide +kernel
theorem own_d5_125 : decode prog_95_method_6_code 125 = .ok (.istore 8, 2) := by decide +kernel
theorem own_d5_127 : decode prog_95_method_6_code 127 = .ok (.aload_n 0, 1) := by decide +kernel
theorem own_d5_128 : decode prog_95_method_6_code 128 = .ok (.getfield 25, 3) := by decide +kernel
theorem own_d5_131 : decode prog_95_method_6_code 131 = .ok (.iload 8, 2) := by decide +kernel
theorem own_d5_133 : decode prog_95_method_6_code 133 = .ok (.iaload, 1) := by decide +kernel
theorem own_d5_134 : decode prog_95_method_6_code 134 = .ok (.i2l, 1) := by decide +kernel
theorem own_d5_135 : decode prog_95_method_6_code 135 = .ok (.lload_n 3, 1) := by decide +kernel
theorem own_d5_136 : decode prog_95_method_6_code 136 = .ok (.lcmp, 1) := by decide +kernel
theorem own_d5_137 : decode prog_95_method_6_code 137 = .ok (.ifCond .ge 12, 3) := by decide +kernel
theorem own_d5_140 : decode prog_95_method_6_code 140 = .ok (.iload 8, 2) := by decide +kernel
theorem own_d5_142 : decode prog_95_method_6_code 142 = .ok (.iconst 1, 1) := by decide +kernel
theorem own_d5_143 : decode prog_95_method_6_code 143 = .ok (.iadd, 1) := by decide +kernel
theorem own_d5_144 : decode prog_95_method_6_code 144 = .ok (.istore 5, 2) := by decide +kernel
theorem own_d5_146 : decode prog_95_method_6_code 146 = .ok (.goto 29, 3) := by decide +kernel
theorem own_d5_149 : decode prog_95_method_6_code 149 = .ok (.aload_n 0, 1) := by decide +kernel
theorem own_d5_150 : decode prog_95_method_6_code 150 = .ok (.getfield 25, 3) := by decide +kernel
theorem own_d5_153 : decode prog_95_method_6_code 153 = .ok (.iload 8, 2) := by decide +kernel
theorem own_d5_155 : decode prog_95_method_6_code 155 = .ok (.iaload, 1) := by decide +kernel
theorem own_d5_156 : decode prog_95_method_6_code 156 = .ok (.i2l, 1) := by decide +kernel
theorem own_d5_157 : decode prog_95_method_6_code 157 = .ok (.lload_n 3, 1) := by decide +kernel
theorem own_d5_158 : decode prog_95_method_6_code 158 = .ok (.lcmp, 1) := by decide +kernel
theorem own_d5_159 : decode prog_95_method_6_code 159 = .ok (.ifCond .le 12, 3) := by decide +kernel
theorem own_d5_162 : decode prog_95_method_6_code 162 = .ok (.iload 8, 2) := by decide +kernel
theorem own_d5_164 : decode prog_95_method_6_code 164 = .ok (.iconst 1, 1) := by decide +kernel
theorem own_d5_165 : decode prog_95_method_6_code 165 = .ok (.isub, 1) := by decide +kernel
theorem own_d5_166 : decode prog_95_method_6_code 166 = .ok (.istore 6, 2) := by decide +kernel
theorem own_d5_168 : decode prog_95_method_6_code 168 = .ok (.goto 7, 3) := by decide +kernel
theorem own_d5_171 : decode prog_95_method_6_code 171 = .ok (.iload 8, 2) := by decide +kernel
theorem own_d5_173 : decode prog_95_method_6_code 173 = .ok (.istore 7, 2) := by decide +kernel
theorem own_d5_175 : decode prog_95_method_6_code 175 = .ok (.goto (-69), 3) := by decide +kernel
theorem own_d5_178 : decode prog_95_method_6_code 178 = .ok (.iload 7, 2) := by decide +kernel
theorem own_d5_180 : decode prog_95_method_6_code 180 = .ok (.ireturn, 1) := by decide +kernel
theorem own_pn5 : plainName "com/example/nimble_twig/nimbletwig/index/store/StoredStreams" = true := by first | (simp [plainName, overriddenIn]; done) | decide +kernel
theorem own_ef5 (m : MethodId) (a : Addr) (nm : Int64) (dep : Int64) : entryFrame m #[(.ref a), (.long nm), (.long dep)] 10 = mkF m 0 #[.val (.ref a), .val (.long nm), .second, .val (.long dep), .second, .unset, .unset, .unset, .unset, .unset] [] := by first | (simp [entryFrame, mkF, argsToLocals, Value.category]; done) | rfl
def own_Q5 (Z : State) (a : Addr) (nm : Int64) (dep : Int64) (s2 : Addr) (t2 : Addr) (dA : Addr) (N : Int32) (cp : Int32) (fS : Nat → Int32) (fT : Nat → Int32) (fd : Nat → Int32) (h0 : Heap) (n0 : Nat) (v : Option Value) (h : Heap) (L : List Loc) : Prop := (∃ z : Int32, v = some (.int z) ∧ (¬ (0 ≤ nm.toInt ∧ nm.toInt < N.toInt) → z.toInt = -1) ∧ ((0 ≤ nm.toInt ∧ nm.toInt < N.toInt) → (z.toInt = -1 ∧ ∀ x : Nat, (fS nm.toInt.toNat).toInt ≤ x → (x : Int) < (fS (nm.toInt.toNat + 1)).toInt → (fd x).toInt ≠ dep.toInt) ∨ ((fS nm.toInt.toNat).toInt ≤ z.toInt ∧ z.toInt < (fS (nm.toInt.toNat + 1)).toInt ∧ (fd z.toInt.toNat).toInt = dep.toInt))) ∧ Fr n0 L ∧ h = h0
set_option maxRecDepth 65536 in
set_option maxHeartbeats 40000000 in
theorem own_rm5 (l : Launch) (Z : State) (a0 : Array Value) (hw : ∀ d ∈ tables_1, d.before a0 Z = true) (ws : List Jvm.Cond) (a : Addr) (nm : Int64) (dep : Int64) (s2 : Addr) (t2 : Addr) (dA : Addr) (N : Int32) (cp : Int32) (fS : Nat → Int32) (fT : Nat → Int32) (fd : Nat → Int32) (h0 : Heap) (n0 : Nat) (Zs : n0 ≤ h0.size) (F_a_firstStreams : Fld Z h0 a "com/example/nimble_twig/nimbletwig/index/store/StoredStreams" "firstStreams" "[I" (.ref s2)) (F_a_firstDepths : Fld Z h0 a "com/example/nimble_twig/nimbletwig/index/store/StoredStreams" "firstDepths" "[I" (.ref t2)) (F_a_depths : Fld Z h0 a "com/example/nimble_twig/nimbletwig/index/store/StoredStreams" "depths" "[I" (.ref dA)) (I_s2 : own_IA Z h0 s2 (N + (1 : Int32)) fS) (I_t2 : own_IA Z h0 t2 N fT) (I_dA : own_IA Z h0 dA cp fd) (hs : 0 ≤ N.toInt ∧ N.toInt ≤ 5 ∧ 0 ≤ cp.toInt ∧ cp.toInt ≤ 6) (hm : ∀ j : Nat, (j : Int) < N.toInt → 0 ≤ (fS j).toInt ∧ (fS j).toInt ≤ (fS (j + 1)).toInt ∧ (fS (j + 1)).toInt ≤ cp.toInt) (hso : ∀ j : Nat, (j : Int) < N.toInt → ∀ x z : Nat, (fS j).toInt ≤ x → x < z → (z : Int) < (fS (j + 1)).toInt → (fd x).toInt < (fd z).toInt) :
    MetFree l (⟨"com/example/nimble_twig/nimbletwig/index/store/StoredStreams", "place", "(JJ)I"⟩ : MethodName) (head1 (Jvm.Cond.code (⟨"com/example/nimble_twig/nimbletwig/index/store/StoredStreams", "place", "(JJ)I"⟩ : MethodName) prog_95_method_6_code 10 (some .int) :: ws) ({ frames := 0, cells := 0, slots := 0, locals := 0 } : Room)) (fun aA_ U => aA_ = #[(.ref a), (.long nm), (.long dep)] ∧ Z.Warmed39 U.vm ∧ U.heap = h0) (fun _ _ _ _ _ => True) (fun _ U o U' => ∃ v L, o = .returned v ∧ own_Q5 Z a nm dep s2 t2 dA N cp fS fT fd h0 n0 v U'.heap L ∧ FrameEnd U o U' L ({ frames := 0, cells := 0, slots := 0, locals := 0 } : Room).cells ({ frames := 0, cells := 0, slots := 0, locals := 0 } : Room).slots) := by
  refine MetFree.of_bodySF (plainFor_of_name own_pn5) hisR ?_
  intro p e s m args below meth c s₁ Bd hml0 hP hK
  obtain ⟨rfl, hZ, hh⟩ := hP
  have hx := Bd.exec
  have hby := Bd.bytes
  have hml : c.maxLocals = 10 := hml0
  have hown : s.vm.findClass "com/example/nimble_twig/nimbletwig/index/store/StoredStreams" = some m.cls := findClass_of_methodNamed Bd.named
  have hnm := (name_of_methodNamed Bd.named Bd.method).1
  have X0 : Stand p l e ({ frames := 0, cells := 0, slots := 0, locals := 0 } : Room) s m #[(.ref a), (.long nm), (.long dep)] below meth c s₁ [] 0 0 := Stand.of_body Bd
  have e0 : s₁.heap = h0 := by rw [← hh, Bd.state]; rfl
  have NF := Fr.nil n0
  rw [own_ef5 m a nm dep]
  show own_Dn p e below s (own_Q5 Z a nm dep s2 t2 dA N cp fS fT fd h0 n0) 0 0 s₁ (mkF m 0 #[.val (.ref a), .val (.long nm), .second, .val (.long dep), .second, .unset, .unset, .unset, .unset, .unset] [])
  have hN1 := own_add1 N (by omega)
  have hsb := c_isub (N + (1 : Int32)) (1 : Int32)
  have hsr := rng32 ((N + (1 : Int32)) - (1 : Int32))
  have hsl := c_i2l ((N + (1 : Int32)) - (1 : Int32))
  simp only [own_ln1, own_l0, own_l1, own_l2, own_l3, own_l4, own_l5, own_l6, own_l7, own_l8, own_l9, own_l12, own_l32, own_L0, own_L1, own_L2, own_L3, own_L7] at hsb
  refine own_go (T' := s₁) (g' := (mkF m 1 #[.val (.ref a), .val (.long nm), .second, .val (.long dep), .second, .unset, .unset, .unset, .unset, .unset] [(.long nm)])) (fun _ k => XS.lloadN X0.here hx rfl (hb hby own_d5_0) rfl k) ?_
  refine own_go (T' := s₁) (g' := (mkF m 2 #[.val (.ref a), .val (.long nm), .second, .val (.long dep), .second, .unset, .unset, .unset, .unset, .unset] [(.long (0 : Int64)), (.long nm)])) (fun _ k => XS.lconst X0.here hx rfl (hb hby own_d5_1) k) ?_
  refine own_go (T' := s₁) (g' := (mkF m 3 #[.val (.ref a), .val (.long nm), .second, .val (.long dep), .second, .unset, .unset, .unset, .unset, .unset] [(.int (lcmpW nm (0 : Int64)))])) (fun _ k => XS.lcmp X0.here hx rfl (hb hby own_d5_2) rfl k) ?_
  by_cases c1 : nm < (0 : Int64)
  · refine own_go (T' := s₁) (g' := (mkF m 19 #[.val (.ref a), .val (.long nm), .second, .val (.long dep), .second, .unset, .unset, .unset, .unset, .unset] [])) (fun _ k => XS.ifYes X0.here hx rfl (pc0 := 3) (pc' := 19) rfl (hb hby own_d5_3) rfl ((if0 _ _).trans (tlt ((lw_lt nm (0 : Int64)).mpr c1)).1) (by decide) (by decide) k) ?_
    refine own_go (T' := s₁) (g' := (mkF m 20 #[.val (.ref a), .val (.long nm), .second, .val (.long dep), .second, .unset, .unset, .unset, .unset, .unset] [(.int (-1 : Int32))])) (fun _ k => XS.iconst X0.here hx rfl (hb hby own_d5_19) k) ?_
    refine own_ret X0 Bd.notSynchronized (some (.int (-1 : Int32))) (fun h => by rw [Bd.returns] at h; cases h) (fun fs hr => retI X0 hx Bd.returns (hb hby own_d5_20) hr) ?_ (by decide) (by decide)
    show (own_Q5 Z a nm dep s2 t2 dA N cp fS fT fd h0 n0) (some (.int (-1 : Int32))) s₁.heap _
    rw [e0]
    exact ⟨⟨_, rfl, fun _ => by decide, fun hr => absurd hr (by (try simp only [own_ln1, own_l0, own_l1, own_l2, own_l3, own_l4, own_l5, own_l6, own_l7, own_l8, own_l9, own_l12, own_l32, own_L0, own_L1, own_L2, own_L3, own_L7, Int32.lt_iff_toInt_lt, ← Int32.toInt_inj, Int64.lt_iff_toInt_lt, ← Int64.toInt_inj, and_true, true_and, and_false, false_and, or_true, true_or, or_false, false_or, not_true_eq_false, not_false_eq_true, ne_eq, true_implies, false_implies, implies_true] at c1 ⊢) <;> omega)⟩, NF, rfl⟩
  · refine own_go (T' := s₁) (g' := (mkF m 6 #[.val (.ref a), .val (.long nm), .second, .val (.long dep), .second, .unset, .unset, .unset, .unset, .unset] [])) (fun _ k => XS.ifNo X0.here hx rfl (hb hby own_d5_3) rfl ((if0 _ _).trans (flt (fun h => c1 ((lw_lt nm (0 : Int64)).mp h))).1) k) ?_
    refine own_go (T' := s₁) (g' := (mkF m 7 #[.val (.ref a), .val (.long nm), .second, .val (.long dep), .second, .unset, .unset, .unset, .unset, .unset] [(.long nm)])) (fun _ k => XS.lloadN X0.here hx rfl (hb hby own_d5_6) rfl k) ?_
    refine own_go (T' := s₁) (g' := (mkF m 8 #[.val (.ref a), .val (.long nm), .second, .val (.long dep), .second, .unset, .unset, .unset, .unset, .unset] [(.ref a), (.long nm)])) (fun _ k => XS.aloadN X0.here hx rfl (hb hby own_d5_7) rfl rfl k) ?_
    obtain ⟨T2, X2, e2, st2⟩ := getF X0 hx hZ hown (host := "") (Or.inl (hw _ (List.mem_of_getElem? (i := 10) rfl))) Via.refl e0 F_a_firstStreams (g := (mkF m 8 #[.val (.ref a), .val (.long nm), .second, .val (.long dep), .second, .unset, .unset, .unset, .unset, .unset] [(.ref a), (.long nm)])) rfl rfl (hb hby own_d5_8)
    refine own_go (T' := T2) (g' := (mkF m 11 #[.val (.ref a), .val (.long nm), .second, .val (.long dep), .second, .unset, .unset, .unset, .unset, .unset] [(.ref s2), (.long nm)])) (fun _ k => st2 _ k) ?_
    obtain ⟨c_3, Ar_3, S_3, N_3, H_3⟩ := id I_s2
    refine own_go (T' := T2) (g' := (mkF m 12 #[.val (.ref a), .val (.long nm), .second, .val (.long dep), .second, .unset, .unset, .unset, .unset, .unset] [(.int (N + (1 : Int32))), (.long nm)])) (fun _ k => X2.arraylength hx (by rw [e2]; exact Ar_3.1) (State.isArrayOf_alike hZ.alike Ar_3.2.1) (g := (mkF m 11 #[.val (.ref a), .val (.long nm), .second, .val (.long dep), .second, .unset, .unset, .unset, .unset, .unset] [(.ref s2), (.long nm)])) rfl rfl (hb hby own_d5_11) _ (by rw [len_of S_3 N_3]; exact k)) ?_
    refine own_go (T' := T2) (g' := (mkF m 13 #[.val (.ref a), .val (.long nm), .second, .val (.long dep), .second, .unset, .unset, .unset, .unset, .unset] [(.int (1 : Int32)), (.int (N + (1 : Int32))), (.long nm)])) (fun _ k => XS.iconst X2.here hx rfl (hb hby own_d5_12) k) ?_
    refine own_go (T' := T2) (g' := (mkF m 14 #[.val (.ref a), .val (.long nm), .second, .val (.long dep), .second, .unset, .unset, .unset, .unset, .unset] [(.int ((N + (1 : Int32)) - (1 : Int32))), (.long nm)])) (fun _ k => XS.isub X2.here hx rfl (hb hby own_d5_13) rfl k) ?_
    refine own_go (T' := T2) (g' := (mkF m 15 #[.val (.ref a), .val (.long nm), .second, .val (.long dep), .second, .unset, .unset, .unset, .unset, .unset] [(.long (((N + (1 : Int32)) - (1 : Int32)).toInt64)), (.long nm)])) (fun _ k => XS.i2l X2.here hx rfl (hb hby own_d5_14) rfl k) ?_
    refine own_go (T' := T2) (g' := (mkF m 16 #[.val (.ref a), .val (.long nm), .second, .val (.long dep), .second, .unset, .unset, .unset, .unset, .unset] [(.int (lcmpW nm (((N + (1 : Int32)) - (1 : Int32)).toInt64)))])) (fun _ k => XS.lcmp X2.here hx rfl (hb hby own_d5_15) rfl k) ?_
    by_cases c4 : nm < (((N + (1 : Int32)) - (1 : Int32)).toInt64)
    · refine own_go (T' := T2) (g' := (mkF m 21 #[.val (.ref a), .val (.long nm), .second, .val (.long dep), .second, .unset, .unset, .unset, .unset, .unset] [])) (fun _ k => XS.ifYes X2.here hx rfl (pc0 := 16) (pc' := 21) rfl (hb hby own_d5_16) rfl ((if0 _ _).trans (tlt ((lw_lt nm (((N + (1 : Int32)) - (1 : Int32)).toInt64)).mpr c4)).1) (by decide) (by decide) k) ?_
      have hr : (0 ≤ nm.toInt ∧ nm.toInt < N.toInt) := by (try simp only [own_ln1, own_l0, own_l1, own_l2, own_l3, own_l4, own_l5, own_l6, own_l7, own_l8, own_l9, own_l12, own_l32, own_L0, own_L1, own_L2, own_L3, own_L7, Int32.lt_iff_toInt_lt, ← Int32.toInt_inj, Int64.lt_iff_toInt_lt, ← Int64.toInt_inj, and_true, true_and, and_false, false_and, or_true, true_or, or_false, false_or, not_true_eq_false, not_false_eq_true, ne_eq, true_implies, false_implies, implies_true] at c1 c4 ⊢) <;> omega
      have hc := c_l2i nm
      have hcr := rng32 nm.toInt32
      have pe1 : nm.toInt32.toInt = nm.toInt := by omega
      have pe2 := own_nat nm.toInt32 (by omega)
      have pe3 := own_add1 nm.toInt32 (by omega)
      have pe4 := own_nat (nm.toInt32 + (1 : Int32)) (by omega)
      have pe5 : nm.toInt32.toNatClampNeg = nm.toInt.toNat := by omega
      have pe6 : (nm.toInt32 + (1 : Int32)).toNatClampNeg = nm.toInt.toNat + 1 := by omega
      have hmm := hm nm.toInt.toNat (by omega)
      have hss := hso nm.toInt.toNat (by omega)
      refine own_go (T' := T2) (g' := (mkF m 22 #[.val (.ref a), .val (.long nm), .second, .val (.long dep), .second, .unset, .unset, .unset, .unset, .unset] [(.ref a)])) (fun _ k => XS.aloadN X2.here hx rfl (hb hby own_d5_21) rfl rfl k) ?_
      obtain ⟨T5, X5, e5, st5⟩ := getF X2 hx hZ hown (host := "") (Or.inl (hw _ (List.mem_of_getElem? (i := 10) rfl))) Via.refl e2 F_a_firstStreams (g := (mkF m 22 #[.val (.ref a), .val (.long nm), .second, .val (.long dep), .second, .unset, .unset, .unset, .unset, .unset] [(.ref a)])) rfl rfl (hb hby own_d5_22)
      refine own_go (T' := T5) (g' := (mkF m 25 #[.val (.ref a), .val (.long nm), .second, .val (.long dep), .second, .unset, .unset, .unset, .unset, .unset] [(.ref s2)])) (fun _ k => st5 _ k) ?_
      refine own_go (T' := T5) (g' := (mkF m 26 #[.val (.ref a), .val (.long nm), .second, .val (.long dep), .second, .unset, .unset, .unset, .unset, .unset] [(.long nm), (.ref s2)])) (fun _ k => XS.lloadN X5.here hx rfl (hb hby own_d5_25) rfl k) ?_
      refine own_go (T' := T5) (g' := (mkF m 27 #[.val (.ref a), .val (.long nm), .second, .val (.long dep), .second, .unset, .unset, .unset, .unset, .unset] [(.int (nm.toInt32)), (.ref s2)])) (fun _ k => XS.l2i X5.here hx rfl (hb hby own_d5_26) rfl k) ?_
      obtain ⟨c_6, Ar_6, S_6, N_6, H_6⟩ := id I_s2
      have hin_6 : ¬ ((nm.toInt32) < 0 ∨ c_6.slots.size ≤ ((nm.toInt32)).toNatClampNeg) := inb_of S_6 ⟨by (try simp only [own_ln1, own_l0, own_l1, own_l2, own_l3, own_l4, own_l5, own_l6, own_l7, own_l8, own_l9, own_l12, own_l32, own_L0, own_L1, own_L2, own_L3, own_L7, Int32.lt_iff_toInt_lt, ← Int32.toInt_inj, Int64.lt_iff_toInt_lt, ← Int64.toInt_inj, and_true, true_and, and_false, false_and, or_true, true_or, or_false, false_or, not_true_eq_false, not_false_eq_true, ne_eq, true_implies, false_implies, implies_true] at hr ⊢) <;> omega, by (try simp only [own_ln1, own_l0, own_l1, own_l2, own_l3, own_l4, own_l5, own_l6, own_l7, own_l8, own_l9, own_l12, own_l32, own_L0, own_L1, own_L2, own_L3, own_L7, Int32.lt_iff_toInt_lt, ← Int32.toInt_inj, Int64.lt_iff_toInt_lt, ← Int64.toInt_inj, and_true, true_and, and_false, false_and, or_true, true_or, or_false, false_or, not_true_eq_false, not_false_eq_true, ne_eq, true_implies, false_implies, implies_true] at hr ⊢) <;> omega⟩
      have hat_6 : c_6.slots[((nm.toInt32)).toNatClampNeg]? = some (.int (fS ((nm.toInt32)).toNatClampNeg)) := H_6 _ (Nat.lt_of_not_le fun y => hin_6 (Or.inr y))
      refine own_go (T' := T5) (g' := (mkF m 28 #[.val (.ref a), .val (.long nm), .second, .val (.long dep), .second, .unset, .unset, .unset, .unset, .unset] [(.int (fS ((nm.toInt32)).toNatClampNeg))])) (fun _ k => X5.iaload hx (j := (nm.toInt32)) (v := (.int (fS ((nm.toInt32)).toNatClampNeg))) (by rw [e5]; exact Ar_6.1) (State.isArrayOf_alike hZ.alike Ar_6.2.1) Ar_6.2.2 hin_6 hat_6 (g := (mkF m 27 #[.val (.ref a), .val (.long nm), .second, .val (.long dep), .second, .unset, .unset, .unset, .unset, .unset] [(.int (nm.toInt32)), (.ref s2)])) rfl rfl (hb hby own_d5_27) _ k) ?_
      refine own_go (T' := T5) (g' := (mkF m 30 #[.val (.ref a), .val (.long nm), .second, .val (.long dep), .second, .val (.int (fS ((nm.toInt32)).toNatClampNeg)), .unset, .unset, .unset, .unset] [])) (fun _ k => XS.istore X5.here hx rfl (hb hby own_d5_28) rfl (l' := #[.val (.ref a), .val (.long nm), .second, .val (.long dep), .second, .val (.int (fS ((nm.toInt32)).toNatClampNeg)), .unset, .unset, .unset, .unset]) rfl k) ?_
      rw [pe5]
      generalize elo : fS nm.toInt.toNat = lo at *
      refine own_go (T' := T5) (g' := (mkF m 31 #[.val (.ref a), .val (.long nm), .second, .val (.long dep), .second, .val (.int lo), .unset, .unset, .unset, .unset] [(.ref a)])) (fun _ k => XS.aloadN X5.here hx rfl (hb hby own_d5_30) rfl rfl k) ?_
      obtain ⟨T7, X7, e7, st7⟩ := getF X5 hx hZ hown (host := "") (Or.inl (hw _ (List.mem_of_getElem? (i := 10) rfl))) Via.refl e5 F_a_firstStreams (g := (mkF m 31 #[.val (.ref a), .val (.long nm), .second, .val (.long dep), .second, .val (.int lo), .unset, .unset, .unset, .unset] [(.ref a)])) rfl rfl (hb hby own_d5_31)
      refine own_go (T' := T7) (g' := (mkF m 34 #[.val (.ref a), .val (.long nm), .second, .val (.long dep), .second, .val (.int lo), .unset, .unset, .unset, .unset] [(.ref s2)])) (fun _ k => st7 _ k) ?_
      refine own_go (T' := T7) (g' := (mkF m 35 #[.val (.ref a), .val (.long nm), .second, .val (.long dep), .second, .val (.int lo), .unset, .unset, .unset, .unset] [(.long nm), (.ref s2)])) (fun _ k => XS.lloadN X7.here hx rfl (hb hby own_d5_34) rfl k) ?_
      refine own_go (T' := T7) (g' := (mkF m 36 #[.val (.ref a), .val (.long nm), .second, .val (.long dep), .second, .val (.int lo), .unset, .unset, .unset, .unset] [(.int (nm.toInt32)), (.ref s2)])) (fun _ k => XS.l2i X7.here hx rfl (hb hby own_d5_35) rfl k) ?_
      refine own_go (T' := T7) (g' := (mkF m 37 #[.val (.ref a), .val (.long nm), .second, .val (.long dep), .second, .val (.int lo), .unset, .unset, .unset, .unset] [(.int (1 : Int32)), (.int (nm.toInt32)), (.ref s2)])) (fun _ k => XS.iconst X7.here hx rfl (hb hby own_d5_36) k) ?_
      refine own_go (T' := T7) (g' := (mkF m 38 #[.val (.ref a), .val (.long nm), .second, .val (.long dep), .second, .val (.int lo), .unset, .unset, .unset, .unset] [(.int ((nm.toInt32) + (1 : Int32))), (.ref s2)])) (fun _ k => XS.iadd X7.here hx rfl (hb hby own_d5_37) rfl k) ?_
      obtain ⟨c_8, Ar_8, S_8, N_8, H_8⟩ := id I_s2
      have hin_8 : ¬ (((nm.toInt32) + (1 : Int32)) < 0 ∨ c_8.slots.size ≤ (((nm.toInt32) + (1 : Int32))).toNatClampNeg) := inb_of S_8 ⟨by (try simp only [own_ln1, own_l0, own_l1, own_l2, own_l3, own_l4, own_l5, own_l6, own_l7, own_l8, own_l9, own_l12, own_l32, own_L0, own_L1, own_L2, own_L3, own_L7, Int32.lt_iff_toInt_lt, ← Int32.toInt_inj, Int64.lt_iff_toInt_lt, ← Int64.toInt_inj, and_true, true_and, and_false, false_and, or_true, true_or, or_false, false_or, not_true_eq_false, not_false_eq_true, ne_eq, true_implies, false_implies, implies_true] at hr ⊢) <;> omega, by (try simp only [own_ln1, own_l0, own_l1, own_l2, own_l3, own_l4, own_l5, own_l6, own_l7, own_l8, own_l9, own_l12, own_l32, own_L0, own_L1, own_L2, own_L3, own_L7, Int32.lt_iff_toInt_lt, ← Int32.toInt_inj, Int64.lt_iff_toInt_lt, ← Int64.toInt_inj, and_true, true_and, and_false, false_and, or_true, true_or, or_false, false_or, not_true_eq_false, not_false_eq_true, ne_eq, true_implies, false_implies, implies_true] at hr ⊢) <;> omega⟩
      have hat_8 : c_8.slots[(((nm.toInt32) + (1 : Int32))).toNatClampNeg]? = some (.int (fS (((nm.toInt32) + (1 : Int32))).toNatClampNeg)) := H_8 _ (Nat.lt_of_not_le fun y => hin_8 (Or.inr y))
      refine own_go (T' := T7) (g' := (mkF m 39 #[.val (.ref a), .val (.long nm), .second, .val (.long dep), .second, .val (.int lo), .unset, .unset, .unset, .unset] [(.int (fS (((nm.toInt32) + (1 : Int32))).toNatClampNeg))])) (fun _ k => X7.iaload hx (j := ((nm.toInt32) + (1 : Int32))) (v := (.int (fS (((nm.toInt32) + (1 : Int32))).toNatClampNeg))) (by rw [e7]; exact Ar_8.1) (State.isArrayOf_alike hZ.alike Ar_8.2.1) Ar_8.2.2 hin_8 hat_8 (g := (mkF m 38 #[.val (.ref a), .val (.long nm), .second, .val (.long dep), .second, .val (.int lo), .unset, .unset, .unset, .unset] [(.int ((nm.toInt32) + (1 : Int32))), (.ref s2)])) rfl rfl (hb hby own_d5_38) _ k) ?_
      rw [pe6]
      generalize ehi : fS (nm.toInt.toNat + 1) = hi1 at *
      have hh1 := c_isub hi1 (1 : Int32)
      have hh2 := rng32 (hi1 - (1 : Int32))
      simp only [own_ln1, own_l0, own_l1, own_l2, own_l3, own_l4, own_l5, own_l6, own_l7, own_l8, own_l9, own_l12, own_l32, own_L0, own_L1, own_L2, own_L3, own_L7] at hh1
      refine own_go (T' := T7) (g' := (mkF m 40 #[.val (.ref a), .val (.long nm), .second, .val (.long dep), .second, .val (.int lo), .unset, .unset, .unset, .unset] [(.int (1 : Int32)), (.int hi1)])) (fun _ k => XS.iconst X7.here hx rfl (hb hby own_d5_39) k) ?_
      refine own_go (T' := T7) (g' := (mkF m 41 #[.val (.ref a), .val (.long nm), .second, .val (.long dep), .second, .val (.int lo), .unset, .unset, .unset, .unset] [(.int (hi1 - (1 : Int32)))])) (fun _ k => XS.isub X7.here hx rfl (hb hby own_d5_40) rfl k) ?_
      refine own_go (T' := T7) (g' := (mkF m 43 #[.val (.ref a), .val (.long nm), .second, .val (.long dep), .second, .val (.int lo), .val (.int (hi1 - (1 : Int32))), .unset, .unset, .unset] [])) (fun _ k => XS.istore X7.here hx rfl (hb hby own_d5_41) rfl (l' := #[.val (.ref a), .val (.long nm), .second, .val (.long dep), .second, .val (.int lo), .val (.int (hi1 - (1 : Int32))), .unset, .unset, .unset]) rfl k) ?_
      generalize ehh : hi1 - (1 : Int32) = hi at *
      refine own_go (T' := T7) (g' := (mkF m 44 #[.val (.ref a), .val (.long nm), .second, .val (.long dep), .second, .val (.int lo), .val (.int hi), .unset, .unset, .unset] [(.int (-1 : Int32))])) (fun _ k => XS.iconst X7.here hx rfl (hb hby own_d5_43) k) ?_
      refine own_go (T' := T7) (g' := (mkF m 46 #[.val (.ref a), .val (.long nm), .second, .val (.long dep), .second, .val (.int lo), .val (.int hi), .val (.int (-1 : Int32)), .unset, .unset] [])) (fun _ k => XS.istore X7.here hx rfl (hb hby own_d5_44) rfl (l' := #[.val (.ref a), .val (.long nm), .second, .val (.long dep), .second, .val (.int lo), .val (.int hi), .val (.int (-1 : Int32)), .unset, .unset]) rfl k) ?_
      have LP : ∀ (k : Nat) (lw : Int32) (hw2 : Int32) (fo : Int32) (mi : Int32) (TL : State) (locs : List Loc), (hw2.toInt - lw.toInt + 1 < k ∧ 0 ≤ hw2.toInt - lw.toInt + 1 ∨ 0 ≤ fo.toInt ∧ 0 < k) → (0 ≤ lw.toInt ∧ lw.toInt ≤ 1000 ∧ -1 ≤ hw2.toInt ∧ hw2.toInt < hi1.toInt ∧ lo.toInt ≤ lw.toInt) → (fo.toInt = -1 ∨ (lo.toInt ≤ fo.toInt ∧ fo.toInt < hi1.toInt ∧ (fd fo.toInt.toNat).toInt = dep.toInt)) → (∀ x : Nat, lo.toInt ≤ x → (x : Int) < lw.toInt → (fd x).toInt < dep.toInt) → (∀ x : Nat, hw2.toInt < x → (x : Int) < hi1.toInt → dep.toInt < (fd x).toInt) → Stand p l e ({ frames := 0, cells := 0, slots := 0, locals := 0 } : Room) s m #[(.ref a), (.long nm), (.long dep)] below meth c TL locs 0 0 → TL.heap = h0 → Fr n0 locs → own_Dn p e below s (own_Q5 Z a nm dep s2 t2 dA N cp fS fT fd h0 n0) 0 0 TL (mkF m 106 #[.val (.ref a), .val (.long nm), .second, .val (.long dep), .second, .val (.int lw), .val (.int hw2), .val (.int fo), .val (.int mi), .unset] []) := by
        intro k
        induction k with
        | zero => intro lw hw2 fo mi TL locs hk hI hfo hlow hhigh XL eL NF; exfalso; omega
        | succ k ih =>
          intro lw hw2 fo mi TL locs hk hI hfo hlow hhigh XL eL NF
          refine own_go (T' := TL) (g' := (mkF m 108 #[.val (.ref a), .val (.long nm), .second, .val (.long dep), .second, .val (.int lw), .val (.int hw2), .val (.int fo), .val (.int mi), .unset] [(.int fo)])) (fun _ k => XS.iload XL.here hx rfl (hb hby own_d5_106) rfl k) ?_
          by_cases c9 : fo < (0 : Int32)
          · refine own_go (T' := TL) (g' := (mkF m 111 #[.val (.ref a), .val (.long nm), .second, .val (.long dep), .second, .val (.int lw), .val (.int hw2), .val (.int fo), .val (.int mi), .unset] [])) (fun _ k => XS.ifNo XL.here hx rfl (hb hby own_d5_108) rfl ((if0 _ _).trans (tlt c9).2.1) k) ?_
            refine own_go (T' := TL) (g' := (mkF m 113 #[.val (.ref a), .val (.long nm), .second, .val (.long dep), .second, .val (.int lw), .val (.int hw2), .val (.int fo), .val (.int mi), .unset] [(.int lw)])) (fun _ k => XS.iload XL.here hx rfl (hb hby own_d5_111) rfl k) ?_
            refine own_go (T' := TL) (g' := (mkF m 115 #[.val (.ref a), .val (.long nm), .second, .val (.long dep), .second, .val (.int lw), .val (.int hw2), .val (.int fo), .val (.int mi), .unset] [(.int hw2), (.int lw)])) (fun _ k => XS.iload XL.here hx rfl (hb hby own_d5_113) rfl k) ?_
            by_cases c10 : hw2 < lw
            · refine own_go (T' := TL) (g' := (mkF m 178 #[.val (.ref a), .val (.long nm), .second, .val (.long dep), .second, .val (.int lw), .val (.int hw2), .val (.int fo), .val (.int mi), .unset] [])) (fun _ k => XS.icmpYes XL.here hx rfl (pc0 := 115) (pc' := 178) rfl (hb hby own_d5_115) rfl (tlt c10).2.2.1 (by decide) (by decide) k) ?_
              refine own_go (T' := TL) (g' := (mkF m 180 #[.val (.ref a), .val (.long nm), .second, .val (.long dep), .second, .val (.int lw), .val (.int hw2), .val (.int fo), .val (.int mi), .unset] [(.int fo)])) (fun _ k => XS.iload XL.here hx rfl (hb hby own_d5_178) rfl k) ?_
              refine own_ret XL Bd.notSynchronized (some (.int fo)) (fun h => by rw [Bd.returns] at h; cases h) (fun fs hr => retI XL hx Bd.returns (hb hby own_d5_180) hr) ?_ (by decide) (by decide)
              show (own_Q5 Z a nm dep s2 t2 dA N cp fS fT fd h0 n0) (some (.int fo)) TL.heap _
              rw [eL]
              refine ⟨⟨_, rfl, fun hx => absurd hr hx, fun _ => ?_⟩, NF, rfl⟩
              rw [elo, ehi]
              by_cases hf1 : fo.toInt = -1
              · refine Or.inl ⟨hf1, fun x h1 h2' => ?_⟩
                have hgt : hw2.toInt < lw.toInt := by (try simp only [own_ln1, own_l0, own_l1, own_l2, own_l3, own_l4, own_l5, own_l6, own_l7, own_l8, own_l9, own_l12, own_l32, own_L0, own_L1, own_L2, own_L3, own_L7, Int32.lt_iff_toInt_lt, ← Int32.toInt_inj, Int64.lt_iff_toInt_lt, ← Int64.toInt_inj, and_true, true_and, and_false, false_and, or_true, true_or, or_false, false_or, not_true_eq_false, not_false_eq_true, ne_eq, true_implies, false_implies, implies_true] at hr hI c9 c10 ⊢) <;> omega
                by_cases hq : (x : Int) < lw.toInt
                · have := hlow x h1 hq; omega
                · have := hhigh x (by omega) h2'; omega
              · have hf2 := hfo.resolve_left hf1
                exact Or.inr hf2
            · refine own_go (T' := TL) (g' := (mkF m 118 #[.val (.ref a), .val (.long nm), .second, .val (.long dep), .second, .val (.int lw), .val (.int hw2), .val (.int fo), .val (.int mi), .unset] [])) (fun _ k => XS.icmpNo XL.here hx rfl (hb hby own_d5_115) rfl (flt c10).2.2.1 k) ?_
              have hle : lw.toInt ≤ hw2.toInt := by (try simp only [own_ln1, own_l0, own_l1, own_l2, own_l3, own_l4, own_l5, own_l6, own_l7, own_l8, own_l9, own_l12, own_l32, own_L0, own_L1, own_L2, own_L3, own_L7, Int32.lt_iff_toInt_lt, ← Int32.toInt_inj, Int64.lt_iff_toInt_lt, ← Int64.toInt_inj, and_true, true_and, and_false, false_and, or_true, true_or, or_false, false_or, not_true_eq_false, not_false_eq_true, ne_eq, true_implies, false_implies, implies_true] at hr hI hfo c9 c10 ⊢) <;> omega
              have ha := own_add2 lw hw2 (by omega)
              have hbm := c_iushr (lw + hw2) (1 : Int32) 1 (by decide) (by decide)
              simp only [Nat.reducePow, Int.cast_ofNat_Int] at hbm
              refine own_go (T' := TL) (g' := (mkF m 120 #[.val (.ref a), .val (.long nm), .second, .val (.long dep), .second, .val (.int lw), .val (.int hw2), .val (.int fo), .val (.int mi), .unset] [(.int lw)])) (fun _ k => XS.iload XL.here hx rfl (hb hby own_d5_118) rfl k) ?_
              refine own_go (T' := TL) (g' := (mkF m 122 #[.val (.ref a), .val (.long nm), .second, .val (.long dep), .second, .val (.int lw), .val (.int hw2), .val (.int fo), .val (.int mi), .unset] [(.int hw2), (.int lw)])) (fun _ k => XS.iload XL.here hx rfl (hb hby own_d5_120) rfl k) ?_
              refine own_go (T' := TL) (g' := (mkF m 123 #[.val (.ref a), .val (.long nm), .second, .val (.long dep), .second, .val (.int lw), .val (.int hw2), .val (.int fo), .val (.int mi), .unset] [(.int (lw + hw2))])) (fun _ k => XS.iadd XL.here hx rfl (hb hby own_d5_122) rfl k) ?_
              refine own_go (T' := TL) (g' := (mkF m 124 #[.val (.ref a), .val (.long nm), .second, .val (.long dep), .second, .val (.int lw), .val (.int hw2), .val (.int fo), .val (.int mi), .unset] [(.int (1 : Int32)), (.int (lw + hw2))])) (fun _ k => XS.iconst XL.here hx rfl (hb hby own_d5_123) k) ?_
              refine own_go (T' := TL) (g' := (mkF m 125 #[.val (.ref a), .val (.long nm), .second, .val (.long dep), .second, .val (.int lw), .val (.int hw2), .val (.int fo), .val (.int mi), .unset] [(.int (((lw + hw2).toUInt32 >>> ((1 : Int32) &&& 31).toUInt32).toInt32))])) (fun _ k => XS.iushr XL.here hx rfl (hb hby own_d5_124) rfl k) ?_
              refine own_go (T' := TL) (g' := (mkF m 127 #[.val (.ref a), .val (.long nm), .second, .val (.long dep), .second, .val (.int lw), .val (.int hw2), .val (.int fo), .val (.int (((lw + hw2).toUInt32 >>> ((1 : Int32) &&& 31).toUInt32).toInt32)), .unset] [])) (fun _ k => XS.istore XL.here hx rfl (hb hby own_d5_125) rfl (l' := #[.val (.ref a), .val (.long nm), .second, .val (.long dep), .second, .val (.int lw), .val (.int hw2), .val (.int fo), .val (.int (((lw + hw2).toUInt32 >>> ((1 : Int32) &&& 31).toUInt32).toInt32)), .unset]) rfl k) ?_
              generalize emi : (((lw + hw2).toUInt32 >>> ((1 : Int32) &&& 31).toUInt32).toInt32) = mid at *
              have em := own_nat mid (by omega)
              have hl := c_i2l (fd mid.toNatClampNeg)
              have hm1 := own_add1 mid (by omega)
              have hm2 := c_isub mid (1 : Int32)
              have hm3 := rng32 (mid - (1 : Int32))
              simp only [own_ln1, own_l0, own_l1, own_l2, own_l3, own_l4, own_l5, own_l6, own_l7, own_l8, own_l9, own_l12, own_l32, own_L0, own_L1, own_L2, own_L3, own_L7] at hm2
              refine own_go (T' := TL) (g' := (mkF m 128 #[.val (.ref a), .val (.long nm), .second, .val (.long dep), .second, .val (.int lw), .val (.int hw2), .val (.int fo), .val (.int mid), .unset] [(.ref a)])) (fun _ k => XS.aloadN XL.here hx rfl (hb hby own_d5_127) rfl rfl k) ?_
              obtain ⟨T11, X11, e11, st11⟩ := getF XL hx hZ hown (host := "") (Or.inl (hw _ (List.mem_of_getElem? (i := 20) rfl))) Via.refl eL F_a_depths (g := (mkF m 128 #[.val (.ref a), .val (.long nm), .second, .val (.long dep), .second, .val (.int lw), .val (.int hw2), .val (.int fo), .val (.int mid), .unset] [(.ref a)])) rfl rfl (hb hby own_d5_128)
              refine own_go (T' := T11) (g' := (mkF m 131 #[.val (.ref a), .val (.long nm), .second, .val (.long dep), .second, .val (.int lw), .val (.int hw2), .val (.int fo), .val (.int mid), .unset] [(.ref dA)])) (fun _ k => st11 _ k) ?_
              refine own_go (T' := T11) (g' := (mkF m 133 #[.val (.ref a), .val (.long nm), .second, .val (.long dep), .second, .val (.int lw), .val (.int hw2), .val (.int fo), .val (.int mid), .unset] [(.int mid), (.ref dA)])) (fun _ k => XS.iload X11.here hx rfl (hb hby own_d5_131) rfl k) ?_
              obtain ⟨c_12, Ar_12, S_12, N_12, H_12⟩ := id I_dA
              have hin_12 : ¬ (mid < 0 ∨ c_12.slots.size ≤ (mid).toNatClampNeg) := inb_of S_12 ⟨by (try simp only [own_ln1, own_l0, own_l1, own_l2, own_l3, own_l4, own_l5, own_l6, own_l7, own_l8, own_l9, own_l12, own_l32, own_L0, own_L1, own_L2, own_L3, own_L7, Int32.lt_iff_toInt_lt, ← Int32.toInt_inj, Int64.lt_iff_toInt_lt, ← Int64.toInt_inj, and_true, true_and, and_false, false_and, or_true, true_or, or_false, false_or, not_true_eq_false, not_false_eq_true, ne_eq, true_implies, false_implies, implies_true] at hr hI c9 c10 ⊢) <;> omega, by (try simp only [own_ln1, own_l0, own_l1, own_l2, own_l3, own_l4, own_l5, own_l6, own_l7, own_l8, own_l9, own_l12, own_l32, own_L0, own_L1, own_L2, own_L3, own_L7, Int32.lt_iff_toInt_lt, ← Int32.toInt_inj, Int64.lt_iff_toInt_lt, ← Int64.toInt_inj, and_true, true_and, and_false, false_and, or_true, true_or, or_false, false_or, not_true_eq_false, not_false_eq_true, ne_eq, true_implies, false_implies, implies_true] at hr hI c9 c10 ⊢) <;> omega⟩
              have hat_12 : c_12.slots[(mid).toNatClampNeg]? = some (.int (fd (mid).toNatClampNeg)) := H_12 _ (Nat.lt_of_not_le fun y => hin_12 (Or.inr y))
              refine own_go (T' := T11) (g' := (mkF m 134 #[.val (.ref a), .val (.long nm), .second, .val (.long dep), .second, .val (.int lw), .val (.int hw2), .val (.int fo), .val (.int mid), .unset] [(.int (fd (mid).toNatClampNeg))])) (fun _ k => X11.iaload hx (j := mid) (v := (.int (fd (mid).toNatClampNeg))) (by rw [e11]; exact Ar_12.1) (State.isArrayOf_alike hZ.alike Ar_12.2.1) Ar_12.2.2 hin_12 hat_12 (g := (mkF m 133 #[.val (.ref a), .val (.long nm), .second, .val (.long dep), .second, .val (.int lw), .val (.int hw2), .val (.int fo), .val (.int mid), .unset] [(.int mid), (.ref dA)])) rfl rfl (hb hby own_d5_133) _ k) ?_
              refine own_go (T' := T11) (g' := (mkF m 135 #[.val (.ref a), .val (.long nm), .second, .val (.long dep), .second, .val (.int lw), .val (.int hw2), .val (.int fo), .val (.int mid), .unset] [(.long ((fd (mid).toNatClampNeg).toInt64))])) (fun _ k => XS.i2l X11.here hx rfl (hb hby own_d5_134) rfl k) ?_
              refine own_go (T' := T11) (g' := (mkF m 136 #[.val (.ref a), .val (.long nm), .second, .val (.long dep), .second, .val (.int lw), .val (.int hw2), .val (.int fo), .val (.int mid), .unset] [(.long dep), (.long ((fd (mid).toNatClampNeg).toInt64))])) (fun _ k => XS.lloadN X11.here hx rfl (hb hby own_d5_135) rfl k) ?_
              refine own_go (T' := T11) (g' := (mkF m 137 #[.val (.ref a), .val (.long nm), .second, .val (.long dep), .second, .val (.int lw), .val (.int hw2), .val (.int fo), .val (.int mid), .unset] [(.int (lcmpW ((fd (mid).toNatClampNeg).toInt64) dep))])) (fun _ k => XS.lcmp X11.here hx rfl (hb hby own_d5_136) rfl k) ?_
              by_cases c13 : ((fd (mid).toNatClampNeg).toInt64) < dep
              · refine own_go (T' := T11) (g' := (mkF m 140 #[.val (.ref a), .val (.long nm), .second, .val (.long dep), .second, .val (.int lw), .val (.int hw2), .val (.int fo), .val (.int mid), .unset] [])) (fun _ k => XS.ifNo X11.here hx rfl (hb hby own_d5_137) rfl ((if0 _ _).trans (tlt ((lw_lt ((fd (mid).toNatClampNeg).toInt64) dep).mpr c13)).2.1) k) ?_
                refine own_go (T' := T11) (g' := (mkF m 142 #[.val (.ref a), .val (.long nm), .second, .val (.long dep), .second, .val (.int lw), .val (.int hw2), .val (.int fo), .val (.int mid), .unset] [(.int mid)])) (fun _ k => XS.iload X11.here hx rfl (hb hby own_d5_140) rfl k) ?_
                refine own_go (T' := T11) (g' := (mkF m 143 #[.val (.ref a), .val (.long nm), .second, .val (.long dep), .second, .val (.int lw), .val (.int hw2), .val (.int fo), .val (.int mid), .unset] [(.int (1 : Int32)), (.int mid)])) (fun _ k => XS.iconst X11.here hx rfl (hb hby own_d5_142) k) ?_
                refine own_go (T' := T11) (g' := (mkF m 144 #[.val (.ref a), .val (.long nm), .second, .val (.long dep), .second, .val (.int lw), .val (.int hw2), .val (.int fo), .val (.int mid), .unset] [(.int (mid + (1 : Int32)))])) (fun _ k => XS.iadd X11.here hx rfl (hb hby own_d5_143) rfl k) ?_
                refine own_go (T' := T11) (g' := (mkF m 146 #[.val (.ref a), .val (.long nm), .second, .val (.long dep), .second, .val (.int (mid + (1 : Int32))), .val (.int hw2), .val (.int fo), .val (.int mid), .unset] [])) (fun _ k => XS.istore X11.here hx rfl (hb hby own_d5_144) rfl (l' := #[.val (.ref a), .val (.long nm), .second, .val (.long dep), .second, .val (.int (mid + (1 : Int32))), .val (.int hw2), .val (.int fo), .val (.int mid), .unset]) rfl k) ?_
                refine own_go (T' := T11) (g' := (mkF m 175 #[.val (.ref a), .val (.long nm), .second, .val (.long dep), .second, .val (.int (mid + (1 : Int32))), .val (.int hw2), .val (.int fo), .val (.int mid), .unset] [])) (fun _ k => XS.goto X11.here hx rfl (pc0 := 146) (pc' := 175) rfl (hb hby own_d5_146) (by decide) (by decide) k) ?_
                refine own_go (T' := T11) (g' := (mkF m 106 #[.val (.ref a), .val (.long nm), .second, .val (.long dep), .second, .val (.int (mid + (1 : Int32))), .val (.int hw2), .val (.int fo), .val (.int mid), .unset] [])) (fun _ k => XS.goto X11.here hx rfl (pc0 := 175) (pc' := 106) rfl (hb hby own_d5_175) (by decide) (by decide) k) ?_
                have hd : (fd mid.toNatClampNeg).toInt < dep.toInt := by (try simp only [own_ln1, own_l0, own_l1, own_l2, own_l3, own_l4, own_l5, own_l6, own_l7, own_l8, own_l9, own_l12, own_l32, own_L0, own_L1, own_L2, own_L3, own_L7, Int32.lt_iff_toInt_lt, ← Int32.toInt_inj, Int64.lt_iff_toInt_lt, ← Int64.toInt_inj, and_true, true_and, and_false, false_and, or_true, true_or, or_false, false_or, not_true_eq_false, not_false_eq_true, ne_eq, true_implies, false_implies, implies_true] at hr hI c9 c10 c13 ⊢) <;> omega
                exact ih _ _ _ _ _ _ (Or.inl (by (try simp only [own_ln1, own_l0, own_l1, own_l2, own_l3, own_l4, own_l5, own_l6, own_l7, own_l8, own_l9, own_l12, own_l32, own_L0, own_L1, own_L2, own_L3, own_L7, Int32.lt_iff_toInt_lt, ← Int32.toInt_inj, Int64.lt_iff_toInt_lt, ← Int64.toInt_inj, and_true, true_and, and_false, false_and, or_true, true_or, or_false, false_or, not_true_eq_false, not_false_eq_true, ne_eq, true_implies, false_implies, implies_true] at hr hI c9 c10 c13 ⊢) <;> omega)) (by (try simp only [own_ln1, own_l0, own_l1, own_l2, own_l3, own_l4, own_l5, own_l6, own_l7, own_l8, own_l9, own_l12, own_l32, own_L0, own_L1, own_L2, own_L3, own_L7, Int32.lt_iff_toInt_lt, ← Int32.toInt_inj, Int64.lt_iff_toInt_lt, ← Int64.toInt_inj, and_true, true_and, and_false, false_and, or_true, true_or, or_false, false_or, not_true_eq_false, not_false_eq_true, ne_eq, true_implies, false_implies, implies_true] at hr hI c9 c10 c13 ⊢) <;> omega) (Or.inl (by (try simp only [own_ln1, own_l0, own_l1, own_l2, own_l3, own_l4, own_l5, own_l6, own_l7, own_l8, own_l9, own_l12, own_l32, own_L0, own_L1, own_L2, own_L3, own_L7, Int32.lt_iff_toInt_lt, ← Int32.toInt_inj, Int64.lt_iff_toInt_lt, ← Int64.toInt_inj, and_true, true_and, and_false, false_and, or_true, true_or, or_false, false_or, not_true_eq_false, not_false_eq_true, ne_eq, true_implies, false_implies, implies_true] at hr hI c9 c10 c13 ⊢) <;> omega)) (fun x h1 h2' => by
                  by_cases hq : x = mid.toNatClampNeg
                  · rw [hq]; exact hd
                  · have := hss x mid.toNatClampNeg h1 (by omega) (by omega); omega) hhigh X11 e11 NF
              · refine own_go (T' := T11) (g' := (mkF m 149 #[.val (.ref a), .val (.long nm), .second, .val (.long dep), .second, .val (.int lw), .val (.int hw2), .val (.int fo), .val (.int mid), .unset] [])) (fun _ k => XS.ifYes X11.here hx rfl (pc0 := 137) (pc' := 149) rfl (hb hby own_d5_137) rfl ((if0 _ _).trans (flt (fun h => c13 ((lw_lt ((fd (mid).toNatClampNeg).toInt64) dep).mp h))).2.1) (by decide) (by decide) k) ?_
                refine own_go (T' := T11) (g' := (mkF m 150 #[.val (.ref a), .val (.long nm), .second, .val (.long dep), .second, .val (.int lw), .val (.int hw2), .val (.int fo), .val (.int mid), .unset] [(.ref a)])) (fun _ k => XS.aloadN X11.here hx rfl (hb hby own_d5_149) rfl rfl k) ?_
                obtain ⟨T14, X14, e14, st14⟩ := getF X11 hx hZ hown (host := "") (Or.inl (hw _ (List.mem_of_getElem? (i := 20) rfl))) Via.refl e11 F_a_depths (g := (mkF m 150 #[.val (.ref a), .val (.long nm), .second, .val (.long dep), .second, .val (.int lw), .val (.int hw2), .val (.int fo), .val (.int mid), .unset] [(.ref a)])) rfl rfl (hb hby own_d5_150)
                refine own_go (T' := T14) (g' := (mkF m 153 #[.val (.ref a), .val (.long nm), .second, .val (.long dep), .second, .val (.int lw), .val (.int hw2), .val (.int fo), .val (.int mid), .unset] [(.ref dA)])) (fun _ k => st14 _ k) ?_
                refine own_go (T' := T14) (g' := (mkF m 155 #[.val (.ref a), .val (.long nm), .second, .val (.long dep), .second, .val (.int lw), .val (.int hw2), .val (.int fo), .val (.int mid), .unset] [(.int mid), (.ref dA)])) (fun _ k => XS.iload X14.here hx rfl (hb hby own_d5_153) rfl k) ?_
                obtain ⟨c_15, Ar_15, S_15, N_15, H_15⟩ := id I_dA
                have hin_15 : ¬ (mid < 0 ∨ c_15.slots.size ≤ (mid).toNatClampNeg) := inb_of S_15 ⟨by (try simp only [own_ln1, own_l0, own_l1, own_l2, own_l3, own_l4, own_l5, own_l6, own_l7, own_l8, own_l9, own_l12, own_l32, own_L0, own_L1, own_L2, own_L3, own_L7, Int32.lt_iff_toInt_lt, ← Int32.toInt_inj, Int64.lt_iff_toInt_lt, ← Int64.toInt_inj, and_true, true_and, and_false, false_and, or_true, true_or, or_false, false_or, not_true_eq_false, not_false_eq_true, ne_eq, true_implies, false_implies, implies_true] at hr hI c9 c10 c13 ⊢) <;> omega, by (try simp only [own_ln1, own_l0, own_l1, own_l2, own_l3, own_l4, own_l5, own_l6, own_l7, own_l8, own_l9, own_l12, own_l32, own_L0, own_L1, own_L2, own_L3, own_L7, Int32.lt_iff_toInt_lt, ← Int32.toInt_inj, Int64.lt_iff_toInt_lt, ← Int64.toInt_inj, and_true, true_and, and_false, false_and, or_true, true_or, or_false, false_or, not_true_eq_false, not_false_eq_true, ne_eq, true_implies, false_implies, implies_true] at hr hI c9 c10 c13 ⊢) <;> omega⟩
                have hat_15 : c_15.slots[(mid).toNatClampNeg]? = some (.int (fd (mid).toNatClampNeg)) := H_15 _ (Nat.lt_of_not_le fun y => hin_15 (Or.inr y))
                refine own_go (T' := T14) (g' := (mkF m 156 #[.val (.ref a), .val (.long nm), .second, .val (.long dep), .second, .val (.int lw), .val (.int hw2), .val (.int fo), .val (.int mid), .unset] [(.int (fd (mid).toNatClampNeg))])) (fun _ k => X14.iaload hx (j := mid) (v := (.int (fd (mid).toNatClampNeg))) (by rw [e14]; exact Ar_15.1) (State.isArrayOf_alike hZ.alike Ar_15.2.1) Ar_15.2.2 hin_15 hat_15 (g := (mkF m 155 #[.val (.ref a), .val (.long nm), .second, .val (.long dep), .second, .val (.int lw), .val (.int hw2), .val (.int fo), .val (.int mid), .unset] [(.int mid), (.ref dA)])) rfl rfl (hb hby own_d5_155) _ k) ?_
                refine own_go (T' := T14) (g' := (mkF m 157 #[.val (.ref a), .val (.long nm), .second, .val (.long dep), .second, .val (.int lw), .val (.int hw2), .val (.int fo), .val (.int mid), .unset] [(.long ((fd (mid).toNatClampNeg).toInt64))])) (fun _ k => XS.i2l X14.here hx rfl (hb hby own_d5_156) rfl k) ?_
                refine own_go (T' := T14) (g' := (mkF m 158 #[.val (.ref a), .val (.long nm), .second, .val (.long dep), .second, .val (.int lw), .val (.int hw2), .val (.int fo), .val (.int mid), .unset] [(.long dep), (.long ((fd (mid).toNatClampNeg).toInt64))])) (fun _ k => XS.lloadN X14.here hx rfl (hb hby own_d5_157) rfl k) ?_
                refine own_go (T' := T14) (g' := (mkF m 159 #[.val (.ref a), .val (.long nm), .second, .val (.long dep), .second, .val (.int lw), .val (.int hw2), .val (.int fo), .val (.int mid), .unset] [(.int (lcmpW ((fd (mid).toNatClampNeg).toInt64) dep))])) (fun _ k => XS.lcmp X14.here hx rfl (hb hby own_d5_158) rfl k) ?_
                by_cases c16 : dep < ((fd (mid).toNatClampNeg).toInt64)
                · refine own_go (T' := T14) (g' := (mkF m 162 #[.val (.ref a), .val (.long nm), .second, .val (.long dep), .second, .val (.int lw), .val (.int hw2), .val (.int fo), .val (.int mid), .unset] [])) (fun _ k => XS.ifNo X14.here hx rfl (hb hby own_d5_159) rfl ((if0 _ _).trans (tlt ((lw_gt ((fd (mid).toNatClampNeg).toInt64) dep).mpr c16)).2.2.2) k) ?_
                  refine own_go (T' := T14) (g' := (mkF m 164 #[.val (.ref a), .val (.long nm), .second, .val (.long dep), .second, .val (.int lw), .val (.int hw2), .val (.int fo), .val (.int mid), .unset] [(.int mid)])) (fun _ k => XS.iload X14.here hx rfl (hb hby own_d5_162) rfl k) ?_
                  refine own_go (T' := T14) (g' := (mkF m 165 #[.val (.ref a), .val (.long nm), .second, .val (.long dep), .second, .val (.int lw), .val (.int hw2), .val (.int fo), .val (.int mid), .unset] [(.int (1 : Int32)), (.int mid)])) (fun _ k => XS.iconst X14.here hx rfl (hb hby own_d5_164) k) ?_
                  refine own_go (T' := T14) (g' := (mkF m 166 #[.val (.ref a), .val (.long nm), .second, .val (.long dep), .second, .val (.int lw), .val (.int hw2), .val (.int fo), .val (.int mid), .unset] [(.int (mid - (1 : Int32)))])) (fun _ k => XS.isub X14.here hx rfl (hb hby own_d5_165) rfl k) ?_
                  refine own_go (T' := T14) (g' := (mkF m 168 #[.val (.ref a), .val (.long nm), .second, .val (.long dep), .second, .val (.int lw), .val (.int (mid - (1 : Int32))), .val (.int fo), .val (.int mid), .unset] [])) (fun _ k => XS.istore X14.here hx rfl (hb hby own_d5_166) rfl (l' := #[.val (.ref a), .val (.long nm), .second, .val (.long dep), .second, .val (.int lw), .val (.int (mid - (1 : Int32))), .val (.int fo), .val (.int mid), .unset]) rfl k) ?_
                  refine own_go (T' := T14) (g' := (mkF m 175 #[.val (.ref a), .val (.long nm), .second, .val (.long dep), .second, .val (.int lw), .val (.int (mid - (1 : Int32))), .val (.int fo), .val (.int mid), .unset] [])) (fun _ k => XS.goto X14.here hx rfl (pc0 := 168) (pc' := 175) rfl (hb hby own_d5_168) (by decide) (by decide) k) ?_
                  refine own_go (T' := T14) (g' := (mkF m 106 #[.val (.ref a), .val (.long nm), .second, .val (.long dep), .second, .val (.int lw), .val (.int (mid - (1 : Int32))), .val (.int fo), .val (.int mid), .unset] [])) (fun _ k => XS.goto X14.here hx rfl (pc0 := 175) (pc' := 106) rfl (hb hby own_d5_175) (by decide) (by decide) k) ?_
                  have hd : dep.toInt < (fd mid.toNatClampNeg).toInt := by (try simp only [own_ln1, own_l0, own_l1, own_l2, own_l3, own_l4, own_l5, own_l6, own_l7, own_l8, own_l9, own_l12, own_l32, own_L0, own_L1, own_L2, own_L3, own_L7, Int32.lt_iff_toInt_lt, ← Int32.toInt_inj, Int64.lt_iff_toInt_lt, ← Int64.toInt_inj, and_true, true_and, and_false, false_and, or_true, true_or, or_false, false_or, not_true_eq_false, not_false_eq_true, ne_eq, true_implies, false_implies, implies_true] at hr hI c9 c10 c13 c16 ⊢) <;> omega
                  exact ih _ _ _ _ _ _ (Or.inl (by (try simp only [own_ln1, own_l0, own_l1, own_l2, own_l3, own_l4, own_l5, own_l6, own_l7, own_l8, own_l9, own_l12, own_l32, own_L0, own_L1, own_L2, own_L3, own_L7, Int32.lt_iff_toInt_lt, ← Int32.toInt_inj, Int64.lt_iff_toInt_lt, ← Int64.toInt_inj, and_true, true_and, and_false, false_and, or_true, true_or, or_false, false_or, not_true_eq_false, not_false_eq_true, ne_eq, true_implies, false_implies, implies_true] at hr hI c9 c10 c13 c16 ⊢) <;> omega)) (by (try simp only [own_ln1, own_l0, own_l1, own_l2, own_l3, own_l4, own_l5, own_l6, own_l7, own_l8, own_l9, own_l12, own_l32, own_L0, own_L1, own_L2, own_L3, own_L7, Int32.lt_iff_toInt_lt, ← Int32.toInt_inj, Int64.lt_iff_toInt_lt, ← Int64.toInt_inj, and_true, true_and, and_false, false_and, or_true, true_or, or_false, false_or, not_true_eq_false, not_false_eq_true, ne_eq, true_implies, false_implies, implies_true] at hr hI c9 c10 c13 c16 ⊢) <;> omega) (Or.inl (by (try simp only [own_ln1, own_l0, own_l1, own_l2, own_l3, own_l4, own_l5, own_l6, own_l7, own_l8, own_l9, own_l12, own_l32, own_L0, own_L1, own_L2, own_L3, own_L7, Int32.lt_iff_toInt_lt, ← Int32.toInt_inj, Int64.lt_iff_toInt_lt, ← Int64.toInt_inj, and_true, true_and, and_false, false_and, or_true, true_or, or_false, false_or, not_true_eq_false, not_false_eq_true, ne_eq, true_implies, false_implies, implies_true] at hr hI c9 c10 c13 c16 ⊢) <;> omega)) hlow (fun x h1 h2' => by
                    by_cases hq : x = mid.toNatClampNeg
                    · rw [hq]; exact hd
                    · have := hss mid.toNatClampNeg x (by omega) (by omega) h2'; omega) X14 e14 NF
                · refine own_go (T' := T14) (g' := (mkF m 171 #[.val (.ref a), .val (.long nm), .second, .val (.long dep), .second, .val (.int lw), .val (.int hw2), .val (.int fo), .val (.int mid), .unset] [])) (fun _ k => XS.ifYes X14.here hx rfl (pc0 := 159) (pc' := 171) rfl (hb hby own_d5_159) rfl ((if0 _ _).trans (flt (fun h => c16 ((lw_gt ((fd (mid).toNatClampNeg).toInt64) dep).mp h))).2.2.2) (by decide) (by decide) k) ?_
                  refine own_go (T' := T14) (g' := (mkF m 173 #[.val (.ref a), .val (.long nm), .second, .val (.long dep), .second, .val (.int lw), .val (.int hw2), .val (.int fo), .val (.int mid), .unset] [(.int mid)])) (fun _ k => XS.iload X14.here hx rfl (hb hby own_d5_171) rfl k) ?_
                  refine own_go (T' := T14) (g' := (mkF m 175 #[.val (.ref a), .val (.long nm), .second, .val (.long dep), .second, .val (.int lw), .val (.int hw2), .val (.int mid), .val (.int mid), .unset] [])) (fun _ k => XS.istore X14.here hx rfl (hb hby own_d5_173) rfl (l' := #[.val (.ref a), .val (.long nm), .second, .val (.long dep), .second, .val (.int lw), .val (.int hw2), .val (.int mid), .val (.int mid), .unset]) rfl k) ?_
                  refine own_go (T' := T14) (g' := (mkF m 106 #[.val (.ref a), .val (.long nm), .second, .val (.long dep), .second, .val (.int lw), .val (.int hw2), .val (.int mid), .val (.int mid), .unset] [])) (fun _ k => XS.goto X14.here hx rfl (pc0 := 175) (pc' := 106) rfl (hb hby own_d5_175) (by decide) (by decide) k) ?_
                  have hfd : (lo.toInt ≤ mid.toInt ∧ mid.toInt < hi1.toInt ∧ (fd mid.toInt.toNat).toInt = dep.toInt) := by
                    have pe9 : mid.toInt.toNat = mid.toNatClampNeg := by omega
                    rw [pe9]; (try simp only [own_ln1, own_l0, own_l1, own_l2, own_l3, own_l4, own_l5, own_l6, own_l7, own_l8, own_l9, own_l12, own_l32, own_L0, own_L1, own_L2, own_L3, own_L7, Int32.lt_iff_toInt_lt, ← Int32.toInt_inj, Int64.lt_iff_toInt_lt, ← Int64.toInt_inj, and_true, true_and, and_false, false_and, or_true, true_or, or_false, false_or, not_true_eq_false, not_false_eq_true, ne_eq, true_implies, false_implies, implies_true] at hr hI c9 c10 c13 c16 ⊢) <;> omega
                  have h0a := hlow
                  have h0b := hhigh
                  exact ih _ _ mid _ _ _ (Or.inr (by (try simp only [own_ln1, own_l0, own_l1, own_l2, own_l3, own_l4, own_l5, own_l6, own_l7, own_l8, own_l9, own_l12, own_l32, own_L0, own_L1, own_L2, own_L3, own_L7, Int32.lt_iff_toInt_lt, ← Int32.toInt_inj, Int64.lt_iff_toInt_lt, ← Int64.toInt_inj, and_true, true_and, and_false, false_and, or_true, true_or, or_false, false_or, not_true_eq_false, not_false_eq_true, ne_eq, true_implies, false_implies, implies_true] at hr hI c9 c10 c13 c16 ⊢) <;> omega)) (by (try simp only [own_ln1, own_l0, own_l1, own_l2, own_l3, own_l4, own_l5, own_l6, own_l7, own_l8, own_l9, own_l12, own_l32, own_L0, own_L1, own_L2, own_L3, own_L7, Int32.lt_iff_toInt_lt, ← Int32.toInt_inj, Int64.lt_iff_toInt_lt, ← Int64.toInt_inj, and_true, true_and, and_false, false_and, or_true, true_or, or_false, false_or, not_true_eq_false, not_false_eq_true, ne_eq, true_implies, false_implies, implies_true] at hr hI c9 c10 c13 c16 ⊢) <;> omega) (Or.inr hfd) hlow hhigh X14 e14 NF
          · refine own_go (T' := TL) (g' := (mkF m 178 #[.val (.ref a), .val (.long nm), .second, .val (.long dep), .second, .val (.int lw), .val (.int hw2), .val (.int fo), .val (.int mi), .unset] [])) (fun _ k => XS.ifYes XL.here hx rfl (pc0 := 108) (pc' := 178) rfl (hb hby own_d5_108) rfl ((if0 _ _).trans (flt c9).2.1) (by decide) (by decide) k) ?_
            refine own_go (T' := TL) (g' := (mkF m 180 #[.val (.ref a), .val (.long nm), .second, .val (.long dep), .second, .val (.int lw), .val (.int hw2), .val (.int fo), .val (.int mi), .unset] [(.int fo)])) (fun _ k => XS.iload XL.here hx rfl (hb hby own_d5_178) rfl k) ?_
            refine own_ret XL Bd.notSynchronized (some (.int fo)) (fun h => by rw [Bd.returns] at h; cases h) (fun fs hr => retI XL hx Bd.returns (hb hby own_d5_180) hr) ?_ (by decide) (by decide)
            show (own_Q5 Z a nm dep s2 t2 dA N cp fS fT fd h0 n0) (some (.int fo)) TL.heap _
            rw [eL]
            refine ⟨⟨_, rfl, fun hx => absurd hr hx, fun _ => ?_⟩, NF, rfl⟩
            rw [elo, ehi]
            by_cases hf1 : fo.toInt = -1
            · refine Or.inl ⟨hf1, fun x h1 h2' => ?_⟩
              have hgt : hw2.toInt < lw.toInt := by (try simp only [own_ln1, own_l0, own_l1, own_l2, own_l3, own_l4, own_l5, own_l6, own_l7, own_l8, own_l9, own_l12, own_l32, own_L0, own_L1, own_L2, own_L3, own_L7, Int32.lt_iff_toInt_lt, ← Int32.toInt_inj, Int64.lt_iff_toInt_lt, ← Int64.toInt_inj, and_true, true_and, and_false, false_and, or_true, true_or, or_false, false_or, not_true_eq_false, not_false_eq_true, ne_eq, true_implies, false_implies, implies_true] at hr hI c9 ⊢) <;> omega
              by_cases hq : (x : Int) < lw.toInt
              · have := hlow x h1 hq; omega
              · have := hhigh x (by omega) h2'; omega
            · have hf2 := hfo.resolve_left hf1
              exact Or.inr hf2
      refine own_go (T' := T7) (g' := (mkF m 48 #[.val (.ref a), .val (.long nm), .second, .val (.long dep), .second, .val (.int lo), .val (.int hi), .val (.int (-1 : Int32)), .unset, .unset] [(.int lo)])) (fun _ k => XS.iload X7.here hx rfl (hb hby own_d5_46) rfl k) ?_
      refine own_go (T' := T7) (g' := (mkF m 50 #[.val (.ref a), .val (.long nm), .second, .val (.long dep), .second, .val (.int lo), .val (.int hi), .val (.int (-1 : Int32)), .unset, .unset] [(.int hi), (.int lo)])) (fun _ k => XS.iload X7.here hx rfl (hb hby own_d5_48) rfl k) ?_
      by_cases c17 : hi < lo
      · refine own_go (T' := T7) (g' := (mkF m 106 #[.val (.ref a), .val (.long nm), .second, .val (.long dep), .second, .val (.int lo), .val (.int hi), .val (.int (-1 : Int32)), .unset, .unset] [])) (fun _ k => XS.icmpYes X7.here hx rfl (pc0 := 50) (pc' := 106) rfl (hb hby own_d5_50) rfl (tlt c17).2.2.1 (by decide) (by decide) k) ?_
        have hlow : ∀ x : Nat, lo.toInt ≤ x → (x : Int) < lo.toInt → (fd x).toInt < dep.toInt := fun x h1 h2' => absurd h1 (by omega)
        have hhigh : ∀ x : Nat, hi.toInt < x → (x : Int) < hi1.toInt → dep.toInt < (fd x).toInt := fun x h1 h2' => absurd h1 (by omega)
        refine own_go (T' := T7) (g' := (mkF m 108 #[.val (.ref a), .val (.long nm), .second, .val (.long dep), .second, .val (.int lo), .val (.int hi), .val (.int (-1 : Int32)), .unset, .unset] [(.int (-1 : Int32))])) (fun _ k => XS.iload X7.here hx rfl (hb hby own_d5_106) rfl k) ?_
        refine own_go (T' := T7) (g' := (mkF m 111 #[.val (.ref a), .val (.long nm), .second, .val (.long dep), .second, .val (.int lo), .val (.int hi), .val (.int (-1 : Int32)), .unset, .unset] [])) (fun _ k => XS.ifNo X7.here hx rfl (hb hby own_d5_108) rfl (by decide) k) ?_
        refine own_go (T' := T7) (g' := (mkF m 113 #[.val (.ref a), .val (.long nm), .second, .val (.long dep), .second, .val (.int lo), .val (.int hi), .val (.int (-1 : Int32)), .unset, .unset] [(.int lo)])) (fun _ k => XS.iload X7.here hx rfl (hb hby own_d5_111) rfl k) ?_
        refine own_go (T' := T7) (g' := (mkF m 115 #[.val (.ref a), .val (.long nm), .second, .val (.long dep), .second, .val (.int lo), .val (.int hi), .val (.int (-1 : Int32)), .unset, .unset] [(.int hi), (.int lo)])) (fun _ k => XS.iload X7.here hx rfl (hb hby own_d5_113) rfl k) ?_
        refine own_go (T' := T7) (g' := (mkF m 178 #[.val (.ref a), .val (.long nm), .second, .val (.long dep), .second, .val (.int lo), .val (.int hi), .val (.int (-1 : Int32)), .unset, .unset] [])) (fun _ k => XS.icmpYes X7.here hx rfl (pc0 := 115) (pc' := 178) rfl (hb hby own_d5_115) rfl (tlt c17).2.2.1 (by decide) (by decide) k) ?_
        refine own_go (T' := T7) (g' := (mkF m 180 #[.val (.ref a), .val (.long nm), .second, .val (.long dep), .second, .val (.int lo), .val (.int hi), .val (.int (-1 : Int32)), .unset, .unset] [(.int (-1 : Int32))])) (fun _ k => XS.iload X7.here hx rfl (hb hby own_d5_178) rfl k) ?_
        refine own_ret X7 Bd.notSynchronized (some (.int (-1 : Int32))) (fun h => by rw [Bd.returns] at h; cases h) (fun fs hr => retI X7 hx Bd.returns (hb hby own_d5_180) hr) ?_ (by decide) (by decide)
        show (own_Q5 Z a nm dep s2 t2 dA N cp fS fT fd h0 n0) (some (.int (-1 : Int32))) T7.heap _
        rw [e7]
        refine ⟨⟨_, rfl, fun hx => absurd hr hx, fun _ => ?_⟩, NF, rfl⟩
        rw [elo, ehi]
        exact Or.inl ⟨by decide, fun x h1 h2' => by (try simp only [own_ln1, own_l0, own_l1, own_l2, own_l3, own_l4, own_l5, own_l6, own_l7, own_l8, own_l9, own_l12, own_l32, own_L0, own_L1, own_L2, own_L3, own_L7, Int32.lt_iff_toInt_lt, ← Int32.toInt_inj, Int64.lt_iff_toInt_lt, ← Int64.toInt_inj, and_true, true_and, and_false, false_and, or_true, true_or, or_false, false_or, not_true_eq_false, not_false_eq_true, ne_eq, true_implies, false_implies, implies_true] at hr c17 ⊢) <;> omega⟩
      · refine own_go (T' := T7) (g' := (mkF m 53 #[.val (.ref a), .val (.long nm), .second, .val (.long dep), .second, .val (.int lo), .val (.int hi), .val (.int (-1 : Int32)), .unset, .unset] [])) (fun _ k => XS.icmpNo X7.here hx rfl (hb hby own_d5_50) rfl (flt c17).2.2.1 k) ?_
        refine own_go (T' := T7) (g' := (mkF m 55 #[.val (.ref a), .val (.long nm), .second, .val (.long dep), .second, .val (.int lo), .val (.int hi), .val (.int (-1 : Int32)), .unset, .unset] [(.int lo)])) (fun _ k => XS.iload X7.here hx rfl (hb hby own_d5_53) rfl k) ?_
        refine own_go (T' := T7) (g' := (mkF m 56 #[.val (.ref a), .val (.long nm), .second, .val (.long dep), .second, .val (.int lo), .val (.int hi), .val (.int (-1 : Int32)), .unset, .unset] [(.long (lo.toInt64))])) (fun _ k => XS.i2l X7.here hx rfl (hb hby own_d5_55) rfl k) ?_
        refine own_go (T' := T7) (g' := (mkF m 57 #[.val (.ref a), .val (.long nm), .second, .val (.long dep), .second, .val (.int lo), .val (.int hi), .val (.int (-1 : Int32)), .unset, .unset] [(.long dep), (.long (lo.toInt64))])) (fun _ k => XS.lloadN X7.here hx rfl (hb hby own_d5_56) rfl k) ?_
        refine own_go (T' := T7) (g' := (mkF m 58 #[.val (.ref a), .val (.long nm), .second, .val (.long dep), .second, .val (.int lo), .val (.int hi), .val (.int (-1 : Int32)), .unset, .unset] [(.ref a), (.long dep), (.long (lo.toInt64))])) (fun _ k => XS.aloadN X7.here hx rfl (hb hby own_d5_57) rfl rfl k) ?_
        obtain ⟨T18, X18, e18, st18⟩ := getF X7 hx hZ hown (host := "") (Or.inl (hw _ (List.mem_of_getElem? (i := 12) rfl))) Via.refl e7 F_a_firstDepths (g := (mkF m 58 #[.val (.ref a), .val (.long nm), .second, .val (.long dep), .second, .val (.int lo), .val (.int hi), .val (.int (-1 : Int32)), .unset, .unset] [(.ref a), (.long dep), (.long (lo.toInt64))])) rfl rfl (hb hby own_d5_58)
        refine own_go (T' := T18) (g' := (mkF m 61 #[.val (.ref a), .val (.long nm), .second, .val (.long dep), .second, .val (.int lo), .val (.int hi), .val (.int (-1 : Int32)), .unset, .unset] [(.ref t2), (.long dep), (.long (lo.toInt64))])) (fun _ k => st18 _ k) ?_
        refine own_go (T' := T18) (g' := (mkF m 62 #[.val (.ref a), .val (.long nm), .second, .val (.long dep), .second, .val (.int lo), .val (.int hi), .val (.int (-1 : Int32)), .unset, .unset] [(.long nm), (.ref t2), (.long dep), (.long (lo.toInt64))])) (fun _ k => XS.lloadN X18.here hx rfl (hb hby own_d5_61) rfl k) ?_
        refine own_go (T' := T18) (g' := (mkF m 63 #[.val (.ref a), .val (.long nm), .second, .val (.long dep), .second, .val (.int lo), .val (.int hi), .val (.int (-1 : Int32)), .unset, .unset] [(.int (nm.toInt32)), (.ref t2), (.long dep), (.long (lo.toInt64))])) (fun _ k => XS.l2i X18.here hx rfl (hb hby own_d5_62) rfl k) ?_
        obtain ⟨c_19, Ar_19, S_19, N_19, H_19⟩ := id I_t2
        have hin_19 : ¬ ((nm.toInt32) < 0 ∨ c_19.slots.size ≤ ((nm.toInt32)).toNatClampNeg) := inb_of S_19 ⟨by (try simp only [own_ln1, own_l0, own_l1, own_l2, own_l3, own_l4, own_l5, own_l6, own_l7, own_l8, own_l9, own_l12, own_l32, own_L0, own_L1, own_L2, own_L3, own_L7, Int32.lt_iff_toInt_lt, ← Int32.toInt_inj, Int64.lt_iff_toInt_lt, ← Int64.toInt_inj, and_true, true_and, and_false, false_and, or_true, true_or, or_false, false_or, not_true_eq_false, not_false_eq_true, ne_eq, true_implies, false_implies, implies_true] at hr c17 ⊢) <;> omega, by (try simp only [own_ln1, own_l0, own_l1, own_l2, own_l3, own_l4, own_l5, own_l6, own_l7, own_l8, own_l9, own_l12, own_l32, own_L0, own_L1, own_L2, own_L3, own_L7, Int32.lt_iff_toInt_lt, ← Int32.toInt_inj, Int64.lt_iff_toInt_lt, ← Int64.toInt_inj, and_true, true_and, and_false, false_and, or_true, true_or, or_false, false_or, not_true_eq_false, not_false_eq_true, ne_eq, true_implies, false_implies, implies_true] at hr c17 ⊢) <;> omega⟩
        have hat_19 : c_19.slots[((nm.toInt32)).toNatClampNeg]? = some (.int (fT ((nm.toInt32)).toNatClampNeg)) := H_19 _ (Nat.lt_of_not_le fun y => hin_19 (Or.inr y))
        refine own_go (T' := T18) (g' := (mkF m 64 #[.val (.ref a), .val (.long nm), .second, .val (.long dep), .second, .val (.int lo), .val (.int hi), .val (.int (-1 : Int32)), .unset, .unset] [(.int (fT ((nm.toInt32)).toNatClampNeg)), (.long dep), (.long (lo.toInt64))])) (fun _ k => X18.iaload hx (j := (nm.toInt32)) (v := (.int (fT ((nm.toInt32)).toNatClampNeg))) (by rw [e18]; exact Ar_19.1) (State.isArrayOf_alike hZ.alike Ar_19.2.1) Ar_19.2.2 hin_19 hat_19 (g := (mkF m 63 #[.val (.ref a), .val (.long nm), .second, .val (.long dep), .second, .val (.int lo), .val (.int hi), .val (.int (-1 : Int32)), .unset, .unset] [(.int (nm.toInt32)), (.ref t2), (.long dep), (.long (lo.toInt64))])) rfl rfl (hb hby own_d5_63) _ k) ?_
        refine own_go (T' := T18) (g' := (mkF m 65 #[.val (.ref a), .val (.long nm), .second, .val (.long dep), .second, .val (.int lo), .val (.int hi), .val (.int (-1 : Int32)), .unset, .unset] [(.long ((fT ((nm.toInt32)).toNatClampNeg).toInt64)), (.long dep), (.long (lo.toInt64))])) (fun _ k => XS.i2l X18.here hx rfl (hb hby own_d5_64) rfl k) ?_
        refine own_go (T' := T18) (g' := (mkF m 66 #[.val (.ref a), .val (.long nm), .second, .val (.long dep), .second, .val (.int lo), .val (.int hi), .val (.int (-1 : Int32)), .unset, .unset] [(.long (dep - ((fT ((nm.toInt32)).toNatClampNeg).toInt64))), (.long (lo.toInt64))])) (fun _ k => XS.lsub X18.here hx rfl (hb hby own_d5_65) rfl k) ?_
        refine own_go (T' := T18) (g' := (mkF m 67 #[.val (.ref a), .val (.long nm), .second, .val (.long dep), .second, .val (.int lo), .val (.int hi), .val (.int (-1 : Int32)), .unset, .unset] [(.long ((lo.toInt64) + (dep - ((fT ((nm.toInt32)).toNatClampNeg).toInt64))))])) (fun _ k => XS.ladd X18.here hx rfl (hb hby own_d5_66) rfl k) ?_
        refine own_go (T' := T18) (g' := (mkF m 69 #[.val (.ref a), .val (.long nm), .second, .val (.long dep), .second, .val (.int lo), .val (.int hi), .val (.int (-1 : Int32)), .val (.long ((lo.toInt64) + (dep - ((fT ((nm.toInt32)).toNatClampNeg).toInt64)))), .second] [])) (fun _ k => XS.lstore X18.here hx rfl (hb hby own_d5_67) rfl (l' := #[.val (.ref a), .val (.long nm), .second, .val (.long dep), .second, .val (.int lo), .val (.int hi), .val (.int (-1 : Int32)), .val (.long ((lo.toInt64) + (dep - ((fT ((nm.toInt32)).toNatClampNeg).toInt64)))), .second]) rfl k) ?_
        generalize eg : ((lo.toInt64) + (dep - ((fT ((nm.toInt32)).toNatClampNeg).toInt64))) = gs at *
        have hl1 := c_i2l lo
        have hl2 := c_i2l hi
        have hg1 := c_l2i gs
        have hg2 := rng32 gs.toInt32
        refine own_go (T' := T18) (g' := (mkF m 71 #[.val (.ref a), .val (.long nm), .second, .val (.long dep), .second, .val (.int lo), .val (.int hi), .val (.int (-1 : Int32)), .val (.long gs), .second] [(.long gs)])) (fun _ k => XS.lload X18.here hx rfl (hb hby own_d5_69) rfl k) ?_
        refine own_go (T' := T18) (g' := (mkF m 73 #[.val (.ref a), .val (.long nm), .second, .val (.long dep), .second, .val (.int lo), .val (.int hi), .val (.int (-1 : Int32)), .val (.long gs), .second] [(.int lo), (.long gs)])) (fun _ k => XS.iload X18.here hx rfl (hb hby own_d5_71) rfl k) ?_
        refine own_go (T' := T18) (g' := (mkF m 74 #[.val (.ref a), .val (.long nm), .second, .val (.long dep), .second, .val (.int lo), .val (.int hi), .val (.int (-1 : Int32)), .val (.long gs), .second] [(.long (lo.toInt64)), (.long gs)])) (fun _ k => XS.i2l X18.here hx rfl (hb hby own_d5_73) rfl k) ?_
        refine own_go (T' := T18) (g' := (mkF m 75 #[.val (.ref a), .val (.long nm), .second, .val (.long dep), .second, .val (.int lo), .val (.int hi), .val (.int (-1 : Int32)), .val (.long gs), .second] [(.int (lcmpW gs (lo.toInt64)))])) (fun _ k => XS.lcmp X18.here hx rfl (hb hby own_d5_74) rfl k) ?_
        by_cases c20 : gs < (lo.toInt64)
        · refine own_go (T' := T18) (g' := (mkF m 106 #[.val (.ref a), .val (.long nm), .second, .val (.long dep), .second, .val (.int lo), .val (.int hi), .val (.int (-1 : Int32)), .val (.long gs), .second] [])) (fun _ k => XS.ifYes X18.here hx rfl (pc0 := 75) (pc' := 106) rfl (hb hby own_d5_75) rfl ((if0 _ _).trans (tlt ((lw_lt gs (lo.toInt64)).mpr c20)).1) (by decide) (by decide) k) ?_
          have hlow : ∀ x : Nat, lo.toInt ≤ x → (x : Int) < lo.toInt → (fd x).toInt < dep.toInt := fun x h1 h2' => absurd h1 (by omega)
          have hhigh : ∀ x : Nat, hi.toInt < x → (x : Int) < hi1.toInt → dep.toInt < (fd x).toInt := fun x h1 h2' => absurd h1 (by omega)
          refine own_go (T' := T18) (g' := (mkF m 108 #[.val (.ref a), .val (.long nm), .second, .val (.long dep), .second, .val (.int lo), .val (.int hi), .val (.int (-1 : Int32)), .val (.long gs), .second] [(.int (-1 : Int32))])) (fun _ k => XS.iload X18.here hx rfl (hb hby own_d5_106) rfl k) ?_
          refine own_go (T' := T18) (g' := (mkF m 111 #[.val (.ref a), .val (.long nm), .second, .val (.long dep), .second, .val (.int lo), .val (.int hi), .val (.int (-1 : Int32)), .val (.long gs), .second] [])) (fun _ k => XS.ifNo X18.here hx rfl (hb hby own_d5_108) rfl (by decide) k) ?_
          refine own_go (T' := T18) (g' := (mkF m 113 #[.val (.ref a), .val (.long nm), .second, .val (.long dep), .second, .val (.int lo), .val (.int hi), .val (.int (-1 : Int32)), .val (.long gs), .second] [(.int lo)])) (fun _ k => XS.iload X18.here hx rfl (hb hby own_d5_111) rfl k) ?_
          refine own_go (T' := T18) (g' := (mkF m 115 #[.val (.ref a), .val (.long nm), .second, .val (.long dep), .second, .val (.int lo), .val (.int hi), .val (.int (-1 : Int32)), .val (.long gs), .second] [(.int hi), (.int lo)])) (fun _ k => XS.iload X18.here hx rfl (hb hby own_d5_113) rfl k) ?_
          refine own_go (T' := T18) (g' := (mkF m 118 #[.val (.ref a), .val (.long nm), .second, .val (.long dep), .second, .val (.int lo), .val (.int hi), .val (.int (-1 : Int32)), .val (.long gs), .second] [])) (fun _ k => XS.icmpNo X18.here hx rfl (hb hby own_d5_115) rfl (flt c17).2.2.1 k) ?_
          have hle : lo.toInt ≤ hi.toInt := by (try simp only [own_ln1, own_l0, own_l1, own_l2, own_l3, own_l4, own_l5, own_l6, own_l7, own_l8, own_l9, own_l12, own_l32, own_L0, own_L1, own_L2, own_L3, own_L7, Int32.lt_iff_toInt_lt, ← Int32.toInt_inj, Int64.lt_iff_toInt_lt, ← Int64.toInt_inj, and_true, true_and, and_false, false_and, or_true, true_or, or_false, false_or, not_true_eq_false, not_false_eq_true, ne_eq, true_implies, false_implies, implies_true] at hr c17 c20 ⊢) <;> omega
          have ha := own_add2 lo hi (by omega)
          have hbm := c_iushr (lo + hi) (1 : Int32) 1 (by decide) (by decide)
          simp only [Nat.reducePow, Int.cast_ofNat_Int] at hbm
          refine own_go (T' := T18) (g' := (mkF m 120 #[.val (.ref a), .val (.long nm), .second, .val (.long dep), .second, .val (.int lo), .val (.int hi), .val (.int (-1 : Int32)), .val (.long gs), .second] [(.int lo)])) (fun _ k => XS.iload X18.here hx rfl (hb hby own_d5_118) rfl k) ?_
          refine own_go (T' := T18) (g' := (mkF m 122 #[.val (.ref a), .val (.long nm), .second, .val (.long dep), .second, .val (.int lo), .val (.int hi), .val (.int (-1 : Int32)), .val (.long gs), .second] [(.int hi), (.int lo)])) (fun _ k => XS.iload X18.here hx rfl (hb hby own_d5_120) rfl k) ?_
          refine own_go (T' := T18) (g' := (mkF m 123 #[.val (.ref a), .val (.long nm), .second, .val (.long dep), .second, .val (.int lo), .val (.int hi), .val (.int (-1 : Int32)), .val (.long gs), .second] [(.int (lo + hi))])) (fun _ k => XS.iadd X18.here hx rfl (hb hby own_d5_122) rfl k) ?_
          refine own_go (T' := T18) (g' := (mkF m 124 #[.val (.ref a), .val (.long nm), .second, .val (.long dep), .second, .val (.int lo), .val (.int hi), .val (.int (-1 : Int32)), .val (.long gs), .second] [(.int (1 : Int32)), (.int (lo + hi))])) (fun _ k => XS.iconst X18.here hx rfl (hb hby own_d5_123) k) ?_
          refine own_go (T' := T18) (g' := (mkF m 125 #[.val (.ref a), .val (.long nm), .second, .val (.long dep), .second, .val (.int lo), .val (.int hi), .val (.int (-1 : Int32)), .val (.long gs), .second] [(.int (((lo + hi).toUInt32 >>> ((1 : Int32) &&& 31).toUInt32).toInt32))])) (fun _ k => XS.iushr X18.here hx rfl (hb hby own_d5_124) rfl k) ?_
          refine own_go (T' := T18) (g' := (mkF m 127 #[.val (.ref a), .val (.long nm), .second, .val (.long dep), .second, .val (.int lo), .val (.int hi), .val (.int (-1 : Int32)), .val (.int (((lo + hi).toUInt32 >>> ((1 : Int32) &&& 31).toUInt32).toInt32)), .unset] [])) (fun _ k => XS.istore X18.here hx rfl (hb hby own_d5_125) rfl (l' := #[.val (.ref a), .val (.long nm), .second, .val (.long dep), .second, .val (.int lo), .val (.int hi), .val (.int (-1 : Int32)), .val (.int (((lo + hi).toUInt32 >>> ((1 : Int32) &&& 31).toUInt32).toInt32)), .unset]) rfl k) ?_
          generalize emi : (((lo + hi).toUInt32 >>> ((1 : Int32) &&& 31).toUInt32).toInt32) = mid at *
          have em := own_nat mid (by omega)
          have hl := c_i2l (fd mid.toNatClampNeg)
          have hm1 := own_add1 mid (by omega)
          have hm2 := c_isub mid (1 : Int32)
          have hm3 := rng32 (mid - (1 : Int32))
          simp only [own_ln1, own_l0, own_l1, own_l2, own_l3, own_l4, own_l5, own_l6, own_l7, own_l8, own_l9, own_l12, own_l32, own_L0, own_L1, own_L2, own_L3, own_L7] at hm2
          refine own_go (T' := T18) (g' := (mkF m 128 #[.val (.ref a), .val (.long nm), .second, .val (.long dep), .second, .val (.int lo), .val (.int hi), .val (.int (-1 : Int32)), .val (.int mid), .unset] [(.ref a)])) (fun _ k => XS.aloadN X18.here hx rfl (hb hby own_d5_127) rfl rfl k) ?_
          obtain ⟨T21, X21, e21, st21⟩ := getF X18 hx hZ hown (host := "") (Or.inl (hw _ (List.mem_of_getElem? (i := 20) rfl))) Via.refl e18 F_a_depths (g := (mkF m 128 #[.val (.ref a), .val (.long nm), .second, .val (.long dep), .second, .val (.int lo), .val (.int hi), .val (.int (-1 : Int32)), .val (.int mid), .unset] [(.ref a)])) rfl rfl (hb hby own_d5_128)
          refine own_go (T' := T21) (g' := (mkF m 131 #[.val (.ref a), .val (.long nm), .second, .val (.long dep), .second, .val (.int lo), .val (.int hi), .val (.int (-1 : Int32)), .val (.int mid), .unset] [(.ref dA)])) (fun _ k => st21 _ k) ?_
          refine own_go (T' := T21) (g' := (mkF m 133 #[.val (.ref a), .val (.long nm), .second, .val (.long dep), .second, .val (.int lo), .val (.int hi), .val (.int (-1 : Int32)), .val (.int mid), .unset] [(.int mid), (.ref dA)])) (fun _ k => XS.iload X21.here hx rfl (hb hby own_d5_131) rfl k) ?_
          obtain ⟨c_22, Ar_22, S_22, N_22, H_22⟩ := id I_dA
          have hin_22 : ¬ (mid < 0 ∨ c_22.slots.size ≤ (mid).toNatClampNeg) := inb_of S_22 ⟨by (try simp only [own_ln1, own_l0, own_l1, own_l2, own_l3, own_l4, own_l5, own_l6, own_l7, own_l8, own_l9, own_l12, own_l32, own_L0, own_L1, own_L2, own_L3, own_L7, Int32.lt_iff_toInt_lt, ← Int32.toInt_inj, Int64.lt_iff_toInt_lt, ← Int64.toInt_inj, and_true, true_and, and_false, false_and, or_true, true_or, or_false, false_or, not_true_eq_false, not_false_eq_true, ne_eq, true_implies, false_implies, implies_true] at hr c17 c20 ⊢) <;> omega, by (try simp only [own_ln1, own_l0, own_l1, own_l2, own_l3, own_l4, own_l5, own_l6, own_l7, own_l8, own_l9, own_l12, own_l32, own_L0, own_L1, own_L2, own_L3, own_L7, Int32.lt_iff_toInt_lt, ← Int32.toInt_inj, Int64.lt_iff_toInt_lt, ← Int64.toInt_inj, and_true, true_and, and_false, false_and, or_true, true_or, or_false, false_or, not_true_eq_false, not_false_eq_true, ne_eq, true_implies, false_implies, implies_true] at hr c17 c20 ⊢) <;> omega⟩
          have hat_22 : c_22.slots[(mid).toNatClampNeg]? = some (.int (fd (mid).toNatClampNeg)) := H_22 _ (Nat.lt_of_not_le fun y => hin_22 (Or.inr y))
          refine own_go (T' := T21) (g' := (mkF m 134 #[.val (.ref a), .val (.long nm), .second, .val (.long dep), .second, .val (.int lo), .val (.int hi), .val (.int (-1 : Int32)), .val (.int mid), .unset] [(.int (fd (mid).toNatClampNeg))])) (fun _ k => X21.iaload hx (j := mid) (v := (.int (fd (mid).toNatClampNeg))) (by rw [e21]; exact Ar_22.1) (State.isArrayOf_alike hZ.alike Ar_22.2.1) Ar_22.2.2 hin_22 hat_22 (g := (mkF m 133 #[.val (.ref a), .val (.long nm), .second, .val (.long dep), .second, .val (.int lo), .val (.int hi), .val (.int (-1 : Int32)), .val (.int mid), .unset] [(.int mid), (.ref dA)])) rfl rfl (hb hby own_d5_133) _ k) ?_
          refine own_go (T' := T21) (g' := (mkF m 135 #[.val (.ref a), .val (.long nm), .second, .val (.long dep), .second, .val (.int lo), .val (.int hi), .val (.int (-1 : Int32)), .val (.int mid), .unset] [(.long ((fd (mid).toNatClampNeg).toInt64))])) (fun _ k => XS.i2l X21.here hx rfl (hb hby own_d5_134) rfl k) ?_
          refine own_go (T' := T21) (g' := (mkF m 136 #[.val (.ref a), .val (.long nm), .second, .val (.long dep), .second, .val (.int lo), .val (.int hi), .val (.int (-1 : Int32)), .val (.int mid), .unset] [(.long dep), (.long ((fd (mid).toNatClampNeg).toInt64))])) (fun _ k => XS.lloadN X21.here hx rfl (hb hby own_d5_135) rfl k) ?_
          refine own_go (T' := T21) (g' := (mkF m 137 #[.val (.ref a), .val (.long nm), .second, .val (.long dep), .second, .val (.int lo), .val (.int hi), .val (.int (-1 : Int32)), .val (.int mid), .unset] [(.int (lcmpW ((fd (mid).toNatClampNeg).toInt64) dep))])) (fun _ k => XS.lcmp X21.here hx rfl (hb hby own_d5_136) rfl k) ?_
          by_cases c23 : ((fd (mid).toNatClampNeg).toInt64) < dep
          · refine own_go (T' := T21) (g' := (mkF m 140 #[.val (.ref a), .val (.long nm), .second, .val (.long dep), .second, .val (.int lo), .val (.int hi), .val (.int (-1 : Int32)), .val (.int mid), .unset] [])) (fun _ k => XS.ifNo X21.here hx rfl (hb hby own_d5_137) rfl ((if0 _ _).trans (tlt ((lw_lt ((fd (mid).toNatClampNeg).toInt64) dep).mpr c23)).2.1) k) ?_
            refine own_go (T' := T21) (g' := (mkF m 142 #[.val (.ref a), .val (.long nm), .second, .val (.long dep), .second, .val (.int lo), .val (.int hi), .val (.int (-1 : Int32)), .val (.int mid), .unset] [(.int mid)])) (fun _ k => XS.iload X21.here hx rfl (hb hby own_d5_140) rfl k) ?_
            refine own_go (T' := T21) (g' := (mkF m 143 #[.val (.ref a), .val (.long nm), .second, .val (.long dep), .second, .val (.int lo), .val (.int hi), .val (.int (-1 : Int32)), .val (.int mid), .unset] [(.int (1 : Int32)), (.int mid)])) (fun _ k => XS.iconst X21.here hx rfl (hb hby own_d5_142) k) ?_
            refine own_go (T' := T21) (g' := (mkF m 144 #[.val (.ref a), .val (.long nm), .second, .val (.long dep), .second, .val (.int lo), .val (.int hi), .val (.int (-1 : Int32)), .val (.int mid), .unset] [(.int (mid + (1 : Int32)))])) (fun _ k => XS.iadd X21.here hx rfl (hb hby own_d5_143) rfl k) ?_
            refine own_go (T' := T21) (g' := (mkF m 146 #[.val (.ref a), .val (.long nm), .second, .val (.long dep), .second, .val (.int (mid + (1 : Int32))), .val (.int hi), .val (.int (-1 : Int32)), .val (.int mid), .unset] [])) (fun _ k => XS.istore X21.here hx rfl (hb hby own_d5_144) rfl (l' := #[.val (.ref a), .val (.long nm), .second, .val (.long dep), .second, .val (.int (mid + (1 : Int32))), .val (.int hi), .val (.int (-1 : Int32)), .val (.int mid), .unset]) rfl k) ?_
            refine own_go (T' := T21) (g' := (mkF m 175 #[.val (.ref a), .val (.long nm), .second, .val (.long dep), .second, .val (.int (mid + (1 : Int32))), .val (.int hi), .val (.int (-1 : Int32)), .val (.int mid), .unset] [])) (fun _ k => XS.goto X21.here hx rfl (pc0 := 146) (pc' := 175) rfl (hb hby own_d5_146) (by decide) (by decide) k) ?_
            refine own_go (T' := T21) (g' := (mkF m 106 #[.val (.ref a), .val (.long nm), .second, .val (.long dep), .second, .val (.int (mid + (1 : Int32))), .val (.int hi), .val (.int (-1 : Int32)), .val (.int mid), .unset] [])) (fun _ k => XS.goto X21.here hx rfl (pc0 := 175) (pc' := 106) rfl (hb hby own_d5_175) (by decide) (by decide) k) ?_
            have hd : (fd mid.toNatClampNeg).toInt < dep.toInt := by (try simp only [own_ln1, own_l0, own_l1, own_l2, own_l3, own_l4, own_l5, own_l6, own_l7, own_l8, own_l9, own_l12, own_l32, own_L0, own_L1, own_L2, own_L3, own_L7, Int32.lt_iff_toInt_lt, ← Int32.toInt_inj, Int64.lt_iff_toInt_lt, ← Int64.toInt_inj, and_true, true_and, and_false, false_and, or_true, true_or, or_false, false_or, not_true_eq_false, not_false_eq_true, ne_eq, true_implies, false_implies, implies_true] at hr c17 c20 c23 ⊢) <;> omega
            exact LP 20 _ _ _ _ _ _ (Or.inl (by (try simp only [own_ln1, own_l0, own_l1, own_l2, own_l3, own_l4, own_l5, own_l6, own_l7, own_l8, own_l9, own_l12, own_l32, own_L0, own_L1, own_L2, own_L3, own_L7, Int32.lt_iff_toInt_lt, ← Int32.toInt_inj, Int64.lt_iff_toInt_lt, ← Int64.toInt_inj, and_true, true_and, and_false, false_and, or_true, true_or, or_false, false_or, not_true_eq_false, not_false_eq_true, ne_eq, true_implies, false_implies, implies_true] at hr c17 c20 c23 ⊢) <;> omega)) (by (try simp only [own_ln1, own_l0, own_l1, own_l2, own_l3, own_l4, own_l5, own_l6, own_l7, own_l8, own_l9, own_l12, own_l32, own_L0, own_L1, own_L2, own_L3, own_L7, Int32.lt_iff_toInt_lt, ← Int32.toInt_inj, Int64.lt_iff_toInt_lt, ← Int64.toInt_inj, and_true, true_and, and_false, false_and, or_true, true_or, or_false, false_or, not_true_eq_false, not_false_eq_true, ne_eq, true_implies, false_implies, implies_true] at hr c17 c20 c23 ⊢) <;> omega) (Or.inl (by (try simp only [own_ln1, own_l0, own_l1, own_l2, own_l3, own_l4, own_l5, own_l6, own_l7, own_l8, own_l9, own_l12, own_l32, own_L0, own_L1, own_L2, own_L3, own_L7, Int32.lt_iff_toInt_lt, ← Int32.toInt_inj, Int64.lt_iff_toInt_lt, ← Int64.toInt_inj, and_true, true_and, and_false, false_and, or_true, true_or, or_false, false_or, not_true_eq_false, not_false_eq_true, ne_eq, true_implies, false_implies, implies_true] at hr c17 c20 c23 ⊢) <;> omega)) (fun x h1 h2' => by
              by_cases hq : x = mid.toNatClampNeg
              · rw [hq]; exact hd
              · have := hss x mid.toNatClampNeg h1 (by omega) (by omega); omega) hhigh X21 e21 NF
          · refine own_go (T' := T21) (g' := (mkF m 149 #[.val (.ref a), .val (.long nm), .second, .val (.long dep), .second, .val (.int lo), .val (.int hi), .val (.int (-1 : Int32)), .val (.int mid), .unset] [])) (fun _ k => XS.ifYes X21.here hx rfl (pc0 := 137) (pc' := 149) rfl (hb hby own_d5_137) rfl ((if0 _ _).trans (flt (fun h => c23 ((lw_lt ((fd (mid).toNatClampNeg).toInt64) dep).mp h))).2.1) (by decide) (by decide) k) ?_
            refine own_go (T' := T21) (g' := (mkF m 150 #[.val (.ref a), .val (.long nm), .second, .val (.long dep), .second, .val (.int lo), .val (.int hi), .val (.int (-1 : Int32)), .val (.int mid), .unset] [(.ref a)])) (fun _ k => XS.aloadN X21.here hx rfl (hb hby own_d5_149) rfl rfl k) ?_
            obtain ⟨T24, X24, e24, st24⟩ := getF X21 hx hZ hown (host := "") (Or.inl (hw _ (List.mem_of_getElem? (i := 20) rfl))) Via.refl e21 F_a_depths (g := (mkF m 150 #[.val (.ref a), .val (.long nm), .second, .val (.long dep), .second, .val (.int lo), .val (.int hi), .val (.int (-1 : Int32)), .val (.int mid), .unset] [(.ref a)])) rfl rfl (hb hby own_d5_150)
            refine own_go (T' := T24) (g' := (mkF m 153 #[.val (.ref a), .val (.long nm), .second, .val (.long dep), .second, .val (.int lo), .val (.int hi), .val (.int (-1 : Int32)), .val (.int mid), .unset] [(.ref dA)])) (fun _ k => st24 _ k) ?_
            refine own_go (T' := T24) (g' := (mkF m 155 #[.val (.ref a), .val (.long nm), .second, .val (.long dep), .second, .val (.int lo), .val (.int hi), .val (.int (-1 : Int32)), .val (.int mid), .unset] [(.int mid), (.ref dA)])) (fun _ k => XS.iload X24.here hx rfl (hb hby own_d5_153) rfl k) ?_
            obtain ⟨c_25, Ar_25, S_25, N_25, H_25⟩ := id I_dA
            have hin_25 : ¬ (mid < 0 ∨ c_25.slots.size ≤ (mid).toNatClampNeg) := inb_of S_25 ⟨by (try simp only [own_ln1, own_l0, own_l1, own_l2, own_l3, own_l4, own_l5, own_l6, own_l7, own_l8, own_l9, own_l12, own_l32, own_L0, own_L1, own_L2, own_L3, own_L7, Int32.lt_iff_toInt_lt, ← Int32.toInt_inj, Int64.lt_iff_toInt_lt, ← Int64.toInt_inj, and_true, true_and, and_false, false_and, or_true, true_or, or_false, false_or, not_true_eq_false, not_false_eq_true, ne_eq, true_implies, false_implies, implies_true] at hr c17 c20 c23 ⊢) <;> omega, by (try simp only [own_ln1, own_l0, own_l1, own_l2, own_l3, own_l4, own_l5, own_l6, own_l7, own_l8, own_l9, own_l12, own_l32, own_L0, own_L1, own_L2, own_L3, own_L7, Int32.lt_iff_toInt_lt, ← Int32.toInt_inj, Int64.lt_iff_toInt_lt, ← Int64.toInt_inj, and_true, true_and, and_false, false_and, or_true, true_or, or_false, false_or, not_true_eq_false, not_false_eq_true, ne_eq, true_implies, false_implies, implies_true] at hr c17 c20 c23 ⊢) <;> omega⟩
            have hat_25 : c_25.slots[(mid).toNatClampNeg]? = some (.int (fd (mid).toNatClampNeg)) := H_25 _ (Nat.lt_of_not_le fun y => hin_25 (Or.inr y))
            refine own_go (T' := T24) (g' := (mkF m 156 #[.val (.ref a), .val (.long nm), .second, .val (.long dep), .second, .val (.int lo), .val (.int hi), .val (.int (-1 : Int32)), .val (.int mid), .unset] [(.int (fd (mid).toNatClampNeg))])) (fun _ k => X24.iaload hx (j := mid) (v := (.int (fd (mid).toNatClampNeg))) (by rw [e24]; exact Ar_25.1) (State.isArrayOf_alike hZ.alike Ar_25.2.1) Ar_25.2.2 hin_25 hat_25 (g := (mkF m 155 #[.val (.ref a), .val (.long nm), .second, .val (.long dep), .second, .val (.int lo), .val (.int hi), .val (.int (-1 : Int32)), .val (.int mid), .unset] [(.int mid), (.ref dA)])) rfl rfl (hb hby own_d5_155) _ k) ?_
            refine own_go (T' := T24) (g' := (mkF m 157 #[.val (.ref a), .val (.long nm), .second, .val (.long dep), .second, .val (.int lo), .val (.int hi), .val (.int (-1 : Int32)), .val (.int mid), .unset] [(.long ((fd (mid).toNatClampNeg).toInt64))])) (fun _ k => XS.i2l X24.here hx rfl (hb hby own_d5_156) rfl k) ?_
            refine own_go (T' := T24) (g' := (mkF m 158 #[.val (.ref a), .val (.long nm), .second, .val (.long dep), .second, .val (.int lo), .val (.int hi), .val (.int (-1 : Int32)), .val (.int mid), .unset] [(.long dep), (.long ((fd (mid).toNatClampNeg).toInt64))])) (fun _ k => XS.lloadN X24.here hx rfl (hb hby own_d5_157) rfl k) ?_
            refine own_go (T' := T24) (g' := (mkF m 159 #[.val (.ref a), .val (.long nm), .second, .val (.long dep), .second, .val (.int lo), .val (.int hi), .val (.int (-1 : Int32)), .val (.int mid), .unset] [(.int (lcmpW ((fd (mid).toNatClampNeg).toInt64) dep))])) (fun _ k => XS.lcmp X24.here hx rfl (hb hby own_d5_158) rfl k) ?_
            by_cases c26 : dep < ((fd (mid).toNatClampNeg).toInt64)
            · refine own_go (T' := T24) (g' := (mkF m 162 #[.val (.ref a), .val (.long nm), .second, .val (.long dep), .second, .val (.int lo), .val (.int hi), .val (.int (-1 : Int32)), .val (.int mid), .unset] [])) (fun _ k => XS.ifNo X24.here hx rfl (hb hby own_d5_159) rfl ((if0 _ _).trans (tlt ((lw_gt ((fd (mid).toNatClampNeg).toInt64) dep).mpr c26)).2.2.2) k) ?_
              refine own_go (T' := T24) (g' := (mkF m 164 #[.val (.ref a), .val (.long nm), .second, .val (.long dep), .second, .val (.int lo), .val (.int hi), .val (.int (-1 : Int32)), .val (.int mid), .unset] [(.int mid)])) (fun _ k => XS.iload X24.here hx rfl (hb hby own_d5_162) rfl k) ?_
              refine own_go (T' := T24) (g' := (mkF m 165 #[.val (.ref a), .val (.long nm), .second, .val (.long dep), .second, .val (.int lo), .val (.int hi), .val (.int (-1 : Int32)), .val (.int mid), .unset] [(.int (1 : Int32)), (.int mid)])) (fun _ k => XS.iconst X24.here hx rfl (hb hby own_d5_164) k) ?_
              refine own_go (T' := T24) (g' := (mkF m 166 #[.val (.ref a), .val (.long nm), .second, .val (.long dep), .second, .val (.int lo), .val (.int hi), .val (.int (-1 : Int32)), .val (.int mid), .unset] [(.int (mid - (1 : Int32)))])) (fun _ k => XS.isub X24.here hx rfl (hb hby own_d5_165) rfl k) ?_
              refine own_go (T' := T24) (g' := (mkF m 168 #[.val (.ref a), .val (.long nm), .second, .val (.long dep), .second, .val (.int lo), .val (.int (mid - (1 : Int32))), .val (.int (-1 : Int32)), .val (.int mid), .unset] [])) (fun _ k => XS.istore X24.here hx rfl (hb hby own_d5_166) rfl (l' := #[.val (.ref a), .val (.long nm), .second, .val (.long dep), .second, .val (.int lo), .val (.int (mid - (1 : Int32))), .val (.int (-1 : Int32)), .val (.int mid), .unset]) rfl k) ?_
              refine own_go (T' := T24) (g' := (mkF m 175 #[.val (.ref a), .val (.long nm), .second, .val (.long dep), .second, .val (.int lo), .val (.int (mid - (1 : Int32))), .val (.int (-1 : Int32)), .val (.int mid), .unset] [])) (fun _ k => XS.goto X24.here hx rfl (pc0 := 168) (pc' := 175) rfl (hb hby own_d5_168) (by decide) (by decide) k) ?_
              refine own_go (T' := T24) (g' := (mkF m 106 #[.val (.ref a), .val (.long nm), .second, .val (.long dep), .second, .val (.int lo), .val (.int (mid - (1 : Int32))), .val (.int (-1 : Int32)), .val (.int mid), .unset] [])) (fun _ k => XS.goto X24.here hx rfl (pc0 := 175) (pc' := 106) rfl (hb hby own_d5_175) (by decide) (by decide) k) ?_
              have hd : dep.toInt < (fd mid.toNatClampNeg).toInt := by (try simp only [own_ln1, own_l0, own_l1, own_l2, own_l3, own_l4, own_l5, own_l6, own_l7, own_l8, own_l9, own_l12, own_l32, own_L0, own_L1, own_L2, own_L3, own_L7, Int32.lt_iff_toInt_lt, ← Int32.toInt_inj, Int64.lt_iff_toInt_lt, ← Int64.toInt_inj, and_true, true_and, and_false, false_and, or_true, true_or, or_false, false_or, not_true_eq_false, not_false_eq_true, ne_eq, true_implies, false_implies, implies_true] at hr c17 c20 c23 c26 ⊢) <;> omega
              exact LP 20 _ _ _ _ _ _ (Or.inl (by (try simp only [own_ln1, own_l0, own_l1, own_l2, own_l3, own_l4, own_l5, own_l6, own_l7, own_l8, own_l9, own_l12, own_l32, own_L0, own_L1, own_L2, own_L3, own_L7, Int32.lt_iff_toInt_lt, ← Int32.toInt_inj, Int64.lt_iff_toInt_lt, ← Int64.toInt_inj, and_true, true_and, and_false, false_and, or_true, true_or, or_false, false_or, not_true_eq_false, not_false_eq_true, ne_eq, true_implies, false_implies, implies_true] at hr c17 c20 c23 c26 ⊢) <;> omega)) (by (try simp only [own_ln1, own_l0, own_l1, own_l2, own_l3, own_l4, own_l5, own_l6, own_l7, own_l8, own_l9, own_l12, own_l32, own_L0, own_L1, own_L2, own_L3, own_L7, Int32.lt_iff_toInt_lt, ← Int32.toInt_inj, Int64.lt_iff_toInt_lt, ← Int64.toInt_inj, and_true, true_and, and_false, false_and, or_true, true_or, or_false, false_or, not_true_eq_false, not_false_eq_true, ne_eq, true_implies, false_implies, implies_true] at hr c17 c20 c23 c26 ⊢) <;> omega) (Or.inl (by (try simp only [own_ln1, own_l0, own_l1, own_l2, own_l3, own_l4, own_l5, own_l6, own_l7, own_l8, own_l9, own_l12, own_l32, own_L0, own_L1, own_L2, own_L3, own_L7, Int32.lt_iff_toInt_lt, ← Int32.toInt_inj, Int64.lt_iff_toInt_lt, ← Int64.toInt_inj, and_true, true_and, and_false, false_and, or_true, true_or, or_false, false_or, not_true_eq_false, not_false_eq_true, ne_eq, true_implies, false_implies, implies_true] at hr c17 c20 c23 c26 ⊢) <;> omega)) hlow (fun x h1 h2' => by
                by_cases hq : x = mid.toNatClampNeg
                · rw [hq]; exact hd
                · have := hss mid.toNatClampNeg x (by omega) (by omega) h2'; omega) X24 e24 NF
            · refine own_go (T' := T24) (g' := (mkF m 171 #[.val (.ref a), .val (.long nm), .second, .val (.long dep), .second, .val (.int lo), .val (.int hi), .val (.int (-1 : Int32)), .val (.int mid), .unset] [])) (fun _ k => XS.ifYes X24.here hx rfl (pc0 := 159) (pc' := 171) rfl (hb hby own_d5_159) rfl ((if0 _ _).trans (flt (fun h => c26 ((lw_gt ((fd (mid).toNatClampNeg).toInt64) dep).mp h))).2.2.2) (by decide) (by decide) k) ?_
              refine own_go (T' := T24) (g' := (mkF m 173 #[.val (.ref a), .val (.long nm), .second, .val (.long dep), .second, .val (.int lo), .val (.int hi), .val (.int (-1 : Int32)), .val (.int mid), .unset] [(.int mid)])) (fun _ k => XS.iload X24.here hx rfl (hb hby own_d5_171) rfl k) ?_
              refine own_go (T' := T24) (g' := (mkF m 175 #[.val (.ref a), .val (.long nm), .second, .val (.long dep), .second, .val (.int lo), .val (.int hi), .val (.int mid), .val (.int mid), .unset] [])) (fun _ k => XS.istore X24.here hx rfl (hb hby own_d5_173) rfl (l' := #[.val (.ref a), .val (.long nm), .second, .val (.long dep), .second, .val (.int lo), .val (.int hi), .val (.int mid), .val (.int mid), .unset]) rfl k) ?_
              refine own_go (T' := T24) (g' := (mkF m 106 #[.val (.ref a), .val (.long nm), .second, .val (.long dep), .second, .val (.int lo), .val (.int hi), .val (.int mid), .val (.int mid), .unset] [])) (fun _ k => XS.goto X24.here hx rfl (pc0 := 175) (pc' := 106) rfl (hb hby own_d5_175) (by decide) (by decide) k) ?_
              have hfd : (lo.toInt ≤ mid.toInt ∧ mid.toInt < hi1.toInt ∧ (fd mid.toInt.toNat).toInt = dep.toInt) := by
                have pe9 : mid.toInt.toNat = mid.toNatClampNeg := by omega
                rw [pe9]; (try simp only [own_ln1, own_l0, own_l1, own_l2, own_l3, own_l4, own_l5, own_l6, own_l7, own_l8, own_l9, own_l12, own_l32, own_L0, own_L1, own_L2, own_L3, own_L7, Int32.lt_iff_toInt_lt, ← Int32.toInt_inj, Int64.lt_iff_toInt_lt, ← Int64.toInt_inj, and_true, true_and, and_false, false_and, or_true, true_or, or_false, false_or, not_true_eq_false, not_false_eq_true, ne_eq, true_implies, false_implies, implies_true] at hr c17 c20 c23 c26 ⊢) <;> omega
              have h0a := hlow
              have h0b := hhigh
              exact LP 20 _ _ mid _ _ _ (Or.inr (by (try simp only [own_ln1, own_l0, own_l1, own_l2, own_l3, own_l4, own_l5, own_l6, own_l7, own_l8, own_l9, own_l12, own_l32, own_L0, own_L1, own_L2, own_L3, own_L7, Int32.lt_iff_toInt_lt, ← Int32.toInt_inj, Int64.lt_iff_toInt_lt, ← Int64.toInt_inj, and_true, true_and, and_false, false_and, or_true, true_or, or_false, false_or, not_true_eq_false, not_false_eq_true, ne_eq, true_implies, false_implies, implies_true] at hr c17 c20 c23 c26 ⊢) <;> omega)) (by (try simp only [own_ln1, own_l0, own_l1, own_l2, own_l3, own_l4, own_l5, own_l6, own_l7, own_l8, own_l9, own_l12, own_l32, own_L0, own_L1, own_L2, own_L3, own_L7, Int32.lt_iff_toInt_lt, ← Int32.toInt_inj, Int64.lt_iff_toInt_lt, ← Int64.toInt_inj, and_true, true_and, and_false, false_and, or_true, true_or, or_false, false_or, not_true_eq_false, not_false_eq_true, ne_eq, true_implies, false_implies, implies_true] at hr c17 c20 c23 c26 ⊢) <;> omega) (Or.inr hfd) hlow hhigh X24 e24 NF
        · refine own_go (T' := T18) (g' := (mkF m 78 #[.val (.ref a), .val (.long nm), .second, .val (.long dep), .second, .val (.int lo), .val (.int hi), .val (.int (-1 : Int32)), .val (.long gs), .second] [])) (fun _ k => XS.ifNo X18.here hx rfl (hb hby own_d5_75) rfl ((if0 _ _).trans (flt (fun h => c20 ((lw_lt gs (lo.toInt64)).mp h))).1) k) ?_
          refine own_go (T' := T18) (g' := (mkF m 80 #[.val (.ref a), .val (.long nm), .second, .val (.long dep), .second, .val (.int lo), .val (.int hi), .val (.int (-1 : Int32)), .val (.long gs), .second] [(.long gs)])) (fun _ k => XS.lload X18.here hx rfl (hb hby own_d5_78) rfl k) ?_
          refine own_go (T' := T18) (g' := (mkF m 82 #[.val (.ref a), .val (.long nm), .second, .val (.long dep), .second, .val (.int lo), .val (.int hi), .val (.int (-1 : Int32)), .val (.long gs), .second] [(.int hi), (.long gs)])) (fun _ k => XS.iload X18.here hx rfl (hb hby own_d5_80) rfl k) ?_
          refine own_go (T' := T18) (g' := (mkF m 83 #[.val (.ref a), .val (.long nm), .second, .val (.long dep), .second, .val (.int lo), .val (.int hi), .val (.int (-1 : Int32)), .val (.long gs), .second] [(.long (hi.toInt64)), (.long gs)])) (fun _ k => XS.i2l X18.here hx rfl (hb hby own_d5_82) rfl k) ?_
          refine own_go (T' := T18) (g' := (mkF m 84 #[.val (.ref a), .val (.long nm), .second, .val (.long dep), .second, .val (.int lo), .val (.int hi), .val (.int (-1 : Int32)), .val (.long gs), .second] [(.int (lcmpW gs (hi.toInt64)))])) (fun _ k => XS.lcmp X18.here hx rfl (hb hby own_d5_83) rfl k) ?_
          by_cases c27 : (hi.toInt64) < gs
          · refine own_go (T' := T18) (g' := (mkF m 106 #[.val (.ref a), .val (.long nm), .second, .val (.long dep), .second, .val (.int lo), .val (.int hi), .val (.int (-1 : Int32)), .val (.long gs), .second] [])) (fun _ k => XS.ifYes X18.here hx rfl (pc0 := 84) (pc' := 106) rfl (hb hby own_d5_84) rfl ((if0 _ _).trans (tlt ((lw_gt gs (hi.toInt64)).mpr c27)).2.2.1) (by decide) (by decide) k) ?_
            have hlow : ∀ x : Nat, lo.toInt ≤ x → (x : Int) < lo.toInt → (fd x).toInt < dep.toInt := fun x h1 h2' => absurd h1 (by omega)
            have hhigh : ∀ x : Nat, hi.toInt < x → (x : Int) < hi1.toInt → dep.toInt < (fd x).toInt := fun x h1 h2' => absurd h1 (by omega)
            refine own_go (T' := T18) (g' := (mkF m 108 #[.val (.ref a), .val (.long nm), .second, .val (.long dep), .second, .val (.int lo), .val (.int hi), .val (.int (-1 : Int32)), .val (.long gs), .second] [(.int (-1 : Int32))])) (fun _ k => XS.iload X18.here hx rfl (hb hby own_d5_106) rfl k) ?_
            refine own_go (T' := T18) (g' := (mkF m 111 #[.val (.ref a), .val (.long nm), .second, .val (.long dep), .second, .val (.int lo), .val (.int hi), .val (.int (-1 : Int32)), .val (.long gs), .second] [])) (fun _ k => XS.ifNo X18.here hx rfl (hb hby own_d5_108) rfl (by decide) k) ?_
            refine own_go (T' := T18) (g' := (mkF m 113 #[.val (.ref a), .val (.long nm), .second, .val (.long dep), .second, .val (.int lo), .val (.int hi), .val (.int (-1 : Int32)), .val (.long gs), .second] [(.int lo)])) (fun _ k => XS.iload X18.here hx rfl (hb hby own_d5_111) rfl k) ?_
            refine own_go (T' := T18) (g' := (mkF m 115 #[.val (.ref a), .val (.long nm), .second, .val (.long dep), .second, .val (.int lo), .val (.int hi), .val (.int (-1 : Int32)), .val (.long gs), .second] [(.int hi), (.int lo)])) (fun _ k => XS.iload X18.here hx rfl (hb hby own_d5_113) rfl k) ?_
            refine own_go (T' := T18) (g' := (mkF m 118 #[.val (.ref a), .val (.long nm), .second, .val (.long dep), .second, .val (.int lo), .val (.int hi), .val (.int (-1 : Int32)), .val (.long gs), .second] [])) (fun _ k => XS.icmpNo X18.here hx rfl (hb hby own_d5_115) rfl (flt c17).2.2.1 k) ?_
            have hle : lo.toInt ≤ hi.toInt := by (try simp only [own_ln1, own_l0, own_l1, own_l2, own_l3, own_l4, own_l5, own_l6, own_l7, own_l8, own_l9, own_l12, own_l32, own_L0, own_L1, own_L2, own_L3, own_L7, Int32.lt_iff_toInt_lt, ← Int32.toInt_inj, Int64.lt_iff_toInt_lt, ← Int64.toInt_inj, and_true, true_and, and_false, false_and, or_true, true_or, or_false, false_or, not_true_eq_false, not_false_eq_true, ne_eq, true_implies, false_implies, implies_true] at hr c17 c20 c27 ⊢) <;> omega
            have ha := own_add2 lo hi (by omega)
            have hbm := c_iushr (lo + hi) (1 : Int32) 1 (by decide) (by decide)
            simp only [Nat.reducePow, Int.cast_ofNat_Int] at hbm
            refine own_go (T' := T18) (g' := (mkF m 120 #[.val (.ref a), .val (.long nm), .second, .val (.long dep), .second, .val (.int lo), .val (.int hi), .val (.int (-1 : Int32)), .val (.long gs), .second] [(.int lo)])) (fun _ k => XS.iload X18.here hx rfl (hb hby own_d5_118) rfl k) ?_
            refine own_go (T' := T18) (g' := (mkF m 122 #[.val (.ref a), .val (.long nm), .second, .val (.long dep), .second, .val (.int lo), .val (.int hi), .val (.int (-1 : Int32)), .val (.long gs), .second] [(.int hi), (.int lo)])) (fun _ k => XS.iload X18.here hx rfl (hb hby own_d5_120) rfl k) ?_
            refine own_go (T' := T18) (g' := (mkF m 123 #[.val (.ref a), .val (.long nm), .second, .val (.long dep), .second, .val (.int lo), .val (.int hi), .val (.int (-1 : Int32)), .val (.long gs), .second] [(.int (lo + hi))])) (fun _ k => XS.iadd X18.here hx rfl (hb hby own_d5_122) rfl k) ?_
            refine own_go (T' := T18) (g' := (mkF m 124 #[.val (.ref a), .val (.long nm), .second, .val (.long dep), .second, .val (.int lo), .val (.int hi), .val (.int (-1 : Int32)), .val (.long gs), .second] [(.int (1 : Int32)), (.int (lo + hi))])) (fun _ k => XS.iconst X18.here hx rfl (hb hby own_d5_123) k) ?_
            refine own_go (T' := T18) (g' := (mkF m 125 #[.val (.ref a), .val (.long nm), .second, .val (.long dep), .second, .val (.int lo), .val (.int hi), .val (.int (-1 : Int32)), .val (.long gs), .second] [(.int (((lo + hi).toUInt32 >>> ((1 : Int32) &&& 31).toUInt32).toInt32))])) (fun _ k => XS.iushr X18.here hx rfl (hb hby own_d5_124) rfl k) ?_
            refine own_go (T' := T18) (g' := (mkF m 127 #[.val (.ref a), .val (.long nm), .second, .val (.long dep), .second, .val (.int lo), .val (.int hi), .val (.int (-1 : Int32)), .val (.int (((lo + hi).toUInt32 >>> ((1 : Int32) &&& 31).toUInt32).toInt32)), .unset] [])) (fun _ k => XS.istore X18.here hx rfl (hb hby own_d5_125) rfl (l' := #[.val (.ref a), .val (.long nm), .second, .val (.long dep), .second, .val (.int lo), .val (.int hi), .val (.int (-1 : Int32)), .val (.int (((lo + hi).toUInt32 >>> ((1 : Int32) &&& 31).toUInt32).toInt32)), .unset]) rfl k) ?_
            generalize emi : (((lo + hi).toUInt32 >>> ((1 : Int32) &&& 31).toUInt32).toInt32) = mid at *
            have em := own_nat mid (by omega)
            have hl := c_i2l (fd mid.toNatClampNeg)
            have hm1 := own_add1 mid (by omega)
            have hm2 := c_isub mid (1 : Int32)
            have hm3 := rng32 (mid - (1 : Int32))
            simp only [own_ln1, own_l0, own_l1, own_l2, own_l3, own_l4, own_l5, own_l6, own_l7, own_l8, own_l9, own_l12, own_l32, own_L0, own_L1, own_L2, own_L3, own_L7] at hm2
            refine own_go (T' := T18) (g' := (mkF m 128 #[.val (.ref a), .val (.long nm), .second, .val (.long dep), .second, .val (.int lo), .val (.int hi), .val (.int (-1 : Int32)), .val (.int mid), .unset] [(.ref a)])) (fun _ k => XS.aloadN X18.here hx rfl (hb hby own_d5_127) rfl rfl k) ?_
            obtain ⟨T28, X28, e28, st28⟩ := getF X18 hx hZ hown (host := "") (Or.inl (hw _ (List.mem_of_getElem? (i := 20) rfl))) Via.refl e18 F_a_depths (g := (mkF m 128 #[.val (.ref a), .val (.long nm), .second, .val (.long dep), .second, .val (.int lo), .val (.int hi), .val (.int (-1 : Int32)), .val (.int mid), .unset] [(.ref a)])) rfl rfl (hb hby own_d5_128)
            refine own_go (T' := T28) (g' := (mkF m 131 #[.val (.ref a), .val (.long nm), .second, .val (.long dep), .second, .val (.int lo), .val (.int hi), .val (.int (-1 : Int32)), .val (.int mid), .unset] [(.ref dA)])) (fun _ k => st28 _ k) ?_
            refine own_go (T' := T28) (g' := (mkF m 133 #[.val (.ref a), .val (.long nm), .second, .val (.long dep), .second, .val (.int lo), .val (.int hi), .val (.int (-1 : Int32)), .val (.int mid), .unset] [(.int mid), (.ref dA)])) (fun _ k => XS.iload X28.here hx rfl (hb hby own_d5_131) rfl k) ?_
            obtain ⟨c_29, Ar_29, S_29, N_29, H_29⟩ := id I_dA
            have hin_29 : ¬ (mid < 0 ∨ c_29.slots.size ≤ (mid).toNatClampNeg) := inb_of S_29 ⟨by (try simp only [own_ln1, own_l0, own_l1, own_l2, own_l3, own_l4, own_l5, own_l6, own_l7, own_l8, own_l9, own_l12, own_l32, own_L0, own_L1, own_L2, own_L3, own_L7, Int32.lt_iff_toInt_lt, ← Int32.toInt_inj, Int64.lt_iff_toInt_lt, ← Int64.toInt_inj, and_true, true_and, and_false, false_and, or_true, true_or, or_false, false_or, not_true_eq_false, not_false_eq_true, ne_eq, true_implies, false_implies, implies_true] at hr c17 c20 c27 ⊢) <;> omega, by (try simp only [own_ln1, own_l0, own_l1, own_l2, own_l3, own_l4, own_l5, own_l6, own_l7, own_l8, own_l9, own_l12, own_l32, own_L0, own_L1, own_L2, own_L3, own_L7, Int32.lt_iff_toInt_lt, ← Int32.toInt_inj, Int64.lt_iff_toInt_lt, ← Int64.toInt_inj, and_true, true_and, and_false, false_and, or_true, true_or, or_false, false_or, not_true_eq_false, not_false_eq_true, ne_eq, true_implies, false_implies, implies_true] at hr c17 c20 c27 ⊢) <;> omega⟩
            have hat_29 : c_29.slots[(mid).toNatClampNeg]? = some (.int (fd (mid).toNatClampNeg)) := H_29 _ (Nat.lt_of_not_le fun y => hin_29 (Or.inr y))
            refine own_go (T' := T28) (g' := (mkF m 134 #[.val (.ref a), .val (.long nm), .second, .val (.long dep), .second, .val (.int lo), .val (.int hi), .val (.int (-1 : Int32)), .val (.int mid), .unset] [(.int (fd (mid).toNatClampNeg))])) (fun _ k => X28.iaload hx (j := mid) (v := (.int (fd (mid).toNatClampNeg))) (by rw [e28]; exact Ar_29.1) (State.isArrayOf_alike hZ.alike Ar_29.2.1) Ar_29.2.2 hin_29 hat_29 (g := (mkF m 133 #[.val (.ref a), .val (.long nm), .second, .val (.long dep), .second, .val (.int lo), .val (.int hi), .val (.int (-1 : Int32)), .val (.int mid), .unset] [(.int mid), (.ref dA)])) rfl rfl (hb hby own_d5_133) _ k) ?_
            refine own_go (T' := T28) (g' := (mkF m 135 #[.val (.ref a), .val (.long nm), .second, .val (.long dep), .second, .val (.int lo), .val (.int hi), .val (.int (-1 : Int32)), .val (.int mid), .unset] [(.long ((fd (mid).toNatClampNeg).toInt64))])) (fun _ k => XS.i2l X28.here hx rfl (hb hby own_d5_134) rfl k) ?_
            refine own_go (T' := T28) (g' := (mkF m 136 #[.val (.ref a), .val (.long nm), .second, .val (.long dep), .second, .val (.int lo), .val (.int hi), .val (.int (-1 : Int32)), .val (.int mid), .unset] [(.long dep), (.long ((fd (mid).toNatClampNeg).toInt64))])) (fun _ k => XS.lloadN X28.here hx rfl (hb hby own_d5_135) rfl k) ?_
            refine own_go (T' := T28) (g' := (mkF m 137 #[.val (.ref a), .val (.long nm), .second, .val (.long dep), .second, .val (.int lo), .val (.int hi), .val (.int (-1 : Int32)), .val (.int mid), .unset] [(.int (lcmpW ((fd (mid).toNatClampNeg).toInt64) dep))])) (fun _ k => XS.lcmp X28.here hx rfl (hb hby own_d5_136) rfl k) ?_
            by_cases c30 : ((fd (mid).toNatClampNeg).toInt64) < dep
            · refine own_go (T' := T28) (g' := (mkF m 140 #[.val (.ref a), .val (.long nm), .second, .val (.long dep), .second, .val (.int lo), .val (.int hi), .val (.int (-1 : Int32)), .val (.int mid), .unset] [])) (fun _ k => XS.ifNo X28.here hx rfl (hb hby own_d5_137) rfl ((if0 _ _).trans (tlt ((lw_lt ((fd (mid).toNatClampNeg).toInt64) dep).mpr c30)).2.1) k) ?_
              refine own_go (T' := T28) (g' := (mkF m 142 #[.val (.ref a), .val (.long nm), .second, .val (.long dep), .second, .val (.int lo), .val (.int hi), .val (.int (-1 : Int32)), .val (.int mid), .unset] [(.int mid)])) (fun _ k => XS.iload X28.here hx rfl (hb hby own_d5_140) rfl k) ?_
              refine own_go (T' := T28) (g' := (mkF m 143 #[.val (.ref a), .val (.long nm), .second, .val (.long dep), .second, .val (.int lo), .val (.int hi), .val (.int (-1 : Int32)), .val (.int mid), .unset] [(.int (1 : Int32)), (.int mid)])) (fun _ k => XS.iconst X28.here hx rfl (hb hby own_d5_142) k) ?_
              refine own_go (T' := T28) (g' := (mkF m 144 #[.val (.ref a), .val (.long nm), .second, .val (.long dep), .second, .val (.int lo), .val (.int hi), .val (.int (-1 : Int32)), .val (.int mid), .unset] [(.int (mid + (1 : Int32)))])) (fun _ k => XS.iadd X28.here hx rfl (hb hby own_d5_143) rfl k) ?_
              refine own_go (T' := T28) (g' := (mkF m 146 #[.val (.ref a), .val (.long nm), .second, .val (.long dep), .second, .val (.int (mid + (1 : Int32))), .val (.int hi), .val (.int (-1 : Int32)), .val (.int mid), .unset] [])) (fun _ k => XS.istore X28.here hx rfl (hb hby own_d5_144) rfl (l' := #[.val (.ref a), .val (.long nm), .second, .val (.long dep), .second, .val (.int (mid + (1 : Int32))), .val (.int hi), .val (.int (-1 : Int32)), .val (.int mid), .unset]) rfl k) ?_
              refine own_go (T' := T28) (g' := (mkF m 175 #[.val (.ref a), .val (.long nm), .second, .val (.long dep), .second, .val (.int (mid + (1 : Int32))), .val (.int hi), .val (.int (-1 : Int32)), .val (.int mid), .unset] [])) (fun _ k => XS.goto X28.here hx rfl (pc0 := 146) (pc' := 175) rfl (hb hby own_d5_146) (by decide) (by decide) k) ?_
              refine own_go (T' := T28) (g' := (mkF m 106 #[.val (.ref a), .val (.long nm), .second, .val (.long dep), .second, .val (.int (mid + (1 : Int32))), .val (.int hi), .val (.int (-1 : Int32)), .val (.int mid), .unset] [])) (fun _ k => XS.goto X28.here hx rfl (pc0 := 175) (pc' := 106) rfl (hb hby own_d5_175) (by decide) (by decide) k) ?_
              have hd : (fd mid.toNatClampNeg).toInt < dep.toInt := by (try simp only [own_ln1, own_l0, own_l1, own_l2, own_l3, own_l4, own_l5, own_l6, own_l7, own_l8, own_l9, own_l12, own_l32, own_L0, own_L1, own_L2, own_L3, own_L7, Int32.lt_iff_toInt_lt, ← Int32.toInt_inj, Int64.lt_iff_toInt_lt, ← Int64.toInt_inj, and_true, true_and, and_false, false_and, or_true, true_or, or_false, false_or, not_true_eq_false, not_false_eq_true, ne_eq, true_implies, false_implies, implies_true] at hr c17 c20 c27 c30 ⊢) <;> omega
              exact LP 20 _ _ _ _ _ _ (Or.inl (by (try simp only [own_ln1, own_l0, own_l1, own_l2, own_l3, own_l4, own_l5, own_l6, own_l7, own_l8, own_l9, own_l12, own_l32, own_L0, own_L1, own_L2, own_L3, own_L7, Int32.lt_iff_toInt_lt, ← Int32.toInt_inj, Int64.lt_iff_toInt_lt, ← Int64.toInt_inj, and_true, true_and, and_false, false_and, or_true, true_or, or_false, false_or, not_true_eq_false, not_false_eq_true, ne_eq, true_implies, false_implies, implies_true] at hr c17 c20 c27 c30 ⊢) <;> omega)) (by (try simp only [own_ln1, own_l0, own_l1, own_l2, own_l3, own_l4, own_l5, own_l6, own_l7, own_l8, own_l9, own_l12, own_l32, own_L0, own_L1, own_L2, own_L3, own_L7, Int32.lt_iff_toInt_lt, ← Int32.toInt_inj, Int64.lt_iff_toInt_lt, ← Int64.toInt_inj, and_true, true_and, and_false, false_and, or_true, true_or, or_false, false_or, not_true_eq_false, not_false_eq_true, ne_eq, true_implies, false_implies, implies_true] at hr c17 c20 c27 c30 ⊢) <;> omega) (Or.inl (by (try simp only [own_ln1, own_l0, own_l1, own_l2, own_l3, own_l4, own_l5, own_l6, own_l7, own_l8, own_l9, own_l12, own_l32, own_L0, own_L1, own_L2, own_L3, own_L7, Int32.lt_iff_toInt_lt, ← Int32.toInt_inj, Int64.lt_iff_toInt_lt, ← Int64.toInt_inj, and_true, true_and, and_false, false_and, or_true, true_or, or_false, false_or, not_true_eq_false, not_false_eq_true, ne_eq, true_implies, false_implies, implies_true] at hr c17 c20 c27 c30 ⊢) <;> omega)) (fun x h1 h2' => by
                by_cases hq : x = mid.toNatClampNeg
                · rw [hq]; exact hd
                · have := hss x mid.toNatClampNeg h1 (by omega) (by omega); omega) hhigh X28 e28 NF
            · refine own_go (T' := T28) (g' := (mkF m 149 #[.val (.ref a), .val (.long nm), .second, .val (.long dep), .second, .val (.int lo), .val (.int hi), .val (.int (-1 : Int32)), .val (.int mid), .unset] [])) (fun _ k => XS.ifYes X28.here hx rfl (pc0 := 137) (pc' := 149) rfl (hb hby own_d5_137) rfl ((if0 _ _).trans (flt (fun h => c30 ((lw_lt ((fd (mid).toNatClampNeg).toInt64) dep).mp h))).2.1) (by decide) (by decide) k) ?_
              refine own_go (T' := T28) (g' := (mkF m 150 #[.val (.ref a), .val (.long nm), .second, .val (.long dep), .second, .val (.int lo), .val (.int hi), .val (.int (-1 : Int32)), .val (.int mid), .unset] [(.ref a)])) (fun _ k => XS.aloadN X28.here hx rfl (hb hby own_d5_149) rfl rfl k) ?_
              obtain ⟨T31, X31, e31, st31⟩ := getF X28 hx hZ hown (host := "") (Or.inl (hw _ (List.mem_of_getElem? (i := 20) rfl))) Via.refl e28 F_a_depths (g := (mkF m 150 #[.val (.ref a), .val (.long nm), .second, .val (.long dep), .second, .val (.int lo), .val (.int hi), .val (.int (-1 : Int32)), .val (.int mid), .unset] [(.ref a)])) rfl rfl (hb hby own_d5_150)
              refine own_go (T' := T31) (g' := (mkF m 153 #[.val (.ref a), .val (.long nm), .second, .val (.long dep), .second, .val (.int lo), .val (.int hi), .val (.int (-1 : Int32)), .val (.int mid), .unset] [(.ref dA)])) (fun _ k => st31 _ k) ?_
              refine own_go (T' := T31) (g' := (mkF m 155 #[.val (.ref a), .val (.long nm), .second, .val (.long dep), .second, .val (.int lo), .val (.int hi), .val (.int (-1 : Int32)), .val (.int mid), .unset] [(.int mid), (.ref dA)])) (fun _ k => XS.iload X31.here hx rfl (hb hby own_d5_153) rfl k) ?_
              obtain ⟨c_32, Ar_32, S_32, N_32, H_32⟩ := id I_dA
              have hin_32 : ¬ (mid < 0 ∨ c_32.slots.size ≤ (mid).toNatClampNeg) := inb_of S_32 ⟨by (try simp only [own_ln1, own_l0, own_l1, own_l2, own_l3, own_l4, own_l5, own_l6, own_l7, own_l8, own_l9, own_l12, own_l32, own_L0, own_L1, own_L2, own_L3, own_L7, Int32.lt_iff_toInt_lt, ← Int32.toInt_inj, Int64.lt_iff_toInt_lt, ← Int64.toInt_inj, and_true, true_and, and_false, false_and, or_true, true_or, or_false, false_or, not_true_eq_false, not_false_eq_true, ne_eq, true_implies, false_implies, implies_true] at hr c17 c20 c27 c30 ⊢) <;> omega, by (try simp only [own_ln1, own_l0, own_l1, own_l2, own_l3, own_l4, own_l5, own_l6, own_l7, own_l8, own_l9, own_l12, own_l32, own_L0, own_L1, own_L2, own_L3, own_L7, Int32.lt_iff_toInt_lt, ← Int32.toInt_inj, Int64.lt_iff_toInt_lt, ← Int64.toInt_inj, and_true, true_and, and_false, false_and, or_true, true_or, or_false, false_or, not_true_eq_false, not_false_eq_true, ne_eq, true_implies, false_implies, implies_true] at hr c17 c20 c27 c30 ⊢) <;> omega⟩
              have hat_32 : c_32.slots[(mid).toNatClampNeg]? = some (.int (fd (mid).toNatClampNeg)) := H_32 _ (Nat.lt_of_not_le fun y => hin_32 (Or.inr y))
              refine own_go (T' := T31) (g' := (mkF m 156 #[.val (.ref a), .val (.long nm), .second, .val (.long dep), .second, .val (.int lo), .val (.int hi), .val (.int (-1 : Int32)), .val (.int mid), .unset] [(.int (fd (mid).toNatClampNeg))])) (fun _ k => X31.iaload hx (j := mid) (v := (.int (fd (mid).toNatClampNeg))) (by rw [e31]; exact Ar_32.1) (State.isArrayOf_alike hZ.alike Ar_32.2.1) Ar_32.2.2 hin_32 hat_32 (g := (mkF m 155 #[.val (.ref a), .val (.long nm), .second, .val (.long dep), .second, .val (.int lo), .val (.int hi), .val (.int (-1 : Int32)), .val (.int mid), .unset] [(.int mid), (.ref dA)])) rfl rfl (hb hby own_d5_155) _ k) ?_
              refine own_go (T' := T31) (g' := (mkF m 157 #[.val (.ref a), .val (.long nm), .second, .val (.long dep), .second, .val (.int lo), .val (.int hi), .val (.int (-1 : Int32)), .val (.int mid), .unset] [(.long ((fd (mid).toNatClampNeg).toInt64))])) (fun _ k => XS.i2l X31.here hx rfl (hb hby own_d5_156) rfl k) ?_
              refine own_go (T' := T31) (g' := (mkF m 158 #[.val (.ref a), .val (.long nm), .second, .val (.long dep), .second, .val (.int lo), .val (.int hi), .val (.int (-1 : Int32)), .val (.int mid), .unset] [(.long dep), (.long ((fd (mid).toNatClampNeg).toInt64))])) (fun _ k => XS.lloadN X31.here hx rfl (hb hby own_d5_157) rfl k) ?_
              refine own_go (T' := T31) (g' := (mkF m 159 #[.val (.ref a), .val (.long nm), .second, .val (.long dep), .second, .val (.int lo), .val (.int hi), .val (.int (-1 : Int32)), .val (.int mid), .unset] [(.int (lcmpW ((fd (mid).toNatClampNeg).toInt64) dep))])) (fun _ k => XS.lcmp X31.here hx rfl (hb hby own_d5_158) rfl k) ?_
              by_cases c33 : dep < ((fd (mid).toNatClampNeg).toInt64)
              · refine own_go (T' := T31) (g' := (mkF m 162 #[.val (.ref a), .val (.long nm), .second, .val (.long dep), .second, .val (.int lo), .val (.int hi), .val (.int (-1 : Int32)), .val (.int mid), .unset] [])) (fun _ k => XS.ifNo X31.here hx rfl (hb hby own_d5_159) rfl ((if0 _ _).trans (tlt ((lw_gt ((fd (mid).toNatClampNeg).toInt64) dep).mpr c33)).2.2.2) k) ?_
                refine own_go (T' := T31) (g' := (mkF m 164 #[.val (.ref a), .val (.long nm), .second, .val (.long dep), .second, .val (.int lo), .val (.int hi), .val (.int (-1 : Int32)), .val (.int mid), .unset] [(.int mid)])) (fun _ k => XS.iload X31.here hx rfl (hb hby own_d5_162) rfl k) ?_
                refine own_go (T' := T31) (g' := (mkF m 165 #[.val (.ref a), .val (.long nm), .second, .val (.long dep), .second, .val (.int lo), .val (.int hi), .val (.int (-1 : Int32)), .val (.int mid), .unset] [(.int (1 : Int32)), (.int mid)])) (fun _ k => XS.iconst X31.here hx rfl (hb hby own_d5_164) k) ?_
                refine own_go (T' := T31) (g' := (mkF m 166 #[.val (.ref a), .val (.long nm), .second, .val (.long dep), .second, .val (.int lo), .val (.int hi), .val (.int (-1 : Int32)), .val (.int mid), .unset] [(.int (mid - (1 : Int32)))])) (fun _ k => XS.isub X31.here hx rfl (hb hby own_d5_165) rfl k) ?_
                refine own_go (T' := T31) (g' := (mkF m 168 #[.val (.ref a), .val (.long nm), .second, .val (.long dep), .second, .val (.int lo), .val (.int (mid - (1 : Int32))), .val (.int (-1 : Int32)), .val (.int mid), .unset] [])) (fun _ k => XS.istore X31.here hx rfl (hb hby own_d5_166) rfl (l' := #[.val (.ref a), .val (.long nm), .second, .val (.long dep), .second, .val (.int lo), .val (.int (mid - (1 : Int32))), .val (.int (-1 : Int32)), .val (.int mid), .unset]) rfl k) ?_
                refine own_go (T' := T31) (g' := (mkF m 175 #[.val (.ref a), .val (.long nm), .second, .val (.long dep), .second, .val (.int lo), .val (.int (mid - (1 : Int32))), .val (.int (-1 : Int32)), .val (.int mid), .unset] [])) (fun _ k => XS.goto X31.here hx rfl (pc0 := 168) (pc' := 175) rfl (hb hby own_d5_168) (by decide) (by decide) k) ?_
                refine own_go (T' := T31) (g' := (mkF m 106 #[.val (.ref a), .val (.long nm), .second, .val (.long dep), .second, .val (.int lo), .val (.int (mid - (1 : Int32))), .val (.int (-1 : Int32)), .val (.int mid), .unset] [])) (fun _ k => XS.goto X31.here hx rfl (pc0 := 175) (pc' := 106) rfl (hb hby own_d5_175) (by decide) (by decide) k) ?_
                have hd : dep.toInt < (fd mid.toNatClampNeg).toInt := by (try simp only [own_ln1, own_l0, own_l1, own_l2, own_l3, own_l4, own_l5, own_l6, own_l7, own_l8, own_l9, own_l12, own_l32, own_L0, own_L1, own_L2, own_L3, own_L7, Int32.lt_iff_toInt_lt, ← Int32.toInt_inj, Int64.lt_iff_toInt_lt, ← Int64.toInt_inj, and_true, true_and, and_false, false_and, or_true, true_or, or_false, false_or, not_true_eq_false, not_false_eq_true, ne_eq, true_implies, false_implies, implies_true] at hr c17 c20 c27 c30 c33 ⊢) <;> omega
                exact LP 20 _ _ _ _ _ _ (Or.inl (by (try simp only [own_ln1, own_l0, own_l1, own_l2, own_l3, own_l4, own_l5, own_l6, own_l7, own_l8, own_l9, own_l12, own_l32, own_L0, own_L1, own_L2, own_L3, own_L7, Int32.lt_iff_toInt_lt, ← Int32.toInt_inj, Int64.lt_iff_toInt_lt, ← Int64.toInt_inj, and_true, true_and, and_false, false_and, or_true, true_or, or_false, false_or, not_true_eq_false, not_false_eq_true, ne_eq, true_implies, false_implies, implies_true] at hr c17 c20 c27 c30 c33 ⊢) <;> omega)) (by (try simp only [own_ln1, own_l0, own_l1, own_l2, own_l3, own_l4, own_l5, own_l6, own_l7, own_l8, own_l9, own_l12, own_l32, own_L0, own_L1, own_L2, own_L3, own_L7, Int32.lt_iff_toInt_lt, ← Int32.toInt_inj, Int64.lt_iff_toInt_lt, ← Int64.toInt_inj, and_true, true_and, and_false, false_and, or_true, true_or, or_false, false_or, not_true_eq_false, not_false_eq_true, ne_eq, true_implies, false_implies, implies_true] at hr c17 c20 c27 c30 c33 ⊢) <;> omega) (Or.inl (by (try simp only [own_ln1, own_l0, own_l1, own_l2, own_l3, own_l4, own_l5, own_l6, own_l7, own_l8, own_l9, own_l12, own_l32, own_L0, own_L1, own_L2, own_L3, own_L7, Int32.lt_iff_toInt_lt, ← Int32.toInt_inj, Int64.lt_iff_toInt_lt, ← Int64.toInt_inj, and_true, true_and, and_false, false_and, or_true, true_or, or_false, false_or, not_true_eq_false, not_false_eq_true, ne_eq, true_implies, false_implies, implies_true] at hr c17 c20 c27 c30 c33 ⊢) <;> omega)) hlow (fun x h1 h2' => by
                  by_cases hq : x = mid.toNatClampNeg
                  · rw [hq]; exact hd
                  · have := hss mid.toNatClampNeg x (by omega) (by omega) h2'; omega) X31 e31 NF
              · refine own_go (T' := T31) (g' := (mkF m 171 #[.val (.ref a), .val (.long nm), .second, .val (.long dep), .second, .val (.int lo), .val (.int hi), .val (.int (-1 : Int32)), .val (.int mid), .unset] [])) (fun _ k => XS.ifYes X31.here hx rfl (pc0 := 159) (pc' := 171) rfl (hb hby own_d5_159) rfl ((if0 _ _).trans (flt (fun h => c33 ((lw_gt ((fd (mid).toNatClampNeg).toInt64) dep).mp h))).2.2.2) (by decide) (by decide) k) ?_
                refine own_go (T' := T31) (g' := (mkF m 173 #[.val (.ref a), .val (.long nm), .second, .val (.long dep), .second, .val (.int lo), .val (.int hi), .val (.int (-1 : Int32)), .val (.int mid), .unset] [(.int mid)])) (fun _ k => XS.iload X31.here hx rfl (hb hby own_d5_171) rfl k) ?_
                refine own_go (T' := T31) (g' := (mkF m 175 #[.val (.ref a), .val (.long nm), .second, .val (.long dep), .second, .val (.int lo), .val (.int hi), .val (.int mid), .val (.int mid), .unset] [])) (fun _ k => XS.istore X31.here hx rfl (hb hby own_d5_173) rfl (l' := #[.val (.ref a), .val (.long nm), .second, .val (.long dep), .second, .val (.int lo), .val (.int hi), .val (.int mid), .val (.int mid), .unset]) rfl k) ?_
                refine own_go (T' := T31) (g' := (mkF m 106 #[.val (.ref a), .val (.long nm), .second, .val (.long dep), .second, .val (.int lo), .val (.int hi), .val (.int mid), .val (.int mid), .unset] [])) (fun _ k => XS.goto X31.here hx rfl (pc0 := 175) (pc' := 106) rfl (hb hby own_d5_175) (by decide) (by decide) k) ?_
                have hfd : (lo.toInt ≤ mid.toInt ∧ mid.toInt < hi1.toInt ∧ (fd mid.toInt.toNat).toInt = dep.toInt) := by
                  have pe9 : mid.toInt.toNat = mid.toNatClampNeg := by omega
                  rw [pe9]; (try simp only [own_ln1, own_l0, own_l1, own_l2, own_l3, own_l4, own_l5, own_l6, own_l7, own_l8, own_l9, own_l12, own_l32, own_L0, own_L1, own_L2, own_L3, own_L7, Int32.lt_iff_toInt_lt, ← Int32.toInt_inj, Int64.lt_iff_toInt_lt, ← Int64.toInt_inj, and_true, true_and, and_false, false_and, or_true, true_or, or_false, false_or, not_true_eq_false, not_false_eq_true, ne_eq, true_implies, false_implies, implies_true] at hr c17 c20 c27 c30 c33 ⊢) <;> omega
                have h0a := hlow
                have h0b := hhigh
                exact LP 20 _ _ mid _ _ _ (Or.inr (by (try simp only [own_ln1, own_l0, own_l1, own_l2, own_l3, own_l4, own_l5, own_l6, own_l7, own_l8, own_l9, own_l12, own_l32, own_L0, own_L1, own_L2, own_L3, own_L7, Int32.lt_iff_toInt_lt, ← Int32.toInt_inj, Int64.lt_iff_toInt_lt, ← Int64.toInt_inj, and_true, true_and, and_false, false_and, or_true, true_or, or_false, false_or, not_true_eq_false, not_false_eq_true, ne_eq, true_implies, false_implies, implies_true] at hr c17 c20 c27 c30 c33 ⊢) <;> omega)) (by (try simp only [own_ln1, own_l0, own_l1, own_l2, own_l3, own_l4, own_l5, own_l6, own_l7, own_l8, own_l9, own_l12, own_l32, own_L0, own_L1, own_L2, own_L3, own_L7, Int32.lt_iff_toInt_lt, ← Int32.toInt_inj, Int64.lt_iff_toInt_lt, ← Int64.toInt_inj, and_true, true_and, and_false, false_and, or_true, true_or, or_false, false_or, not_true_eq_false, not_false_eq_true, ne_eq, true_implies, false_implies, implies_true] at hr c17 c20 c27 c30 c33 ⊢) <;> omega) (Or.inr hfd) hlow hhigh X31 e31 NF
          · refine own_go (T' := T18) (g' := (mkF m 87 #[.val (.ref a), .val (.long nm), .second, .val (.long dep), .second, .val (.int lo), .val (.int hi), .val (.int (-1 : Int32)), .val (.long gs), .second] [])) (fun _ k => XS.ifNo X18.here hx rfl (hb hby own_d5_84) rfl ((if0 _ _).trans (flt (fun h => c27 ((lw_gt gs (hi.toInt64)).mp h))).2.2.1) k) ?_
            refine own_go (T' := T18) (g' := (mkF m 88 #[.val (.ref a), .val (.long nm), .second, .val (.long dep), .second, .val (.int lo), .val (.int hi), .val (.int (-1 : Int32)), .val (.long gs), .second] [(.ref a)])) (fun _ k => XS.aloadN X18.here hx rfl (hb hby own_d5_87) rfl rfl k) ?_
            obtain ⟨T34, X34, e34, st34⟩ := getF X18 hx hZ hown (host := "") (Or.inl (hw _ (List.mem_of_getElem? (i := 20) rfl))) Via.refl e18 F_a_depths (g := (mkF m 88 #[.val (.ref a), .val (.long nm), .second, .val (.long dep), .second, .val (.int lo), .val (.int hi), .val (.int (-1 : Int32)), .val (.long gs), .second] [(.ref a)])) rfl rfl (hb hby own_d5_88)
            refine own_go (T' := T34) (g' := (mkF m 91 #[.val (.ref a), .val (.long nm), .second, .val (.long dep), .second, .val (.int lo), .val (.int hi), .val (.int (-1 : Int32)), .val (.long gs), .second] [(.ref dA)])) (fun _ k => st34 _ k) ?_
            refine own_go (T' := T34) (g' := (mkF m 93 #[.val (.ref a), .val (.long nm), .second, .val (.long dep), .second, .val (.int lo), .val (.int hi), .val (.int (-1 : Int32)), .val (.long gs), .second] [(.long gs), (.ref dA)])) (fun _ k => XS.lload X34.here hx rfl (hb hby own_d5_91) rfl k) ?_
            refine own_go (T' := T34) (g' := (mkF m 94 #[.val (.ref a), .val (.long nm), .second, .val (.long dep), .second, .val (.int lo), .val (.int hi), .val (.int (-1 : Int32)), .val (.long gs), .second] [(.int (gs.toInt32)), (.ref dA)])) (fun _ k => XS.l2i X34.here hx rfl (hb hby own_d5_93) rfl k) ?_
            obtain ⟨c_35, Ar_35, S_35, N_35, H_35⟩ := id I_dA
            have hge : gs.toInt32.toInt = gs.toInt := by (try simp only [own_ln1, own_l0, own_l1, own_l2, own_l3, own_l4, own_l5, own_l6, own_l7, own_l8, own_l9, own_l12, own_l32, own_L0, own_L1, own_L2, own_L3, own_L7, Int32.lt_iff_toInt_lt, ← Int32.toInt_inj, Int64.lt_iff_toInt_lt, ← Int64.toInt_inj, and_true, true_and, and_false, false_and, or_true, true_or, or_false, false_or, not_true_eq_false, not_false_eq_true, ne_eq, true_implies, false_implies, implies_true] at hr c17 c20 c27 ⊢) <;> omega
            have hgn := own_nat gs.toInt32 (by (try simp only [own_ln1, own_l0, own_l1, own_l2, own_l3, own_l4, own_l5, own_l6, own_l7, own_l8, own_l9, own_l12, own_l32, own_L0, own_L1, own_L2, own_L3, own_L7, Int32.lt_iff_toInt_lt, ← Int32.toInt_inj, Int64.lt_iff_toInt_lt, ← Int64.toInt_inj, and_true, true_and, and_false, false_and, or_true, true_or, or_false, false_or, not_true_eq_false, not_false_eq_true, ne_eq, true_implies, false_implies, implies_true] at hr c17 c20 c27 ⊢) <;> omega)
            have hl3 := c_i2l (fd gs.toInt32.toNatClampNeg)
            have hin_35 : ¬ ((gs.toInt32) < 0 ∨ c_35.slots.size ≤ ((gs.toInt32)).toNatClampNeg) := inb_of S_35 ⟨by (try simp only [own_ln1, own_l0, own_l1, own_l2, own_l3, own_l4, own_l5, own_l6, own_l7, own_l8, own_l9, own_l12, own_l32, own_L0, own_L1, own_L2, own_L3, own_L7, Int32.lt_iff_toInt_lt, ← Int32.toInt_inj, Int64.lt_iff_toInt_lt, ← Int64.toInt_inj, and_true, true_and, and_false, false_and, or_true, true_or, or_false, false_or, not_true_eq_false, not_false_eq_true, ne_eq, true_implies, false_implies, implies_true] at hr c17 c20 c27 ⊢) <;> omega, by (try simp only [own_ln1, own_l0, own_l1, own_l2, own_l3, own_l4, own_l5, own_l6, own_l7, own_l8, own_l9, own_l12, own_l32, own_L0, own_L1, own_L2, own_L3, own_L7, Int32.lt_iff_toInt_lt, ← Int32.toInt_inj, Int64.lt_iff_toInt_lt, ← Int64.toInt_inj, and_true, true_and, and_false, false_and, or_true, true_or, or_false, false_or, not_true_eq_false, not_false_eq_true, ne_eq, true_implies, false_implies, implies_true] at hr c17 c20 c27 ⊢) <;> omega⟩
            have hat_35 : c_35.slots[((gs.toInt32)).toNatClampNeg]? = some (.int (fd ((gs.toInt32)).toNatClampNeg)) := H_35 _ (Nat.lt_of_not_le fun y => hin_35 (Or.inr y))
            refine own_go (T' := T34) (g' := (mkF m 95 #[.val (.ref a), .val (.long nm), .second, .val (.long dep), .second, .val (.int lo), .val (.int hi), .val (.int (-1 : Int32)), .val (.long gs), .second] [(.int (fd ((gs.toInt32)).toNatClampNeg))])) (fun _ k => X34.iaload hx (j := (gs.toInt32)) (v := (.int (fd ((gs.toInt32)).toNatClampNeg))) (by rw [e34]; exact Ar_35.1) (State.isArrayOf_alike hZ.alike Ar_35.2.1) Ar_35.2.2 hin_35 hat_35 (g := (mkF m 94 #[.val (.ref a), .val (.long nm), .second, .val (.long dep), .second, .val (.int lo), .val (.int hi), .val (.int (-1 : Int32)), .val (.long gs), .second] [(.int (gs.toInt32)), (.ref dA)])) rfl rfl (hb hby own_d5_94) _ k) ?_
            refine own_go (T' := T34) (g' := (mkF m 96 #[.val (.ref a), .val (.long nm), .second, .val (.long dep), .second, .val (.int lo), .val (.int hi), .val (.int (-1 : Int32)), .val (.long gs), .second] [(.long ((fd ((gs.toInt32)).toNatClampNeg).toInt64))])) (fun _ k => XS.i2l X34.here hx rfl (hb hby own_d5_95) rfl k) ?_
            refine own_go (T' := T34) (g' := (mkF m 97 #[.val (.ref a), .val (.long nm), .second, .val (.long dep), .second, .val (.int lo), .val (.int hi), .val (.int (-1 : Int32)), .val (.long gs), .second] [(.long dep), (.long ((fd ((gs.toInt32)).toNatClampNeg).toInt64))])) (fun _ k => XS.lloadN X34.here hx rfl (hb hby own_d5_96) rfl k) ?_
            refine own_go (T' := T34) (g' := (mkF m 98 #[.val (.ref a), .val (.long nm), .second, .val (.long dep), .second, .val (.int lo), .val (.int hi), .val (.int (-1 : Int32)), .val (.long gs), .second] [(.int (lcmpW ((fd ((gs.toInt32)).toNatClampNeg).toInt64) dep))])) (fun _ k => XS.lcmp X34.here hx rfl (hb hby own_d5_97) rfl k) ?_
            by_cases c36 : ((fd ((gs.toInt32)).toNatClampNeg).toInt64) = dep
            · refine own_go (T' := T34) (g' := (mkF m 101 #[.val (.ref a), .val (.long nm), .second, .val (.long dep), .second, .val (.int lo), .val (.int hi), .val (.int (-1 : Int32)), .val (.long gs), .second] [])) (fun _ k => XS.ifNo X34.here hx rfl (hb hby own_d5_98) rfl ((if0 _ _).trans (teq ((lw_eq ((fd ((gs.toInt32)).toNatClampNeg).toInt64) dep).mpr c36)).2) k) ?_
              refine own_go (T' := T34) (g' := (mkF m 103 #[.val (.ref a), .val (.long nm), .second, .val (.long dep), .second, .val (.int lo), .val (.int hi), .val (.int (-1 : Int32)), .val (.long gs), .second] [(.long gs)])) (fun _ k => XS.lload X34.here hx rfl (hb hby own_d5_101) rfl k) ?_
              refine own_go (T' := T34) (g' := (mkF m 104 #[.val (.ref a), .val (.long nm), .second, .val (.long dep), .second, .val (.int lo), .val (.int hi), .val (.int (-1 : Int32)), .val (.long gs), .second] [(.int (gs.toInt32))])) (fun _ k => XS.l2i X34.here hx rfl (hb hby own_d5_103) rfl k) ?_
              refine own_go (T' := T34) (g' := (mkF m 106 #[.val (.ref a), .val (.long nm), .second, .val (.long dep), .second, .val (.int lo), .val (.int hi), .val (.int (gs.toInt32)), .val (.long gs), .second] [])) (fun _ k => XS.istore X34.here hx rfl (hb hby own_d5_104) rfl (l' := #[.val (.ref a), .val (.long nm), .second, .val (.long dep), .second, .val (.int lo), .val (.int hi), .val (.int (gs.toInt32)), .val (.long gs), .second]) rfl k) ?_
              have hfound : (lo.toInt ≤ gs.toInt32.toInt ∧ gs.toInt32.toInt < hi1.toInt ∧ (fd gs.toInt32.toInt.toNat).toInt = dep.toInt) := by
                have pe9 : gs.toInt32.toInt.toNat = gs.toInt32.toNatClampNeg := by omega
                rw [pe9]; (try simp only [own_ln1, own_l0, own_l1, own_l2, own_l3, own_l4, own_l5, own_l6, own_l7, own_l8, own_l9, own_l12, own_l32, own_L0, own_L1, own_L2, own_L3, own_L7, Int32.lt_iff_toInt_lt, ← Int32.toInt_inj, Int64.lt_iff_toInt_lt, ← Int64.toInt_inj, and_true, true_and, and_false, false_and, or_true, true_or, or_false, false_or, not_true_eq_false, not_false_eq_true, ne_eq, true_implies, false_implies, implies_true] at hr c17 c20 c27 c36 ⊢) <;> omega
              refine own_go (T' := T34) (g' := (mkF m 108 #[.val (.ref a), .val (.long nm), .second, .val (.long dep), .second, .val (.int lo), .val (.int hi), .val (.int (gs.toInt32)), .val (.long gs), .second] [(.int (gs.toInt32))])) (fun _ k => XS.iload X34.here hx rfl (hb hby own_d5_106) rfl k) ?_
              have hge0 : ¬ gs.toInt32 < (0 : Int32) := by (try simp only [own_ln1, own_l0, own_l1, own_l2, own_l3, own_l4, own_l5, own_l6, own_l7, own_l8, own_l9, own_l12, own_l32, own_L0, own_L1, own_L2, own_L3, own_L7, Int32.lt_iff_toInt_lt, ← Int32.toInt_inj, Int64.lt_iff_toInt_lt, ← Int64.toInt_inj, and_true, true_and, and_false, false_and, or_true, true_or, or_false, false_or, not_true_eq_false, not_false_eq_true, ne_eq, true_implies, false_implies, implies_true] at hfound ⊢) <;> omega
              refine own_go (T' := T34) (g' := (mkF m 178 #[.val (.ref a), .val (.long nm), .second, .val (.long dep), .second, .val (.int lo), .val (.int hi), .val (.int (gs.toInt32)), .val (.long gs), .second] [])) (fun _ k => XS.ifYes X34.here hx rfl (pc0 := 108) (pc' := 178) rfl (hb hby own_d5_108) rfl ((if0 _ _).trans (flt hge0).2.1) (by decide) (by decide) k) ?_
              refine own_go (T' := T34) (g' := (mkF m 180 #[.val (.ref a), .val (.long nm), .second, .val (.long dep), .second, .val (.int lo), .val (.int hi), .val (.int (gs.toInt32)), .val (.long gs), .second] [(.int (gs.toInt32))])) (fun _ k => XS.iload X34.here hx rfl (hb hby own_d5_178) rfl k) ?_
              refine own_ret X34 Bd.notSynchronized (some (.int (gs.toInt32))) (fun h => by rw [Bd.returns] at h; cases h) (fun fs hr => retI X34 hx Bd.returns (hb hby own_d5_180) hr) ?_ (by decide) (by decide)
              show (own_Q5 Z a nm dep s2 t2 dA N cp fS fT fd h0 n0) (some (.int (gs.toInt32))) T34.heap _
              rw [e34]
              refine ⟨⟨_, rfl, fun hx => absurd hr hx, fun _ => ?_⟩, NF, rfl⟩
              rw [elo, ehi]
              exact Or.inr hfound
            · refine own_go (T' := T34) (g' := (mkF m 106 #[.val (.ref a), .val (.long nm), .second, .val (.long dep), .second, .val (.int lo), .val (.int hi), .val (.int (-1 : Int32)), .val (.long gs), .second] [])) (fun _ k => XS.ifYes X34.here hx rfl (pc0 := 98) (pc' := 106) rfl (hb hby own_d5_98) rfl ((if0 _ _).trans (feq (fun h => c36 ((lw_eq ((fd ((gs.toInt32)).toNatClampNeg).toInt64) dep).mp h))).2) (by decide) (by decide) k) ?_
              have hlow : ∀ x : Nat, lo.toInt ≤ x → (x : Int) < lo.toInt → (fd x).toInt < dep.toInt := fun x h1 h2' => absurd h1 (by omega)
              have hhigh : ∀ x : Nat, hi.toInt < x → (x : Int) < hi1.toInt → dep.toInt < (fd x).toInt := fun x h1 h2' => absurd h1 (by omega)
              refine own_go (T' := T34) (g' := (mkF m 108 #[.val (.ref a), .val (.long nm), .second, .val (.long dep), .second, .val (.int lo), .val (.int hi), .val (.int (-1 : Int32)), .val (.long gs), .second] [(.int (-1 : Int32))])) (fun _ k => XS.iload X34.here hx rfl (hb hby own_d5_106) rfl k) ?_
              refine own_go (T' := T34) (g' := (mkF m 111 #[.val (.ref a), .val (.long nm), .second, .val (.long dep), .second, .val (.int lo), .val (.int hi), .val (.int (-1 : Int32)), .val (.long gs), .second] [])) (fun _ k => XS.ifNo X34.here hx rfl (hb hby own_d5_108) rfl (by decide) k) ?_
              refine own_go (T' := T34) (g' := (mkF m 113 #[.val (.ref a), .val (.long nm), .second, .val (.long dep), .second, .val (.int lo), .val (.int hi), .val (.int (-1 : Int32)), .val (.long gs), .second] [(.int lo)])) (fun _ k => XS.iload X34.here hx rfl (hb hby own_d5_111) rfl k) ?_
              refine own_go (T' := T34) (g' := (mkF m 115 #[.val (.ref a), .val (.long nm), .second, .val (.long dep), .second, .val (.int lo), .val (.int hi), .val (.int (-1 : Int32)), .val (.long gs), .second] [(.int hi), (.int lo)])) (fun _ k => XS.iload X34.here hx rfl (hb hby own_d5_113) rfl k) ?_
              refine own_go (T' := T34) (g' := (mkF m 118 #[.val (.ref a), .val (.long nm), .second, .val (.long dep), .second, .val (.int lo), .val (.int hi), .val (.int (-1 : Int32)), .val (.long gs), .second] [])) (fun _ k => XS.icmpNo X34.here hx rfl (hb hby own_d5_115) rfl (flt c17).2.2.1 k) ?_
              have hle : lo.toInt ≤ hi.toInt := by (try simp only [own_ln1, own_l0, own_l1, own_l2, own_l3, own_l4, own_l5, own_l6, own_l7, own_l8, own_l9, own_l12, own_l32, own_L0, own_L1, own_L2, own_L3, own_L7, Int32.lt_iff_toInt_lt, ← Int32.toInt_inj, Int64.lt_iff_toInt_lt, ← Int64.toInt_inj, and_true, true_and, and_false, false_and, or_true, true_or, or_false, false_or, not_true_eq_false, not_false_eq_true, ne_eq, true_implies, false_implies, implies_true] at hr c17 c20 c27 c36 ⊢) <;> omega
              have ha := own_add2 lo hi (by omega)
              have hbm := c_iushr (lo + hi) (1 : Int32) 1 (by decide) (by decide)
              simp only [Nat.reducePow, Int.cast_ofNat_Int] at hbm
              refine own_go (T' := T34) (g' := (mkF m 120 #[.val (.ref a), .val (.long nm), .second, .val (.long dep), .second, .val (.int lo), .val (.int hi), .val (.int (-1 : Int32)), .val (.long gs), .second] [(.int lo)])) (fun _ k => XS.iload X34.here hx rfl (hb hby own_d5_118) rfl k) ?_
              refine own_go (T' := T34) (g' := (mkF m 122 #[.val (.ref a), .val (.long nm), .second, .val (.long dep), .second, .val (.int lo), .val (.int hi), .val (.int (-1 : Int32)), .val (.long gs), .second] [(.int hi), (.int lo)])) (fun _ k => XS.iload X34.here hx rfl (hb hby own_d5_120) rfl k) ?_
              refine own_go (T' := T34) (g' := (mkF m 123 #[.val (.ref a), .val (.long nm), .second, .val (.long dep), .second, .val (.int lo), .val (.int hi), .val (.int (-1 : Int32)), .val (.long gs), .second] [(.int (lo + hi))])) (fun _ k => XS.iadd X34.here hx rfl (hb hby own_d5_122) rfl k) ?_
              refine own_go (T' := T34) (g' := (mkF m 124 #[.val (.ref a), .val (.long nm), .second, .val (.long dep), .second, .val (.int lo), .val (.int hi), .val (.int (-1 : Int32)), .val (.long gs), .second] [(.int (1 : Int32)), (.int (lo + hi))])) (fun _ k => XS.iconst X34.here hx rfl (hb hby own_d5_123) k) ?_
              refine own_go (T' := T34) (g' := (mkF m 125 #[.val (.ref a), .val (.long nm), .second, .val (.long dep), .second, .val (.int lo), .val (.int hi), .val (.int (-1 : Int32)), .val (.long gs), .second] [(.int (((lo + hi).toUInt32 >>> ((1 : Int32) &&& 31).toUInt32).toInt32))])) (fun _ k => XS.iushr X34.here hx rfl (hb hby own_d5_124) rfl k) ?_
              refine own_go (T' := T34) (g' := (mkF m 127 #[.val (.ref a), .val (.long nm), .second, .val (.long dep), .second, .val (.int lo), .val (.int hi), .val (.int (-1 : Int32)), .val (.int (((lo + hi).toUInt32 >>> ((1 : Int32) &&& 31).toUInt32).toInt32)), .unset] [])) (fun _ k => XS.istore X34.here hx rfl (hb hby own_d5_125) rfl (l' := #[.val (.ref a), .val (.long nm), .second, .val (.long dep), .second, .val (.int lo), .val (.int hi), .val (.int (-1 : Int32)), .val (.int (((lo + hi).toUInt32 >>> ((1 : Int32) &&& 31).toUInt32).toInt32)), .unset]) rfl k) ?_
              generalize emi : (((lo + hi).toUInt32 >>> ((1 : Int32) &&& 31).toUInt32).toInt32) = mid at *
              have em := own_nat mid (by omega)
              have hl := c_i2l (fd mid.toNatClampNeg)
              have hm1 := own_add1 mid (by omega)
              have hm2 := c_isub mid (1 : Int32)
              have hm3 := rng32 (mid - (1 : Int32))
              simp only [own_ln1, own_l0, own_l1, own_l2, own_l3, own_l4, own_l5, own_l6, own_l7, own_l8, own_l9, own_l12, own_l32, own_L0, own_L1, own_L2, own_L3, own_L7] at hm2
              refine own_go (T' := T34) (g' := (mkF m 128 #[.val (.ref a), .val (.long nm), .second, .val (.long dep), .second, .val (.int lo), .val (.int hi), .val (.int (-1 : Int32)), .val (.int mid), .unset] [(.ref a)])) (fun _ k => XS.aloadN X34.here hx rfl (hb hby own_d5_127) rfl rfl k) ?_
              obtain ⟨T37, X37, e37, st37⟩ := getF X34 hx hZ hown (host := "") (Or.inl (hw _ (List.mem_of_getElem? (i := 20) rfl))) Via.refl e34 F_a_depths (g := (mkF m 128 #[.val (.ref a), .val (.long nm), .second, .val (.long dep), .second, .val (.int lo), .val (.int hi), .val (.int (-1 : Int32)), .val (.int mid), .unset] [(.ref a)])) rfl rfl (hb hby own_d5_128)
              refine own_go (T' := T37) (g' := (mkF m 131 #[.val (.ref a), .val (.long nm), .second, .val (.long dep), .second, .val (.int lo), .val (.int hi), .val (.int (-1 : Int32)), .val (.int mid), .unset] [(.ref dA)])) (fun _ k => st37 _ k) ?_
              refine own_go (T' := T37) (g' := (mkF m 133 #[.val (.ref a), .val (.long nm), .second, .val (.long dep), .second, .val (.int lo), .val (.int hi), .val (.int (-1 : Int32)), .val (.int mid), .unset] [(.int mid), (.ref dA)])) (fun _ k => XS.iload X37.here hx rfl (hb hby own_d5_131) rfl k) ?_
              obtain ⟨c_38, Ar_38, S_38, N_38, H_38⟩ := id I_dA
              have hin_38 : ¬ (mid < 0 ∨ c_38.slots.size ≤ (mid).toNatClampNeg) := inb_of S_38 ⟨by (try simp only [own_ln1, own_l0, own_l1, own_l2, own_l3, own_l4, own_l5, own_l6, own_l7, own_l8, own_l9, own_l12, own_l32, own_L0, own_L1, own_L2, own_L3, own_L7, Int32.lt_iff_toInt_lt, ← Int32.toInt_inj, Int64.lt_iff_toInt_lt, ← Int64.toInt_inj, and_true, true_and, and_false, false_and, or_true, true_or, or_false, false_or, not_true_eq_false, not_false_eq_true, ne_eq, true_implies, false_implies, implies_true] at hr c17 c20 c27 c36 ⊢) <;> omega, by (try simp only [own_ln1, own_l0, own_l1, own_l2, own_l3, own_l4, own_l5, own_l6, own_l7, own_l8, own_l9, own_l12, own_l32, own_L0, own_L1, own_L2, own_L3, own_L7, Int32.lt_iff_toInt_lt, ← Int32.toInt_inj, Int64.lt_iff_toInt_lt, ← Int64.toInt_inj, and_true, true_and, and_false, false_and, or_true, true_or, or_false, false_or, not_true_eq_false, not_false_eq_true, ne_eq, true_implies, false_implies, implies_true] at hr c17 c20 c27 c36 ⊢) <;> omega⟩
              have hat_38 : c_38.slots[(mid).toNatClampNeg]? = some (.int (fd (mid).toNatClampNeg)) := H_38 _ (Nat.lt_of_not_le fun y => hin_38 (Or.inr y))
              refine own_go (T' := T37) (g' := (mkF m 134 #[.val (.ref a), .val (.long nm), .second, .val (.long dep), .second, .val (.int lo), .val (.int hi), .val (.int (-1 : Int32)), .val (.int mid), .unset] [(.int (fd (mid).toNatClampNeg))])) (fun _ k => X37.iaload hx (j := mid) (v := (.int (fd (mid).toNatClampNeg))) (by rw [e37]; exact Ar_38.1) (State.isArrayOf_alike hZ.alike Ar_38.2.1) Ar_38.2.2 hin_38 hat_38 (g := (mkF m 133 #[.val (.ref a), .val (.long nm), .second, .val (.long dep), .second, .val (.int lo), .val (.int hi), .val (.int (-1 : Int32)), .val (.int mid), .unset] [(.int mid), (.ref dA)])) rfl rfl (hb hby own_d5_133) _ k) ?_
              refine own_go (T' := T37) (g' := (mkF m 135 #[.val (.ref a), .val (.long nm), .second, .val (.long dep), .second, .val (.int lo), .val (.int hi), .val (.int (-1 : Int32)), .val (.int mid), .unset] [(.long ((fd (mid).toNatClampNeg).toInt64))])) (fun _ k => XS.i2l X37.here hx rfl (hb hby own_d5_134) rfl k) ?_
              refine own_go (T' := T37) (g' := (mkF m 136 #[.val (.ref a), .val (.long nm), .second, .val (.long dep), .second, .val (.int lo), .val (.int hi), .val (.int (-1 : Int32)), .val (.int mid), .unset] [(.long dep), (.long ((fd (mid).toNatClampNeg).toInt64))])) (fun _ k => XS.lloadN X37.here hx rfl (hb hby own_d5_135) rfl k) ?_
              refine own_go (T' := T37) (g' := (mkF m 137 #[.val (.ref a), .val (.long nm), .second, .val (.long dep), .second, .val (.int lo), .val (.int hi), .val (.int (-1 : Int32)), .val (.int mid), .unset] [(.int (lcmpW ((fd (mid).toNatClampNeg).toInt64) dep))])) (fun _ k => XS.lcmp X37.here hx rfl (hb hby own_d5_136) rfl k) ?_
              by_cases c39 : ((fd (mid).toNatClampNeg).toInt64) < dep
              · refine own_go (T' := T37) (g' := (mkF m 140 #[.val (.ref a), .val (.long nm), .second, .val (.long dep), .second, .val (.int lo), .val (.int hi), .val (.int (-1 : Int32)), .val (.int mid), .unset] [])) (fun _ k => XS.ifNo X37.here hx rfl (hb hby own_d5_137) rfl ((if0 _ _).trans (tlt ((lw_lt ((fd (mid).toNatClampNeg).toInt64) dep).mpr c39)).2.1) k) ?_
                refine own_go (T' := T37) (g' := (mkF m 142 #[.val (.ref a), .val (.long nm), .second, .val (.long dep), .second, .val (.int lo), .val (.int hi), .val (.int (-1 : Int32)), .val (.int mid), .unset] [(.int mid)])) (fun _ k => XS.iload X37.here hx rfl (hb hby own_d5_140) rfl k) ?_
                refine own_go (T' := T37) (g' := (mkF m 143 #[.val (.ref a), .val (.long nm), .second, .val (.long dep), .second, .val (.int lo), .val (.int hi), .val (.int (-1 : Int32)), .val (.int mid), .unset] [(.int (1 : Int32)), (.int mid)])) (fun _ k => XS.iconst X37.here hx rfl (hb hby own_d5_142) k) ?_
                refine own_go (T' := T37) (g' := (mkF m 144 #[.val (.ref a), .val (.long nm), .second, .val (.long dep), .second, .val (.int lo), .val (.int hi), .val (.int (-1 : Int32)), .val (.int mid), .unset] [(.int (mid + (1 : Int32)))])) (fun _ k => XS.iadd X37.here hx rfl (hb hby own_d5_143) rfl k) ?_
                refine own_go (T' := T37) (g' := (mkF m 146 #[.val (.ref a), .val (.long nm), .second, .val (.long dep), .second, .val (.int (mid + (1 : Int32))), .val (.int hi), .val (.int (-1 : Int32)), .val (.int mid), .unset] [])) (fun _ k => XS.istore X37.here hx rfl (hb hby own_d5_144) rfl (l' := #[.val (.ref a), .val (.long nm), .second, .val (.long dep), .second, .val (.int (mid + (1 : Int32))), .val (.int hi), .val (.int (-1 : Int32)), .val (.int mid), .unset]) rfl k) ?_
                refine own_go (T' := T37) (g' := (mkF m 175 #[.val (.ref a), .val (.long nm), .second, .val (.long dep), .second, .val (.int (mid + (1 : Int32))), .val (.int hi), .val (.int (-1 : Int32)), .val (.int mid), .unset] [])) (fun _ k => XS.goto X37.here hx rfl (pc0 := 146) (pc' := 175) rfl (hb hby own_d5_146) (by decide) (by decide) k) ?_
                refine own_go (T' := T37) (g' := (mkF m 106 #[.val (.ref a), .val (.long nm), .second, .val (.long dep), .second, .val (.int (mid + (1 : Int32))), .val (.int hi), .val (.int (-1 : Int32)), .val (.int mid), .unset] [])) (fun _ k => XS.goto X37.here hx rfl (pc0 := 175) (pc' := 106) rfl (hb hby own_d5_175) (by decide) (by decide) k) ?_
                have hd : (fd mid.toNatClampNeg).toInt < dep.toInt := by (try simp only [own_ln1, own_l0, own_l1, own_l2, own_l3, own_l4, own_l5, own_l6, own_l7, own_l8, own_l9, own_l12, own_l32, own_L0, own_L1, own_L2, own_L3, own_L7, Int32.lt_iff_toInt_lt, ← Int32.toInt_inj, Int64.lt_iff_toInt_lt, ← Int64.toInt_inj, and_true, true_and, and_false, false_and, or_true, true_or, or_false, false_or, not_true_eq_false, not_false_eq_true, ne_eq, true_implies, false_implies, implies_true] at hr c17 c20 c27 c36 c39 ⊢) <;> omega
                exact LP 20 _ _ _ _ _ _ (Or.inl (by (try simp only [own_ln1, own_l0, own_l1, own_l2, own_l3, own_l4, own_l5, own_l6, own_l7, own_l8, own_l9, own_l12, own_l32, own_L0, own_L1, own_L2, own_L3, own_L7, Int32.lt_iff_toInt_lt, ← Int32.toInt_inj, Int64.lt_iff_toInt_lt, ← Int64.toInt_inj, and_true, true_and, and_false, false_and, or_true, true_or, or_false, false_or, not_true_eq_false, not_false_eq_true, ne_eq, true_implies, false_implies, implies_true] at hr c17 c20 c27 c36 c39 ⊢) <;> omega)) (by (try simp only [own_ln1, own_l0, own_l1, own_l2, own_l3, own_l4, own_l5, own_l6, own_l7, own_l8, own_l9, own_l12, own_l32, own_L0, own_L1, own_L2, own_L3, own_L7, Int32.lt_iff_toInt_lt, ← Int32.toInt_inj, Int64.lt_iff_toInt_lt, ← Int64.toInt_inj, and_true, true_and, and_false, false_and, or_true, true_or, or_false, false_or, not_true_eq_false, not_false_eq_true, ne_eq, true_implies, false_implies, implies_true] at hr c17 c20 c27 c36 c39 ⊢) <;> omega) (Or.inl (by (try simp only [own_ln1, own_l0, own_l1, own_l2, own_l3, own_l4, own_l5, own_l6, own_l7, own_l8, own_l9, own_l12, own_l32, own_L0, own_L1, own_L2, own_L3, own_L7, Int32.lt_iff_toInt_lt, ← Int32.toInt_inj, Int64.lt_iff_toInt_lt, ← Int64.toInt_inj, and_true, true_and, and_false, false_and, or_true, true_or, or_false, false_or, not_true_eq_false, not_false_eq_true, ne_eq, true_implies, false_implies, implies_true] at hr c17 c20 c27 c36 c39 ⊢) <;> omega)) (fun x h1 h2' => by
                  by_cases hq : x = mid.toNatClampNeg
                  · rw [hq]; exact hd
                  · have := hss x mid.toNatClampNeg h1 (by omega) (by omega); omega) hhigh X37 e37 NF
              · refine own_go (T' := T37) (g' := (mkF m 149 #[.val (.ref a), .val (.long nm), .second, .val (.long dep), .second, .val (.int lo), .val (.int hi), .val (.int (-1 : Int32)), .val (.int mid), .unset] [])) (fun _ k => XS.ifYes X37.here hx rfl (pc0 := 137) (pc' := 149) rfl (hb hby own_d5_137) rfl ((if0 _ _).trans (flt (fun h => c39 ((lw_lt ((fd (mid).toNatClampNeg).toInt64) dep).mp h))).2.1) (by decide) (by decide) k) ?_
                refine own_go (T' := T37) (g' := (mkF m 150 #[.val (.ref a), .val (.long nm), .second, .val (.long dep), .second, .val (.int lo), .val (.int hi), .val (.int (-1 : Int32)), .val (.int mid), .unset] [(.ref a)])) (fun _ k => XS.aloadN X37.here hx rfl (hb hby own_d5_149) rfl rfl k) ?_
                obtain ⟨T40, X40, e40, st40⟩ := getF X37 hx hZ hown (host := "") (Or.inl (hw _ (List.mem_of_getElem? (i := 20) rfl))) Via.refl e37 F_a_depths (g := (mkF m 150 #[.val (.ref a), .val (.long nm), .second, .val (.long dep), .second, .val (.int lo), .val (.int hi), .val (.int (-1 : Int32)), .val (.int mid), .unset] [(.ref a)])) rfl rfl (hb hby own_d5_150)
                refine own_go (T' := T40) (g' := (mkF m 153 #[.val (.ref a), .val (.long nm), .second, .val (.long dep), .second, .val (.int lo), .val (.int hi), .val (.int (-1 : Int32)), .val (.int mid), .unset] [(.ref dA)])) (fun _ k => st40 _ k) ?_
                refine own_go (T' := T40) (g' := (mkF m 155 #[.val (.ref a), .val (.long nm), .second, .val (.long dep), .second, .val (.int lo), .val (.int hi), .val (.int (-1 : Int32)), .val (.int mid), .unset] [(.int mid), (.ref dA)])) (fun _ k => XS.iload X40.here hx rfl (hb hby own_d5_153) rfl k) ?_
                obtain ⟨c_41, Ar_41, S_41, N_41, H_41⟩ := id I_dA
                have hin_41 : ¬ (mid < 0 ∨ c_41.slots.size ≤ (mid).toNatClampNeg) := inb_of S_41 ⟨by (try simp only [own_ln1, own_l0, own_l1, own_l2, own_l3, own_l4, own_l5, own_l6, own_l7, own_l8, own_l9, own_l12, own_l32, own_L0, own_L1, own_L2, own_L3, own_L7, Int32.lt_iff_toInt_lt, ← Int32.toInt_inj, Int64.lt_iff_toInt_lt, ← Int64.toInt_inj, and_true, true_and, and_false, false_and, or_true, true_or, or_false, false_or, not_true_eq_false, not_false_eq_true, ne_eq, true_implies, false_implies, implies_true] at hr c17 c20 c27 c36 c39 ⊢) <;> omega, by (try simp only [own_ln1, own_l0, own_l1, own_l2, own_l3, own_l4, own_l5, own_l6, own_l7, own_l8, own_l9, own_l12, own_l32, own_L0, own_L1, own_L2, own_L3, own_L7, Int32.lt_iff_toInt_lt, ← Int32.toInt_inj, Int64.lt_iff_toInt_lt, ← Int64.toInt_inj, and_true, true_and, and_false, false_and, or_true, true_or, or_false, false_or, not_true_eq_false, not_false_eq_true, ne_eq, true_implies, false_implies, implies_true] at hr c17 c20 c27 c36 c39 ⊢) <;> omega⟩
                have hat_41 : c_41.slots[(mid).toNatClampNeg]? = some (.int (fd (mid).toNatClampNeg)) := H_41 _ (Nat.lt_of_not_le fun y => hin_41 (Or.inr y))
                refine own_go (T' := T40) (g' := (mkF m 156 #[.val (.ref a), .val (.long nm), .second, .val (.long dep), .second, .val (.int lo), .val (.int hi), .val (.int (-1 : Int32)), .val (.int mid), .unset] [(.int (fd (mid).toNatClampNeg))])) (fun _ k => X40.iaload hx (j := mid) (v := (.int (fd (mid).toNatClampNeg))) (by rw [e40]; exact Ar_41.1) (State.isArrayOf_alike hZ.alike Ar_41.2.1) Ar_41.2.2 hin_41 hat_41 (g := (mkF m 155 #[.val (.ref a), .val (.long nm), .second, .val (.long dep), .second, .val (.int lo), .val (.int hi), .val (.int (-1 : Int32)), .val (.int mid), .unset] [(.int mid), (.ref dA)])) rfl rfl (hb hby own_d5_155) _ k) ?_
                refine own_go (T' := T40) (g' := (mkF m 157 #[.val (.ref a), .val (.long nm), .second, .val (.long dep), .second, .val (.int lo), .val (.int hi), .val (.int (-1 : Int32)), .val (.int mid), .unset] [(.long ((fd (mid).toNatClampNeg).toInt64))])) (fun _ k => XS.i2l X40.here hx rfl (hb hby own_d5_156) rfl k) ?_
                refine own_go (T' := T40) (g' := (mkF m 158 #[.val (.ref a), .val (.long nm), .second, .val (.long dep), .second, .val (.int lo), .val (.int hi), .val (.int (-1 : Int32)), .val (.int mid), .unset] [(.long dep), (.long ((fd (mid).toNatClampNeg).toInt64))])) (fun _ k => XS.lloadN X40.here hx rfl (hb hby own_d5_157) rfl k) ?_
                refine own_go (T' := T40) (g' := (mkF m 159 #[.val (.ref a), .val (.long nm), .second, .val (.long dep), .second, .val (.int lo), .val (.int hi), .val (.int (-1 : Int32)), .val (.int mid), .unset] [(.int (lcmpW ((fd (mid).toNatClampNeg).toInt64) dep))])) (fun _ k => XS.lcmp X40.here hx rfl (hb hby own_d5_158) rfl k) ?_
                by_cases c42 : dep < ((fd (mid).toNatClampNeg).toInt64)
                · refine own_go (T' := T40) (g' := (mkF m 162 #[.val (.ref a), .val (.long nm), .second, .val (.long dep), .second, .val (.int lo), .val (.int hi), .val (.int (-1 : Int32)), .val (.int mid), .unset] [])) (fun _ k => XS.ifNo X40.here hx rfl (hb hby own_d5_159) rfl ((if0 _ _).trans (tlt ((lw_gt ((fd (mid).toNatClampNeg).toInt64) dep).mpr c42)).2.2.2) k) ?_
                  refine own_go (T' := T40) (g' := (mkF m 164 #[.val (.ref a), .val (.long nm), .second, .val (.long dep), .second, .val (.int lo), .val (.int hi), .val (.int (-1 : Int32)), .val (.int mid), .unset] [(.int mid)])) (fun _ k => XS.iload X40.here hx rfl (hb hby own_d5_162) rfl k) ?_
                  refine own_go (T' := T40) (g' := (mkF m 165 #[.val (.ref a), .val (.long nm), .second, .val (.long dep), .second, .val (.int lo), .val (.int hi), .val (.int (-1 : Int32)), .val (.int mid), .unset] [(.int (1 : Int32)), (.int mid)])) (fun _ k => XS.iconst X40.here hx rfl (hb hby own_d5_164) k) ?_
                  refine own_go (T' := T40) (g' := (mkF m 166 #[.val (.ref a), .val (.long nm), .second, .val (.long dep), .second, .val (.int lo), .val (.int hi), .val (.int (-1 : Int32)), .val (.int mid), .unset] [(.int (mid - (1 : Int32)))])) (fun _ k => XS.isub X40.here hx rfl (hb hby own_d5_165) rfl k) ?_
                  refine own_go (T' := T40) (g' := (mkF m 168 #[.val (.ref a), .val (.long nm), .second, .val (.long dep), .second, .val (.int lo), .val (.int (mid - (1 : Int32))), .val (.int (-1 : Int32)), .val (.int mid), .unset] [])) (fun _ k => XS.istore X40.here hx rfl (hb hby own_d5_166) rfl (l' := #[.val (.ref a), .val (.long nm), .second, .val (.long dep), .second, .val (.int lo), .val (.int (mid - (1 : Int32))), .val (.int (-1 : Int32)), .val (.int mid), .unset]) rfl k) ?_
                  refine own_go (T' := T40) (g' := (mkF m 175 #[.val (.ref a), .val (.long nm), .second, .val (.long dep), .second, .val (.int lo), .val (.int (mid - (1 : Int32))), .val (.int (-1 : Int32)), .val (.int mid), .unset] [])) (fun _ k => XS.goto X40.here hx rfl (pc0 := 168) (pc' := 175) rfl (hb hby own_d5_168) (by decide) (by decide) k) ?_
                  refine own_go (T' := T40) (g' := (mkF m 106 #[.val (.ref a), .val (.long nm), .second, .val (.long dep), .second, .val (.int lo), .val (.int (mid - (1 : Int32))), .val (.int (-1 : Int32)), .val (.int mid), .unset] [])) (fun _ k => XS.goto X40.here hx rfl (pc0 := 175) (pc' := 106) rfl (hb hby own_d5_175) (by decide) (by decide) k) ?_
                  have hd : dep.toInt < (fd mid.toNatClampNeg).toInt := by (try simp only [own_ln1, own_l0, own_l1, own_l2, own_l3, own_l4, own_l5, own_l6, own_l7, own_l8, own_l9, own_l12, own_l32, own_L0, own_L1, own_L2, own_L3, own_L7, Int32.lt_iff_toInt_lt, ← Int32.toInt_inj, Int64.lt_iff_toInt_lt, ← Int64.toInt_inj, and_true, true_and, and_false, false_and, or_true, true_or, or_false, false_or, not_true_eq_false, not_false_eq_true, ne_eq, true_implies, false_implies, implies_true] at hr c17 c20 c27 c36 c39 c42 ⊢) <;> omega
                  exact LP 20 _ _ _ _ _ _ (Or.inl (by (try simp only [own_ln1, own_l0, own_l1, own_l2, own_l3, own_l4, own_l5, own_l6, own_l7, own_l8, own_l9, own_l12, own_l32, own_L0, own_L1, own_L2, own_L3, own_L7, Int32.lt_iff_toInt_lt, ← Int32.toInt_inj, Int64.lt_iff_toInt_lt, ← Int64.toInt_inj, and_true, true_and, and_false, false_and, or_true, true_or, or_false, false_or, not_true_eq_false, not_false_eq_true, ne_eq, true_implies, false_implies, implies_true] at hr c17 c20 c27 c36 c39 c42 ⊢) <;> omega)) (by (try simp only [own_ln1, own_l0, own_l1, own_l2, own_l3, own_l4, own_l5, own_l6, own_l7, own_l8, own_l9, own_l12, own_l32, own_L0, own_L1, own_L2, own_L3, own_L7, Int32.lt_iff_toInt_lt, ← Int32.toInt_inj, Int64.lt_iff_toInt_lt, ← Int64.toInt_inj, and_true, true_and, and_false, false_and, or_true, true_or, or_false, false_or, not_true_eq_false, not_false_eq_true, ne_eq, true_implies, false_implies, implies_true] at hr c17 c20 c27 c36 c39 c42 ⊢) <;> omega) (Or.inl (by (try simp only [own_ln1, own_l0, own_l1, own_l2, own_l3, own_l4, own_l5, own_l6, own_l7, own_l8, own_l9, own_l12, own_l32, own_L0, own_L1, own_L2, own_L3, own_L7, Int32.lt_iff_toInt_lt, ← Int32.toInt_inj, Int64.lt_iff_toInt_lt, ← Int64.toInt_inj, and_true, true_and, and_false, false_and, or_true, true_or, or_false, false_or, not_true_eq_false, not_false_eq_true, ne_eq, true_implies, false_implies, implies_true] at hr c17 c20 c27 c36 c39 c42 ⊢) <;> omega)) hlow (fun x h1 h2' => by
                    by_cases hq : x = mid.toNatClampNeg
                    · rw [hq]; exact hd
                    · have := hss mid.toNatClampNeg x (by omega) (by omega) h2'; omega) X40 e40 NF
                · refine own_go (T' := T40) (g' := (mkF m 171 #[.val (.ref a), .val (.long nm), .second, .val (.long dep), .second, .val (.int lo), .val (.int hi), .val (.int (-1 : Int32)), .val (.int mid), .unset] [])) (fun _ k => XS.ifYes X40.here hx rfl (pc0 := 159) (pc' := 171) rfl (hb hby own_d5_159) rfl ((if0 _ _).trans (flt (fun h => c42 ((lw_gt ((fd (mid).toNatClampNeg).toInt64) dep).mp h))).2.2.2) (by decide) (by decide) k) ?_
                  refine own_go (T' := T40) (g' := (mkF m 173 #[.val (.ref a), .val (.long nm), .second, .val (.long dep), .second, .val (.int lo), .val (.int hi), .val (.int (-1 : Int32)), .val (.int mid), .unset] [(.int mid)])) (fun _ k => XS.iload X40.here hx rfl (hb hby own_d5_171) rfl k) ?_
                  refine own_go (T' := T40) (g' := (mkF m 175 #[.val (.ref a), .val (.long nm), .second, .val (.long dep), .second, .val (.int lo), .val (.int hi), .val (.int mid), .val (.int mid), .unset] [])) (fun _ k => XS.istore X40.here hx rfl (hb hby own_d5_173) rfl (l' := #[.val (.ref a), .val (.long nm), .second, .val (.long dep), .second, .val (.int lo), .val (.int hi), .val (.int mid), .val (.int mid), .unset]) rfl k) ?_
                  refine own_go (T' := T40) (g' := (mkF m 106 #[.val (.ref a), .val (.long nm), .second, .val (.long dep), .second, .val (.int lo), .val (.int hi), .val (.int mid), .val (.int mid), .unset] [])) (fun _ k => XS.goto X40.here hx rfl (pc0 := 175) (pc' := 106) rfl (hb hby own_d5_175) (by decide) (by decide) k) ?_
                  have hfd : (lo.toInt ≤ mid.toInt ∧ mid.toInt < hi1.toInt ∧ (fd mid.toInt.toNat).toInt = dep.toInt) := by
                    have pe9 : mid.toInt.toNat = mid.toNatClampNeg := by omega
                    rw [pe9]; (try simp only [own_ln1, own_l0, own_l1, own_l2, own_l3, own_l4, own_l5, own_l6, own_l7, own_l8, own_l9, own_l12, own_l32, own_L0, own_L1, own_L2, own_L3, own_L7, Int32.lt_iff_toInt_lt, ← Int32.toInt_inj, Int64.lt_iff_toInt_lt, ← Int64.toInt_inj, and_true, true_and, and_false, false_and, or_true, true_or, or_false, false_or, not_true_eq_false, not_false_eq_true, ne_eq, true_implies, false_implies, implies_true] at hr c17 c20 c27 c36 c39 c42 ⊢) <;> omega
                  have h0a := hlow
                  have h0b := hhigh
                  exact LP 20 _ _ mid _ _ _ (Or.inr (by (try simp only [own_ln1, own_l0, own_l1, own_l2, own_l3, own_l4, own_l5, own_l6, own_l7, own_l8, own_l9, own_l12, own_l32, own_L0, own_L1, own_L2, own_L3, own_L7, Int32.lt_iff_toInt_lt, ← Int32.toInt_inj, Int64.lt_iff_toInt_lt, ← Int64.toInt_inj, and_true, true_and, and_false, false_and, or_true, true_or, or_false, false_or, not_true_eq_false, not_false_eq_true, ne_eq, true_implies, false_implies, implies_true] at hr c17 c20 c27 c36 c39 c42 ⊢) <;> omega)) (by (try simp only [own_ln1, own_l0, own_l1, own_l2, own_l3, own_l4, own_l5, own_l6, own_l7, own_l8, own_l9, own_l12, own_l32, own_L0, own_L1, own_L2, own_L3, own_L7, Int32.lt_iff_toInt_lt, ← Int32.toInt_inj, Int64.lt_iff_toInt_lt, ← Int64.toInt_inj, and_true, true_and, and_false, false_and, or_true, true_or, or_false, false_or, not_true_eq_false, not_false_eq_true, ne_eq, true_implies, false_implies, implies_true] at hr c17 c20 c27 c36 c39 c42 ⊢) <;> omega) (Or.inr hfd) hlow hhigh X40 e40 NF
    · refine own_go (T' := T2) (g' := (mkF m 19 #[.val (.ref a), .val (.long nm), .second, .val (.long dep), .second, .unset, .unset, .unset, .unset, .unset] [])) (fun _ k => XS.ifNo X2.here hx rfl (hb hby own_d5_16) rfl ((if0 _ _).trans (flt (fun h => c4 ((lw_lt nm (((N + (1 : Int32)) - (1 : Int32)).toInt64)).mp h))).1) k) ?_
      refine own_go (T' := T2) (g' := (mkF m 20 #[.val (.ref a), .val (.long nm), .second, .val (.long dep), .second, .unset, .unset, .unset, .unset, .unset] [(.int (-1 : Int32))])) (fun _ k => XS.iconst X2.here hx rfl (hb hby own_d5_19) k) ?_
      refine own_ret X2 Bd.notSynchronized (some (.int (-1 : Int32))) (fun h => by rw [Bd.returns] at h; cases h) (fun fs hr => retI X2 hx Bd.returns (hb hby own_d5_20) hr) ?_ (by decide) (by decide)
      show (own_Q5 Z a nm dep s2 t2 dA N cp fS fT fd h0 n0) (some (.int (-1 : Int32))) T2.heap _
      rw [e2]
      exact ⟨⟨_, rfl, fun _ => by decide, fun hr => absurd hr (by (try simp only [own_ln1, own_l0, own_l1, own_l2, own_l3, own_l4, own_l5, own_l6, own_l7, own_l8, own_l9, own_l12, own_l32, own_L0, own_L1, own_L2, own_L3, own_L7, Int32.lt_iff_toInt_lt, ← Int32.toInt_inj, Int64.lt_iff_toInt_lt, ← Int64.toInt_inj, and_true, true_and, and_false, false_and, or_true, true_or, or_false, false_or, not_true_eq_false, not_false_eq_true, ne_eq, true_implies, false_implies, implies_true] at c1 c4 ⊢) <;> omega)⟩, NF, rfl⟩
theorem own_pn0 : plainName "com/example/nimble_twig/nimbletwig/index/store/StoredStreamsPlacePinLaw" = true := by first | (simp [plainName, overriddenIn]; done) | decide +kernel
theorem own_pd0_0 : parseMethodDescriptor "(I)V" = some ⟨[.int], none⟩ := by decide +kernel
theorem own_pd0_1 : parseMethodDescriptor "(II)V" = some ⟨[.int, .int], none⟩ := by decide +kernel
theorem own_pd0_2 : parseMethodDescriptor "(JJ)I" = some ⟨[.long, .long], some .int⟩ := by decide +kernel
theorem own_ef0 (m : MethodId) (j0 : Int64) (j1 : Int64) (i2 : Int32) (i3 : Int32) (i4 : Int32) (i5 : Int32) : entryFrame m #[(.long j0), (.long j1), (.int i2), (.int i3), (.int i4), (.int i5)] maxLocals = mkF m 0 #[.val (.long j0), .second, .val (.long j1), .second, .val (.int i2), .val (.int i3), .val (.int i4), .val (.int i5), .unset, .unset, .unset, .unset, .unset, .unset, .unset, .unset, .unset, .unset, .unset, .unset, .unset, .unset, .unset] [] := by first | (simp [entryFrame, mkF, argsToLocals, Value.category, maxLocals]; done) | rfl
def own_Q0 (Z : State) (j0 : Int64) (j1 : Int64) (i2 : Int32) (i3 : Int32) (i4 : Int32) (i5 : Int32) (h0 : Heap) (n0 : Nat) (v : Option Value) (h : Heap) (L : List Loc) : Prop := v = some (.int 1) ∧ Fr n0 L
set_option maxRecDepth 65536 in
set_option maxHeartbeats 40000000 in
theorem own_rm0 (l : Launch) (Z : State) (a0 : Array Value) (hw : ∀ d ∈ tables_1, d.before a0 Z = true) (ws : List Jvm.Cond) (j0 : Int64) (j1 : Int64) (i2 : Int32) (i3 : Int32) (i4 : Int32) (i5 : Int32) (h0 : Heap) (n0 : Nat) (Zs : n0 ≤ h0.size)  :
    MetFree l x (head1 (Jvm.Cond.code x code maxLocals ret :: ws) room_1) (fun aA_ U => aA_ = #[(.long j0), (.long j1), (.int i2), (.int i3), (.int i4), (.int i5)] ∧ Z.Warmed39 U.vm ∧ U.heap = h0) (fun _ _ _ _ _ => True) (fun _ U o U' => ∃ v L, o = .returned v ∧ own_Q0 Z j0 j1 i2 i3 i4 i5 h0 n0 v U'.heap L ∧ FrameEnd U o U' L room_1.cells room_1.slots) := by
  refine MetFree.of_bodySF (plainFor_of_name own_pn0) hisR ?_
  intro p e s m args below meth c s₁ Bd hml0 hP hK
  obtain ⟨rfl, hZ, hh⟩ := hP
  have hx := Bd.exec
  have hby := Bd.bytes
  have hml : c.maxLocals = 23 := hml0
  have hown : s.vm.findClass "com/example/nimble_twig/nimbletwig/index/store/StoredStreamsPlacePinLaw" = some m.cls := findClass_of_methodNamed Bd.named
  have hnm := (name_of_methodNamed Bd.named Bd.method).1
  have X0 : Stand p l e room_1 s m #[(.long j0), (.long j1), (.int i2), (.int i3), (.int i4), (.int i5)] below meth c s₁ [] 0 0 := Stand.of_body Bd
  have e0 : s₁.heap = h0 := by rw [← hh, Bd.state]; rfl
  have NF := Fr.nil n0
  rw [own_ef0 m j0 j1 i2 i3 i4 i5]
  show own_Dn p e below s (own_Q0 Z j0 j1 i2 i3 i4 i5 h0 n0) room_1.cells room_1.slots s₁ (mkF m 0 #[.val (.long j0), .second, .val (.long j1), .second, .val (.int i2), .val (.int i3), .val (.int i4), .val (.int i5), .unset, .unset, .unset, .unset, .unset, .unset, .unset, .unset, .unset, .unset, .unset, .unset, .unset, .unset, .unset] [])
  refine own_go (T' := s₁) (g' := (mkF m 2 #[.val (.long j0), .second, .val (.long j1), .second, .val (.int i2), .val (.int i3), .val (.int i4), .val (.int i5), .unset, .unset, .unset, .unset, .unset, .unset, .unset, .unset, .unset, .unset, .unset, .unset, .unset, .unset, .unset] [(.int i2)])) (fun _ k => XS.iload X0.here hx rfl (hb hby at_0) rfl k) ?_
  refine own_go (T' := s₁) (g' := (mkF m 3 #[.val (.long j0), .second, .val (.long j1), .second, .val (.int i2), .val (.int i3), .val (.int i4), .val (.int i5), .unset, .unset, .unset, .unset, .unset, .unset, .unset, .unset, .unset, .unset, .unset, .unset, .unset, .unset, .unset] [(.int (3 : Int32)), (.int i2)])) (fun _ k => XS.iconst X0.here hx rfl (hb hby at_2) k) ?_
  refine own_go (T' := s₁) (g' := (mkF m 4 #[.val (.long j0), .second, .val (.long j1), .second, .val (.int i2), .val (.int i3), .val (.int i4), .val (.int i5), .unset, .unset, .unset, .unset, .unset, .unset, .unset, .unset, .unset, .unset, .unset, .unset, .unset, .unset, .unset] [(.int (i2 >>> ((3 : Int32) &&& 31)))])) (fun _ k => XS.ishr X0.here hx rfl (hb hby at_3) rfl k) ?_
  refine own_go (T' := s₁) (g' := (mkF m 6 #[.val (.long j0), .second, .val (.long j1), .second, .val (.int i2), .val (.int i3), .val (.int i4), .val (.int i5), .val (.int (i2 >>> ((3 : Int32) &&& 31))), .unset, .unset, .unset, .unset, .unset, .unset, .unset, .unset, .unset, .unset, .unset, .unset, .unset, .unset] [])) (fun _ k => XS.istore X0.here hx rfl (hb hby at_4) rfl (l' := #[.val (.long j0), .second, .val (.long j1), .second, .val (.int i2), .val (.int i3), .val (.int i4), .val (.int i5), .val (.int (i2 >>> ((3 : Int32) &&& 31))), .unset, .unset, .unset, .unset, .unset, .unset, .unset, .unset, .unset, .unset, .unset, .unset, .unset, .unset]) rfl k) ?_
  refine own_go (T' := s₁) (g' := (mkF m 8 #[.val (.long j0), .second, .val (.long j1), .second, .val (.int i2), .val (.int i3), .val (.int i4), .val (.int i5), .val (.int (i2 >>> ((3 : Int32) &&& 31))), .unset, .unset, .unset, .unset, .unset, .unset, .unset, .unset, .unset, .unset, .unset, .unset, .unset, .unset] [(.int (i2 >>> ((3 : Int32) &&& 31)))])) (fun _ k => XS.iload X0.here hx rfl (hb hby at_6) rfl k) ?_
  refine own_go (T' := s₁) (g' := (mkF m 9 #[.val (.long j0), .second, .val (.long j1), .second, .val (.int i2), .val (.int i3), .val (.int i4), .val (.int i5), .val (.int (i2 >>> ((3 : Int32) &&& 31))), .unset, .unset, .unset, .unset, .unset, .unset, .unset, .unset, .unset, .unset, .unset, .unset, .unset, .unset] [(.int (1 : Int32)), (.int (i2 >>> ((3 : Int32) &&& 31)))])) (fun _ k => XS.iconst X0.here hx rfl (hb hby at_8) k) ?_
  refine own_go (T' := s₁) (g' := (mkF m 10 #[.val (.long j0), .second, .val (.long j1), .second, .val (.int i2), .val (.int i3), .val (.int i4), .val (.int i5), .val (.int (i2 >>> ((3 : Int32) &&& 31))), .unset, .unset, .unset, .unset, .unset, .unset, .unset, .unset, .unset, .unset, .unset, .unset, .unset, .unset] [(.int ((i2 >>> ((3 : Int32) &&& 31)) + (1 : Int32)))])) (fun _ k => XS.iadd X0.here hx rfl (hb hby at_9) rfl k) ?_
  refine own_go (T' := s₁) (g' := (mkF m 12 #[.val (.long j0), .second, .val (.long j1), .second, .val (.int i2), .val (.int i3), .val (.int i4), .val (.int i5), .val (.int (i2 >>> ((3 : Int32) &&& 31))), .unset, .unset, .unset, .unset, .unset, .unset, .unset, .unset, .unset, .unset, .unset, .unset, .unset, .unset] [(.int i5), (.int ((i2 >>> ((3 : Int32) &&& 31)) + (1 : Int32)))])) (fun _ k => XS.iload X0.here hx rfl (hb hby at_10) rfl k) ?_
  refine own_go (T' := s₁) (g' := (mkF m 13 #[.val (.long j0), .second, .val (.long j1), .second, .val (.int i2), .val (.int i3), .val (.int i4), .val (.int i5), .val (.int (i2 >>> ((3 : Int32) &&& 31))), .unset, .unset, .unset, .unset, .unset, .unset, .unset, .unset, .unset, .unset, .unset, .unset, .unset, .unset] [(.int (3 : Int32)), (.int i5), (.int ((i2 >>> ((3 : Int32) &&& 31)) + (1 : Int32)))])) (fun _ k => XS.iconst X0.here hx rfl (hb hby at_12) k) ?_
  refine own_go (T' := s₁) (g' := (mkF m 14 #[.val (.long j0), .second, .val (.long j1), .second, .val (.int i2), .val (.int i3), .val (.int i4), .val (.int i5), .val (.int (i2 >>> ((3 : Int32) &&& 31))), .unset, .unset, .unset, .unset, .unset, .unset, .unset, .unset, .unset, .unset, .unset, .unset, .unset, .unset] [(.int (i5 &&& (3 : Int32))), (.int ((i2 >>> ((3 : Int32) &&& 31)) + (1 : Int32)))])) (fun _ k => XS.iand X0.here hx rfl (hb hby at_13) rfl k) ?_
  refine own_go (T' := s₁) (g' := (mkF m 15 #[.val (.long j0), .second, .val (.long j1), .second, .val (.int i2), .val (.int i3), .val (.int i4), .val (.int i5), .val (.int (i2 >>> ((3 : Int32) &&& 31))), .unset, .unset, .unset, .unset, .unset, .unset, .unset, .unset, .unset, .unset, .unset, .unset, .unset, .unset] [(.int (((i2 >>> ((3 : Int32) &&& 31)) + (1 : Int32)) + (i5 &&& (3 : Int32))))])) (fun _ k => XS.iadd X0.here hx rfl (hb hby at_14) rfl k) ?_
  refine own_go (T' := s₁) (g' := (mkF m 17 #[.val (.long j0), .second, .val (.long j1), .second, .val (.int i2), .val (.int i3), .val (.int i4), .val (.int i5), .val (.int (i2 >>> ((3 : Int32) &&& 31))), .val (.int (((i2 >>> ((3 : Int32) &&& 31)) + (1 : Int32)) + (i5 &&& (3 : Int32)))), .unset, .unset, .unset, .unset, .unset, .unset, .unset, .unset, .unset, .unset, .unset, .unset, .unset] [])) (fun _ k => XS.istore X0.here hx rfl (hb hby at_15) rfl (l' := #[.val (.long j0), .second, .val (.long j1), .second, .val (.int i2), .val (.int i3), .val (.int i4), .val (.int i5), .val (.int (i2 >>> ((3 : Int32) &&& 31))), .val (.int (((i2 >>> ((3 : Int32) &&& 31)) + (1 : Int32)) + (i5 &&& (3 : Int32)))), .unset, .unset, .unset, .unset, .unset, .unset, .unset, .unset, .unset, .unset, .unset, .unset, .unset]) rfl k) ?_
  refine own_go (T' := s₁) (g' := (mkF m 19 #[.val (.long j0), .second, .val (.long j1), .second, .val (.int i2), .val (.int i3), .val (.int i4), .val (.int i5), .val (.int (i2 >>> ((3 : Int32) &&& 31))), .val (.int (((i2 >>> ((3 : Int32) &&& 31)) + (1 : Int32)) + (i5 &&& (3 : Int32)))), .unset, .unset, .unset, .unset, .unset, .unset, .unset, .unset, .unset, .unset, .unset, .unset, .unset] [(.int (((i2 >>> ((3 : Int32) &&& 31)) + (1 : Int32)) + (i5 &&& (3 : Int32))))])) (fun _ k => XS.iload X0.here hx rfl (hb hby at_17) rfl k) ?_
  refine own_go (T' := s₁) (g' := (mkF m 20 #[.val (.long j0), .second, .val (.long j1), .second, .val (.int i2), .val (.int i3), .val (.int i4), .val (.int i5), .val (.int (i2 >>> ((3 : Int32) &&& 31))), .val (.int (((i2 >>> ((3 : Int32) &&& 31)) + (1 : Int32)) + (i5 &&& (3 : Int32)))), .unset, .unset, .unset, .unset, .unset, .unset, .unset, .unset, .unset, .unset, .unset, .unset, .unset] [(.int (1 : Int32)), (.int (((i2 >>> ((3 : Int32) &&& 31)) + (1 : Int32)) + (i5 &&& (3 : Int32))))])) (fun _ k => XS.iconst X0.here hx rfl (hb hby at_19) k) ?_
  refine own_go (T' := s₁) (g' := (mkF m 21 #[.val (.long j0), .second, .val (.long j1), .second, .val (.int i2), .val (.int i3), .val (.int i4), .val (.int i5), .val (.int (i2 >>> ((3 : Int32) &&& 31))), .val (.int (((i2 >>> ((3 : Int32) &&& 31)) + (1 : Int32)) + (i5 &&& (3 : Int32)))), .unset, .unset, .unset, .unset, .unset, .unset, .unset, .unset, .unset, .unset, .unset, .unset, .unset] [(.int ((((i2 >>> ((3 : Int32) &&& 31)) + (1 : Int32)) + (i5 &&& (3 : Int32))) + (1 : Int32)))])) (fun _ k => XS.iadd X0.here hx rfl (hb hby at_20) rfl k) ?_
  refine own_go (T' := s₁) (g' := (mkF m 23 #[.val (.long j0), .second, .val (.long j1), .second, .val (.int i2), .val (.int i3), .val (.int i4), .val (.int i5), .val (.int (i2 >>> ((3 : Int32) &&& 31))), .val (.int (((i2 >>> ((3 : Int32) &&& 31)) + (1 : Int32)) + (i5 &&& (3 : Int32)))), .unset, .unset, .unset, .unset, .unset, .unset, .unset, .unset, .unset, .unset, .unset, .unset, .unset] [(.int i5), (.int ((((i2 >>> ((3 : Int32) &&& 31)) + (1 : Int32)) + (i5 &&& (3 : Int32))) + (1 : Int32)))])) (fun _ k => XS.iload X0.here hx rfl (hb hby at_21) rfl k) ?_
  refine own_go (T' := s₁) (g' := (mkF m 24 #[.val (.long j0), .second, .val (.long j1), .second, .val (.int i2), .val (.int i3), .val (.int i4), .val (.int i5), .val (.int (i2 >>> ((3 : Int32) &&& 31))), .val (.int (((i2 >>> ((3 : Int32) &&& 31)) + (1 : Int32)) + (i5 &&& (3 : Int32)))), .unset, .unset, .unset, .unset, .unset, .unset, .unset, .unset, .unset, .unset, .unset, .unset, .unset] [(.int (2 : Int32)), (.int i5), (.int ((((i2 >>> ((3 : Int32) &&& 31)) + (1 : Int32)) + (i5 &&& (3 : Int32))) + (1 : Int32)))])) (fun _ k => XS.iconst X0.here hx rfl (hb hby at_23) k) ?_
  refine own_go (T' := s₁) (g' := (mkF m 25 #[.val (.long j0), .second, .val (.long j1), .second, .val (.int i2), .val (.int i3), .val (.int i4), .val (.int i5), .val (.int (i2 >>> ((3 : Int32) &&& 31))), .val (.int (((i2 >>> ((3 : Int32) &&& 31)) + (1 : Int32)) + (i5 &&& (3 : Int32)))), .unset, .unset, .unset, .unset, .unset, .unset, .unset, .unset, .unset, .unset, .unset, .unset, .unset] [(.int ((i5.toUInt32 >>> ((2 : Int32) &&& 31).toUInt32).toInt32)), (.int ((((i2 >>> ((3 : Int32) &&& 31)) + (1 : Int32)) + (i5 &&& (3 : Int32))) + (1 : Int32)))])) (fun _ k => XS.iushr X0.here hx rfl (hb hby at_24) rfl k) ?_
  refine own_go (T' := s₁) (g' := (mkF m 26 #[.val (.long j0), .second, .val (.long j1), .second, .val (.int i2), .val (.int i3), .val (.int i4), .val (.int i5), .val (.int (i2 >>> ((3 : Int32) &&& 31))), .val (.int (((i2 >>> ((3 : Int32) &&& 31)) + (1 : Int32)) + (i5 &&& (3 : Int32)))), .unset, .unset, .unset, .unset, .unset, .unset, .unset, .unset, .unset, .unset, .unset, .unset, .unset] [(.int (3 : Int32)), (.int ((i5.toUInt32 >>> ((2 : Int32) &&& 31).toUInt32).toInt32)), (.int ((((i2 >>> ((3 : Int32) &&& 31)) + (1 : Int32)) + (i5 &&& (3 : Int32))) + (1 : Int32)))])) (fun _ k => XS.iconst X0.here hx rfl (hb hby at_25) k) ?_
  refine own_go (T' := s₁) (g' := (mkF m 27 #[.val (.long j0), .second, .val (.long j1), .second, .val (.int i2), .val (.int i3), .val (.int i4), .val (.int i5), .val (.int (i2 >>> ((3 : Int32) &&& 31))), .val (.int (((i2 >>> ((3 : Int32) &&& 31)) + (1 : Int32)) + (i5 &&& (3 : Int32)))), .unset, .unset, .unset, .unset, .unset, .unset, .unset, .unset, .unset, .unset, .unset, .unset, .unset] [(.int (((i5.toUInt32 >>> ((2 : Int32) &&& 31).toUInt32).toInt32) &&& (3 : Int32))), (.int ((((i2 >>> ((3 : Int32) &&& 31)) + (1 : Int32)) + (i5 &&& (3 : Int32))) + (1 : Int32)))])) (fun _ k => XS.iand X0.here hx rfl (hb hby at_26) rfl k) ?_
  refine own_go (T' := s₁) (g' := (mkF m 28 #[.val (.long j0), .second, .val (.long j1), .second, .val (.int i2), .val (.int i3), .val (.int i4), .val (.int i5), .val (.int (i2 >>> ((3 : Int32) &&& 31))), .val (.int (((i2 >>> ((3 : Int32) &&& 31)) + (1 : Int32)) + (i5 &&& (3 : Int32)))), .unset, .unset, .unset, .unset, .unset, .unset, .unset, .unset, .unset, .unset, .unset, .unset, .unset] [(.int (((((i2 >>> ((3 : Int32) &&& 31)) + (1 : Int32)) + (i5 &&& (3 : Int32))) + (1 : Int32)) + (((i5.toUInt32 >>> ((2 : Int32) &&& 31).toUInt32).toInt32) &&& (3 : Int32))))])) (fun _ k => XS.iadd X0.here hx rfl (hb hby at_27) rfl k) ?_
  refine own_go (T' := s₁) (g' := (mkF m 30 #[.val (.long j0), .second, .val (.long j1), .second, .val (.int i2), .val (.int i3), .val (.int i4), .val (.int i5), .val (.int (i2 >>> ((3 : Int32) &&& 31))), .val (.int (((i2 >>> ((3 : Int32) &&& 31)) + (1 : Int32)) + (i5 &&& (3 : Int32)))), .val (.int (((((i2 >>> ((3 : Int32) &&& 31)) + (1 : Int32)) + (i5 &&& (3 : Int32))) + (1 : Int32)) + (((i5.toUInt32 >>> ((2 : Int32) &&& 31).toUInt32).toInt32) &&& (3 : Int32)))), .unset, .unset, .unset, .unset, .unset, .unset, .unset, .unset, .unset, .unset, .unset, .unset] [])) (fun _ k => XS.istore X0.here hx rfl (hb hby at_28) rfl (l' := #[.val (.long j0), .second, .val (.long j1), .second, .val (.int i2), .val (.int i3), .val (.int i4), .val (.int i5), .val (.int (i2 >>> ((3 : Int32) &&& 31))), .val (.int (((i2 >>> ((3 : Int32) &&& 31)) + (1 : Int32)) + (i5 &&& (3 : Int32)))), .val (.int (((((i2 >>> ((3 : Int32) &&& 31)) + (1 : Int32)) + (i5 &&& (3 : Int32))) + (1 : Int32)) + (((i5.toUInt32 >>> ((2 : Int32) &&& 31).toUInt32).toInt32) &&& (3 : Int32)))), .unset, .unset, .unset, .unset, .unset, .unset, .unset, .unset, .unset, .unset, .unset, .unset]) rfl k) ?_
  refine own_go (T' := s₁) (g' := (mkF m 32 #[.val (.long j0), .second, .val (.long j1), .second, .val (.int i2), .val (.int i3), .val (.int i4), .val (.int i5), .val (.int (i2 >>> ((3 : Int32) &&& 31))), .val (.int (((i2 >>> ((3 : Int32) &&& 31)) + (1 : Int32)) + (i5 &&& (3 : Int32)))), .val (.int (((((i2 >>> ((3 : Int32) &&& 31)) + (1 : Int32)) + (i5 &&& (3 : Int32))) + (1 : Int32)) + (((i5.toUInt32 >>> ((2 : Int32) &&& 31).toUInt32).toInt32) &&& (3 : Int32)))), .unset, .unset, .unset, .unset, .unset, .unset, .unset, .unset, .unset, .unset, .unset, .unset] [(.int i4)])) (fun _ k => XS.iload X0.here hx rfl (hb hby at_30) rfl k) ?_
  refine own_go (T' := s₁) (g' := (mkF m 34 #[.val (.long j0), .second, .val (.long j1), .second, .val (.int i2), .val (.int i3), .val (.int i4), .val (.int i5), .val (.int (i2 >>> ((3 : Int32) &&& 31))), .val (.int (((i2 >>> ((3 : Int32) &&& 31)) + (1 : Int32)) + (i5 &&& (3 : Int32)))), .val (.int (((((i2 >>> ((3 : Int32) &&& 31)) + (1 : Int32)) + (i5 &&& (3 : Int32))) + (1 : Int32)) + (((i5.toUInt32 >>> ((2 : Int32) &&& 31).toUInt32).toInt32) &&& (3 : Int32)))), .val (.int i4), .unset, .unset, .unset, .unset, .unset, .unset, .unset, .unset, .unset, .unset, .unset] [])) (fun _ k => XS.istore X0.here hx rfl (hb hby at_32) rfl (l' := #[.val (.long j0), .second, .val (.long j1), .second, .val (.int i2), .val (.int i3), .val (.int i4), .val (.int i5), .val (.int (i2 >>> ((3 : Int32) &&& 31))), .val (.int (((i2 >>> ((3 : Int32) &&& 31)) + (1 : Int32)) + (i5 &&& (3 : Int32)))), .val (.int (((((i2 >>> ((3 : Int32) &&& 31)) + (1 : Int32)) + (i5 &&& (3 : Int32))) + (1 : Int32)) + (((i5.toUInt32 >>> ((2 : Int32) &&& 31).toUInt32).toInt32) &&& (3 : Int32)))), .val (.int i4), .unset, .unset, .unset, .unset, .unset, .unset, .unset, .unset, .unset, .unset, .unset]) rfl k) ?_
  refine own_go (T' := s₁) (g' := (mkF m 36 #[.val (.long j0), .second, .val (.long j1), .second, .val (.int i2), .val (.int i3), .val (.int i4), .val (.int i5), .val (.int (i2 >>> ((3 : Int32) &&& 31))), .val (.int (((i2 >>> ((3 : Int32) &&& 31)) + (1 : Int32)) + (i5 &&& (3 : Int32)))), .val (.int (((((i2 >>> ((3 : Int32) &&& 31)) + (1 : Int32)) + (i5 &&& (3 : Int32))) + (1 : Int32)) + (((i5.toUInt32 >>> ((2 : Int32) &&& 31).toUInt32).toInt32) &&& (3 : Int32)))), .val (.int i4), .unset, .unset, .unset, .unset, .unset, .unset, .unset, .unset, .unset, .unset, .unset] [(.int i3)])) (fun _ k => XS.iload X0.here hx rfl (hb hby at_34) rfl k) ?_
  refine own_go (T' := s₁) (g' := (mkF m 37 #[.val (.long j0), .second, .val (.long j1), .second, .val (.int i2), .val (.int i3), .val (.int i4), .val (.int i5), .val (.int (i2 >>> ((3 : Int32) &&& 31))), .val (.int (((i2 >>> ((3 : Int32) &&& 31)) + (1 : Int32)) + (i5 &&& (3 : Int32)))), .val (.int (((((i2 >>> ((3 : Int32) &&& 31)) + (1 : Int32)) + (i5 &&& (3 : Int32))) + (1 : Int32)) + (((i5.toUInt32 >>> ((2 : Int32) &&& 31).toUInt32).toInt32) &&& (3 : Int32)))), .val (.int i4), .unset, .unset, .unset, .unset, .unset, .unset, .unset, .unset, .unset, .unset, .unset] [(.int (3 : Int32)), (.int i3)])) (fun _ k => XS.iconst X0.here hx rfl (hb hby at_36) k) ?_
  refine own_go (T' := s₁) (g' := (mkF m 38 #[.val (.long j0), .second, .val (.long j1), .second, .val (.int i2), .val (.int i3), .val (.int i4), .val (.int i5), .val (.int (i2 >>> ((3 : Int32) &&& 31))), .val (.int (((i2 >>> ((3 : Int32) &&& 31)) + (1 : Int32)) + (i5 &&& (3 : Int32)))), .val (.int (((((i2 >>> ((3 : Int32) &&& 31)) + (1 : Int32)) + (i5 &&& (3 : Int32))) + (1 : Int32)) + (((i5.toUInt32 >>> ((2 : Int32) &&& 31).toUInt32).toInt32) &&& (3 : Int32)))), .val (.int i4), .unset, .unset, .unset, .unset, .unset, .unset, .unset, .unset, .unset, .unset, .unset] [(.int (i3 >>> ((3 : Int32) &&& 31)))])) (fun _ k => XS.ishr X0.here hx rfl (hb hby at_37) rfl k) ?_
  refine own_go (T' := s₁) (g' := (mkF m 40 #[.val (.long j0), .second, .val (.long j1), .second, .val (.int i2), .val (.int i3), .val (.int i4), .val (.int i5), .val (.int (i2 >>> ((3 : Int32) &&& 31))), .val (.int (((i2 >>> ((3 : Int32) &&& 31)) + (1 : Int32)) + (i5 &&& (3 : Int32)))), .val (.int (((((i2 >>> ((3 : Int32) &&& 31)) + (1 : Int32)) + (i5 &&& (3 : Int32))) + (1 : Int32)) + (((i5.toUInt32 >>> ((2 : Int32) &&& 31).toUInt32).toInt32) &&& (3 : Int32)))), .val (.int i4), .val (.int (i3 >>> ((3 : Int32) &&& 31))), .unset, .unset, .unset, .unset, .unset, .unset, .unset, .unset, .unset, .unset] [])) (fun _ k => XS.istore X0.here hx rfl (hb hby at_38) rfl (l' := #[.val (.long j0), .second, .val (.long j1), .second, .val (.int i2), .val (.int i3), .val (.int i4), .val (.int i5), .val (.int (i2 >>> ((3 : Int32) &&& 31))), .val (.int (((i2 >>> ((3 : Int32) &&& 31)) + (1 : Int32)) + (i5 &&& (3 : Int32)))), .val (.int (((((i2 >>> ((3 : Int32) &&& 31)) + (1 : Int32)) + (i5 &&& (3 : Int32))) + (1 : Int32)) + (((i5.toUInt32 >>> ((2 : Int32) &&& 31).toUInt32).toInt32) &&& (3 : Int32)))), .val (.int i4), .val (.int (i3 >>> ((3 : Int32) &&& 31))), .unset, .unset, .unset, .unset, .unset, .unset, .unset, .unset, .unset, .unset]) rfl k) ?_
  refine own_go (T' := s₁) (g' := (mkF m 42 #[.val (.long j0), .second, .val (.long j1), .second, .val (.int i2), .val (.int i3), .val (.int i4), .val (.int i5), .val (.int (i2 >>> ((3 : Int32) &&& 31))), .val (.int (((i2 >>> ((3 : Int32) &&& 31)) + (1 : Int32)) + (i5 &&& (3 : Int32)))), .val (.int (((((i2 >>> ((3 : Int32) &&& 31)) + (1 : Int32)) + (i5 &&& (3 : Int32))) + (1 : Int32)) + (((i5.toUInt32 >>> ((2 : Int32) &&& 31).toUInt32).toInt32) &&& (3 : Int32)))), .val (.int i4), .val (.int (i3 >>> ((3 : Int32) &&& 31))), .unset, .unset, .unset, .unset, .unset, .unset, .unset, .unset, .unset, .unset] [(.int (i3 >>> ((3 : Int32) &&& 31)))])) (fun _ k => XS.iload X0.here hx rfl (hb hby at_40) rfl k) ?_
  refine own_go (T' := s₁) (g' := (mkF m 43 #[.val (.long j0), .second, .val (.long j1), .second, .val (.int i2), .val (.int i3), .val (.int i4), .val (.int i5), .val (.int (i2 >>> ((3 : Int32) &&& 31))), .val (.int (((i2 >>> ((3 : Int32) &&& 31)) + (1 : Int32)) + (i5 &&& (3 : Int32)))), .val (.int (((((i2 >>> ((3 : Int32) &&& 31)) + (1 : Int32)) + (i5 &&& (3 : Int32))) + (1 : Int32)) + (((i5.toUInt32 >>> ((2 : Int32) &&& 31).toUInt32).toInt32) &&& (3 : Int32)))), .val (.int i4), .val (.int (i3 >>> ((3 : Int32) &&& 31))), .unset, .unset, .unset, .unset, .unset, .unset, .unset, .unset, .unset, .unset] [(.int (1 : Int32)), (.int (i3 >>> ((3 : Int32) &&& 31)))])) (fun _ k => XS.iconst X0.here hx rfl (hb hby at_42) k) ?_
  refine own_go (T' := s₁) (g' := (mkF m 44 #[.val (.long j0), .second, .val (.long j1), .second, .val (.int i2), .val (.int i3), .val (.int i4), .val (.int i5), .val (.int (i2 >>> ((3 : Int32) &&& 31))), .val (.int (((i2 >>> ((3 : Int32) &&& 31)) + (1 : Int32)) + (i5 &&& (3 : Int32)))), .val (.int (((((i2 >>> ((3 : Int32) &&& 31)) + (1 : Int32)) + (i5 &&& (3 : Int32))) + (1 : Int32)) + (((i5.toUInt32 >>> ((2 : Int32) &&& 31).toUInt32).toInt32) &&& (3 : Int32)))), .val (.int i4), .val (.int (i3 >>> ((3 : Int32) &&& 31))), .unset, .unset, .unset, .unset, .unset, .unset, .unset, .unset, .unset, .unset] [(.int ((i3 >>> ((3 : Int32) &&& 31)) + (1 : Int32)))])) (fun _ k => XS.iadd X0.here hx rfl (hb hby at_43) rfl k) ?_
  refine own_go (T' := s₁) (g' := (mkF m 46 #[.val (.long j0), .second, .val (.long j1), .second, .val (.int i2), .val (.int i3), .val (.int i4), .val (.int i5), .val (.int (i2 >>> ((3 : Int32) &&& 31))), .val (.int (((i2 >>> ((3 : Int32) &&& 31)) + (1 : Int32)) + (i5 &&& (3 : Int32)))), .val (.int (((((i2 >>> ((3 : Int32) &&& 31)) + (1 : Int32)) + (i5 &&& (3 : Int32))) + (1 : Int32)) + (((i5.toUInt32 >>> ((2 : Int32) &&& 31).toUInt32).toInt32) &&& (3 : Int32)))), .val (.int i4), .val (.int (i3 >>> ((3 : Int32) &&& 31))), .unset, .unset, .unset, .unset, .unset, .unset, .unset, .unset, .unset, .unset] [(.int i5), (.int ((i3 >>> ((3 : Int32) &&& 31)) + (1 : Int32)))])) (fun _ k => XS.iload X0.here hx rfl (hb hby at_44) rfl k) ?_
  refine own_go (T' := s₁) (g' := (mkF m 47 #[.val (.long j0), .second, .val (.long j1), .second, .val (.int i2), .val (.int i3), .val (.int i4), .val (.int i5), .val (.int (i2 >>> ((3 : Int32) &&& 31))), .val (.int (((i2 >>> ((3 : Int32) &&& 31)) + (1 : Int32)) + (i5 &&& (3 : Int32)))), .val (.int (((((i2 >>> ((3 : Int32) &&& 31)) + (1 : Int32)) + (i5 &&& (3 : Int32))) + (1 : Int32)) + (((i5.toUInt32 >>> ((2 : Int32) &&& 31).toUInt32).toInt32) &&& (3 : Int32)))), .val (.int i4), .val (.int (i3 >>> ((3 : Int32) &&& 31))), .unset, .unset, .unset, .unset, .unset, .unset, .unset, .unset, .unset, .unset] [(.int (4 : Int32)), (.int i5), (.int ((i3 >>> ((3 : Int32) &&& 31)) + (1 : Int32)))])) (fun _ k => XS.iconst X0.here hx rfl (hb hby at_46) k) ?_
  refine own_go (T' := s₁) (g' := (mkF m 48 #[.val (.long j0), .second, .val (.long j1), .second, .val (.int i2), .val (.int i3), .val (.int i4), .val (.int i5), .val (.int (i2 >>> ((3 : Int32) &&& 31))), .val (.int (((i2 >>> ((3 : Int32) &&& 31)) + (1 : Int32)) + (i5 &&& (3 : Int32)))), .val (.int (((((i2 >>> ((3 : Int32) &&& 31)) + (1 : Int32)) + (i5 &&& (3 : Int32))) + (1 : Int32)) + (((i5.toUInt32 >>> ((2 : Int32) &&& 31).toUInt32).toInt32) &&& (3 : Int32)))), .val (.int i4), .val (.int (i3 >>> ((3 : Int32) &&& 31))), .unset, .unset, .unset, .unset, .unset, .unset, .unset, .unset, .unset, .unset] [(.int ((i5.toUInt32 >>> ((4 : Int32) &&& 31).toUInt32).toInt32)), (.int ((i3 >>> ((3 : Int32) &&& 31)) + (1 : Int32)))])) (fun _ k => XS.iushr X0.here hx rfl (hb hby at_47) rfl k) ?_
  refine own_go (T' := s₁) (g' := (mkF m 49 #[.val (.long j0), .second, .val (.long j1), .second, .val (.int i2), .val (.int i3), .val (.int i4), .val (.int i5), .val (.int (i2 >>> ((3 : Int32) &&& 31))), .val (.int (((i2 >>> ((3 : Int32) &&& 31)) + (1 : Int32)) + (i5 &&& (3 : Int32)))), .val (.int (((((i2 >>> ((3 : Int32) &&& 31)) + (1 : Int32)) + (i5 &&& (3 : Int32))) + (1 : Int32)) + (((i5.toUInt32 >>> ((2 : Int32) &&& 31).toUInt32).toInt32) &&& (3 : Int32)))), .val (.int i4), .val (.int (i3 >>> ((3 : Int32) &&& 31))), .unset, .unset, .unset, .unset, .unset, .unset, .unset, .unset, .unset, .unset] [(.int (3 : Int32)), (.int ((i5.toUInt32 >>> ((4 : Int32) &&& 31).toUInt32).toInt32)), (.int ((i3 >>> ((3 : Int32) &&& 31)) + (1 : Int32)))])) (fun _ k => XS.iconst X0.here hx rfl (hb hby at_48) k) ?_
  refine own_go (T' := s₁) (g' := (mkF m 50 #[.val (.long j0), .second, .val (.long j1), .second, .val (.int i2), .val (.int i3), .val (.int i4), .val (.int i5), .val (.int (i2 >>> ((3 : Int32) &&& 31))), .val (.int (((i2 >>> ((3 : Int32) &&& 31)) + (1 : Int32)) + (i5 &&& (3 : Int32)))), .val (.int (((((i2 >>> ((3 : Int32) &&& 31)) + (1 : Int32)) + (i5 &&& (3 : Int32))) + (1 : Int32)) + (((i5.toUInt32 >>> ((2 : Int32) &&& 31).toUInt32).toInt32) &&& (3 : Int32)))), .val (.int i4), .val (.int (i3 >>> ((3 : Int32) &&& 31))), .unset, .unset, .unset, .unset, .unset, .unset, .unset, .unset, .unset, .unset] [(.int (((i5.toUInt32 >>> ((4 : Int32) &&& 31).toUInt32).toInt32) &&& (3 : Int32))), (.int ((i3 >>> ((3 : Int32) &&& 31)) + (1 : Int32)))])) (fun _ k => XS.iand X0.here hx rfl (hb hby at_49) rfl k) ?_
  refine own_go (T' := s₁) (g' := (mkF m 51 #[.val (.long j0), .second, .val (.long j1), .second, .val (.int i2), .val (.int i3), .val (.int i4), .val (.int i5), .val (.int (i2 >>> ((3 : Int32) &&& 31))), .val (.int (((i2 >>> ((3 : Int32) &&& 31)) + (1 : Int32)) + (i5 &&& (3 : Int32)))), .val (.int (((((i2 >>> ((3 : Int32) &&& 31)) + (1 : Int32)) + (i5 &&& (3 : Int32))) + (1 : Int32)) + (((i5.toUInt32 >>> ((2 : Int32) &&& 31).toUInt32).toInt32) &&& (3 : Int32)))), .val (.int i4), .val (.int (i3 >>> ((3 : Int32) &&& 31))), .unset, .unset, .unset, .unset, .unset, .unset, .unset, .unset, .unset, .unset] [(.int (((i3 >>> ((3 : Int32) &&& 31)) + (1 : Int32)) + (((i5.toUInt32 >>> ((4 : Int32) &&& 31).toUInt32).toInt32) &&& (3 : Int32))))])) (fun _ k => XS.iadd X0.here hx rfl (hb hby at_50) rfl k) ?_
  refine own_go (T' := s₁) (g' := (mkF m 53 #[.val (.long j0), .second, .val (.long j1), .second, .val (.int i2), .val (.int i3), .val (.int i4), .val (.int i5), .val (.int (i2 >>> ((3 : Int32) &&& 31))), .val (.int (((i2 >>> ((3 : Int32) &&& 31)) + (1 : Int32)) + (i5 &&& (3 : Int32)))), .val (.int (((((i2 >>> ((3 : Int32) &&& 31)) + (1 : Int32)) + (i5 &&& (3 : Int32))) + (1 : Int32)) + (((i5.toUInt32 >>> ((2 : Int32) &&& 31).toUInt32).toInt32) &&& (3 : Int32)))), .val (.int i4), .val (.int (i3 >>> ((3 : Int32) &&& 31))), .val (.int (((i3 >>> ((3 : Int32) &&& 31)) + (1 : Int32)) + (((i5.toUInt32 >>> ((4 : Int32) &&& 31).toUInt32).toInt32) &&& (3 : Int32)))), .unset, .unset, .unset, .unset, .unset, .unset, .unset, .unset, .unset] [])) (fun _ k => XS.istore X0.here hx rfl (hb hby at_51) rfl (l' := #[.val (.long j0), .second, .val (.long j1), .second, .val (.int i2), .val (.int i3), .val (.int i4), .val (.int i5), .val (.int (i2 >>> ((3 : Int32) &&& 31))), .val (.int (((i2 >>> ((3 : Int32) &&& 31)) + (1 : Int32)) + (i5 &&& (3 : Int32)))), .val (.int (((((i2 >>> ((3 : Int32) &&& 31)) + (1 : Int32)) + (i5 &&& (3 : Int32))) + (1 : Int32)) + (((i5.toUInt32 >>> ((2 : Int32) &&& 31).toUInt32).toInt32) &&& (3 : Int32)))), .val (.int i4), .val (.int (i3 >>> ((3 : Int32) &&& 31))), .val (.int (((i3 >>> ((3 : Int32) &&& 31)) + (1 : Int32)) + (((i5.toUInt32 >>> ((4 : Int32) &&& 31).toUInt32).toInt32) &&& (3 : Int32)))), .unset, .unset, .unset, .unset, .unset, .unset, .unset, .unset, .unset]) rfl k) ?_
  have s1 := c_ishr i2 (3 : Int32) 3 (by decide)
  have s2 := c_ishr i3 (3 : Int32) 3 (by decide)
  have rr2 := rng32 i2
  have rr3 := rng32 i3
  have m1 := c_and i5 (3 : Int32) (by decide)
  have m2 := c_and ((i5.toUInt32 >>> ((2 : Int32) &&& 31).toUInt32).toInt32) (3 : Int32) (by decide)
  have m3 := c_and ((i5.toUInt32 >>> ((4 : Int32) &&& 31).toUInt32).toInt32) (3 : Int32) (by decide)
  have a1 := c_iadd (i2 >>> ((3 : Int32) &&& 31)) (1 : Int32)
  have a1r := rng32 ((i2 >>> ((3 : Int32) &&& 31)) + (1 : Int32))
  have a2 := c_iadd ((i2 >>> ((3 : Int32) &&& 31)) + (1 : Int32)) (i5 &&& (3 : Int32))
  have a2r := rng32 (((i2 >>> ((3 : Int32) &&& 31)) + (1 : Int32)) + (i5 &&& (3 : Int32)))
  have a3 := c_iadd (((i2 >>> ((3 : Int32) &&& 31)) + (1 : Int32)) + (i5 &&& (3 : Int32))) (1 : Int32)
  have a3r := rng32 ((((i2 >>> ((3 : Int32) &&& 31)) + (1 : Int32)) + (i5 &&& (3 : Int32))) + (1 : Int32))
  have a4 := c_iadd ((((i2 >>> ((3 : Int32) &&& 31)) + (1 : Int32)) + (i5 &&& (3 : Int32))) + (1 : Int32)) (((i5.toUInt32 >>> ((2 : Int32) &&& 31).toUInt32).toInt32) &&& (3 : Int32))
  have a4r := rng32 (((((i2 >>> ((3 : Int32) &&& 31)) + (1 : Int32)) + (i5 &&& (3 : Int32))) + (1 : Int32)) + (((i5.toUInt32 >>> ((2 : Int32) &&& 31).toUInt32).toInt32) &&& (3 : Int32)))
  have a5 := c_iadd (i3 >>> ((3 : Int32) &&& 31)) (1 : Int32)
  have a5r := rng32 ((i3 >>> ((3 : Int32) &&& 31)) + (1 : Int32))
  have a6 := c_iadd ((i3 >>> ((3 : Int32) &&& 31)) + (1 : Int32)) (((i5.toUInt32 >>> ((4 : Int32) &&& 31).toUInt32).toInt32) &&& (3 : Int32))
  have a6r := rng32 (((i3 >>> ((3 : Int32) &&& 31)) + (1 : Int32)) + (((i5.toUInt32 >>> ((4 : Int32) &&& 31).toUInt32).toInt32) &&& (3 : Int32)))
  simp only [own_ln1, own_l0, own_l1, own_l2, own_l3, own_l4, own_l5, own_l6, own_l7, own_l8, own_l9, own_l12, own_l32, own_L0, own_L1, own_L2, own_L3, own_L7, Nat.reducePow, Int.cast_ofNat_Int] at s1 s2 m1 m2 m3 a1 a2 a3 a4 a5 a6
  have ho : ((i2 >>> ((3 : Int32) &&& 31))).toInt < ((((i2 >>> ((3 : Int32) &&& 31)) + (1 : Int32)) + (i5 &&& (3 : Int32)))).toInt ∧ ((((i2 >>> ((3 : Int32) &&& 31)) + (1 : Int32)) + (i5 &&& (3 : Int32)))).toInt < ((((((i2 >>> ((3 : Int32) &&& 31)) + (1 : Int32)) + (i5 &&& (3 : Int32))) + (1 : Int32)) + (((i5.toUInt32 >>> ((2 : Int32) &&& 31).toUInt32).toInt32) &&& (3 : Int32)))).toInt ∧ ((i3 >>> ((3 : Int32) &&& 31))).toInt < ((((i3 >>> ((3 : Int32) &&& 31)) + (1 : Int32)) + (((i5.toUInt32 >>> ((4 : Int32) &&& 31).toUInt32).toInt32) &&& (3 : Int32)))).toInt := by omega
  clear s1 s2 rr2 rr3 m1 m2 m3 a1 a1r a2 a2r a3 a3r a4 a4r a5 a5r a6 a6r
  generalize (((((i2 >>> ((3 : Int32) &&& 31)) + (1 : Int32)) + (i5 &&& (3 : Int32))) + (1 : Int32)) + (((i5.toUInt32 >>> ((2 : Int32) &&& 31).toUInt32).toInt32) &&& (3 : Int32))) = ec at *
  generalize (((i2 >>> ((3 : Int32) &&& 31)) + (1 : Int32)) + (i5 &&& (3 : Int32))) = eb at *
  generalize (i2 >>> ((3 : Int32) &&& 31)) = ea at *
  generalize (((i3 >>> ((3 : Int32) &&& 31)) + (1 : Int32)) + (((i5.toUInt32 >>> ((4 : Int32) &&& 31).toUInt32).toInt32) &&& (3 : Int32))) = gb at *
  generalize (i3 >>> ((3 : Int32) &&& 31)) = ga at *
  obtain ⟨T1, h1, X1, e1, E1, A1, D1, -, st1⟩ := newO X0 hx hZ hown (hw _ (List.mem_of_getElem? (i := 0) rfl)) (hw _ (List.mem_of_getElem? (i := 1) rfl)) (hw _ (List.mem_of_getElem? (i := 2) rfl)) e0 (g := (mkF m 53 #[.val (.long j0), .second, .val (.long j1), .second, .val (.int i2), .val (.int i3), .val (.int i4), .val (.int i5), .val (.int ea), .val (.int eb), .val (.int ec), .val (.int i4), .val (.int ga), .val (.int gb), .unset, .unset, .unset, .unset, .unset, .unset, .unset, .unset, .unset] [])) rfl (hb hby at_53) (by decide) (by decide)
  obtain ⟨b1, g1⟩ : ∃ z, z = h0.size := ⟨_, rfl⟩
  rw [← g1] at A1 D1 st1
  have g_b1 : n0 ≤ b1 := Nat.le_trans Zs (Nat.le_of_eq g1.symm)
  have Zs := Nat.le_trans Zs E1.1
  have E_b1 := A1
  have F_b1_firstStreams : Fld Z h1 b1 "com/example/nimble_twig/nimbletwig/index/store/StoredStreams" "firstStreams" "[I" .null := D1 (Or.inl (hw _ (List.mem_of_getElem? (i := 11) rfl))) (ty := (.array .int)) (by decide)
  have F_b1_firstDepths : Fld Z h1 b1 "com/example/nimble_twig/nimbletwig/index/store/StoredStreams" "firstDepths" "[I" .null := D1 (Or.inl (hw _ (List.mem_of_getElem? (i := 13) rfl))) (ty := (.array .int)) (by decide)
  have F_b1_names : Fld Z h1 b1 "com/example/nimble_twig/nimbletwig/index/store/StoredStreams" "names" "[I" .null := D1 (Or.inl (hw _ (List.mem_of_getElem? (i := 19) rfl))) (ty := (.array .int)) (by decide)
  have F_b1_depths : Fld Z h1 b1 "com/example/nimble_twig/nimbletwig/index/store/StoredStreams" "depths" "[I" .null := D1 (Or.inl (hw _ (List.mem_of_getElem? (i := 21) rfl))) (ty := (.array .int)) (by decide)
  have F_b1_firstExtents : Fld Z h1 b1 "com/example/nimble_twig/nimbletwig/index/store/StoredStreams" "firstExtents" "[I" .null := D1 (Or.inl (hw _ (List.mem_of_getElem? (i := 23) rfl))) (ty := (.array .int)) (by decide)
  have F_b1_offsets : Fld Z h1 b1 "com/example/nimble_twig/nimbletwig/index/store/StoredStreams" "offsets" "[J" .null := D1 (Or.inl (hw _ (List.mem_of_getElem? (i := 26) rfl))) (ty := (.array .long)) (by decide)
  have F_b1_starts : Fld Z h1 b1 "com/example/nimble_twig/nimbletwig/index/store/StoredStreams" "starts" "[J" .null := D1 (Or.inl (hw _ (List.mem_of_getElem? (i := 28) rfl))) (ty := (.array .long)) (by decide)
  have F_b1_sizes : Fld Z h1 b1 "com/example/nimble_twig/nimbletwig/index/store/StoredStreams" "sizes" "[I" .null := D1 (Or.inl (hw _ (List.mem_of_getElem? (i := 30) rfl))) (ty := (.array .int)) (by decide)
  have F_b1_checksums : Fld Z h1 b1 "com/example/nimble_twig/nimbletwig/index/store/StoredStreams" "checksums" "[I" .null := D1 (Or.inl (hw _ (List.mem_of_getElem? (i := 32) rfl))) (ty := (.array .int)) (by decide)
  have F_b1_size : Fld Z h1 b1 "com/example/nimble_twig/nimbletwig/index/store/StoredStreams" "size" "I" (.int (0 : Int32)) := D1 (Or.inl (hw _ (List.mem_of_getElem? (i := 39) rfl))) (ty := .int) (by decide)
  have F_b1_extents : Fld Z h1 b1 "com/example/nimble_twig/nimbletwig/index/store/StoredStreams" "extents" "I" (.int (0 : Int32)) := D1 (Or.inl (hw _ (List.mem_of_getElem? (i := 41) rfl))) (ty := .int) (by decide)
  refine own_go (T' := T1) (g' := (mkF m 56 #[.val (.long j0), .second, .val (.long j1), .second, .val (.int i2), .val (.int i3), .val (.int i4), .val (.int i5), .val (.int ea), .val (.int eb), .val (.int ec), .val (.int i4), .val (.int ga), .val (.int gb), .unset, .unset, .unset, .unset, .unset, .unset, .unset, .unset, .unset] [(.ref b1)])) (fun _ k => st1 _ k) ?_
  refine own_go (T' := T1) (g' := (mkF m 57 #[.val (.long j0), .second, .val (.long j1), .second, .val (.int i2), .val (.int i3), .val (.int i4), .val (.int i5), .val (.int ea), .val (.int eb), .val (.int ec), .val (.int i4), .val (.int ga), .val (.int gb), .unset, .unset, .unset, .unset, .unset, .unset, .unset, .unset, .unset] [(.ref b1), (.ref b1)])) (fun _ k => XS.dup X1.here hx rfl (hb hby at_56) rfl rfl k) ?_
  refine own_go (T' := T1) (g' := (mkF m 59 #[.val (.long j0), .second, .val (.long j1), .second, .val (.int i2), .val (.int i3), .val (.int i4), .val (.int i5), .val (.int ea), .val (.int eb), .val (.int ec), .val (.int i4), .val (.int ga), .val (.int gb), .unset, .unset, .unset, .unset, .unset, .unset, .unset, .unset, .unset] [(.int (6 : Int32)), (.ref b1), (.ref b1)])) (fun _ k => XS.bipush X1.here hx rfl (hb hby at_57) k) ?_
  have lt_b1 := E_b1.lt
  have Zs0 := Zs
  obtain ⟨_, _, ⟨T2, L2, k2, n2⟩, -, X2, ⟨Lc2, hQ2, l2, y2, z2⟩, st2⟩ := X1.specialBack hx (y := (⟨"com/example/nimble_twig/nimbletwig/index/store/StoredStreams", "<init>", "(I)V"⟩ : MethodName)) rfl hown (mvT hZ (hw _ (List.mem_of_getElem? (i := 3) rfl))) (mvT hZ (hw _ (List.mem_of_getElem? (i := 4) rfl))) (mvT hZ (hw _ (List.mem_of_getElem? (i := 5) rfl))) (by decide) (backOf (W := 1) (own_rm2 l Z a0 hw [] b1 (6 : Int32) h1 n0 Zs F_b1_firstStreams F_b1_firstDepths F_b1_names F_b1_depths F_b1_firstExtents F_b1_size F_b1_extents F_b1_offsets F_b1_starts F_b1_sizes F_b1_checksums E_b1 g_b1 (by decide)) hZ (hw _ (List.mem_of_getElem? (i := 5) rfl)) (hw _ (List.mem_of_getElem? (i := 2) rfl)) (by decide) (by decide)) (g := (mkF m 59 #[.val (.long j0), .second, .val (.long j1), .second, .val (.int i2), .val (.int i3), .val (.int i4), .val (.int i5), .val (.int ea), .val (.int eb), .val (.int ec), .val (.int i4), .val (.int ga), .val (.int gb), .unset, .unset, .unset, .unset, .unset, .unset, .unset, .unset, .unset] [(.int (6 : Int32)), (.ref b1), (.ref b1)])) rfl (by rw [hml]; rfl) (Steps.refl _) (a := b1) (argsL := [(.int (6 : Int32))]) (rest := [(.ref b1)]) (lenOf own_pd0_0 rfl) rfl (by show 2 * 0 + _ ≤ _; exact Nat.le_of_eq rfl) (hb hby at_59) (fun _ _ => ⟨rfl, e1, (by decide : 1 + 9 ≤ _), (by decide : 11 + 44 ≤ _)⟩)
  dsimp only [Pt.U, Pt.locs, Pt.cells, Pt.slots] at X2 l2 y2 z2 st2 hQ2
  subst l2 y2 z2
  obtain ⟨rfl, NQ2, K2, E_b1, nA, dA, fA, sA, tA, ⟨ge_nA, ge_dA, ge_fA, ne_nd, ne_nf, ne_df⟩, F_b1_firstStreams, F_b1_firstDepths, F_b1_names, F_b1_depths, F_b1_firstExtents, F_b1_size, F_b1_extents, I_nA, I_dA, I_fA⟩ := hQ2
  have NF := Fr.app NF NQ2
  have Zs := Nat.le_trans Zs K2.1
  have g_nA : n0 ≤ nA := Nat.le_trans Zs0 ge_nA
  have ne_b1_nA : b1 ≠ nA := Nat.ne_of_lt (Nat.lt_of_lt_of_le lt_b1 ge_nA)
  have g_dA : n0 ≤ dA := Nat.le_trans Zs0 ge_dA
  have ne_b1_dA : b1 ≠ dA := Nat.ne_of_lt (Nat.lt_of_lt_of_le lt_b1 ge_dA)
  have g_fA : n0 ≤ fA := Nat.le_trans Zs0 ge_fA
  have ne_b1_fA : b1 ≠ fA := Nat.ne_of_lt (Nat.lt_of_lt_of_le lt_b1 ge_fA)
  refine own_go (T' := T2) (g' := (mkF m 62 #[.val (.long j0), .second, .val (.long j1), .second, .val (.int i2), .val (.int i3), .val (.int i4), .val (.int i5), .val (.int ea), .val (.int eb), .val (.int ec), .val (.int i4), .val (.int ga), .val (.int gb), .unset, .unset, .unset, .unset, .unset, .unset, .unset, .unset, .unset] [(.ref b1)])) (fun _ k => st2.trans k) ?_
  refine own_go (T' := T2) (g' := (mkF m 64 #[.val (.long j0), .second, .val (.long j1), .second, .val (.int i2), .val (.int i3), .val (.int i4), .val (.int i5), .val (.int ea), .val (.int eb), .val (.int ec), .val (.int i4), .val (.int ga), .val (.int gb), .val (.ref b1), .unset, .unset, .unset, .unset, .unset, .unset, .unset, .unset] [])) (fun _ k => XS.astore X2.here hx rfl (hb hby at_62) rfl rfl (l' := #[.val (.long j0), .second, .val (.long j1), .second, .val (.int i2), .val (.int i3), .val (.int i4), .val (.int i5), .val (.int ea), .val (.int eb), .val (.int ec), .val (.int i4), .val (.int ga), .val (.int gb), .val (.ref b1), .unset, .unset, .unset, .unset, .unset, .unset, .unset, .unset]) rfl k) ?_
  refine own_go (T' := T2) (g' := (mkF m 66 #[.val (.long j0), .second, .val (.long j1), .second, .val (.int i2), .val (.int i3), .val (.int i4), .val (.int i5), .val (.int ea), .val (.int eb), .val (.int ec), .val (.int i4), .val (.int ga), .val (.int gb), .val (.ref b1), .unset, .unset, .unset, .unset, .unset, .unset, .unset, .unset] [(.ref b1)])) (fun _ k => XS.aload X2.here hx rfl (hb hby at_64) rfl rfl k) ?_
  refine own_go (T' := T2) (g' := (mkF m 67 #[.val (.long j0), .second, .val (.long j1), .second, .val (.int i2), .val (.int i3), .val (.int i4), .val (.int i5), .val (.int ea), .val (.int eb), .val (.int ec), .val (.int i4), .val (.int ga), .val (.int gb), .val (.ref b1), .unset, .unset, .unset, .unset, .unset, .unset, .unset, .unset] [(.int (1 : Int32)), (.ref b1)])) (fun _ k => XS.iconst X2.here hx rfl (hb hby at_66) k) ?_
  refine own_go (T' := T2) (g' := (mkF m 69 #[.val (.long j0), .second, .val (.long j1), .second, .val (.int i2), .val (.int i3), .val (.int i4), .val (.int i5), .val (.int ea), .val (.int eb), .val (.int ec), .val (.int i4), .val (.int ga), .val (.int gb), .val (.ref b1), .unset, .unset, .unset, .unset, .unset, .unset, .unset, .unset] [(.int ea), (.int (1 : Int32)), (.ref b1)])) (fun _ k => XS.iload X2.here hx rfl (hb hby at_67) rfl k) ?_
  obtain ⟨cq3, kq3, q3a, q3b, q3c⟩ := isOf hZ rfl E_b1
  obtain ⟨_, _, ⟨T3, L3, k3, n3⟩, -, X3, ⟨Lc3, hQ3, l3, y3, z3⟩, st3⟩ := X2.virtualBack hx (y := (⟨"com/example/nimble_twig/nimbletwig/index/store/StoredStreams", "add", "(II)V"⟩ : MethodName)) (z := (⟨"com/example/nimble_twig/nimbletwig/index/store/StoredStreams", "add", "(II)V"⟩ : MethodName)) hown (mvT hZ (hw _ (List.mem_of_getElem? (i := 33) rfl))) (mvT hZ (hw _ (List.mem_of_getElem? (i := 34) rfl))) (notFace_of_selects (args := #[]) (mvT hZ (hw _ (List.mem_of_getElem? (i := 36) rfl)))) (mvT hZ (hw _ (List.mem_of_getElem? (i := 36) rfl))) (mvT hZ (hw _ (List.mem_of_getElem? (i := 35) rfl))) (by decide) (backOf (W := 0) (own_rm3 l Z a0 hw [] b1 (1 : Int32) ea sA tA nA dA fA (6 : Int32) ((6 : Int32) + (1 : Int32)) (0 : Int32) (fun _ => (0 : Int32)) (fun _ => (0 : Int32)) (fun _ => (0 : Int32)) T2.heap n0 Zs F_b1_firstStreams F_b1_firstDepths F_b1_names F_b1_depths F_b1_firstExtents F_b1_size F_b1_extents E_b1 g_b1 g_nA g_dA g_fA ne_b1_nA ne_b1_dA ne_b1_fA ne_nd ne_nf ne_df I_nA I_dA I_fA (by decide)) hZ (hw _ (List.mem_of_getElem? (i := 37) rfl)) (hw _ (List.mem_of_getElem? (i := 2) rfl)) (by decide) (by decide)) q3a q3c (g := (mkF m 69 #[.val (.long j0), .second, .val (.long j1), .second, .val (.int i2), .val (.int i3), .val (.int i4), .val (.int i5), .val (.int ea), .val (.int eb), .val (.int ec), .val (.int i4), .val (.int ga), .val (.int gb), .val (.ref b1), .unset, .unset, .unset, .unset, .unset, .unset, .unset, .unset] [(.int ea), (.int (1 : Int32)), (.ref b1)])) rfl (by rw [hml]; rfl) (Steps.refl _) (argsL := [(.int (1 : Int32)), (.int ea)]) (rest := []) (lenOf own_pd0_1 rfl) rfl (by show 2 * 0 + _ ≤ _; exact Nat.le_of_eq rfl) (hb hby at_69) (fun _ _ => ⟨rfl, rfl, (by decide : 10 + 0 ≤ _), (by decide : 55 + 0 ≤ _)⟩)
  dsimp only [Pt.U, Pt.locs, Pt.cells, Pt.slots] at X3 l3 y3 z3 st3 hQ3
  subst l3 y3 z3
  obtain ⟨rfl, NQ3, K3, E_b1, F_b1_firstStreams, F_b1_firstDepths, F_b1_names, F_b1_depths, F_b1_firstExtents, F_b1_size, F_b1_extents, I_nA, I_dA, I_fA⟩ := hQ3
  have NF := Fr.app NF NQ3
  have Zs := Nat.le_trans Zs K3.1
  refine own_go (T' := T3) (g' := (mkF m 72 #[.val (.long j0), .second, .val (.long j1), .second, .val (.int i2), .val (.int i3), .val (.int i4), .val (.int i5), .val (.int ea), .val (.int eb), .val (.int ec), .val (.int i4), .val (.int ga), .val (.int gb), .val (.ref b1), .unset, .unset, .unset, .unset, .unset, .unset, .unset, .unset] [])) (fun _ k => st3.trans k) ?_
  refine own_go (T' := T3) (g' := (mkF m 74 #[.val (.long j0), .second, .val (.long j1), .second, .val (.int i2), .val (.int i3), .val (.int i4), .val (.int i5), .val (.int ea), .val (.int eb), .val (.int ec), .val (.int i4), .val (.int ga), .val (.int gb), .val (.ref b1), .unset, .unset, .unset, .unset, .unset, .unset, .unset, .unset] [(.ref b1)])) (fun _ k => XS.aload X3.here hx rfl (hb hby at_72) rfl rfl k) ?_
  refine own_go (T' := T3) (g' := (mkF m 75 #[.val (.long j0), .second, .val (.long j1), .second, .val (.int i2), .val (.int i3), .val (.int i4), .val (.int i5), .val (.int ea), .val (.int eb), .val (.int ec), .val (.int i4), .val (.int ga), .val (.int gb), .val (.ref b1), .unset, .unset, .unset, .unset, .unset, .unset, .unset, .unset] [(.int (1 : Int32)), (.ref b1)])) (fun _ k => XS.iconst X3.here hx rfl (hb hby at_74) k) ?_
  refine own_go (T' := T3) (g' := (mkF m 77 #[.val (.long j0), .second, .val (.long j1), .second, .val (.int i2), .val (.int i3), .val (.int i4), .val (.int i5), .val (.int ea), .val (.int eb), .val (.int ec), .val (.int i4), .val (.int ga), .val (.int gb), .val (.ref b1), .unset, .unset, .unset, .unset, .unset, .unset, .unset, .unset] [(.int eb), (.int (1 : Int32)), (.ref b1)])) (fun _ k => XS.iload X3.here hx rfl (hb hby at_75) rfl k) ?_
  obtain ⟨cq4, kq4, q4a, q4b, q4c⟩ := isOf hZ rfl E_b1
  obtain ⟨_, _, ⟨T4, L4, k4, n4⟩, -, X4, ⟨Lc4, hQ4, l4, y4, z4⟩, st4⟩ := X3.virtualBack hx (y := (⟨"com/example/nimble_twig/nimbletwig/index/store/StoredStreams", "add", "(II)V"⟩ : MethodName)) (z := (⟨"com/example/nimble_twig/nimbletwig/index/store/StoredStreams", "add", "(II)V"⟩ : MethodName)) hown (mvT hZ (hw _ (List.mem_of_getElem? (i := 33) rfl))) (mvT hZ (hw _ (List.mem_of_getElem? (i := 34) rfl))) (notFace_of_selects (args := #[]) (mvT hZ (hw _ (List.mem_of_getElem? (i := 36) rfl)))) (mvT hZ (hw _ (List.mem_of_getElem? (i := 36) rfl))) (mvT hZ (hw _ (List.mem_of_getElem? (i := 35) rfl))) (by decide) (backOf (W := 0) (own_rm3 l Z a0 hw [] b1 (1 : Int32) eb sA tA nA dA fA (6 : Int32) ((6 : Int32) + (1 : Int32)) (1 : Int32) (own_up (fun _ => (0 : Int32)) ((0 : Int32)).toNatClampNeg (1 : Int32)) (own_up (fun _ => (0 : Int32)) ((0 : Int32)).toNatClampNeg ea) (own_up (fun _ => (0 : Int32)) ((1 : Int32)).toNatClampNeg (0 : Int32)) T3.heap n0 Zs F_b1_firstStreams F_b1_firstDepths F_b1_names F_b1_depths F_b1_firstExtents F_b1_size F_b1_extents E_b1 g_b1 g_nA g_dA g_fA ne_b1_nA ne_b1_dA ne_b1_fA ne_nd ne_nf ne_df I_nA I_dA I_fA (by decide)) hZ (hw _ (List.mem_of_getElem? (i := 37) rfl)) (hw _ (List.mem_of_getElem? (i := 2) rfl)) (by decide) (by decide)) q4a q4c (g := (mkF m 77 #[.val (.long j0), .second, .val (.long j1), .second, .val (.int i2), .val (.int i3), .val (.int i4), .val (.int i5), .val (.int ea), .val (.int eb), .val (.int ec), .val (.int i4), .val (.int ga), .val (.int gb), .val (.ref b1), .unset, .unset, .unset, .unset, .unset, .unset, .unset, .unset] [(.int eb), (.int (1 : Int32)), (.ref b1)])) rfl (by rw [hml]; rfl) (Steps.refl _) (argsL := [(.int (1 : Int32)), (.int eb)]) (rest := []) (lenOf own_pd0_1 rfl) rfl (by show 2 * 0 + _ ≤ _; exact Nat.le_of_eq rfl) (hb hby at_77) (fun _ _ => ⟨rfl, rfl, (by decide : 10 + 0 ≤ _), (by decide : 55 + 0 ≤ _)⟩)
  dsimp only [Pt.U, Pt.locs, Pt.cells, Pt.slots] at X4 l4 y4 z4 st4 hQ4
  subst l4 y4 z4
  obtain ⟨rfl, NQ4, K4, E_b1, F_b1_firstStreams, F_b1_firstDepths, F_b1_names, F_b1_depths, F_b1_firstExtents, F_b1_size, F_b1_extents, I_nA, I_dA, I_fA⟩ := hQ4
  have NF := Fr.app NF NQ4
  have Zs := Nat.le_trans Zs K4.1
  refine own_go (T' := T4) (g' := (mkF m 80 #[.val (.long j0), .second, .val (.long j1), .second, .val (.int i2), .val (.int i3), .val (.int i4), .val (.int i5), .val (.int ea), .val (.int eb), .val (.int ec), .val (.int i4), .val (.int ga), .val (.int gb), .val (.ref b1), .unset, .unset, .unset, .unset, .unset, .unset, .unset, .unset] [])) (fun _ k => st4.trans k) ?_
  refine own_go (T' := T4) (g' := (mkF m 82 #[.val (.long j0), .second, .val (.long j1), .second, .val (.int i2), .val (.int i3), .val (.int i4), .val (.int i5), .val (.int ea), .val (.int eb), .val (.int ec), .val (.int i4), .val (.int ga), .val (.int gb), .val (.ref b1), .unset, .unset, .unset, .unset, .unset, .unset, .unset, .unset] [(.ref b1)])) (fun _ k => XS.aload X4.here hx rfl (hb hby at_80) rfl rfl k) ?_
  refine own_go (T' := T4) (g' := (mkF m 83 #[.val (.long j0), .second, .val (.long j1), .second, .val (.int i2), .val (.int i3), .val (.int i4), .val (.int i5), .val (.int ea), .val (.int eb), .val (.int ec), .val (.int i4), .val (.int ga), .val (.int gb), .val (.ref b1), .unset, .unset, .unset, .unset, .unset, .unset, .unset, .unset] [(.int (1 : Int32)), (.ref b1)])) (fun _ k => XS.iconst X4.here hx rfl (hb hby at_82) k) ?_
  refine own_go (T' := T4) (g' := (mkF m 85 #[.val (.long j0), .second, .val (.long j1), .second, .val (.int i2), .val (.int i3), .val (.int i4), .val (.int i5), .val (.int ea), .val (.int eb), .val (.int ec), .val (.int i4), .val (.int ga), .val (.int gb), .val (.ref b1), .unset, .unset, .unset, .unset, .unset, .unset, .unset, .unset] [(.int ec), (.int (1 : Int32)), (.ref b1)])) (fun _ k => XS.iload X4.here hx rfl (hb hby at_83) rfl k) ?_
  obtain ⟨cq5, kq5, q5a, q5b, q5c⟩ := isOf hZ rfl E_b1
  obtain ⟨_, _, ⟨T5, L5, k5, n5⟩, -, X5, ⟨Lc5, hQ5, l5, y5, z5⟩, st5⟩ := X4.virtualBack hx (y := (⟨"com/example/nimble_twig/nimbletwig/index/store/StoredStreams", "add", "(II)V"⟩ : MethodName)) (z := (⟨"com/example/nimble_twig/nimbletwig/index/store/StoredStreams", "add", "(II)V"⟩ : MethodName)) hown (mvT hZ (hw _ (List.mem_of_getElem? (i := 33) rfl))) (mvT hZ (hw _ (List.mem_of_getElem? (i := 34) rfl))) (notFace_of_selects (args := #[]) (mvT hZ (hw _ (List.mem_of_getElem? (i := 36) rfl)))) (mvT hZ (hw _ (List.mem_of_getElem? (i := 36) rfl))) (mvT hZ (hw _ (List.mem_of_getElem? (i := 35) rfl))) (by decide) (backOf (W := 0) (own_rm3 l Z a0 hw [] b1 (1 : Int32) ec sA tA nA dA fA (6 : Int32) ((6 : Int32) + (1 : Int32)) (2 : Int32) (own_up (own_up (fun _ => (0 : Int32)) ((0 : Int32)).toNatClampNeg (1 : Int32)) ((1 : Int32)).toNatClampNeg (1 : Int32)) (own_up (own_up (fun _ => (0 : Int32)) ((0 : Int32)).toNatClampNeg ea) ((1 : Int32)).toNatClampNeg eb) (own_up (own_up (fun _ => (0 : Int32)) ((1 : Int32)).toNatClampNeg (0 : Int32)) ((2 : Int32)).toNatClampNeg (0 : Int32)) T4.heap n0 Zs F_b1_firstStreams F_b1_firstDepths F_b1_names F_b1_depths F_b1_firstExtents F_b1_size F_b1_extents E_b1 g_b1 g_nA g_dA g_fA ne_b1_nA ne_b1_dA ne_b1_fA ne_nd ne_nf ne_df I_nA I_dA I_fA (by decide)) hZ (hw _ (List.mem_of_getElem? (i := 37) rfl)) (hw _ (List.mem_of_getElem? (i := 2) rfl)) (by decide) (by decide)) q5a q5c (g := (mkF m 85 #[.val (.long j0), .second, .val (.long j1), .second, .val (.int i2), .val (.int i3), .val (.int i4), .val (.int i5), .val (.int ea), .val (.int eb), .val (.int ec), .val (.int i4), .val (.int ga), .val (.int gb), .val (.ref b1), .unset, .unset, .unset, .unset, .unset, .unset, .unset, .unset] [(.int ec), (.int (1 : Int32)), (.ref b1)])) rfl (by rw [hml]; rfl) (Steps.refl _) (argsL := [(.int (1 : Int32)), (.int ec)]) (rest := []) (lenOf own_pd0_1 rfl) rfl (by show 2 * 0 + _ ≤ _; exact Nat.le_of_eq rfl) (hb hby at_85) (fun _ _ => ⟨rfl, rfl, (by decide : 10 + 0 ≤ _), (by decide : 55 + 0 ≤ _)⟩)
  dsimp only [Pt.U, Pt.locs, Pt.cells, Pt.slots] at X5 l5 y5 z5 st5 hQ5
  subst l5 y5 z5
  obtain ⟨rfl, NQ5, K5, E_b1, F_b1_firstStreams, F_b1_firstDepths, F_b1_names, F_b1_depths, F_b1_firstExtents, F_b1_size, F_b1_extents, I_nA, I_dA, I_fA⟩ := hQ5
  have NF := Fr.app NF NQ5
  have Zs := Nat.le_trans Zs K5.1
  refine own_go (T' := T5) (g' := (mkF m 88 #[.val (.long j0), .second, .val (.long j1), .second, .val (.int i2), .val (.int i3), .val (.int i4), .val (.int i5), .val (.int ea), .val (.int eb), .val (.int ec), .val (.int i4), .val (.int ga), .val (.int gb), .val (.ref b1), .unset, .unset, .unset, .unset, .unset, .unset, .unset, .unset] [])) (fun _ k => st5.trans k) ?_
  refine own_go (T' := T5) (g' := (mkF m 90 #[.val (.long j0), .second, .val (.long j1), .second, .val (.int i2), .val (.int i3), .val (.int i4), .val (.int i5), .val (.int ea), .val (.int eb), .val (.int ec), .val (.int i4), .val (.int ga), .val (.int gb), .val (.ref b1), .unset, .unset, .unset, .unset, .unset, .unset, .unset, .unset] [(.ref b1)])) (fun _ k => XS.aload X5.here hx rfl (hb hby at_88) rfl rfl k) ?_
  refine own_go (T' := T5) (g' := (mkF m 91 #[.val (.long j0), .second, .val (.long j1), .second, .val (.int i2), .val (.int i3), .val (.int i4), .val (.int i5), .val (.int ea), .val (.int eb), .val (.int ec), .val (.int i4), .val (.int ga), .val (.int gb), .val (.ref b1), .unset, .unset, .unset, .unset, .unset, .unset, .unset, .unset] [(.int (2 : Int32)), (.ref b1)])) (fun _ k => XS.iconst X5.here hx rfl (hb hby at_90) k) ?_
  refine own_go (T' := T5) (g' := (mkF m 93 #[.val (.long j0), .second, .val (.long j1), .second, .val (.int i2), .val (.int i3), .val (.int i4), .val (.int i5), .val (.int ea), .val (.int eb), .val (.int ec), .val (.int i4), .val (.int ga), .val (.int gb), .val (.ref b1), .unset, .unset, .unset, .unset, .unset, .unset, .unset, .unset] [(.int i4), (.int (2 : Int32)), (.ref b1)])) (fun _ k => XS.iload X5.here hx rfl (hb hby at_91) rfl k) ?_
  obtain ⟨cq6, kq6, q6a, q6b, q6c⟩ := isOf hZ rfl E_b1
  obtain ⟨_, _, ⟨T6, L6, k6, n6⟩, -, X6, ⟨Lc6, hQ6, l6, y6, z6⟩, st6⟩ := X5.virtualBack hx (y := (⟨"com/example/nimble_twig/nimbletwig/index/store/StoredStreams", "add", "(II)V"⟩ : MethodName)) (z := (⟨"com/example/nimble_twig/nimbletwig/index/store/StoredStreams", "add", "(II)V"⟩ : MethodName)) hown (mvT hZ (hw _ (List.mem_of_getElem? (i := 33) rfl))) (mvT hZ (hw _ (List.mem_of_getElem? (i := 34) rfl))) (notFace_of_selects (args := #[]) (mvT hZ (hw _ (List.mem_of_getElem? (i := 36) rfl)))) (mvT hZ (hw _ (List.mem_of_getElem? (i := 36) rfl))) (mvT hZ (hw _ (List.mem_of_getElem? (i := 35) rfl))) (by decide) (backOf (W := 0) (own_rm3 l Z a0 hw [] b1 (2 : Int32) i4 sA tA nA dA fA (6 : Int32) ((6 : Int32) + (1 : Int32)) (3 : Int32) (own_up (own_up (own_up (fun _ => (0 : Int32)) ((0 : Int32)).toNatClampNeg (1 : Int32)) ((1 : Int32)).toNatClampNeg (1 : Int32)) ((2 : Int32)).toNatClampNeg (1 : Int32)) (own_up (own_up (own_up (fun _ => (0 : Int32)) ((0 : Int32)).toNatClampNeg ea) ((1 : Int32)).toNatClampNeg eb) ((2 : Int32)).toNatClampNeg ec) (own_up (own_up (own_up (fun _ => (0 : Int32)) ((1 : Int32)).toNatClampNeg (0 : Int32)) ((2 : Int32)).toNatClampNeg (0 : Int32)) ((3 : Int32)).toNatClampNeg (0 : Int32)) T5.heap n0 Zs F_b1_firstStreams F_b1_firstDepths F_b1_names F_b1_depths F_b1_firstExtents F_b1_size F_b1_extents E_b1 g_b1 g_nA g_dA g_fA ne_b1_nA ne_b1_dA ne_b1_fA ne_nd ne_nf ne_df I_nA I_dA I_fA (by decide)) hZ (hw _ (List.mem_of_getElem? (i := 37) rfl)) (hw _ (List.mem_of_getElem? (i := 2) rfl)) (by decide) (by decide)) q6a q6c (g := (mkF m 93 #[.val (.long j0), .second, .val (.long j1), .second, .val (.int i2), .val (.int i3), .val (.int i4), .val (.int i5), .val (.int ea), .val (.int eb), .val (.int ec), .val (.int i4), .val (.int ga), .val (.int gb), .val (.ref b1), .unset, .unset, .unset, .unset, .unset, .unset, .unset, .unset] [(.int i4), (.int (2 : Int32)), (.ref b1)])) rfl (by rw [hml]; rfl) (Steps.refl _) (argsL := [(.int (2 : Int32)), (.int i4)]) (rest := []) (lenOf own_pd0_1 rfl) rfl (by show 2 * 0 + _ ≤ _; exact Nat.le_of_eq rfl) (hb hby at_93) (fun _ _ => ⟨rfl, rfl, (by decide : 10 + 0 ≤ _), (by decide : 55 + 0 ≤ _)⟩)
  dsimp only [Pt.U, Pt.locs, Pt.cells, Pt.slots] at X6 l6 y6 z6 st6 hQ6
  subst l6 y6 z6
  obtain ⟨rfl, NQ6, K6, E_b1, F_b1_firstStreams, F_b1_firstDepths, F_b1_names, F_b1_depths, F_b1_firstExtents, F_b1_size, F_b1_extents, I_nA, I_dA, I_fA⟩ := hQ6
  have NF := Fr.app NF NQ6
  have Zs := Nat.le_trans Zs K6.1
  refine own_go (T' := T6) (g' := (mkF m 96 #[.val (.long j0), .second, .val (.long j1), .second, .val (.int i2), .val (.int i3), .val (.int i4), .val (.int i5), .val (.int ea), .val (.int eb), .val (.int ec), .val (.int i4), .val (.int ga), .val (.int gb), .val (.ref b1), .unset, .unset, .unset, .unset, .unset, .unset, .unset, .unset] [])) (fun _ k => st6.trans k) ?_
  refine own_go (T' := T6) (g' := (mkF m 98 #[.val (.long j0), .second, .val (.long j1), .second, .val (.int i2), .val (.int i3), .val (.int i4), .val (.int i5), .val (.int ea), .val (.int eb), .val (.int ec), .val (.int i4), .val (.int ga), .val (.int gb), .val (.ref b1), .unset, .unset, .unset, .unset, .unset, .unset, .unset, .unset] [(.ref b1)])) (fun _ k => XS.aload X6.here hx rfl (hb hby at_96) rfl rfl k) ?_
  refine own_go (T' := T6) (g' := (mkF m 99 #[.val (.long j0), .second, .val (.long j1), .second, .val (.int i2), .val (.int i3), .val (.int i4), .val (.int i5), .val (.int ea), .val (.int eb), .val (.int ec), .val (.int i4), .val (.int ga), .val (.int gb), .val (.ref b1), .unset, .unset, .unset, .unset, .unset, .unset, .unset, .unset] [(.int (3 : Int32)), (.ref b1)])) (fun _ k => XS.iconst X6.here hx rfl (hb hby at_98) k) ?_
  refine own_go (T' := T6) (g' := (mkF m 101 #[.val (.long j0), .second, .val (.long j1), .second, .val (.int i2), .val (.int i3), .val (.int i4), .val (.int i5), .val (.int ea), .val (.int eb), .val (.int ec), .val (.int i4), .val (.int ga), .val (.int gb), .val (.ref b1), .unset, .unset, .unset, .unset, .unset, .unset, .unset, .unset] [(.int ga), (.int (3 : Int32)), (.ref b1)])) (fun _ k => XS.iload X6.here hx rfl (hb hby at_99) rfl k) ?_
  obtain ⟨cq7, kq7, q7a, q7b, q7c⟩ := isOf hZ rfl E_b1
  obtain ⟨_, _, ⟨T7, L7, k7, n7⟩, -, X7, ⟨Lc7, hQ7, l7, y7, z7⟩, st7⟩ := X6.virtualBack hx (y := (⟨"com/example/nimble_twig/nimbletwig/index/store/StoredStreams", "add", "(II)V"⟩ : MethodName)) (z := (⟨"com/example/nimble_twig/nimbletwig/index/store/StoredStreams", "add", "(II)V"⟩ : MethodName)) hown (mvT hZ (hw _ (List.mem_of_getElem? (i := 33) rfl))) (mvT hZ (hw _ (List.mem_of_getElem? (i := 34) rfl))) (notFace_of_selects (args := #[]) (mvT hZ (hw _ (List.mem_of_getElem? (i := 36) rfl)))) (mvT hZ (hw _ (List.mem_of_getElem? (i := 36) rfl))) (mvT hZ (hw _ (List.mem_of_getElem? (i := 35) rfl))) (by decide) (backOf (W := 0) (own_rm3 l Z a0 hw [] b1 (3 : Int32) ga sA tA nA dA fA (6 : Int32) ((6 : Int32) + (1 : Int32)) (4 : Int32) (own_up (own_up (own_up (own_up (fun _ => (0 : Int32)) ((0 : Int32)).toNatClampNeg (1 : Int32)) ((1 : Int32)).toNatClampNeg (1 : Int32)) ((2 : Int32)).toNatClampNeg (1 : Int32)) ((3 : Int32)).toNatClampNeg (2 : Int32)) (own_up (own_up (own_up (own_up (fun _ => (0 : Int32)) ((0 : Int32)).toNatClampNeg ea) ((1 : Int32)).toNatClampNeg eb) ((2 : Int32)).toNatClampNeg ec) ((3 : Int32)).toNatClampNeg i4) (own_up (own_up (own_up (own_up (fun _ => (0 : Int32)) ((1 : Int32)).toNatClampNeg (0 : Int32)) ((2 : Int32)).toNatClampNeg (0 : Int32)) ((3 : Int32)).toNatClampNeg (0 : Int32)) ((4 : Int32)).toNatClampNeg (0 : Int32)) T6.heap n0 Zs F_b1_firstStreams F_b1_firstDepths F_b1_names F_b1_depths F_b1_firstExtents F_b1_size F_b1_extents E_b1 g_b1 g_nA g_dA g_fA ne_b1_nA ne_b1_dA ne_b1_fA ne_nd ne_nf ne_df I_nA I_dA I_fA (by decide)) hZ (hw _ (List.mem_of_getElem? (i := 37) rfl)) (hw _ (List.mem_of_getElem? (i := 2) rfl)) (by decide) (by decide)) q7a q7c (g := (mkF m 101 #[.val (.long j0), .second, .val (.long j1), .second, .val (.int i2), .val (.int i3), .val (.int i4), .val (.int i5), .val (.int ea), .val (.int eb), .val (.int ec), .val (.int i4), .val (.int ga), .val (.int gb), .val (.ref b1), .unset, .unset, .unset, .unset, .unset, .unset, .unset, .unset] [(.int ga), (.int (3 : Int32)), (.ref b1)])) rfl (by rw [hml]; rfl) (Steps.refl _) (argsL := [(.int (3 : Int32)), (.int ga)]) (rest := []) (lenOf own_pd0_1 rfl) rfl (by show 2 * 0 + _ ≤ _; exact Nat.le_of_eq rfl) (hb hby at_101) (fun _ _ => ⟨rfl, rfl, (by decide : 10 + 0 ≤ _), (by decide : 55 + 0 ≤ _)⟩)
  dsimp only [Pt.U, Pt.locs, Pt.cells, Pt.slots] at X7 l7 y7 z7 st7 hQ7
  subst l7 y7 z7
  obtain ⟨rfl, NQ7, K7, E_b1, F_b1_firstStreams, F_b1_firstDepths, F_b1_names, F_b1_depths, F_b1_firstExtents, F_b1_size, F_b1_extents, I_nA, I_dA, I_fA⟩ := hQ7
  have NF := Fr.app NF NQ7
  have Zs := Nat.le_trans Zs K7.1
  refine own_go (T' := T7) (g' := (mkF m 104 #[.val (.long j0), .second, .val (.long j1), .second, .val (.int i2), .val (.int i3), .val (.int i4), .val (.int i5), .val (.int ea), .val (.int eb), .val (.int ec), .val (.int i4), .val (.int ga), .val (.int gb), .val (.ref b1), .unset, .unset, .unset, .unset, .unset, .unset, .unset, .unset] [])) (fun _ k => st7.trans k) ?_
  refine own_go (T' := T7) (g' := (mkF m 106 #[.val (.long j0), .second, .val (.long j1), .second, .val (.int i2), .val (.int i3), .val (.int i4), .val (.int i5), .val (.int ea), .val (.int eb), .val (.int ec), .val (.int i4), .val (.int ga), .val (.int gb), .val (.ref b1), .unset, .unset, .unset, .unset, .unset, .unset, .unset, .unset] [(.ref b1)])) (fun _ k => XS.aload X7.here hx rfl (hb hby at_104) rfl rfl k) ?_
  refine own_go (T' := T7) (g' := (mkF m 107 #[.val (.long j0), .second, .val (.long j1), .second, .val (.int i2), .val (.int i3), .val (.int i4), .val (.int i5), .val (.int ea), .val (.int eb), .val (.int ec), .val (.int i4), .val (.int ga), .val (.int gb), .val (.ref b1), .unset, .unset, .unset, .unset, .unset, .unset, .unset, .unset] [(.int (3 : Int32)), (.ref b1)])) (fun _ k => XS.iconst X7.here hx rfl (hb hby at_106) k) ?_
  refine own_go (T' := T7) (g' := (mkF m 109 #[.val (.long j0), .second, .val (.long j1), .second, .val (.int i2), .val (.int i3), .val (.int i4), .val (.int i5), .val (.int ea), .val (.int eb), .val (.int ec), .val (.int i4), .val (.int ga), .val (.int gb), .val (.ref b1), .unset, .unset, .unset, .unset, .unset, .unset, .unset, .unset] [(.int gb), (.int (3 : Int32)), (.ref b1)])) (fun _ k => XS.iload X7.here hx rfl (hb hby at_107) rfl k) ?_
  obtain ⟨cq8, kq8, q8a, q8b, q8c⟩ := isOf hZ rfl E_b1
  obtain ⟨_, _, ⟨T8, L8, k8, n8⟩, -, X8, ⟨Lc8, hQ8, l8, y8, z8⟩, st8⟩ := X7.virtualBack hx (y := (⟨"com/example/nimble_twig/nimbletwig/index/store/StoredStreams", "add", "(II)V"⟩ : MethodName)) (z := (⟨"com/example/nimble_twig/nimbletwig/index/store/StoredStreams", "add", "(II)V"⟩ : MethodName)) hown (mvT hZ (hw _ (List.mem_of_getElem? (i := 33) rfl))) (mvT hZ (hw _ (List.mem_of_getElem? (i := 34) rfl))) (notFace_of_selects (args := #[]) (mvT hZ (hw _ (List.mem_of_getElem? (i := 36) rfl)))) (mvT hZ (hw _ (List.mem_of_getElem? (i := 36) rfl))) (mvT hZ (hw _ (List.mem_of_getElem? (i := 35) rfl))) (by decide) (backOf (W := 0) (own_rm3 l Z a0 hw [] b1 (3 : Int32) gb sA tA nA dA fA (6 : Int32) ((6 : Int32) + (1 : Int32)) (5 : Int32) (own_up (own_up (own_up (own_up (own_up (fun _ => (0 : Int32)) ((0 : Int32)).toNatClampNeg (1 : Int32)) ((1 : Int32)).toNatClampNeg (1 : Int32)) ((2 : Int32)).toNatClampNeg (1 : Int32)) ((3 : Int32)).toNatClampNeg (2 : Int32)) ((4 : Int32)).toNatClampNeg (3 : Int32)) (own_up (own_up (own_up (own_up (own_up (fun _ => (0 : Int32)) ((0 : Int32)).toNatClampNeg ea) ((1 : Int32)).toNatClampNeg eb) ((2 : Int32)).toNatClampNeg ec) ((3 : Int32)).toNatClampNeg i4) ((4 : Int32)).toNatClampNeg ga) (own_up (own_up (own_up (own_up (own_up (fun _ => (0 : Int32)) ((1 : Int32)).toNatClampNeg (0 : Int32)) ((2 : Int32)).toNatClampNeg (0 : Int32)) ((3 : Int32)).toNatClampNeg (0 : Int32)) ((4 : Int32)).toNatClampNeg (0 : Int32)) ((5 : Int32)).toNatClampNeg (0 : Int32)) T7.heap n0 Zs F_b1_firstStreams F_b1_firstDepths F_b1_names F_b1_depths F_b1_firstExtents F_b1_size F_b1_extents E_b1 g_b1 g_nA g_dA g_fA ne_b1_nA ne_b1_dA ne_b1_fA ne_nd ne_nf ne_df I_nA I_dA I_fA (by decide)) hZ (hw _ (List.mem_of_getElem? (i := 37) rfl)) (hw _ (List.mem_of_getElem? (i := 2) rfl)) (by decide) (by decide)) q8a q8c (g := (mkF m 109 #[.val (.long j0), .second, .val (.long j1), .second, .val (.int i2), .val (.int i3), .val (.int i4), .val (.int i5), .val (.int ea), .val (.int eb), .val (.int ec), .val (.int i4), .val (.int ga), .val (.int gb), .val (.ref b1), .unset, .unset, .unset, .unset, .unset, .unset, .unset, .unset] [(.int gb), (.int (3 : Int32)), (.ref b1)])) rfl (by rw [hml]; rfl) (Steps.refl _) (argsL := [(.int (3 : Int32)), (.int gb)]) (rest := []) (lenOf own_pd0_1 rfl) rfl (by show 2 * 0 + _ ≤ _; exact Nat.le_of_eq rfl) (hb hby at_109) (fun _ _ => ⟨rfl, rfl, (by decide : 10 + 0 ≤ _), (by decide : 55 + 0 ≤ _)⟩)
  dsimp only [Pt.U, Pt.locs, Pt.cells, Pt.slots] at X8 l8 y8 z8 st8 hQ8
  subst l8 y8 z8
  obtain ⟨rfl, NQ8, K8, E_b1, F_b1_firstStreams, F_b1_firstDepths, F_b1_names, F_b1_depths, F_b1_firstExtents, F_b1_size, F_b1_extents, I_nA, I_dA, I_fA⟩ := hQ8
  have NF := Fr.app NF NQ8
  have Zs := Nat.le_trans Zs K8.1
  refine own_go (T' := T8) (g' := (mkF m 112 #[.val (.long j0), .second, .val (.long j1), .second, .val (.int i2), .val (.int i3), .val (.int i4), .val (.int i5), .val (.int ea), .val (.int eb), .val (.int ec), .val (.int i4), .val (.int ga), .val (.int gb), .val (.ref b1), .unset, .unset, .unset, .unset, .unset, .unset, .unset, .unset] [])) (fun _ k => st8.trans k) ?_
  refine own_go (T' := T8) (g' := (mkF m 114 #[.val (.long j0), .second, .val (.long j1), .second, .val (.int i2), .val (.int i3), .val (.int i4), .val (.int i5), .val (.int ea), .val (.int eb), .val (.int ec), .val (.int i4), .val (.int ga), .val (.int gb), .val (.ref b1), .unset, .unset, .unset, .unset, .unset, .unset, .unset, .unset] [(.ref b1)])) (fun _ k => XS.aload X8.here hx rfl (hb hby at_112) rfl rfl k) ?_
  refine own_go (T' := T8) (g' := (mkF m 115 #[.val (.long j0), .second, .val (.long j1), .second, .val (.int i2), .val (.int i3), .val (.int i4), .val (.int i5), .val (.int ea), .val (.int eb), .val (.int ec), .val (.int i4), .val (.int ga), .val (.int gb), .val (.ref b1), .unset, .unset, .unset, .unset, .unset, .unset, .unset, .unset] [(.int (5 : Int32)), (.ref b1)])) (fun _ k => XS.iconst X8.here hx rfl (hb hby at_114) k) ?_
  have hfs : 0 ≤ (6 : Int32).toInt ∧ (6 : Int32).toInt ≤ (6 : Int32).toInt ∧ (6 : Int32).toInt ≤ 6 ∧ 0 ≤ (5 : Int32).toInt ∧ (5 : Int32).toInt ≤ 5 := by decide
  have hfn : ∀ i : Nat, i < (6 : Int32).toNatClampNeg → 0 ≤ ((own_up (own_up (own_up (own_up (own_up (own_up (fun _ => (0 : Int32)) ((0 : Int32)).toNatClampNeg (1 : Int32)) ((1 : Int32)).toNatClampNeg (1 : Int32)) ((2 : Int32)).toNatClampNeg (1 : Int32)) ((3 : Int32)).toNatClampNeg (2 : Int32)) ((4 : Int32)).toNatClampNeg (3 : Int32)) ((5 : Int32)).toNatClampNeg (3 : Int32)) i).toInt ∧ ((own_up (own_up (own_up (own_up (own_up (own_up (fun _ => (0 : Int32)) ((0 : Int32)).toNatClampNeg (1 : Int32)) ((1 : Int32)).toNatClampNeg (1 : Int32)) ((2 : Int32)).toNatClampNeg (1 : Int32)) ((3 : Int32)).toNatClampNeg (2 : Int32)) ((4 : Int32)).toNatClampNeg (3 : Int32)) ((5 : Int32)).toNatClampNeg (3 : Int32)) i).toInt < (5 : Int32).toInt := by decide +kernel
  obtain ⟨cq9, kq9, q9a, q9b, q9c⟩ := isOf hZ rfl E_b1
  obtain ⟨_, _, ⟨T9, L9, k9, n9⟩, -, X9, ⟨Lc9, hQ9, l9, y9, z9⟩, st9⟩ := X8.virtualBack hx (y := (⟨"com/example/nimble_twig/nimbletwig/index/store/StoredStreams", "findByName", "(I)V"⟩ : MethodName)) (z := (⟨"com/example/nimble_twig/nimbletwig/index/store/StoredStreams", "findByName", "(I)V"⟩ : MethodName)) hown (mvT hZ (hw _ (List.mem_of_getElem? (i := 42) rfl))) (mvT hZ (hw _ (List.mem_of_getElem? (i := 43) rfl))) (notFace_of_selects (args := #[]) (mvT hZ (hw _ (List.mem_of_getElem? (i := 45) rfl)))) (mvT hZ (hw _ (List.mem_of_getElem? (i := 45) rfl))) (mvT hZ (hw _ (List.mem_of_getElem? (i := 44) rfl))) (by decide) (backOf (W := 0) (own_rm4 l Z a0 hw [] b1 (5 : Int32) sA tA nA dA fA (6 : Int32) (6 : Int32) (own_up (own_up (own_up (own_up (own_up (own_up (fun _ => (0 : Int32)) ((0 : Int32)).toNatClampNeg (1 : Int32)) ((1 : Int32)).toNatClampNeg (1 : Int32)) ((2 : Int32)).toNatClampNeg (1 : Int32)) ((3 : Int32)).toNatClampNeg (2 : Int32)) ((4 : Int32)).toNatClampNeg (3 : Int32)) ((5 : Int32)).toNatClampNeg (3 : Int32)) (own_up (own_up (own_up (own_up (own_up (own_up (fun _ => (0 : Int32)) ((0 : Int32)).toNatClampNeg ea) ((1 : Int32)).toNatClampNeg eb) ((2 : Int32)).toNatClampNeg ec) ((3 : Int32)).toNatClampNeg i4) ((4 : Int32)).toNatClampNeg ga) ((5 : Int32)).toNatClampNeg gb) T8.heap n0 Zs F_b1_firstStreams F_b1_firstDepths F_b1_names F_b1_depths F_b1_firstExtents F_b1_size F_b1_extents E_b1 g_b1 ne_b1_nA ne_b1_dA I_nA I_dA hfs hfn) hZ (hw _ (List.mem_of_getElem? (i := 46) rfl)) (hw _ (List.mem_of_getElem? (i := 2) rfl)) (by decide) (by decide)) q9a q9c (g := (mkF m 115 #[.val (.long j0), .second, .val (.long j1), .second, .val (.int i2), .val (.int i3), .val (.int i4), .val (.int i5), .val (.int ea), .val (.int eb), .val (.int ec), .val (.int i4), .val (.int ga), .val (.int gb), .val (.ref b1), .unset, .unset, .unset, .unset, .unset, .unset, .unset, .unset] [(.int (5 : Int32)), (.ref b1)])) rfl (by rw [hml]; rfl) (Steps.refl _) (argsL := [(.int (5 : Int32))]) (rest := []) (lenOf own_pd0_0 rfl) rfl (by show 2 * 0 + _ ≤ _; exact Nat.le_of_eq rfl) (hb hby at_115) (fun _ _ => ⟨rfl, rfl, (by decide : 10 + 2 ≤ _), (by decide : 55 + 11 ≤ _)⟩)
  dsimp only [Pt.U, Pt.locs, Pt.cells, Pt.slots] at X9 l9 y9 z9 st9 hQ9
  subst l9 y9 z9
  obtain ⟨rfl, NQ9, K9, E_b1, s2, t2, fS, fT, F_b1_firstStreams, F_b1_firstDepths, F_b1_names, F_b1_depths, F_b1_firstExtents, F_b1_size, F_b1_extents, I_s2, I_t2, hfS⟩ := hQ9
  have NF := Fr.app NF NQ9
  have I_nA := I_nA.keep K9 (ninS (Ne.symm ne_b1_nA) nin0)
  have I_dA := I_dA.keep K9 (ninS (Ne.symm ne_b1_dA) nin0)
  have I_fA := I_fA.keep K9 (ninS (Ne.symm ne_b1_fA) nin0)
  have Zs := Nat.le_trans Zs K9.1
  refine own_go (T' := T9) (g' := (mkF m 118 #[.val (.long j0), .second, .val (.long j1), .second, .val (.int i2), .val (.int i3), .val (.int i4), .val (.int i5), .val (.int ea), .val (.int eb), .val (.int ec), .val (.int i4), .val (.int ga), .val (.int gb), .val (.ref b1), .unset, .unset, .unset, .unset, .unset, .unset, .unset, .unset] [])) (fun _ k => st9.trans k) ?_
  have v0 : (fS 0).toInt = 0 := (hfS 0 (by decide)).trans (by decide +kernel)
  have v1 : (fS 1).toInt = 0 := (hfS 1 (by decide)).trans (by decide +kernel)
  have v2 : (fS 2).toInt = 3 := (hfS 2 (by decide)).trans (by decide +kernel)
  have v3 : (fS 3).toInt = 4 := (hfS 3 (by decide)).trans (by decide +kernel)
  have v4 : (fS 4).toInt = 6 := (hfS 4 (by decide)).trans (by decide +kernel)
  have v5 : (fS 5).toInt = 6 := (hfS 5 (by decide)).trans (by decide +kernel)
  have hps : 0 ≤ (5 : Int32).toInt ∧ (5 : Int32).toInt ≤ 5 ∧ 0 ≤ (6 : Int32).toInt ∧ (6 : Int32).toInt ≤ 6 := by decide
  have hpm : ∀ j : Nat, (j : Int) < (5 : Int32).toInt → 0 ≤ (fS j).toInt ∧ (fS j).toInt ≤ (fS (j + 1)).toInt ∧ (fS (j + 1)).toInt ≤ (6 : Int32).toInt := by
    intro j hj
    simp only [own_ln1, own_l0, own_l1, own_l2, own_l3, own_l4, own_l5, own_l6, own_l7, own_l8, own_l9, own_l12, own_l32, own_L0, own_L1, own_L2, own_L3, own_L7] at hj ⊢
    have hh : j = 0 ∨ j = 1 ∨ j = 2 ∨ j = 3 ∨ j = 4 := by omega
    rcases hh with rfl | rfl | rfl | rfl | rfl
    all_goals (simp only [Nat.reduceAdd]; omega)
  generalize hFD : (own_up (own_up (own_up (own_up (own_up (own_up (fun _ => (0 : Int32)) ((0 : Int32)).toNatClampNeg ea) ((1 : Int32)).toNatClampNeg eb) ((2 : Int32)).toNatClampNeg ec) ((3 : Int32)).toNatClampNeg i4) ((4 : Int32)).toNatClampNeg ga) ((5 : Int32)).toNatClampNeg gb) = fdd at *
  have fd0 : fdd 0 = ea := by rw [← hFD]; rfl
  have fd1 : fdd 1 = eb := by rw [← hFD]; rfl
  have fd2 : fdd 2 = ec := by rw [← hFD]; rfl
  have fd3 : fdd 3 = i4 := by rw [← hFD]; rfl
  have fd4 : fdd 4 = ga := by rw [← hFD]; rfl
  have fd5 : fdd 5 = gb := by rw [← hFD]; rfl
  have hpo : ∀ j : Nat, (j : Int) < (5 : Int32).toInt → ∀ x z : Nat, (fS j).toInt ≤ x → x < z → (z : Int) < (fS (j + 1)).toInt → (fdd x).toInt < (fdd z).toInt := by
    intro j hj x z h1 h2 h3
    simp only [own_ln1, own_l0, own_l1, own_l2, own_l3, own_l4, own_l5, own_l6, own_l7, own_l8, own_l9, own_l12, own_l32, own_L0, own_L1, own_L2, own_L3, own_L7] at hj
    have hh : j = 0 ∨ j = 1 ∨ j = 2 ∨ j = 3 ∨ j = 4 := by omega
    rcases hh with rfl | rfl | rfl | rfl | rfl
    all_goals simp only [Nat.reduceAdd] at h3
    · exfalso; omega
    · have hh : (x = 0 ∧ z = 1) ∨ (x = 0 ∧ z = 2) ∨ (x = 1 ∧ z = 2) := by omega
      rcases hh with ⟨rfl, rfl⟩ | ⟨rfl, rfl⟩ | ⟨rfl, rfl⟩
      · rw [fd0, fd1]; omega
      · rw [fd0, fd2]; omega
      · rw [fd1, fd2]; omega
    · exfalso; omega
    · have hh : x = 4 ∧ z = 5 := by omega
      obtain ⟨rfl, rfl⟩ := hh
      rw [fd4, fd5]; omega
    · exfalso; omega
  refine own_go (T' := T9) (g' := (mkF m 120 #[.val (.long j0), .second, .val (.long j1), .second, .val (.int i2), .val (.int i3), .val (.int i4), .val (.int i5), .val (.int ea), .val (.int eb), .val (.int ec), .val (.int i4), .val (.int ga), .val (.int gb), .val (.ref b1), .unset, .unset, .unset, .unset, .unset, .unset, .unset, .unset] [(.int i5)])) (fun _ k => XS.iload X9.here hx rfl (hb hby at_118) rfl k) ?_
  refine own_go (T' := T9) (g' := (mkF m 122 #[.val (.long j0), .second, .val (.long j1), .second, .val (.int i2), .val (.int i3), .val (.int i4), .val (.int i5), .val (.int ea), .val (.int eb), .val (.int ec), .val (.int i4), .val (.int ga), .val (.int gb), .val (.ref b1), .unset, .unset, .unset, .unset, .unset, .unset, .unset, .unset] [(.int (8 : Int32)), (.int i5)])) (fun _ k => XS.bipush X9.here hx rfl (hb hby at_120) k) ?_
  refine own_go (T' := T9) (g' := (mkF m 123 #[.val (.long j0), .second, .val (.long j1), .second, .val (.int i2), .val (.int i3), .val (.int i4), .val (.int i5), .val (.int ea), .val (.int eb), .val (.int ec), .val (.int i4), .val (.int ga), .val (.int gb), .val (.ref b1), .unset, .unset, .unset, .unset, .unset, .unset, .unset, .unset] [(.int ((i5.toUInt32 >>> ((8 : Int32) &&& 31).toUInt32).toInt32))])) (fun _ k => XS.iushr X9.here hx rfl (hb hby at_122) rfl k) ?_
  refine own_go (T' := T9) (g' := (mkF m 124 #[.val (.long j0), .second, .val (.long j1), .second, .val (.int i2), .val (.int i3), .val (.int i4), .val (.int i5), .val (.int ea), .val (.int eb), .val (.int ec), .val (.int i4), .val (.int ga), .val (.int gb), .val (.ref b1), .unset, .unset, .unset, .unset, .unset, .unset, .unset, .unset] [(.int (1 : Int32)), (.int ((i5.toUInt32 >>> ((8 : Int32) &&& 31).toUInt32).toInt32))])) (fun _ k => XS.iconst X9.here hx rfl (hb hby at_123) k) ?_
  refine own_go (T' := T9) (g' := (mkF m 125 #[.val (.long j0), .second, .val (.long j1), .second, .val (.int i2), .val (.int i3), .val (.int i4), .val (.int i5), .val (.int ea), .val (.int eb), .val (.int ec), .val (.int i4), .val (.int ga), .val (.int gb), .val (.ref b1), .unset, .unset, .unset, .unset, .unset, .unset, .unset, .unset] [(.int (((i5.toUInt32 >>> ((8 : Int32) &&& 31).toUInt32).toInt32) &&& (1 : Int32)))])) (fun _ k => XS.iand X9.here hx rfl (hb hby at_124) rfl k) ?_
  have J12 : ∀ (z10 : Int64), (0 = 0 ∨ z10.toInt = 0) → own_Dn p e below s (own_Q0 Z j0 j1 i2 i3 i4 i5 h0 n0) room_1.cells room_1.slots T9 (mkF m 139 #[.val (.long j0), .second, .val (.long j1), .second, .val (.int i2), .val (.int i3), .val (.int i4), .val (.int i5), .val (.int ea), .val (.int eb), .val (.int ec), .val (.int i4), .val (.int ga), .val (.int gb), .val (.ref b1), .unset, .unset, .unset, .unset, .unset, .unset, .unset, .unset] [(.long z10)]) := by
    intro z10 hz11
    refine own_go (T' := T9) (g' := (mkF m 141 #[.val (.long j0), .second, .val (.long j1), .second, .val (.int i2), .val (.int i3), .val (.int i4), .val (.int i5), .val (.int ea), .val (.int eb), .val (.int ec), .val (.int i4), .val (.int ga), .val (.int gb), .val (.ref b1), .val (.long z10), .second, .unset, .unset, .unset, .unset, .unset, .unset] [])) (fun _ k => XS.lstore X9.here hx rfl (hb hby at_139) rfl (l' := #[.val (.long j0), .second, .val (.long j1), .second, .val (.int i2), .val (.int i3), .val (.int i4), .val (.int i5), .val (.int ea), .val (.int eb), .val (.int ec), .val (.int i4), .val (.int ga), .val (.int gb), .val (.ref b1), .val (.long z10), .second, .unset, .unset, .unset, .unset, .unset, .unset]) rfl k) ?_
    refine own_go (T' := T9) (g' := (mkF m 143 #[.val (.long j0), .second, .val (.long j1), .second, .val (.int i2), .val (.int i3), .val (.int i4), .val (.int i5), .val (.int ea), .val (.int eb), .val (.int ec), .val (.int i4), .val (.int ga), .val (.int gb), .val (.ref b1), .val (.long z10), .second, .unset, .unset, .unset, .unset, .unset, .unset] [(.int i5)])) (fun _ k => XS.iload X9.here hx rfl (hb hby at_141) rfl k) ?_
    refine own_go (T' := T9) (g' := (mkF m 145 #[.val (.long j0), .second, .val (.long j1), .second, .val (.int i2), .val (.int i3), .val (.int i4), .val (.int i5), .val (.int ea), .val (.int eb), .val (.int ec), .val (.int i4), .val (.int ga), .val (.int gb), .val (.ref b1), .val (.long z10), .second, .unset, .unset, .unset, .unset, .unset, .unset] [(.int (9 : Int32)), (.int i5)])) (fun _ k => XS.bipush X9.here hx rfl (hb hby at_143) k) ?_
    refine own_go (T' := T9) (g' := (mkF m 146 #[.val (.long j0), .second, .val (.long j1), .second, .val (.int i2), .val (.int i3), .val (.int i4), .val (.int i5), .val (.int ea), .val (.int eb), .val (.int ec), .val (.int i4), .val (.int ga), .val (.int gb), .val (.ref b1), .val (.long z10), .second, .unset, .unset, .unset, .unset, .unset, .unset] [(.int ((i5.toUInt32 >>> ((9 : Int32) &&& 31).toUInt32).toInt32))])) (fun _ k => XS.iushr X9.here hx rfl (hb hby at_145) rfl k) ?_
    refine own_go (T' := T9) (g' := (mkF m 148 #[.val (.long j0), .second, .val (.long j1), .second, .val (.int i2), .val (.int i3), .val (.int i4), .val (.int i5), .val (.int ea), .val (.int eb), .val (.int ec), .val (.int i4), .val (.int ga), .val (.int gb), .val (.ref b1), .val (.long z10), .second, .unset, .unset, .unset, .unset, .unset, .unset] [(.int (7 : Int32)), (.int ((i5.toUInt32 >>> ((9 : Int32) &&& 31).toUInt32).toInt32))])) (fun _ k => XS.bipush X9.here hx rfl (hb hby at_146) k) ?_
    refine own_go (T' := T9) (g' := (mkF m 149 #[.val (.long j0), .second, .val (.long j1), .second, .val (.int i2), .val (.int i3), .val (.int i4), .val (.int i5), .val (.int ea), .val (.int eb), .val (.int ec), .val (.int i4), .val (.int ga), .val (.int gb), .val (.ref b1), .val (.long z10), .second, .unset, .unset, .unset, .unset, .unset, .unset] [(.int (((i5.toUInt32 >>> ((9 : Int32) &&& 31).toUInt32).toInt32) &&& (7 : Int32)))])) (fun _ k => XS.iand X9.here hx rfl (hb hby at_148) rfl k) ?_
    refine own_go (T' := T9) (g' := (mkF m 151 #[.val (.long j0), .second, .val (.long j1), .second, .val (.int i2), .val (.int i3), .val (.int i4), .val (.int i5), .val (.int ea), .val (.int eb), .val (.int ec), .val (.int i4), .val (.int ga), .val (.int gb), .val (.ref b1), .val (.long z10), .second, .val (.int (((i5.toUInt32 >>> ((9 : Int32) &&& 31).toUInt32).toInt32) &&& (7 : Int32))), .unset, .unset, .unset, .unset, .unset] [])) (fun _ k => XS.istore X9.here hx rfl (hb hby at_149) rfl (l' := #[.val (.long j0), .second, .val (.long j1), .second, .val (.int i2), .val (.int i3), .val (.int i4), .val (.int i5), .val (.int ea), .val (.int eb), .val (.int ec), .val (.int i4), .val (.int ga), .val (.int gb), .val (.ref b1), .val (.long z10), .second, .val (.int (((i5.toUInt32 >>> ((9 : Int32) &&& 31).toUInt32).toInt32) &&& (7 : Int32))), .unset, .unset, .unset, .unset, .unset]) rfl k) ?_
    refine own_go (T' := T9) (g' := (mkF m 153 #[.val (.long j0), .second, .val (.long j1), .second, .val (.int i2), .val (.int i3), .val (.int i4), .val (.int i5), .val (.int ea), .val (.int eb), .val (.int ec), .val (.int i4), .val (.int ga), .val (.int gb), .val (.ref b1), .val (.long z10), .second, .val (.int (((i5.toUInt32 >>> ((9 : Int32) &&& 31).toUInt32).toInt32) &&& (7 : Int32))), .unset, .unset, .unset, .unset, .unset] [(.int i5)])) (fun _ k => XS.iload X9.here hx rfl (hb hby at_151) rfl k) ?_
    refine own_go (T' := T9) (g' := (mkF m 155 #[.val (.long j0), .second, .val (.long j1), .second, .val (.int i2), .val (.int i3), .val (.int i4), .val (.int i5), .val (.int ea), .val (.int eb), .val (.int ec), .val (.int i4), .val (.int ga), .val (.int gb), .val (.ref b1), .val (.long z10), .second, .val (.int (((i5.toUInt32 >>> ((9 : Int32) &&& 31).toUInt32).toInt32) &&& (7 : Int32))), .unset, .unset, .unset, .unset, .unset] [(.int (12 : Int32)), (.int i5)])) (fun _ k => XS.bipush X9.here hx rfl (hb hby at_153) k) ?_
    refine own_go (T' := T9) (g' := (mkF m 156 #[.val (.long j0), .second, .val (.long j1), .second, .val (.int i2), .val (.int i3), .val (.int i4), .val (.int i5), .val (.int ea), .val (.int eb), .val (.int ec), .val (.int i4), .val (.int ga), .val (.int gb), .val (.ref b1), .val (.long z10), .second, .val (.int (((i5.toUInt32 >>> ((9 : Int32) &&& 31).toUInt32).toInt32) &&& (7 : Int32))), .unset, .unset, .unset, .unset, .unset] [(.int ((i5.toUInt32 >>> ((12 : Int32) &&& 31).toUInt32).toInt32))])) (fun _ k => XS.iushr X9.here hx rfl (hb hby at_155) rfl k) ?_
    refine own_go (T' := T9) (g' := (mkF m 157 #[.val (.long j0), .second, .val (.long j1), .second, .val (.int i2), .val (.int i3), .val (.int i4), .val (.int i5), .val (.int ea), .val (.int eb), .val (.int ec), .val (.int i4), .val (.int ga), .val (.int gb), .val (.ref b1), .val (.long z10), .second, .val (.int (((i5.toUInt32 >>> ((9 : Int32) &&& 31).toUInt32).toInt32) &&& (7 : Int32))), .unset, .unset, .unset, .unset, .unset] [(.int (3 : Int32)), (.int ((i5.toUInt32 >>> ((12 : Int32) &&& 31).toUInt32).toInt32))])) (fun _ k => XS.iconst X9.here hx rfl (hb hby at_156) k) ?_
    refine own_go (T' := T9) (g' := (mkF m 158 #[.val (.long j0), .second, .val (.long j1), .second, .val (.int i2), .val (.int i3), .val (.int i4), .val (.int i5), .val (.int ea), .val (.int eb), .val (.int ec), .val (.int i4), .val (.int ga), .val (.int gb), .val (.ref b1), .val (.long z10), .second, .val (.int (((i5.toUInt32 >>> ((9 : Int32) &&& 31).toUInt32).toInt32) &&& (7 : Int32))), .unset, .unset, .unset, .unset, .unset] [(.int (((i5.toUInt32 >>> ((12 : Int32) &&& 31).toUInt32).toInt32) &&& (3 : Int32)))])) (fun _ k => XS.iand X9.here hx rfl (hb hby at_157) rfl k) ?_
    refine own_go (T' := T9) (g' := (mkF m 159 #[.val (.long j0), .second, .val (.long j1), .second, .val (.int i2), .val (.int i3), .val (.int i4), .val (.int i5), .val (.int ea), .val (.int eb), .val (.int ec), .val (.int i4), .val (.int ga), .val (.int gb), .val (.ref b1), .val (.long z10), .second, .val (.int (((i5.toUInt32 >>> ((9 : Int32) &&& 31).toUInt32).toInt32) &&& (7 : Int32))), .unset, .unset, .unset, .unset, .unset] [(.int (1 : Int32)), (.int (((i5.toUInt32 >>> ((12 : Int32) &&& 31).toUInt32).toInt32) &&& (3 : Int32)))])) (fun _ k => XS.iconst X9.here hx rfl (hb hby at_158) k) ?_
    refine own_go (T' := T9) (g' := (mkF m 160 #[.val (.long j0), .second, .val (.long j1), .second, .val (.int i2), .val (.int i3), .val (.int i4), .val (.int i5), .val (.int ea), .val (.int eb), .val (.int ec), .val (.int i4), .val (.int ga), .val (.int gb), .val (.ref b1), .val (.long z10), .second, .val (.int (((i5.toUInt32 >>> ((9 : Int32) &&& 31).toUInt32).toInt32) &&& (7 : Int32))), .unset, .unset, .unset, .unset, .unset] [(.int ((((i5.toUInt32 >>> ((12 : Int32) &&& 31).toUInt32).toInt32) &&& (3 : Int32)) - (1 : Int32)))])) (fun _ k => XS.isub X9.here hx rfl (hb hby at_159) rfl k) ?_
    refine own_go (T' := T9) (g' := (mkF m 161 #[.val (.long j0), .second, .val (.long j1), .second, .val (.int i2), .val (.int i3), .val (.int i4), .val (.int i5), .val (.int ea), .val (.int eb), .val (.int ec), .val (.int i4), .val (.int ga), .val (.int gb), .val (.ref b1), .val (.long z10), .second, .val (.int (((i5.toUInt32 >>> ((9 : Int32) &&& 31).toUInt32).toInt32) &&& (7 : Int32))), .unset, .unset, .unset, .unset, .unset] [(.long (((((i5.toUInt32 >>> ((12 : Int32) &&& 31).toUInt32).toInt32) &&& (3 : Int32)) - (1 : Int32)).toInt64))])) (fun _ k => XS.i2l X9.here hx rfl (hb hby at_160) rfl k) ?_
    refine own_go (T' := T9) (g' := (mkF m 163 #[.val (.long j0), .second, .val (.long j1), .second, .val (.int i2), .val (.int i3), .val (.int i4), .val (.int i5), .val (.int ea), .val (.int eb), .val (.int ec), .val (.int i4), .val (.int ga), .val (.int gb), .val (.ref b1), .val (.long z10), .second, .val (.int (((i5.toUInt32 >>> ((9 : Int32) &&& 31).toUInt32).toInt32) &&& (7 : Int32))), .val (.long (((((i5.toUInt32 >>> ((12 : Int32) &&& 31).toUInt32).toInt32) &&& (3 : Int32)) - (1 : Int32)).toInt64)), .second, .unset, .unset, .unset] [])) (fun _ k => XS.lstore X9.here hx rfl (hb hby at_161) rfl (l' := #[.val (.long j0), .second, .val (.long j1), .second, .val (.int i2), .val (.int i3), .val (.int i4), .val (.int i5), .val (.int ea), .val (.int eb), .val (.int ec), .val (.int i4), .val (.int ga), .val (.int gb), .val (.ref b1), .val (.long z10), .second, .val (.int (((i5.toUInt32 >>> ((9 : Int32) &&& 31).toUInt32).toInt32) &&& (7 : Int32))), .val (.long (((((i5.toUInt32 >>> ((12 : Int32) &&& 31).toUInt32).toInt32) &&& (3 : Int32)) - (1 : Int32)).toInt64)), .second, .unset, .unset, .unset]) rfl k) ?_
    refine own_go (T' := T9) (g' := (mkF m 165 #[.val (.long j0), .second, .val (.long j1), .second, .val (.int i2), .val (.int i3), .val (.int i4), .val (.int i5), .val (.int ea), .val (.int eb), .val (.int ec), .val (.int i4), .val (.int ga), .val (.int gb), .val (.ref b1), .val (.long z10), .second, .val (.int (((i5.toUInt32 >>> ((9 : Int32) &&& 31).toUInt32).toInt32) &&& (7 : Int32))), .val (.long (((((i5.toUInt32 >>> ((12 : Int32) &&& 31).toUInt32).toInt32) &&& (3 : Int32)) - (1 : Int32)).toInt64)), .second, .unset, .unset, .unset] [(.int (((i5.toUInt32 >>> ((9 : Int32) &&& 31).toUInt32).toInt32) &&& (7 : Int32)))])) (fun _ k => XS.iload X9.here hx rfl (hb hby at_163) rfl k) ?_
    have J15 : ∀ (z13 : Int64), (0 = 0 ∨ z13.toInt = 0) → own_Dn p e below s (own_Q0 Z j0 j1 i2 i3 i4 i5 h0 n0) room_1.cells room_1.slots T9 (mkF m 287 #[.val (.long j0), .second, .val (.long j1), .second, .val (.int i2), .val (.int i3), .val (.int i4), .val (.int i5), .val (.int ea), .val (.int eb), .val (.int ec), .val (.int i4), .val (.int ga), .val (.int gb), .val (.ref b1), .val (.long z10), .second, .val (.int (((i5.toUInt32 >>> ((9 : Int32) &&& 31).toUInt32).toInt32) &&& (7 : Int32))), .val (.long (((((i5.toUInt32 >>> ((12 : Int32) &&& 31).toUInt32).toInt32) &&& (3 : Int32)) - (1 : Int32)).toInt64)), .second, .val (.long z13), .second, .unset] []) := by
      intro z13 hz14
      refine own_go (T' := T9) (g' := (mkF m 288 #[.val (.long j0), .second, .val (.long j1), .second, .val (.int i2), .val (.int i3), .val (.int i4), .val (.int i5), .val (.int ea), .val (.int eb), .val (.int ec), .val (.int i4), .val (.int ga), .val (.int gb), .val (.ref b1), .val (.long z10), .second, .val (.int (((i5.toUInt32 >>> ((9 : Int32) &&& 31).toUInt32).toInt32) &&& (7 : Int32))), .val (.long (((((i5.toUInt32 >>> ((12 : Int32) &&& 31).toUInt32).toInt32) &&& (3 : Int32)) - (1 : Int32)).toInt64)), .second, .val (.long z13), .second, .unset] [(.int (-1 : Int32))])) (fun _ k => XS.iconst X9.here hx rfl (hb hby at_287) k) ?_
      refine own_go (T' := T9) (g' := (mkF m 290 #[.val (.long j0), .second, .val (.long j1), .second, .val (.int i2), .val (.int i3), .val (.int i4), .val (.int i5), .val (.int ea), .val (.int eb), .val (.int ec), .val (.int i4), .val (.int ga), .val (.int gb), .val (.ref b1), .val (.long z10), .second, .val (.int (((i5.toUInt32 >>> ((9 : Int32) &&& 31).toUInt32).toInt32) &&& (7 : Int32))), .val (.long (((((i5.toUInt32 >>> ((12 : Int32) &&& 31).toUInt32).toInt32) &&& (3 : Int32)) - (1 : Int32)).toInt64)), .second, .val (.long z13), .second, .val (.int (-1 : Int32))] [])) (fun _ k => XS.istore X9.here hx rfl (hb hby at_288) rfl (l' := #[.val (.long j0), .second, .val (.long j1), .second, .val (.int i2), .val (.int i3), .val (.int i4), .val (.int i5), .val (.int ea), .val (.int eb), .val (.int ec), .val (.int i4), .val (.int ga), .val (.int gb), .val (.ref b1), .val (.long z10), .second, .val (.int (((i5.toUInt32 >>> ((9 : Int32) &&& 31).toUInt32).toInt32) &&& (7 : Int32))), .val (.long (((((i5.toUInt32 >>> ((12 : Int32) &&& 31).toUInt32).toInt32) &&& (3 : Int32)) - (1 : Int32)).toInt64)), .second, .val (.long z13), .second, .val (.int (-1 : Int32))]) rfl k) ?_
      refine own_go (T' := T9) (g' := (mkF m 292 #[.val (.long j0), .second, .val (.long j1), .second, .val (.int i2), .val (.int i3), .val (.int i4), .val (.int i5), .val (.int ea), .val (.int eb), .val (.int ec), .val (.int i4), .val (.int ga), .val (.int gb), .val (.ref b1), .val (.long z10), .second, .val (.int (((i5.toUInt32 >>> ((9 : Int32) &&& 31).toUInt32).toInt32) &&& (7 : Int32))), .val (.long (((((i5.toUInt32 >>> ((12 : Int32) &&& 31).toUInt32).toInt32) &&& (3 : Int32)) - (1 : Int32)).toInt64)), .second, .val (.long z13), .second, .val (.int (-1 : Int32))] [(.long z10)])) (fun _ k => XS.lload X9.here hx rfl (hb hby at_290) rfl k) ?_
      refine own_go (T' := T9) (g' := (mkF m 293 #[.val (.long j0), .second, .val (.long j1), .second, .val (.int i2), .val (.int i3), .val (.int i4), .val (.int i5), .val (.int ea), .val (.int eb), .val (.int ec), .val (.int i4), .val (.int ga), .val (.int gb), .val (.ref b1), .val (.long z10), .second, .val (.int (((i5.toUInt32 >>> ((9 : Int32) &&& 31).toUInt32).toInt32) &&& (7 : Int32))), .val (.long (((((i5.toUInt32 >>> ((12 : Int32) &&& 31).toUInt32).toInt32) &&& (3 : Int32)) - (1 : Int32)).toInt64)), .second, .val (.long z13), .second, .val (.int (-1 : Int32))] [(.long (1 : Int64)), (.long z10)])) (fun _ k => XS.lconst X9.here hx rfl (hb hby at_292) k) ?_
      refine own_go (T' := T9) (g' := (mkF m 294 #[.val (.long j0), .second, .val (.long j1), .second, .val (.int i2), .val (.int i3), .val (.int i4), .val (.int i5), .val (.int ea), .val (.int eb), .val (.int ec), .val (.int i4), .val (.int ga), .val (.int gb), .val (.ref b1), .val (.long z10), .second, .val (.int (((i5.toUInt32 >>> ((9 : Int32) &&& 31).toUInt32).toInt32) &&& (7 : Int32))), .val (.long (((((i5.toUInt32 >>> ((12 : Int32) &&& 31).toUInt32).toInt32) &&& (3 : Int32)) - (1 : Int32)).toInt64)), .second, .val (.long z13), .second, .val (.int (-1 : Int32))] [(.int (lcmpW z10 (1 : Int64)))])) (fun _ k => XS.lcmp X9.here hx rfl (hb hby at_293) rfl k) ?_
      by_cases c16 : z10 = (1 : Int64)
      · refine own_go (T' := T9) (g' := (mkF m 297 #[.val (.long j0), .second, .val (.long j1), .second, .val (.int i2), .val (.int i3), .val (.int i4), .val (.int i5), .val (.int ea), .val (.int eb), .val (.int ec), .val (.int i4), .val (.int ga), .val (.int gb), .val (.ref b1), .val (.long z10), .second, .val (.int (((i5.toUInt32 >>> ((9 : Int32) &&& 31).toUInt32).toInt32) &&& (7 : Int32))), .val (.long (((((i5.toUInt32 >>> ((12 : Int32) &&& 31).toUInt32).toInt32) &&& (3 : Int32)) - (1 : Int32)).toInt64)), .second, .val (.long z13), .second, .val (.int (-1 : Int32))] [])) (fun _ k => XS.ifNo X9.here hx rfl (hb hby at_294) rfl ((if0 _ _).trans (teq ((lw_eq z10 (1 : Int64)).mpr c16)).2) k) ?_
        refine own_go (T' := T9) (g' := (mkF m 299 #[.val (.long j0), .second, .val (.long j1), .second, .val (.int i2), .val (.int i3), .val (.int i4), .val (.int i5), .val (.int ea), .val (.int eb), .val (.int ec), .val (.int i4), .val (.int ga), .val (.int gb), .val (.ref b1), .val (.long z10), .second, .val (.int (((i5.toUInt32 >>> ((9 : Int32) &&& 31).toUInt32).toInt32) &&& (7 : Int32))), .val (.long (((((i5.toUInt32 >>> ((12 : Int32) &&& 31).toUInt32).toInt32) &&& (3 : Int32)) - (1 : Int32)).toInt64)), .second, .val (.long z13), .second, .val (.int (-1 : Int32))] [(.long z13)])) (fun _ k => XS.lload X9.here hx rfl (hb hby at_297) rfl k) ?_
        refine own_go (T' := T9) (g' := (mkF m 301 #[.val (.long j0), .second, .val (.long j1), .second, .val (.int i2), .val (.int i3), .val (.int i4), .val (.int i5), .val (.int ea), .val (.int eb), .val (.int ec), .val (.int i4), .val (.int ga), .val (.int gb), .val (.ref b1), .val (.long z10), .second, .val (.int (((i5.toUInt32 >>> ((9 : Int32) &&& 31).toUInt32).toInt32) &&& (7 : Int32))), .val (.long (((((i5.toUInt32 >>> ((12 : Int32) &&& 31).toUInt32).toInt32) &&& (3 : Int32)) - (1 : Int32)).toInt64)), .second, .val (.long z13), .second, .val (.int (-1 : Int32))] [(.int ea), (.long z13)])) (fun _ k => XS.iload X9.here hx rfl (hb hby at_299) rfl k) ?_
        refine own_go (T' := T9) (g' := (mkF m 302 #[.val (.long j0), .second, .val (.long j1), .second, .val (.int i2), .val (.int i3), .val (.int i4), .val (.int i5), .val (.int ea), .val (.int eb), .val (.int ec), .val (.int i4), .val (.int ga), .val (.int gb), .val (.ref b1), .val (.long z10), .second, .val (.int (((i5.toUInt32 >>> ((9 : Int32) &&& 31).toUInt32).toInt32) &&& (7 : Int32))), .val (.long (((((i5.toUInt32 >>> ((12 : Int32) &&& 31).toUInt32).toInt32) &&& (3 : Int32)) - (1 : Int32)).toInt64)), .second, .val (.long z13), .second, .val (.int (-1 : Int32))] [(.long (ea.toInt64)), (.long z13)])) (fun _ k => XS.i2l X9.here hx rfl (hb hby at_301) rfl k) ?_
        refine own_go (T' := T9) (g' := (mkF m 303 #[.val (.long j0), .second, .val (.long j1), .second, .val (.int i2), .val (.int i3), .val (.int i4), .val (.int i5), .val (.int ea), .val (.int eb), .val (.int ec), .val (.int i4), .val (.int ga), .val (.int gb), .val (.ref b1), .val (.long z10), .second, .val (.int (((i5.toUInt32 >>> ((9 : Int32) &&& 31).toUInt32).toInt32) &&& (7 : Int32))), .val (.long (((((i5.toUInt32 >>> ((12 : Int32) &&& 31).toUInt32).toInt32) &&& (3 : Int32)) - (1 : Int32)).toInt64)), .second, .val (.long z13), .second, .val (.int (-1 : Int32))] [(.int (lcmpW z13 (ea.toInt64)))])) (fun _ k => XS.lcmp X9.here hx rfl (hb hby at_302) rfl k) ?_
        by_cases c17 : z13 = (ea.toInt64)
        · refine own_go (T' := T9) (g' := (mkF m 306 #[.val (.long j0), .second, .val (.long j1), .second, .val (.int i2), .val (.int i3), .val (.int i4), .val (.int i5), .val (.int ea), .val (.int eb), .val (.int ec), .val (.int i4), .val (.int ga), .val (.int gb), .val (.ref b1), .val (.long z10), .second, .val (.int (((i5.toUInt32 >>> ((9 : Int32) &&& 31).toUInt32).toInt32) &&& (7 : Int32))), .val (.long (((((i5.toUInt32 >>> ((12 : Int32) &&& 31).toUInt32).toInt32) &&& (3 : Int32)) - (1 : Int32)).toInt64)), .second, .val (.long z13), .second, .val (.int (-1 : Int32))] [])) (fun _ k => XS.ifNo X9.here hx rfl (hb hby at_303) rfl ((if0 _ _).trans (teq ((lw_eq z13 (ea.toInt64)).mpr c17)).2) k) ?_
          refine own_go (T' := T9) (g' := (mkF m 307 #[.val (.long j0), .second, .val (.long j1), .second, .val (.int i2), .val (.int i3), .val (.int i4), .val (.int i5), .val (.int ea), .val (.int eb), .val (.int ec), .val (.int i4), .val (.int ga), .val (.int gb), .val (.ref b1), .val (.long z10), .second, .val (.int (((i5.toUInt32 >>> ((9 : Int32) &&& 31).toUInt32).toInt32) &&& (7 : Int32))), .val (.long (((((i5.toUInt32 >>> ((12 : Int32) &&& 31).toUInt32).toInt32) &&& (3 : Int32)) - (1 : Int32)).toInt64)), .second, .val (.long z13), .second, .val (.int (-1 : Int32))] [(.int (0 : Int32))])) (fun _ k => XS.iconst X9.here hx rfl (hb hby at_306) k) ?_
          refine own_go (T' := T9) (g' := (mkF m 309 #[.val (.long j0), .second, .val (.long j1), .second, .val (.int i2), .val (.int i3), .val (.int i4), .val (.int i5), .val (.int ea), .val (.int eb), .val (.int ec), .val (.int i4), .val (.int ga), .val (.int gb), .val (.ref b1), .val (.long z10), .second, .val (.int (((i5.toUInt32 >>> ((9 : Int32) &&& 31).toUInt32).toInt32) &&& (7 : Int32))), .val (.long (((((i5.toUInt32 >>> ((12 : Int32) &&& 31).toUInt32).toInt32) &&& (3 : Int32)) - (1 : Int32)).toInt64)), .second, .val (.long z13), .second, .val (.int (0 : Int32))] [])) (fun _ k => XS.istore X9.here hx rfl (hb hby at_307) rfl (l' := #[.val (.long j0), .second, .val (.long j1), .second, .val (.int i2), .val (.int i3), .val (.int i4), .val (.int i5), .val (.int ea), .val (.int eb), .val (.int ec), .val (.int i4), .val (.int ga), .val (.int gb), .val (.ref b1), .val (.long z10), .second, .val (.int (((i5.toUInt32 >>> ((9 : Int32) &&& 31).toUInt32).toInt32) &&& (7 : Int32))), .val (.long (((((i5.toUInt32 >>> ((12 : Int32) &&& 31).toUInt32).toInt32) &&& (3 : Int32)) - (1 : Int32)).toInt64)), .second, .val (.long z13), .second, .val (.int (0 : Int32))]) rfl k) ?_
          refine own_go (T' := T9) (g' := (mkF m 402 #[.val (.long j0), .second, .val (.long j1), .second, .val (.int i2), .val (.int i3), .val (.int i4), .val (.int i5), .val (.int ea), .val (.int eb), .val (.int ec), .val (.int i4), .val (.int ga), .val (.int gb), .val (.ref b1), .val (.long z10), .second, .val (.int (((i5.toUInt32 >>> ((9 : Int32) &&& 31).toUInt32).toInt32) &&& (7 : Int32))), .val (.long (((((i5.toUInt32 >>> ((12 : Int32) &&& 31).toUInt32).toInt32) &&& (3 : Int32)) - (1 : Int32)).toInt64)), .second, .val (.long z13), .second, .val (.int (0 : Int32))] [])) (fun _ k => XS.goto X9.here hx rfl (pc0 := 309) (pc' := 402) rfl (hb hby at_309) (by decide) (by decide) k) ?_
          refine own_go (T' := T9) (g' := (mkF m 404 #[.val (.long j0), .second, .val (.long j1), .second, .val (.int i2), .val (.int i3), .val (.int i4), .val (.int i5), .val (.int ea), .val (.int eb), .val (.int ec), .val (.int i4), .val (.int ga), .val (.int gb), .val (.ref b1), .val (.long z10), .second, .val (.int (((i5.toUInt32 >>> ((9 : Int32) &&& 31).toUInt32).toInt32) &&& (7 : Int32))), .val (.long (((((i5.toUInt32 >>> ((12 : Int32) &&& 31).toUInt32).toInt32) &&& (3 : Int32)) - (1 : Int32)).toInt64)), .second, .val (.long z13), .second, .val (.int (0 : Int32))] [(.ref b1)])) (fun _ k => XS.aload X9.here hx rfl (hb hby at_402) rfl rfl k) ?_
          refine own_go (T' := T9) (g' := (mkF m 406 #[.val (.long j0), .second, .val (.long j1), .second, .val (.int i2), .val (.int i3), .val (.int i4), .val (.int i5), .val (.int ea), .val (.int eb), .val (.int ec), .val (.int i4), .val (.int ga), .val (.int gb), .val (.ref b1), .val (.long z10), .second, .val (.int (((i5.toUInt32 >>> ((9 : Int32) &&& 31).toUInt32).toInt32) &&& (7 : Int32))), .val (.long (((((i5.toUInt32 >>> ((12 : Int32) &&& 31).toUInt32).toInt32) &&& (3 : Int32)) - (1 : Int32)).toInt64)), .second, .val (.long z13), .second, .val (.int (0 : Int32))] [(.long z10), (.ref b1)])) (fun _ k => XS.lload X9.here hx rfl (hb hby at_404) rfl k) ?_
          refine own_go (T' := T9) (g' := (mkF m 408 #[.val (.long j0), .second, .val (.long j1), .second, .val (.int i2), .val (.int i3), .val (.int i4), .val (.int i5), .val (.int ea), .val (.int eb), .val (.int ec), .val (.int i4), .val (.int ga), .val (.int gb), .val (.ref b1), .val (.long z10), .second, .val (.int (((i5.toUInt32 >>> ((9 : Int32) &&& 31).toUInt32).toInt32) &&& (7 : Int32))), .val (.long (((((i5.toUInt32 >>> ((12 : Int32) &&& 31).toUInt32).toInt32) &&& (3 : Int32)) - (1 : Int32)).toInt64)), .second, .val (.long z13), .second, .val (.int (0 : Int32))] [(.long z13), (.long z10), (.ref b1)])) (fun _ k => XS.lload X9.here hx rfl (hb hby at_406) rfl k) ?_
          obtain ⟨cq18, kq18, q18a, q18b, q18c⟩ := isOf hZ rfl E_b1
          obtain ⟨_, _, ⟨T18, L18, k18, n18⟩, -, X18, ⟨Lc18, hQ18, l18, y18, z18⟩, st18⟩ := X9.virtualBack hx (y := (⟨"com/example/nimble_twig/nimbletwig/index/store/StoredStreams", "place", "(JJ)I"⟩ : MethodName)) (z := (⟨"com/example/nimble_twig/nimbletwig/index/store/StoredStreams", "place", "(JJ)I"⟩ : MethodName)) hown (mvT hZ (hw _ (List.mem_of_getElem? (i := 49) rfl))) (mvT hZ (hw _ (List.mem_of_getElem? (i := 50) rfl))) (notFace_of_selects (args := #[]) (mvT hZ (hw _ (List.mem_of_getElem? (i := 52) rfl)))) (mvT hZ (hw _ (List.mem_of_getElem? (i := 52) rfl))) (mvT hZ (hw _ (List.mem_of_getElem? (i := 51) rfl))) (by decide) (backOf (W := 0) (own_rm5 l Z a0 hw [] b1 z10 z13 s2 t2 dA (5 : Int32) (6 : Int32) fS fT fdd T9.heap n0 Zs F_b1_firstStreams F_b1_firstDepths F_b1_depths I_s2 I_t2 I_dA hps hpm hpo) hZ (hw _ (List.mem_of_getElem? (i := 53) rfl)) (hw _ (List.mem_of_getElem? (i := 2) rfl)) (by decide) (by decide)) q18a q18c (g := (mkF m 408 #[.val (.long j0), .second, .val (.long j1), .second, .val (.int i2), .val (.int i3), .val (.int i4), .val (.int i5), .val (.int ea), .val (.int eb), .val (.int ec), .val (.int i4), .val (.int ga), .val (.int gb), .val (.ref b1), .val (.long z10), .second, .val (.int (((i5.toUInt32 >>> ((9 : Int32) &&& 31).toUInt32).toInt32) &&& (7 : Int32))), .val (.long (((((i5.toUInt32 >>> ((12 : Int32) &&& 31).toUInt32).toInt32) &&& (3 : Int32)) - (1 : Int32)).toInt64)), .second, .val (.long z13), .second, .val (.int (0 : Int32))] [(.long z13), (.long z10), (.ref b1)])) rfl (by rw [hml]; rfl) (Steps.refl _) (argsL := [(.long z10), (.long z13)]) (rest := []) (lenOf own_pd0_2 rfl) rfl (by show 2 * 0 + _ ≤ _; exact Nat.le_of_eq rfl) (hb hby at_408) (fun _ _ => ⟨rfl, rfl, (by decide : 12 + 0 ≤ _), (by decide : 66 + 0 ≤ _)⟩)
          dsimp only [Pt.U, Pt.locs, Pt.cells, Pt.slots] at X18 l18 y18 z18 st18 hQ18
          subst l18 y18 z18
          obtain ⟨⟨zz18, rfl, zo18, zi18⟩, NQ18, eq18⟩ := hQ18
          have NF := Fr.app NF NQ18
          refine own_go (T' := T18) (g' := (mkF m 411 #[.val (.long j0), .second, .val (.long j1), .second, .val (.int i2), .val (.int i3), .val (.int i4), .val (.int i5), .val (.int ea), .val (.int eb), .val (.int ec), .val (.int i4), .val (.int ga), .val (.int gb), .val (.ref b1), .val (.long z10), .second, .val (.int (((i5.toUInt32 >>> ((9 : Int32) &&& 31).toUInt32).toInt32) &&& (7 : Int32))), .val (.long (((((i5.toUInt32 >>> ((12 : Int32) &&& 31).toUInt32).toInt32) &&& (3 : Int32)) - (1 : Int32)).toInt64)), .second, .val (.long z13), .second, .val (.int (0 : Int32))] [(.int zz18)])) (fun _ k => st18.trans k) ?_
          refine own_go (T' := T18) (g' := (mkF m 413 #[.val (.long j0), .second, .val (.long j1), .second, .val (.int i2), .val (.int i3), .val (.int i4), .val (.int i5), .val (.int ea), .val (.int eb), .val (.int ec), .val (.int i4), .val (.int ga), .val (.int gb), .val (.ref b1), .val (.long z10), .second, .val (.int (((i5.toUInt32 >>> ((9 : Int32) &&& 31).toUInt32).toInt32) &&& (7 : Int32))), .val (.long (((((i5.toUInt32 >>> ((12 : Int32) &&& 31).toUInt32).toInt32) &&& (3 : Int32)) - (1 : Int32)).toInt64)), .second, .val (.long z13), .second, .val (.int (0 : Int32))] [(.int (0 : Int32)), (.int zz18)])) (fun _ k => XS.iload X18.here hx rfl (hb hby at_411) rfl k) ?_
          have l_ea := c_i2l ea
          have l_eb := c_i2l eb
          have l_ec := c_i2l ec
          have l_i4 := c_i2l i4
          have l_ga := c_i2l ga
          have l_gb := c_i2l gb
          have hin : ∀ k : Nat, z10.toInt = k → k < 5 → (zz18.toInt = -1 ∧ ∀ x : Nat, (fS k).toInt ≤ x → (x : Int) < (fS (k + 1)).toInt → (fdd x).toInt ≠ z13.toInt) ∨ ((fS k).toInt ≤ zz18.toInt ∧ zz18.toInt < (fS (k + 1)).toInt ∧ (fdd zz18.toInt.toNat).toInt = z13.toInt) := by
            intro k hk h5
            have eq9 : z10.toInt.toNat = k := by omega
            have := zi18 ⟨by omega, by rw [own_l5]; omega⟩
            rw [eq9] at this; exact this
          have hs1 : z10.toInt = 1 → (zz18.toInt = 0 ∧ z13.toInt = ea.toInt) ∨ (zz18.toInt = 1 ∧ z13.toInt = eb.toInt) ∨ (zz18.toInt = 2 ∧ z13.toInt = ec.toInt) ∨ (zz18.toInt = -1 ∧ z13.toInt ≠ ea.toInt ∧ z13.toInt ≠ eb.toInt ∧ z13.toInt ≠ ec.toInt) := by
            intro hk
            rcases hin 1 hk (by omega) with ⟨h1, h2⟩ | ⟨h1, h2, h3⟩
            · simp only [Nat.reduceAdd] at h2
              have y0 := h2 0 (by omega) (by omega)
              rw [fd0] at y0
              have y1 := h2 1 (by omega) (by omega)
              rw [fd1] at y1
              have y2 := h2 2 (by omega) (by omega)
              rw [fd2] at y2
              omega
            · simp only [Nat.reduceAdd] at h2
              have hh : zz18.toInt = 0 ∨ zz18.toInt = 1 ∨ zz18.toInt = 2 := by omega
              rcases hh with hh | hh | hh
              · rw [hh] at h3
                have h4 : (fdd 0).toInt = z13.toInt := h3
                rw [fd0] at h4; omega
              · rw [hh] at h3
                have h4 : (fdd 1).toInt = z13.toInt := h3
                rw [fd1] at h4; omega
              · rw [hh] at h3
                have h4 : (fdd 2).toInt = z13.toInt := h3
                rw [fd2] at h4; omega
          have hs2 : z10.toInt = 2 → (zz18.toInt = 3 ∧ z13.toInt = i4.toInt) ∨ (zz18.toInt = -1 ∧ z13.toInt ≠ i4.toInt) := by
            intro hk
            rcases hin 2 hk (by omega) with ⟨h1, h2⟩ | ⟨h1, h2, h3⟩
            · simp only [Nat.reduceAdd] at h2
              have y3 := h2 3 (by omega) (by omega)
              rw [fd3] at y3
              omega
            · simp only [Nat.reduceAdd] at h2
              have hh : zz18.toInt = 3 := by omega
              rcases hh with hh
              · rw [hh] at h3
                have h4 : (fdd 3).toInt = z13.toInt := h3
                rw [fd3] at h4; omega
          have hs3 : z10.toInt = 3 → (zz18.toInt = 4 ∧ z13.toInt = ga.toInt) ∨ (zz18.toInt = 5 ∧ z13.toInt = gb.toInt) ∨ (zz18.toInt = -1 ∧ z13.toInt ≠ ga.toInt ∧ z13.toInt ≠ gb.toInt) := by
            intro hk
            rcases hin 3 hk (by omega) with ⟨h1, h2⟩ | ⟨h1, h2, h3⟩
            · simp only [Nat.reduceAdd] at h2
              have y4 := h2 4 (by omega) (by omega)
              rw [fd4] at y4
              have y5 := h2 5 (by omega) (by omega)
              rw [fd5] at y5
              omega
            · simp only [Nat.reduceAdd] at h2
              have hh : zz18.toInt = 4 ∨ zz18.toInt = 5 := by omega
              rcases hh with hh | hh
              · rw [hh] at h3
                have h4 : (fdd 4).toInt = z13.toInt := h3
                rw [fd4] at h4; omega
              · rw [hh] at h3
                have h4 : (fdd 5).toInt = z13.toInt := h3
                rw [fd5] at h4; omega
          have hso : z10.toInt ≠ 1 → z10.toInt ≠ 2 → z10.toInt ≠ 3 → zz18.toInt = -1 := by
            intro h1 h2 h3
            by_cases hr : 0 ≤ z10.toInt ∧ z10.toInt < (5 : Int32).toInt
            · rw [own_l5] at hr
              have hh : z10.toInt = 0 ∨ z10.toInt = 4 := by omega
              rcases hh with hh | hh
              · rcases hin 0 hh (by omega) with ⟨h4, -⟩ | ⟨h4, h5, -⟩
                · exact h4
                · simp only [Nat.reduceAdd] at h5; omega
              · rcases hin 4 hh (by omega) with ⟨h4, -⟩ | ⟨h4, h5, -⟩
                · exact h4
                · simp only [Nat.reduceAdd] at h5; omega
            · exact zo18 hr
          have hq : zz18 = (0 : Int32) := by (try simp only [own_ln1, own_l0, own_l1, own_l2, own_l3, own_l4, own_l5, own_l6, own_l7, own_l8, own_l9, own_l12, own_l32, own_L0, own_L1, own_L2, own_L3, own_L7, Int32.lt_iff_toInt_lt, ← Int32.toInt_inj, Int64.lt_iff_toInt_lt, ← Int64.toInt_inj, and_true, true_and, and_false, false_and, or_true, true_or, or_false, false_or, not_true_eq_false, not_false_eq_true, ne_eq, true_implies, false_implies, implies_true] at hz11 hz14 c16 c17 ⊢) <;> omega
          refine own_go (T' := T18) (g' := (mkF m 416 #[.val (.long j0), .second, .val (.long j1), .second, .val (.int i2), .val (.int i3), .val (.int i4), .val (.int i5), .val (.int ea), .val (.int eb), .val (.int ec), .val (.int i4), .val (.int ga), .val (.int gb), .val (.ref b1), .val (.long z10), .second, .val (.int (((i5.toUInt32 >>> ((9 : Int32) &&& 31).toUInt32).toInt32) &&& (7 : Int32))), .val (.long (((((i5.toUInt32 >>> ((12 : Int32) &&& 31).toUInt32).toInt32) &&& (3 : Int32)) - (1 : Int32)).toInt64)), .second, .val (.long z13), .second, .val (.int (0 : Int32))] [])) (fun _ k => XS.icmpNo X18.here hx rfl (hb hby at_413) rfl (teq hq).2 k) ?_
          refine own_go (T' := T18) (g' := (mkF m 417 #[.val (.long j0), .second, .val (.long j1), .second, .val (.int i2), .val (.int i3), .val (.int i4), .val (.int i5), .val (.int ea), .val (.int eb), .val (.int ec), .val (.int i4), .val (.int ga), .val (.int gb), .val (.ref b1), .val (.long z10), .second, .val (.int (((i5.toUInt32 >>> ((9 : Int32) &&& 31).toUInt32).toInt32) &&& (7 : Int32))), .val (.long (((((i5.toUInt32 >>> ((12 : Int32) &&& 31).toUInt32).toInt32) &&& (3 : Int32)) - (1 : Int32)).toInt64)), .second, .val (.long z13), .second, .val (.int (0 : Int32))] [(.int (1 : Int32))])) (fun _ k => XS.iconst X18.here hx rfl (hb hby at_416) k) ?_
          refine own_go (T' := T18) (g' := (mkF m 421 #[.val (.long j0), .second, .val (.long j1), .second, .val (.int i2), .val (.int i3), .val (.int i4), .val (.int i5), .val (.int ea), .val (.int eb), .val (.int ec), .val (.int i4), .val (.int ga), .val (.int gb), .val (.ref b1), .val (.long z10), .second, .val (.int (((i5.toUInt32 >>> ((9 : Int32) &&& 31).toUInt32).toInt32) &&& (7 : Int32))), .val (.long (((((i5.toUInt32 >>> ((12 : Int32) &&& 31).toUInt32).toInt32) &&& (3 : Int32)) - (1 : Int32)).toInt64)), .second, .val (.long z13), .second, .val (.int (0 : Int32))] [(.int (1 : Int32))])) (fun _ k => XS.goto X18.here hx rfl (pc0 := 417) (pc' := 421) rfl (hb hby at_417) (by decide) (by decide) k) ?_
          refine own_ret X18 Bd.notSynchronized (some (.int (1 : Int32))) (fun h => by rw [Bd.returns] at h; cases h) (fun fs hr => retN X18 hx (t := .boolean) Bd.returns (by simp) (hb hby at_421) hr) ?_ (by decide) (by decide)
          show (own_Q0 Z j0 j1 i2 i3 i4 i5 h0 n0) (some (.int (1 : Int32))) T18.heap _
          rw [eq18]
          exact ⟨rfl, NF⟩
        · refine own_go (T' := T9) (g' := (mkF m 312 #[.val (.long j0), .second, .val (.long j1), .second, .val (.int i2), .val (.int i3), .val (.int i4), .val (.int i5), .val (.int ea), .val (.int eb), .val (.int ec), .val (.int i4), .val (.int ga), .val (.int gb), .val (.ref b1), .val (.long z10), .second, .val (.int (((i5.toUInt32 >>> ((9 : Int32) &&& 31).toUInt32).toInt32) &&& (7 : Int32))), .val (.long (((((i5.toUInt32 >>> ((12 : Int32) &&& 31).toUInt32).toInt32) &&& (3 : Int32)) - (1 : Int32)).toInt64)), .second, .val (.long z13), .second, .val (.int (-1 : Int32))] [])) (fun _ k => XS.ifYes X9.here hx rfl (pc0 := 303) (pc' := 312) rfl (hb hby at_303) rfl ((if0 _ _).trans (feq (fun h => c17 ((lw_eq z13 (ea.toInt64)).mp h))).2) (by decide) (by decide) k) ?_
          refine own_go (T' := T9) (g' := (mkF m 314 #[.val (.long j0), .second, .val (.long j1), .second, .val (.int i2), .val (.int i3), .val (.int i4), .val (.int i5), .val (.int ea), .val (.int eb), .val (.int ec), .val (.int i4), .val (.int ga), .val (.int gb), .val (.ref b1), .val (.long z10), .second, .val (.int (((i5.toUInt32 >>> ((9 : Int32) &&& 31).toUInt32).toInt32) &&& (7 : Int32))), .val (.long (((((i5.toUInt32 >>> ((12 : Int32) &&& 31).toUInt32).toInt32) &&& (3 : Int32)) - (1 : Int32)).toInt64)), .second, .val (.long z13), .second, .val (.int (-1 : Int32))] [(.long z13)])) (fun _ k => XS.lload X9.here hx rfl (hb hby at_312) rfl k) ?_
          refine own_go (T' := T9) (g' := (mkF m 316 #[.val (.long j0), .second, .val (.long j1), .second, .val (.int i2), .val (.int i3), .val (.int i4), .val (.int i5), .val (.int ea), .val (.int eb), .val (.int ec), .val (.int i4), .val (.int ga), .val (.int gb), .val (.ref b1), .val (.long z10), .second, .val (.int (((i5.toUInt32 >>> ((9 : Int32) &&& 31).toUInt32).toInt32) &&& (7 : Int32))), .val (.long (((((i5.toUInt32 >>> ((12 : Int32) &&& 31).toUInt32).toInt32) &&& (3 : Int32)) - (1 : Int32)).toInt64)), .second, .val (.long z13), .second, .val (.int (-1 : Int32))] [(.int eb), (.long z13)])) (fun _ k => XS.iload X9.here hx rfl (hb hby at_314) rfl k) ?_
          refine own_go (T' := T9) (g' := (mkF m 317 #[.val (.long j0), .second, .val (.long j1), .second, .val (.int i2), .val (.int i3), .val (.int i4), .val (.int i5), .val (.int ea), .val (.int eb), .val (.int ec), .val (.int i4), .val (.int ga), .val (.int gb), .val (.ref b1), .val (.long z10), .second, .val (.int (((i5.toUInt32 >>> ((9 : Int32) &&& 31).toUInt32).toInt32) &&& (7 : Int32))), .val (.long (((((i5.toUInt32 >>> ((12 : Int32) &&& 31).toUInt32).toInt32) &&& (3 : Int32)) - (1 : Int32)).toInt64)), .second, .val (.long z13), .second, .val (.int (-1 : Int32))] [(.long (eb.toInt64)), (.long z13)])) (fun _ k => XS.i2l X9.here hx rfl (hb hby at_316) rfl k) ?_
          refine own_go (T' := T9) (g' := (mkF m 318 #[.val (.long j0), .second, .val (.long j1), .second, .val (.int i2), .val (.int i3), .val (.int i4), .val (.int i5), .val (.int ea), .val (.int eb), .val (.int ec), .val (.int i4), .val (.int ga), .val (.int gb), .val (.ref b1), .val (.long z10), .second, .val (.int (((i5.toUInt32 >>> ((9 : Int32) &&& 31).toUInt32).toInt32) &&& (7 : Int32))), .val (.long (((((i5.toUInt32 >>> ((12 : Int32) &&& 31).toUInt32).toInt32) &&& (3 : Int32)) - (1 : Int32)).toInt64)), .second, .val (.long z13), .second, .val (.int (-1 : Int32))] [(.int (lcmpW z13 (eb.toInt64)))])) (fun _ k => XS.lcmp X9.here hx rfl (hb hby at_317) rfl k) ?_
          by_cases c19 : z13 = (eb.toInt64)
          · refine own_go (T' := T9) (g' := (mkF m 321 #[.val (.long j0), .second, .val (.long j1), .second, .val (.int i2), .val (.int i3), .val (.int i4), .val (.int i5), .val (.int ea), .val (.int eb), .val (.int ec), .val (.int i4), .val (.int ga), .val (.int gb), .val (.ref b1), .val (.long z10), .second, .val (.int (((i5.toUInt32 >>> ((9 : Int32) &&& 31).toUInt32).toInt32) &&& (7 : Int32))), .val (.long (((((i5.toUInt32 >>> ((12 : Int32) &&& 31).toUInt32).toInt32) &&& (3 : Int32)) - (1 : Int32)).toInt64)), .second, .val (.long z13), .second, .val (.int (-1 : Int32))] [])) (fun _ k => XS.ifNo X9.here hx rfl (hb hby at_318) rfl ((if0 _ _).trans (teq ((lw_eq z13 (eb.toInt64)).mpr c19)).2) k) ?_
            refine own_go (T' := T9) (g' := (mkF m 322 #[.val (.long j0), .second, .val (.long j1), .second, .val (.int i2), .val (.int i3), .val (.int i4), .val (.int i5), .val (.int ea), .val (.int eb), .val (.int ec), .val (.int i4), .val (.int ga), .val (.int gb), .val (.ref b1), .val (.long z10), .second, .val (.int (((i5.toUInt32 >>> ((9 : Int32) &&& 31).toUInt32).toInt32) &&& (7 : Int32))), .val (.long (((((i5.toUInt32 >>> ((12 : Int32) &&& 31).toUInt32).toInt32) &&& (3 : Int32)) - (1 : Int32)).toInt64)), .second, .val (.long z13), .second, .val (.int (-1 : Int32))] [(.int (1 : Int32))])) (fun _ k => XS.iconst X9.here hx rfl (hb hby at_321) k) ?_
            refine own_go (T' := T9) (g' := (mkF m 324 #[.val (.long j0), .second, .val (.long j1), .second, .val (.int i2), .val (.int i3), .val (.int i4), .val (.int i5), .val (.int ea), .val (.int eb), .val (.int ec), .val (.int i4), .val (.int ga), .val (.int gb), .val (.ref b1), .val (.long z10), .second, .val (.int (((i5.toUInt32 >>> ((9 : Int32) &&& 31).toUInt32).toInt32) &&& (7 : Int32))), .val (.long (((((i5.toUInt32 >>> ((12 : Int32) &&& 31).toUInt32).toInt32) &&& (3 : Int32)) - (1 : Int32)).toInt64)), .second, .val (.long z13), .second, .val (.int (1 : Int32))] [])) (fun _ k => XS.istore X9.here hx rfl (hb hby at_322) rfl (l' := #[.val (.long j0), .second, .val (.long j1), .second, .val (.int i2), .val (.int i3), .val (.int i4), .val (.int i5), .val (.int ea), .val (.int eb), .val (.int ec), .val (.int i4), .val (.int ga), .val (.int gb), .val (.ref b1), .val (.long z10), .second, .val (.int (((i5.toUInt32 >>> ((9 : Int32) &&& 31).toUInt32).toInt32) &&& (7 : Int32))), .val (.long (((((i5.toUInt32 >>> ((12 : Int32) &&& 31).toUInt32).toInt32) &&& (3 : Int32)) - (1 : Int32)).toInt64)), .second, .val (.long z13), .second, .val (.int (1 : Int32))]) rfl k) ?_
            refine own_go (T' := T9) (g' := (mkF m 402 #[.val (.long j0), .second, .val (.long j1), .second, .val (.int i2), .val (.int i3), .val (.int i4), .val (.int i5), .val (.int ea), .val (.int eb), .val (.int ec), .val (.int i4), .val (.int ga), .val (.int gb), .val (.ref b1), .val (.long z10), .second, .val (.int (((i5.toUInt32 >>> ((9 : Int32) &&& 31).toUInt32).toInt32) &&& (7 : Int32))), .val (.long (((((i5.toUInt32 >>> ((12 : Int32) &&& 31).toUInt32).toInt32) &&& (3 : Int32)) - (1 : Int32)).toInt64)), .second, .val (.long z13), .second, .val (.int (1 : Int32))] [])) (fun _ k => XS.goto X9.here hx rfl (pc0 := 324) (pc' := 402) rfl (hb hby at_324) (by decide) (by decide) k) ?_
            refine own_go (T' := T9) (g' := (mkF m 404 #[.val (.long j0), .second, .val (.long j1), .second, .val (.int i2), .val (.int i3), .val (.int i4), .val (.int i5), .val (.int ea), .val (.int eb), .val (.int ec), .val (.int i4), .val (.int ga), .val (.int gb), .val (.ref b1), .val (.long z10), .second, .val (.int (((i5.toUInt32 >>> ((9 : Int32) &&& 31).toUInt32).toInt32) &&& (7 : Int32))), .val (.long (((((i5.toUInt32 >>> ((12 : Int32) &&& 31).toUInt32).toInt32) &&& (3 : Int32)) - (1 : Int32)).toInt64)), .second, .val (.long z13), .second, .val (.int (1 : Int32))] [(.ref b1)])) (fun _ k => XS.aload X9.here hx rfl (hb hby at_402) rfl rfl k) ?_
            refine own_go (T' := T9) (g' := (mkF m 406 #[.val (.long j0), .second, .val (.long j1), .second, .val (.int i2), .val (.int i3), .val (.int i4), .val (.int i5), .val (.int ea), .val (.int eb), .val (.int ec), .val (.int i4), .val (.int ga), .val (.int gb), .val (.ref b1), .val (.long z10), .second, .val (.int (((i5.toUInt32 >>> ((9 : Int32) &&& 31).toUInt32).toInt32) &&& (7 : Int32))), .val (.long (((((i5.toUInt32 >>> ((12 : Int32) &&& 31).toUInt32).toInt32) &&& (3 : Int32)) - (1 : Int32)).toInt64)), .second, .val (.long z13), .second, .val (.int (1 : Int32))] [(.long z10), (.ref b1)])) (fun _ k => XS.lload X9.here hx rfl (hb hby at_404) rfl k) ?_
            refine own_go (T' := T9) (g' := (mkF m 408 #[.val (.long j0), .second, .val (.long j1), .second, .val (.int i2), .val (.int i3), .val (.int i4), .val (.int i5), .val (.int ea), .val (.int eb), .val (.int ec), .val (.int i4), .val (.int ga), .val (.int gb), .val (.ref b1), .val (.long z10), .second, .val (.int (((i5.toUInt32 >>> ((9 : Int32) &&& 31).toUInt32).toInt32) &&& (7 : Int32))), .val (.long (((((i5.toUInt32 >>> ((12 : Int32) &&& 31).toUInt32).toInt32) &&& (3 : Int32)) - (1 : Int32)).toInt64)), .second, .val (.long z13), .second, .val (.int (1 : Int32))] [(.long z13), (.long z10), (.ref b1)])) (fun _ k => XS.lload X9.here hx rfl (hb hby at_406) rfl k) ?_
            obtain ⟨cq20, kq20, q20a, q20b, q20c⟩ := isOf hZ rfl E_b1
            obtain ⟨_, _, ⟨T20, L20, k20, n20⟩, -, X20, ⟨Lc20, hQ20, l20, y20, z20⟩, st20⟩ := X9.virtualBack hx (y := (⟨"com/example/nimble_twig/nimbletwig/index/store/StoredStreams", "place", "(JJ)I"⟩ : MethodName)) (z := (⟨"com/example/nimble_twig/nimbletwig/index/store/StoredStreams", "place", "(JJ)I"⟩ : MethodName)) hown (mvT hZ (hw _ (List.mem_of_getElem? (i := 49) rfl))) (mvT hZ (hw _ (List.mem_of_getElem? (i := 50) rfl))) (notFace_of_selects (args := #[]) (mvT hZ (hw _ (List.mem_of_getElem? (i := 52) rfl)))) (mvT hZ (hw _ (List.mem_of_getElem? (i := 52) rfl))) (mvT hZ (hw _ (List.mem_of_getElem? (i := 51) rfl))) (by decide) (backOf (W := 0) (own_rm5 l Z a0 hw [] b1 z10 z13 s2 t2 dA (5 : Int32) (6 : Int32) fS fT fdd T9.heap n0 Zs F_b1_firstStreams F_b1_firstDepths F_b1_depths I_s2 I_t2 I_dA hps hpm hpo) hZ (hw _ (List.mem_of_getElem? (i := 53) rfl)) (hw _ (List.mem_of_getElem? (i := 2) rfl)) (by decide) (by decide)) q20a q20c (g := (mkF m 408 #[.val (.long j0), .second, .val (.long j1), .second, .val (.int i2), .val (.int i3), .val (.int i4), .val (.int i5), .val (.int ea), .val (.int eb), .val (.int ec), .val (.int i4), .val (.int ga), .val (.int gb), .val (.ref b1), .val (.long z10), .second, .val (.int (((i5.toUInt32 >>> ((9 : Int32) &&& 31).toUInt32).toInt32) &&& (7 : Int32))), .val (.long (((((i5.toUInt32 >>> ((12 : Int32) &&& 31).toUInt32).toInt32) &&& (3 : Int32)) - (1 : Int32)).toInt64)), .second, .val (.long z13), .second, .val (.int (1 : Int32))] [(.long z13), (.long z10), (.ref b1)])) rfl (by rw [hml]; rfl) (Steps.refl _) (argsL := [(.long z10), (.long z13)]) (rest := []) (lenOf own_pd0_2 rfl) rfl (by show 2 * 0 + _ ≤ _; exact Nat.le_of_eq rfl) (hb hby at_408) (fun _ _ => ⟨rfl, rfl, (by decide : 12 + 0 ≤ _), (by decide : 66 + 0 ≤ _)⟩)
            dsimp only [Pt.U, Pt.locs, Pt.cells, Pt.slots] at X20 l20 y20 z20 st20 hQ20
            subst l20 y20 z20
            obtain ⟨⟨zz20, rfl, zo20, zi20⟩, NQ20, eq20⟩ := hQ20
            have NF := Fr.app NF NQ20
            refine own_go (T' := T20) (g' := (mkF m 411 #[.val (.long j0), .second, .val (.long j1), .second, .val (.int i2), .val (.int i3), .val (.int i4), .val (.int i5), .val (.int ea), .val (.int eb), .val (.int ec), .val (.int i4), .val (.int ga), .val (.int gb), .val (.ref b1), .val (.long z10), .second, .val (.int (((i5.toUInt32 >>> ((9 : Int32) &&& 31).toUInt32).toInt32) &&& (7 : Int32))), .val (.long (((((i5.toUInt32 >>> ((12 : Int32) &&& 31).toUInt32).toInt32) &&& (3 : Int32)) - (1 : Int32)).toInt64)), .second, .val (.long z13), .second, .val (.int (1 : Int32))] [(.int zz20)])) (fun _ k => st20.trans k) ?_
            refine own_go (T' := T20) (g' := (mkF m 413 #[.val (.long j0), .second, .val (.long j1), .second, .val (.int i2), .val (.int i3), .val (.int i4), .val (.int i5), .val (.int ea), .val (.int eb), .val (.int ec), .val (.int i4), .val (.int ga), .val (.int gb), .val (.ref b1), .val (.long z10), .second, .val (.int (((i5.toUInt32 >>> ((9 : Int32) &&& 31).toUInt32).toInt32) &&& (7 : Int32))), .val (.long (((((i5.toUInt32 >>> ((12 : Int32) &&& 31).toUInt32).toInt32) &&& (3 : Int32)) - (1 : Int32)).toInt64)), .second, .val (.long z13), .second, .val (.int (1 : Int32))] [(.int (1 : Int32)), (.int zz20)])) (fun _ k => XS.iload X20.here hx rfl (hb hby at_411) rfl k) ?_
            have l_ea := c_i2l ea
            have l_eb := c_i2l eb
            have l_ec := c_i2l ec
            have l_i4 := c_i2l i4
            have l_ga := c_i2l ga
            have l_gb := c_i2l gb
            have hin : ∀ k : Nat, z10.toInt = k → k < 5 → (zz20.toInt = -1 ∧ ∀ x : Nat, (fS k).toInt ≤ x → (x : Int) < (fS (k + 1)).toInt → (fdd x).toInt ≠ z13.toInt) ∨ ((fS k).toInt ≤ zz20.toInt ∧ zz20.toInt < (fS (k + 1)).toInt ∧ (fdd zz20.toInt.toNat).toInt = z13.toInt) := by
              intro k hk h5
              have eq9 : z10.toInt.toNat = k := by omega
              have := zi20 ⟨by omega, by rw [own_l5]; omega⟩
              rw [eq9] at this; exact this
            have hs1 : z10.toInt = 1 → (zz20.toInt = 0 ∧ z13.toInt = ea.toInt) ∨ (zz20.toInt = 1 ∧ z13.toInt = eb.toInt) ∨ (zz20.toInt = 2 ∧ z13.toInt = ec.toInt) ∨ (zz20.toInt = -1 ∧ z13.toInt ≠ ea.toInt ∧ z13.toInt ≠ eb.toInt ∧ z13.toInt ≠ ec.toInt) := by
              intro hk
              rcases hin 1 hk (by omega) with ⟨h1, h2⟩ | ⟨h1, h2, h3⟩
              · simp only [Nat.reduceAdd] at h2
                have y0 := h2 0 (by omega) (by omega)
                rw [fd0] at y0
                have y1 := h2 1 (by omega) (by omega)
                rw [fd1] at y1
                have y2 := h2 2 (by omega) (by omega)
                rw [fd2] at y2
                omega
              · simp only [Nat.reduceAdd] at h2
                have hh : zz20.toInt = 0 ∨ zz20.toInt = 1 ∨ zz20.toInt = 2 := by omega
                rcases hh with hh | hh | hh
                · rw [hh] at h3
                  have h4 : (fdd 0).toInt = z13.toInt := h3
                  rw [fd0] at h4; omega
                · rw [hh] at h3
                  have h4 : (fdd 1).toInt = z13.toInt := h3
                  rw [fd1] at h4; omega
                · rw [hh] at h3
                  have h4 : (fdd 2).toInt = z13.toInt := h3
                  rw [fd2] at h4; omega
            have hs2 : z10.toInt = 2 → (zz20.toInt = 3 ∧ z13.toInt = i4.toInt) ∨ (zz20.toInt = -1 ∧ z13.toInt ≠ i4.toInt) := by
              intro hk
              rcases hin 2 hk (by omega) with ⟨h1, h2⟩ | ⟨h1, h2, h3⟩
              · simp only [Nat.reduceAdd] at h2
                have y3 := h2 3 (by omega) (by omega)
                rw [fd3] at y3
                omega
              · simp only [Nat.reduceAdd] at h2
                have hh : zz20.toInt = 3 := by omega
                rcases hh with hh
                · rw [hh] at h3
                  have h4 : (fdd 3).toInt = z13.toInt := h3
                  rw [fd3] at h4; omega
            have hs3 : z10.toInt = 3 → (zz20.toInt = 4 ∧ z13.toInt = ga.toInt) ∨ (zz20.toInt = 5 ∧ z13.toInt = gb.toInt) ∨ (zz20.toInt = -1 ∧ z13.toInt ≠ ga.toInt ∧ z13.toInt ≠ gb.toInt) := by
              intro hk
              rcases hin 3 hk (by omega) with ⟨h1, h2⟩ | ⟨h1, h2, h3⟩
              · simp only [Nat.reduceAdd] at h2
                have y4 := h2 4 (by omega) (by omega)
                rw [fd4] at y4
                have y5 := h2 5 (by omega) (by omega)
                rw [fd5] at y5
                omega
              · simp only [Nat.reduceAdd] at h2
                have hh : zz20.toInt = 4 ∨ zz20.toInt = 5 := by omega
                rcases hh with hh | hh
                · rw [hh] at h3
                  have h4 : (fdd 4).toInt = z13.toInt := h3
                  rw [fd4] at h4; omega
                · rw [hh] at h3
                  have h4 : (fdd 5).toInt = z13.toInt := h3
                  rw [fd5] at h4; omega
            have hso : z10.toInt ≠ 1 → z10.toInt ≠ 2 → z10.toInt ≠ 3 → zz20.toInt = -1 := by
              intro h1 h2 h3
              by_cases hr : 0 ≤ z10.toInt ∧ z10.toInt < (5 : Int32).toInt
              · rw [own_l5] at hr
                have hh : z10.toInt = 0 ∨ z10.toInt = 4 := by omega
                rcases hh with hh | hh
                · rcases hin 0 hh (by omega) with ⟨h4, -⟩ | ⟨h4, h5, -⟩
                  · exact h4
                  · simp only [Nat.reduceAdd] at h5; omega
                · rcases hin 4 hh (by omega) with ⟨h4, -⟩ | ⟨h4, h5, -⟩
                  · exact h4
                  · simp only [Nat.reduceAdd] at h5; omega
              · exact zo20 hr
            have hq : zz20 = (1 : Int32) := by (try simp only [own_ln1, own_l0, own_l1, own_l2, own_l3, own_l4, own_l5, own_l6, own_l7, own_l8, own_l9, own_l12, own_l32, own_L0, own_L1, own_L2, own_L3, own_L7, Int32.lt_iff_toInt_lt, ← Int32.toInt_inj, Int64.lt_iff_toInt_lt, ← Int64.toInt_inj, and_true, true_and, and_false, false_and, or_true, true_or, or_false, false_or, not_true_eq_false, not_false_eq_true, ne_eq, true_implies, false_implies, implies_true] at hz11 hz14 c16 c17 c19 ⊢) <;> omega
            refine own_go (T' := T20) (g' := (mkF m 416 #[.val (.long j0), .second, .val (.long j1), .second, .val (.int i2), .val (.int i3), .val (.int i4), .val (.int i5), .val (.int ea), .val (.int eb), .val (.int ec), .val (.int i4), .val (.int ga), .val (.int gb), .val (.ref b1), .val (.long z10), .second, .val (.int (((i5.toUInt32 >>> ((9 : Int32) &&& 31).toUInt32).toInt32) &&& (7 : Int32))), .val (.long (((((i5.toUInt32 >>> ((12 : Int32) &&& 31).toUInt32).toInt32) &&& (3 : Int32)) - (1 : Int32)).toInt64)), .second, .val (.long z13), .second, .val (.int (1 : Int32))] [])) (fun _ k => XS.icmpNo X20.here hx rfl (hb hby at_413) rfl (teq hq).2 k) ?_
            refine own_go (T' := T20) (g' := (mkF m 417 #[.val (.long j0), .second, .val (.long j1), .second, .val (.int i2), .val (.int i3), .val (.int i4), .val (.int i5), .val (.int ea), .val (.int eb), .val (.int ec), .val (.int i4), .val (.int ga), .val (.int gb), .val (.ref b1), .val (.long z10), .second, .val (.int (((i5.toUInt32 >>> ((9 : Int32) &&& 31).toUInt32).toInt32) &&& (7 : Int32))), .val (.long (((((i5.toUInt32 >>> ((12 : Int32) &&& 31).toUInt32).toInt32) &&& (3 : Int32)) - (1 : Int32)).toInt64)), .second, .val (.long z13), .second, .val (.int (1 : Int32))] [(.int (1 : Int32))])) (fun _ k => XS.iconst X20.here hx rfl (hb hby at_416) k) ?_
            refine own_go (T' := T20) (g' := (mkF m 421 #[.val (.long j0), .second, .val (.long j1), .second, .val (.int i2), .val (.int i3), .val (.int i4), .val (.int i5), .val (.int ea), .val (.int eb), .val (.int ec), .val (.int i4), .val (.int ga), .val (.int gb), .val (.ref b1), .val (.long z10), .second, .val (.int (((i5.toUInt32 >>> ((9 : Int32) &&& 31).toUInt32).toInt32) &&& (7 : Int32))), .val (.long (((((i5.toUInt32 >>> ((12 : Int32) &&& 31).toUInt32).toInt32) &&& (3 : Int32)) - (1 : Int32)).toInt64)), .second, .val (.long z13), .second, .val (.int (1 : Int32))] [(.int (1 : Int32))])) (fun _ k => XS.goto X20.here hx rfl (pc0 := 417) (pc' := 421) rfl (hb hby at_417) (by decide) (by decide) k) ?_
            refine own_ret X20 Bd.notSynchronized (some (.int (1 : Int32))) (fun h => by rw [Bd.returns] at h; cases h) (fun fs hr => retN X20 hx (t := .boolean) Bd.returns (by simp) (hb hby at_421) hr) ?_ (by decide) (by decide)
            show (own_Q0 Z j0 j1 i2 i3 i4 i5 h0 n0) (some (.int (1 : Int32))) T20.heap _
            rw [eq20]
            exact ⟨rfl, NF⟩
          · refine own_go (T' := T9) (g' := (mkF m 327 #[.val (.long j0), .second, .val (.long j1), .second, .val (.int i2), .val (.int i3), .val (.int i4), .val (.int i5), .val (.int ea), .val (.int eb), .val (.int ec), .val (.int i4), .val (.int ga), .val (.int gb), .val (.ref b1), .val (.long z10), .second, .val (.int (((i5.toUInt32 >>> ((9 : Int32) &&& 31).toUInt32).toInt32) &&& (7 : Int32))), .val (.long (((((i5.toUInt32 >>> ((12 : Int32) &&& 31).toUInt32).toInt32) &&& (3 : Int32)) - (1 : Int32)).toInt64)), .second, .val (.long z13), .second, .val (.int (-1 : Int32))] [])) (fun _ k => XS.ifYes X9.here hx rfl (pc0 := 318) (pc' := 327) rfl (hb hby at_318) rfl ((if0 _ _).trans (feq (fun h => c19 ((lw_eq z13 (eb.toInt64)).mp h))).2) (by decide) (by decide) k) ?_
            refine own_go (T' := T9) (g' := (mkF m 329 #[.val (.long j0), .second, .val (.long j1), .second, .val (.int i2), .val (.int i3), .val (.int i4), .val (.int i5), .val (.int ea), .val (.int eb), .val (.int ec), .val (.int i4), .val (.int ga), .val (.int gb), .val (.ref b1), .val (.long z10), .second, .val (.int (((i5.toUInt32 >>> ((9 : Int32) &&& 31).toUInt32).toInt32) &&& (7 : Int32))), .val (.long (((((i5.toUInt32 >>> ((12 : Int32) &&& 31).toUInt32).toInt32) &&& (3 : Int32)) - (1 : Int32)).toInt64)), .second, .val (.long z13), .second, .val (.int (-1 : Int32))] [(.long z13)])) (fun _ k => XS.lload X9.here hx rfl (hb hby at_327) rfl k) ?_
            refine own_go (T' := T9) (g' := (mkF m 331 #[.val (.long j0), .second, .val (.long j1), .second, .val (.int i2), .val (.int i3), .val (.int i4), .val (.int i5), .val (.int ea), .val (.int eb), .val (.int ec), .val (.int i4), .val (.int ga), .val (.int gb), .val (.ref b1), .val (.long z10), .second, .val (.int (((i5.toUInt32 >>> ((9 : Int32) &&& 31).toUInt32).toInt32) &&& (7 : Int32))), .val (.long (((((i5.toUInt32 >>> ((12 : Int32) &&& 31).toUInt32).toInt32) &&& (3 : Int32)) - (1 : Int32)).toInt64)), .second, .val (.long z13), .second, .val (.int (-1 : Int32))] [(.int ec), (.long z13)])) (fun _ k => XS.iload X9.here hx rfl (hb hby at_329) rfl k) ?_
            refine own_go (T' := T9) (g' := (mkF m 332 #[.val (.long j0), .second, .val (.long j1), .second, .val (.int i2), .val (.int i3), .val (.int i4), .val (.int i5), .val (.int ea), .val (.int eb), .val (.int ec), .val (.int i4), .val (.int ga), .val (.int gb), .val (.ref b1), .val (.long z10), .second, .val (.int (((i5.toUInt32 >>> ((9 : Int32) &&& 31).toUInt32).toInt32) &&& (7 : Int32))), .val (.long (((((i5.toUInt32 >>> ((12 : Int32) &&& 31).toUInt32).toInt32) &&& (3 : Int32)) - (1 : Int32)).toInt64)), .second, .val (.long z13), .second, .val (.int (-1 : Int32))] [(.long (ec.toInt64)), (.long z13)])) (fun _ k => XS.i2l X9.here hx rfl (hb hby at_331) rfl k) ?_
            refine own_go (T' := T9) (g' := (mkF m 333 #[.val (.long j0), .second, .val (.long j1), .second, .val (.int i2), .val (.int i3), .val (.int i4), .val (.int i5), .val (.int ea), .val (.int eb), .val (.int ec), .val (.int i4), .val (.int ga), .val (.int gb), .val (.ref b1), .val (.long z10), .second, .val (.int (((i5.toUInt32 >>> ((9 : Int32) &&& 31).toUInt32).toInt32) &&& (7 : Int32))), .val (.long (((((i5.toUInt32 >>> ((12 : Int32) &&& 31).toUInt32).toInt32) &&& (3 : Int32)) - (1 : Int32)).toInt64)), .second, .val (.long z13), .second, .val (.int (-1 : Int32))] [(.int (lcmpW z13 (ec.toInt64)))])) (fun _ k => XS.lcmp X9.here hx rfl (hb hby at_332) rfl k) ?_
            by_cases c21 : z13 = (ec.toInt64)
            · refine own_go (T' := T9) (g' := (mkF m 336 #[.val (.long j0), .second, .val (.long j1), .second, .val (.int i2), .val (.int i3), .val (.int i4), .val (.int i5), .val (.int ea), .val (.int eb), .val (.int ec), .val (.int i4), .val (.int ga), .val (.int gb), .val (.ref b1), .val (.long z10), .second, .val (.int (((i5.toUInt32 >>> ((9 : Int32) &&& 31).toUInt32).toInt32) &&& (7 : Int32))), .val (.long (((((i5.toUInt32 >>> ((12 : Int32) &&& 31).toUInt32).toInt32) &&& (3 : Int32)) - (1 : Int32)).toInt64)), .second, .val (.long z13), .second, .val (.int (-1 : Int32))] [])) (fun _ k => XS.ifNo X9.here hx rfl (hb hby at_333) rfl ((if0 _ _).trans (teq ((lw_eq z13 (ec.toInt64)).mpr c21)).2) k) ?_
              refine own_go (T' := T9) (g' := (mkF m 337 #[.val (.long j0), .second, .val (.long j1), .second, .val (.int i2), .val (.int i3), .val (.int i4), .val (.int i5), .val (.int ea), .val (.int eb), .val (.int ec), .val (.int i4), .val (.int ga), .val (.int gb), .val (.ref b1), .val (.long z10), .second, .val (.int (((i5.toUInt32 >>> ((9 : Int32) &&& 31).toUInt32).toInt32) &&& (7 : Int32))), .val (.long (((((i5.toUInt32 >>> ((12 : Int32) &&& 31).toUInt32).toInt32) &&& (3 : Int32)) - (1 : Int32)).toInt64)), .second, .val (.long z13), .second, .val (.int (-1 : Int32))] [(.int (2 : Int32))])) (fun _ k => XS.iconst X9.here hx rfl (hb hby at_336) k) ?_
              refine own_go (T' := T9) (g' := (mkF m 339 #[.val (.long j0), .second, .val (.long j1), .second, .val (.int i2), .val (.int i3), .val (.int i4), .val (.int i5), .val (.int ea), .val (.int eb), .val (.int ec), .val (.int i4), .val (.int ga), .val (.int gb), .val (.ref b1), .val (.long z10), .second, .val (.int (((i5.toUInt32 >>> ((9 : Int32) &&& 31).toUInt32).toInt32) &&& (7 : Int32))), .val (.long (((((i5.toUInt32 >>> ((12 : Int32) &&& 31).toUInt32).toInt32) &&& (3 : Int32)) - (1 : Int32)).toInt64)), .second, .val (.long z13), .second, .val (.int (2 : Int32))] [])) (fun _ k => XS.istore X9.here hx rfl (hb hby at_337) rfl (l' := #[.val (.long j0), .second, .val (.long j1), .second, .val (.int i2), .val (.int i3), .val (.int i4), .val (.int i5), .val (.int ea), .val (.int eb), .val (.int ec), .val (.int i4), .val (.int ga), .val (.int gb), .val (.ref b1), .val (.long z10), .second, .val (.int (((i5.toUInt32 >>> ((9 : Int32) &&& 31).toUInt32).toInt32) &&& (7 : Int32))), .val (.long (((((i5.toUInt32 >>> ((12 : Int32) &&& 31).toUInt32).toInt32) &&& (3 : Int32)) - (1 : Int32)).toInt64)), .second, .val (.long z13), .second, .val (.int (2 : Int32))]) rfl k) ?_
              refine own_go (T' := T9) (g' := (mkF m 402 #[.val (.long j0), .second, .val (.long j1), .second, .val (.int i2), .val (.int i3), .val (.int i4), .val (.int i5), .val (.int ea), .val (.int eb), .val (.int ec), .val (.int i4), .val (.int ga), .val (.int gb), .val (.ref b1), .val (.long z10), .second, .val (.int (((i5.toUInt32 >>> ((9 : Int32) &&& 31).toUInt32).toInt32) &&& (7 : Int32))), .val (.long (((((i5.toUInt32 >>> ((12 : Int32) &&& 31).toUInt32).toInt32) &&& (3 : Int32)) - (1 : Int32)).toInt64)), .second, .val (.long z13), .second, .val (.int (2 : Int32))] [])) (fun _ k => XS.goto X9.here hx rfl (pc0 := 339) (pc' := 402) rfl (hb hby at_339) (by decide) (by decide) k) ?_
              refine own_go (T' := T9) (g' := (mkF m 404 #[.val (.long j0), .second, .val (.long j1), .second, .val (.int i2), .val (.int i3), .val (.int i4), .val (.int i5), .val (.int ea), .val (.int eb), .val (.int ec), .val (.int i4), .val (.int ga), .val (.int gb), .val (.ref b1), .val (.long z10), .second, .val (.int (((i5.toUInt32 >>> ((9 : Int32) &&& 31).toUInt32).toInt32) &&& (7 : Int32))), .val (.long (((((i5.toUInt32 >>> ((12 : Int32) &&& 31).toUInt32).toInt32) &&& (3 : Int32)) - (1 : Int32)).toInt64)), .second, .val (.long z13), .second, .val (.int (2 : Int32))] [(.ref b1)])) (fun _ k => XS.aload X9.here hx rfl (hb hby at_402) rfl rfl k) ?_
              refine own_go (T' := T9) (g' := (mkF m 406 #[.val (.long j0), .second, .val (.long j1), .second, .val (.int i2), .val (.int i3), .val (.int i4), .val (.int i5), .val (.int ea), .val (.int eb), .val (.int ec), .val (.int i4), .val (.int ga), .val (.int gb), .val (.ref b1), .val (.long z10), .second, .val (.int (((i5.toUInt32 >>> ((9 : Int32) &&& 31).toUInt32).toInt32) &&& (7 : Int32))), .val (.long (((((i5.toUInt32 >>> ((12 : Int32) &&& 31).toUInt32).toInt32) &&& (3 : Int32)) - (1 : Int32)).toInt64)), .second, .val (.long z13), .second, .val (.int (2 : Int32))] [(.long z10), (.ref b1)])) (fun _ k => XS.lload X9.here hx rfl (hb hby at_404) rfl k) ?_
              refine own_go (T' := T9) (g' := (mkF m 408 #[.val (.long j0), .second, .val (.long j1), .second, .val (.int i2), .val (.int i3), .val (.int i4), .val (.int i5), .val (.int ea), .val (.int eb), .val (.int ec), .val (.int i4), .val (.int ga), .val (.int gb), .val (.ref b1), .val (.long z10), .second, .val (.int (((i5.toUInt32 >>> ((9 : Int32) &&& 31).toUInt32).toInt32) &&& (7 : Int32))), .val (.long (((((i5.toUInt32 >>> ((12 : Int32) &&& 31).toUInt32).toInt32) &&& (3 : Int32)) - (1 : Int32)).toInt64)), .second, .val (.long z13), .second, .val (.int (2 : Int32))] [(.long z13), (.long z10), (.ref b1)])) (fun _ k => XS.lload X9.here hx rfl (hb hby at_406) rfl k) ?_
              obtain ⟨cq22, kq22, q22a, q22b, q22c⟩ := isOf hZ rfl E_b1
              obtain ⟨_, _, ⟨T22, L22, k22, n22⟩, -, X22, ⟨Lc22, hQ22, l22, y22, z22⟩, st22⟩ := X9.virtualBack hx (y := (⟨"com/example/nimble_twig/nimbletwig/index/store/StoredStreams", "place", "(JJ)I"⟩ : MethodName)) (z := (⟨"com/example/nimble_twig/nimbletwig/index/store/StoredStreams", "place", "(JJ)I"⟩ : MethodName)) hown (mvT hZ (hw _ (List.mem_of_getElem? (i := 49) rfl))) (mvT hZ (hw _ (List.mem_of_getElem? (i := 50) rfl))) (notFace_of_selects (args := #[]) (mvT hZ (hw _ (List.mem_of_getElem? (i := 52) rfl)))) (mvT hZ (hw _ (List.mem_of_getElem? (i := 52) rfl))) (mvT hZ (hw _ (List.mem_of_getElem? (i := 51) rfl))) (by decide) (backOf (W := 0) (own_rm5 l Z a0 hw [] b1 z10 z13 s2 t2 dA (5 : Int32) (6 : Int32) fS fT fdd T9.heap n0 Zs F_b1_firstStreams F_b1_firstDepths F_b1_depths I_s2 I_t2 I_dA hps hpm hpo) hZ (hw _ (List.mem_of_getElem? (i := 53) rfl)) (hw _ (List.mem_of_getElem? (i := 2) rfl)) (by decide) (by decide)) q22a q22c (g := (mkF m 408 #[.val (.long j0), .second, .val (.long j1), .second, .val (.int i2), .val (.int i3), .val (.int i4), .val (.int i5), .val (.int ea), .val (.int eb), .val (.int ec), .val (.int i4), .val (.int ga), .val (.int gb), .val (.ref b1), .val (.long z10), .second, .val (.int (((i5.toUInt32 >>> ((9 : Int32) &&& 31).toUInt32).toInt32) &&& (7 : Int32))), .val (.long (((((i5.toUInt32 >>> ((12 : Int32) &&& 31).toUInt32).toInt32) &&& (3 : Int32)) - (1 : Int32)).toInt64)), .second, .val (.long z13), .second, .val (.int (2 : Int32))] [(.long z13), (.long z10), (.ref b1)])) rfl (by rw [hml]; rfl) (Steps.refl _) (argsL := [(.long z10), (.long z13)]) (rest := []) (lenOf own_pd0_2 rfl) rfl (by show 2 * 0 + _ ≤ _; exact Nat.le_of_eq rfl) (hb hby at_408) (fun _ _ => ⟨rfl, rfl, (by decide : 12 + 0 ≤ _), (by decide : 66 + 0 ≤ _)⟩)
              dsimp only [Pt.U, Pt.locs, Pt.cells, Pt.slots] at X22 l22 y22 z22 st22 hQ22
              subst l22 y22 z22
              obtain ⟨⟨zz22, rfl, zo22, zi22⟩, NQ22, eq22⟩ := hQ22
              have NF := Fr.app NF NQ22
              refine own_go (T' := T22) (g' := (mkF m 411 #[.val (.long j0), .second, .val (.long j1), .second, .val (.int i2), .val (.int i3), .val (.int i4), .val (.int i5), .val (.int ea), .val (.int eb), .val (.int ec), .val (.int i4), .val (.int ga), .val (.int gb), .val (.ref b1), .val (.long z10), .second, .val (.int (((i5.toUInt32 >>> ((9 : Int32) &&& 31).toUInt32).toInt32) &&& (7 : Int32))), .val (.long (((((i5.toUInt32 >>> ((12 : Int32) &&& 31).toUInt32).toInt32) &&& (3 : Int32)) - (1 : Int32)).toInt64)), .second, .val (.long z13), .second, .val (.int (2 : Int32))] [(.int zz22)])) (fun _ k => st22.trans k) ?_
              refine own_go (T' := T22) (g' := (mkF m 413 #[.val (.long j0), .second, .val (.long j1), .second, .val (.int i2), .val (.int i3), .val (.int i4), .val (.int i5), .val (.int ea), .val (.int eb), .val (.int ec), .val (.int i4), .val (.int ga), .val (.int gb), .val (.ref b1), .val (.long z10), .second, .val (.int (((i5.toUInt32 >>> ((9 : Int32) &&& 31).toUInt32).toInt32) &&& (7 : Int32))), .val (.long (((((i5.toUInt32 >>> ((12 : Int32) &&& 31).toUInt32).toInt32) &&& (3 : Int32)) - (1 : Int32)).toInt64)), .second, .val (.long z13), .second, .val (.int (2 : Int32))] [(.int (2 : Int32)), (.int zz22)])) (fun _ k => XS.iload X22.here hx rfl (hb hby at_411) rfl k) ?_
              have l_ea := c_i2l ea
              have l_eb := c_i2l eb
              have l_ec := c_i2l ec
              have l_i4 := c_i2l i4
              have l_ga := c_i2l ga
              have l_gb := c_i2l gb
              have hin : ∀ k : Nat, z10.toInt = k → k < 5 → (zz22.toInt = -1 ∧ ∀ x : Nat, (fS k).toInt ≤ x → (x : Int) < (fS (k + 1)).toInt → (fdd x).toInt ≠ z13.toInt) ∨ ((fS k).toInt ≤ zz22.toInt ∧ zz22.toInt < (fS (k + 1)).toInt ∧ (fdd zz22.toInt.toNat).toInt = z13.toInt) := by
                intro k hk h5
                have eq9 : z10.toInt.toNat = k := by omega
                have := zi22 ⟨by omega, by rw [own_l5]; omega⟩
                rw [eq9] at this; exact this
              have hs1 : z10.toInt = 1 → (zz22.toInt = 0 ∧ z13.toInt = ea.toInt) ∨ (zz22.toInt = 1 ∧ z13.toInt = eb.toInt) ∨ (zz22.toInt = 2 ∧ z13.toInt = ec.toInt) ∨ (zz22.toInt = -1 ∧ z13.toInt ≠ ea.toInt ∧ z13.toInt ≠ eb.toInt ∧ z13.toInt ≠ ec.toInt) := by
                intro hk
                rcases hin 1 hk (by omega) with ⟨h1, h2⟩ | ⟨h1, h2, h3⟩
                · simp only [Nat.reduceAdd] at h2
                  have y0 := h2 0 (by omega) (by omega)
                  rw [fd0] at y0
                  have y1 := h2 1 (by omega) (by omega)
                  rw [fd1] at y1
                  have y2 := h2 2 (by omega) (by omega)
                  rw [fd2] at y2
                  omega
                · simp only [Nat.reduceAdd] at h2
                  have hh : zz22.toInt = 0 ∨ zz22.toInt = 1 ∨ zz22.toInt = 2 := by omega
                  rcases hh with hh | hh | hh
                  · rw [hh] at h3
                    have h4 : (fdd 0).toInt = z13.toInt := h3
                    rw [fd0] at h4; omega
                  · rw [hh] at h3
                    have h4 : (fdd 1).toInt = z13.toInt := h3
                    rw [fd1] at h4; omega
                  · rw [hh] at h3
                    have h4 : (fdd 2).toInt = z13.toInt := h3
                    rw [fd2] at h4; omega
              have hs2 : z10.toInt = 2 → (zz22.toInt = 3 ∧ z13.toInt = i4.toInt) ∨ (zz22.toInt = -1 ∧ z13.toInt ≠ i4.toInt) := by
                intro hk
                rcases hin 2 hk (by omega) with ⟨h1, h2⟩ | ⟨h1, h2, h3⟩
                · simp only [Nat.reduceAdd] at h2
                  have y3 := h2 3 (by omega) (by omega)
                  rw [fd3] at y3
                  omega
                · simp only [Nat.reduceAdd] at h2
                  have hh : zz22.toInt = 3 := by omega
                  rcases hh with hh
                  · rw [hh] at h3
                    have h4 : (fdd 3).toInt = z13.toInt := h3
                    rw [fd3] at h4; omega
              have hs3 : z10.toInt = 3 → (zz22.toInt = 4 ∧ z13.toInt = ga.toInt) ∨ (zz22.toInt = 5 ∧ z13.toInt = gb.toInt) ∨ (zz22.toInt = -1 ∧ z13.toInt ≠ ga.toInt ∧ z13.toInt ≠ gb.toInt) := by
                intro hk
                rcases hin 3 hk (by omega) with ⟨h1, h2⟩ | ⟨h1, h2, h3⟩
                · simp only [Nat.reduceAdd] at h2
                  have y4 := h2 4 (by omega) (by omega)
                  rw [fd4] at y4
                  have y5 := h2 5 (by omega) (by omega)
                  rw [fd5] at y5
                  omega
                · simp only [Nat.reduceAdd] at h2
                  have hh : zz22.toInt = 4 ∨ zz22.toInt = 5 := by omega
                  rcases hh with hh | hh
                  · rw [hh] at h3
                    have h4 : (fdd 4).toInt = z13.toInt := h3
                    rw [fd4] at h4; omega
                  · rw [hh] at h3
                    have h4 : (fdd 5).toInt = z13.toInt := h3
                    rw [fd5] at h4; omega
              have hso : z10.toInt ≠ 1 → z10.toInt ≠ 2 → z10.toInt ≠ 3 → zz22.toInt = -1 := by
                intro h1 h2 h3
                by_cases hr : 0 ≤ z10.toInt ∧ z10.toInt < (5 : Int32).toInt
                · rw [own_l5] at hr
                  have hh : z10.toInt = 0 ∨ z10.toInt = 4 := by omega
                  rcases hh with hh | hh
                  · rcases hin 0 hh (by omega) with ⟨h4, -⟩ | ⟨h4, h5, -⟩
                    · exact h4
                    · simp only [Nat.reduceAdd] at h5; omega
                  · rcases hin 4 hh (by omega) with ⟨h4, -⟩ | ⟨h4, h5, -⟩
                    · exact h4
                    · simp only [Nat.reduceAdd] at h5; omega
                · exact zo22 hr
              have hq : zz22 = (2 : Int32) := by (try simp only [own_ln1, own_l0, own_l1, own_l2, own_l3, own_l4, own_l5, own_l6, own_l7, own_l8, own_l9, own_l12, own_l32, own_L0, own_L1, own_L2, own_L3, own_L7, Int32.lt_iff_toInt_lt, ← Int32.toInt_inj, Int64.lt_iff_toInt_lt, ← Int64.toInt_inj, and_true, true_and, and_false, false_and, or_true, true_or, or_false, false_or, not_true_eq_false, not_false_eq_true, ne_eq, true_implies, false_implies, implies_true] at hz11 hz14 c16 c17 c19 c21 ⊢) <;> omega
              refine own_go (T' := T22) (g' := (mkF m 416 #[.val (.long j0), .second, .val (.long j1), .second, .val (.int i2), .val (.int i3), .val (.int i4), .val (.int i5), .val (.int ea), .val (.int eb), .val (.int ec), .val (.int i4), .val (.int ga), .val (.int gb), .val (.ref b1), .val (.long z10), .second, .val (.int (((i5.toUInt32 >>> ((9 : Int32) &&& 31).toUInt32).toInt32) &&& (7 : Int32))), .val (.long (((((i5.toUInt32 >>> ((12 : Int32) &&& 31).toUInt32).toInt32) &&& (3 : Int32)) - (1 : Int32)).toInt64)), .second, .val (.long z13), .second, .val (.int (2 : Int32))] [])) (fun _ k => XS.icmpNo X22.here hx rfl (hb hby at_413) rfl (teq hq).2 k) ?_
              refine own_go (T' := T22) (g' := (mkF m 417 #[.val (.long j0), .second, .val (.long j1), .second, .val (.int i2), .val (.int i3), .val (.int i4), .val (.int i5), .val (.int ea), .val (.int eb), .val (.int ec), .val (.int i4), .val (.int ga), .val (.int gb), .val (.ref b1), .val (.long z10), .second, .val (.int (((i5.toUInt32 >>> ((9 : Int32) &&& 31).toUInt32).toInt32) &&& (7 : Int32))), .val (.long (((((i5.toUInt32 >>> ((12 : Int32) &&& 31).toUInt32).toInt32) &&& (3 : Int32)) - (1 : Int32)).toInt64)), .second, .val (.long z13), .second, .val (.int (2 : Int32))] [(.int (1 : Int32))])) (fun _ k => XS.iconst X22.here hx rfl (hb hby at_416) k) ?_
              refine own_go (T' := T22) (g' := (mkF m 421 #[.val (.long j0), .second, .val (.long j1), .second, .val (.int i2), .val (.int i3), .val (.int i4), .val (.int i5), .val (.int ea), .val (.int eb), .val (.int ec), .val (.int i4), .val (.int ga), .val (.int gb), .val (.ref b1), .val (.long z10), .second, .val (.int (((i5.toUInt32 >>> ((9 : Int32) &&& 31).toUInt32).toInt32) &&& (7 : Int32))), .val (.long (((((i5.toUInt32 >>> ((12 : Int32) &&& 31).toUInt32).toInt32) &&& (3 : Int32)) - (1 : Int32)).toInt64)), .second, .val (.long z13), .second, .val (.int (2 : Int32))] [(.int (1 : Int32))])) (fun _ k => XS.goto X22.here hx rfl (pc0 := 417) (pc' := 421) rfl (hb hby at_417) (by decide) (by decide) k) ?_
              refine own_ret X22 Bd.notSynchronized (some (.int (1 : Int32))) (fun h => by rw [Bd.returns] at h; cases h) (fun fs hr => retN X22 hx (t := .boolean) Bd.returns (by simp) (hb hby at_421) hr) ?_ (by decide) (by decide)
              show (own_Q0 Z j0 j1 i2 i3 i4 i5 h0 n0) (some (.int (1 : Int32))) T22.heap _
              rw [eq22]
              exact ⟨rfl, NF⟩
            · refine own_go (T' := T9) (g' := (mkF m 402 #[.val (.long j0), .second, .val (.long j1), .second, .val (.int i2), .val (.int i3), .val (.int i4), .val (.int i5), .val (.int ea), .val (.int eb), .val (.int ec), .val (.int i4), .val (.int ga), .val (.int gb), .val (.ref b1), .val (.long z10), .second, .val (.int (((i5.toUInt32 >>> ((9 : Int32) &&& 31).toUInt32).toInt32) &&& (7 : Int32))), .val (.long (((((i5.toUInt32 >>> ((12 : Int32) &&& 31).toUInt32).toInt32) &&& (3 : Int32)) - (1 : Int32)).toInt64)), .second, .val (.long z13), .second, .val (.int (-1 : Int32))] [])) (fun _ k => XS.ifYes X9.here hx rfl (pc0 := 333) (pc' := 402) rfl (hb hby at_333) rfl ((if0 _ _).trans (feq (fun h => c21 ((lw_eq z13 (ec.toInt64)).mp h))).2) (by decide) (by decide) k) ?_
              refine own_go (T' := T9) (g' := (mkF m 404 #[.val (.long j0), .second, .val (.long j1), .second, .val (.int i2), .val (.int i3), .val (.int i4), .val (.int i5), .val (.int ea), .val (.int eb), .val (.int ec), .val (.int i4), .val (.int ga), .val (.int gb), .val (.ref b1), .val (.long z10), .second, .val (.int (((i5.toUInt32 >>> ((9 : Int32) &&& 31).toUInt32).toInt32) &&& (7 : Int32))), .val (.long (((((i5.toUInt32 >>> ((12 : Int32) &&& 31).toUInt32).toInt32) &&& (3 : Int32)) - (1 : Int32)).toInt64)), .second, .val (.long z13), .second, .val (.int (-1 : Int32))] [(.ref b1)])) (fun _ k => XS.aload X9.here hx rfl (hb hby at_402) rfl rfl k) ?_
              refine own_go (T' := T9) (g' := (mkF m 406 #[.val (.long j0), .second, .val (.long j1), .second, .val (.int i2), .val (.int i3), .val (.int i4), .val (.int i5), .val (.int ea), .val (.int eb), .val (.int ec), .val (.int i4), .val (.int ga), .val (.int gb), .val (.ref b1), .val (.long z10), .second, .val (.int (((i5.toUInt32 >>> ((9 : Int32) &&& 31).toUInt32).toInt32) &&& (7 : Int32))), .val (.long (((((i5.toUInt32 >>> ((12 : Int32) &&& 31).toUInt32).toInt32) &&& (3 : Int32)) - (1 : Int32)).toInt64)), .second, .val (.long z13), .second, .val (.int (-1 : Int32))] [(.long z10), (.ref b1)])) (fun _ k => XS.lload X9.here hx rfl (hb hby at_404) rfl k) ?_
              refine own_go (T' := T9) (g' := (mkF m 408 #[.val (.long j0), .second, .val (.long j1), .second, .val (.int i2), .val (.int i3), .val (.int i4), .val (.int i5), .val (.int ea), .val (.int eb), .val (.int ec), .val (.int i4), .val (.int ga), .val (.int gb), .val (.ref b1), .val (.long z10), .second, .val (.int (((i5.toUInt32 >>> ((9 : Int32) &&& 31).toUInt32).toInt32) &&& (7 : Int32))), .val (.long (((((i5.toUInt32 >>> ((12 : Int32) &&& 31).toUInt32).toInt32) &&& (3 : Int32)) - (1 : Int32)).toInt64)), .second, .val (.long z13), .second, .val (.int (-1 : Int32))] [(.long z13), (.long z10), (.ref b1)])) (fun _ k => XS.lload X9.here hx rfl (hb hby at_406) rfl k) ?_
              obtain ⟨cq23, kq23, q23a, q23b, q23c⟩ := isOf hZ rfl E_b1
              obtain ⟨_, _, ⟨T23, L23, k23, n23⟩, -, X23, ⟨Lc23, hQ23, l23, y23, z23⟩, st23⟩ := X9.virtualBack hx (y := (⟨"com/example/nimble_twig/nimbletwig/index/store/StoredStreams", "place", "(JJ)I"⟩ : MethodName)) (z := (⟨"com/example/nimble_twig/nimbletwig/index/store/StoredStreams", "place", "(JJ)I"⟩ : MethodName)) hown (mvT hZ (hw _ (List.mem_of_getElem? (i := 49) rfl))) (mvT hZ (hw _ (List.mem_of_getElem? (i := 50) rfl))) (notFace_of_selects (args := #[]) (mvT hZ (hw _ (List.mem_of_getElem? (i := 52) rfl)))) (mvT hZ (hw _ (List.mem_of_getElem? (i := 52) rfl))) (mvT hZ (hw _ (List.mem_of_getElem? (i := 51) rfl))) (by decide) (backOf (W := 0) (own_rm5 l Z a0 hw [] b1 z10 z13 s2 t2 dA (5 : Int32) (6 : Int32) fS fT fdd T9.heap n0 Zs F_b1_firstStreams F_b1_firstDepths F_b1_depths I_s2 I_t2 I_dA hps hpm hpo) hZ (hw _ (List.mem_of_getElem? (i := 53) rfl)) (hw _ (List.mem_of_getElem? (i := 2) rfl)) (by decide) (by decide)) q23a q23c (g := (mkF m 408 #[.val (.long j0), .second, .val (.long j1), .second, .val (.int i2), .val (.int i3), .val (.int i4), .val (.int i5), .val (.int ea), .val (.int eb), .val (.int ec), .val (.int i4), .val (.int ga), .val (.int gb), .val (.ref b1), .val (.long z10), .second, .val (.int (((i5.toUInt32 >>> ((9 : Int32) &&& 31).toUInt32).toInt32) &&& (7 : Int32))), .val (.long (((((i5.toUInt32 >>> ((12 : Int32) &&& 31).toUInt32).toInt32) &&& (3 : Int32)) - (1 : Int32)).toInt64)), .second, .val (.long z13), .second, .val (.int (-1 : Int32))] [(.long z13), (.long z10), (.ref b1)])) rfl (by rw [hml]; rfl) (Steps.refl _) (argsL := [(.long z10), (.long z13)]) (rest := []) (lenOf own_pd0_2 rfl) rfl (by show 2 * 0 + _ ≤ _; exact Nat.le_of_eq rfl) (hb hby at_408) (fun _ _ => ⟨rfl, rfl, (by decide : 12 + 0 ≤ _), (by decide : 66 + 0 ≤ _)⟩)
              dsimp only [Pt.U, Pt.locs, Pt.cells, Pt.slots] at X23 l23 y23 z23 st23 hQ23
              subst l23 y23 z23
              obtain ⟨⟨zz23, rfl, zo23, zi23⟩, NQ23, eq23⟩ := hQ23
              have NF := Fr.app NF NQ23
              refine own_go (T' := T23) (g' := (mkF m 411 #[.val (.long j0), .second, .val (.long j1), .second, .val (.int i2), .val (.int i3), .val (.int i4), .val (.int i5), .val (.int ea), .val (.int eb), .val (.int ec), .val (.int i4), .val (.int ga), .val (.int gb), .val (.ref b1), .val (.long z10), .second, .val (.int (((i5.toUInt32 >>> ((9 : Int32) &&& 31).toUInt32).toInt32) &&& (7 : Int32))), .val (.long (((((i5.toUInt32 >>> ((12 : Int32) &&& 31).toUInt32).toInt32) &&& (3 : Int32)) - (1 : Int32)).toInt64)), .second, .val (.long z13), .second, .val (.int (-1 : Int32))] [(.int zz23)])) (fun _ k => st23.trans k) ?_
              refine own_go (T' := T23) (g' := (mkF m 413 #[.val (.long j0), .second, .val (.long j1), .second, .val (.int i2), .val (.int i3), .val (.int i4), .val (.int i5), .val (.int ea), .val (.int eb), .val (.int ec), .val (.int i4), .val (.int ga), .val (.int gb), .val (.ref b1), .val (.long z10), .second, .val (.int (((i5.toUInt32 >>> ((9 : Int32) &&& 31).toUInt32).toInt32) &&& (7 : Int32))), .val (.long (((((i5.toUInt32 >>> ((12 : Int32) &&& 31).toUInt32).toInt32) &&& (3 : Int32)) - (1 : Int32)).toInt64)), .second, .val (.long z13), .second, .val (.int (-1 : Int32))] [(.int (-1 : Int32)), (.int zz23)])) (fun _ k => XS.iload X23.here hx rfl (hb hby at_411) rfl k) ?_
              have l_ea := c_i2l ea
              have l_eb := c_i2l eb
              have l_ec := c_i2l ec
              have l_i4 := c_i2l i4
              have l_ga := c_i2l ga
              have l_gb := c_i2l gb
              have hin : ∀ k : Nat, z10.toInt = k → k < 5 → (zz23.toInt = -1 ∧ ∀ x : Nat, (fS k).toInt ≤ x → (x : Int) < (fS (k + 1)).toInt → (fdd x).toInt ≠ z13.toInt) ∨ ((fS k).toInt ≤ zz23.toInt ∧ zz23.toInt < (fS (k + 1)).toInt ∧ (fdd zz23.toInt.toNat).toInt = z13.toInt) := by
                intro k hk h5
                have eq9 : z10.toInt.toNat = k := by omega
                have := zi23 ⟨by omega, by rw [own_l5]; omega⟩
                rw [eq9] at this; exact this
              have hs1 : z10.toInt = 1 → (zz23.toInt = 0 ∧ z13.toInt = ea.toInt) ∨ (zz23.toInt = 1 ∧ z13.toInt = eb.toInt) ∨ (zz23.toInt = 2 ∧ z13.toInt = ec.toInt) ∨ (zz23.toInt = -1 ∧ z13.toInt ≠ ea.toInt ∧ z13.toInt ≠ eb.toInt ∧ z13.toInt ≠ ec.toInt) := by
                intro hk
                rcases hin 1 hk (by omega) with ⟨h1, h2⟩ | ⟨h1, h2, h3⟩
                · simp only [Nat.reduceAdd] at h2
                  have y0 := h2 0 (by omega) (by omega)
                  rw [fd0] at y0
                  have y1 := h2 1 (by omega) (by omega)
                  rw [fd1] at y1
                  have y2 := h2 2 (by omega) (by omega)
                  rw [fd2] at y2
                  omega
                · simp only [Nat.reduceAdd] at h2
                  have hh : zz23.toInt = 0 ∨ zz23.toInt = 1 ∨ zz23.toInt = 2 := by omega
                  rcases hh with hh | hh | hh
                  · rw [hh] at h3
                    have h4 : (fdd 0).toInt = z13.toInt := h3
                    rw [fd0] at h4; omega
                  · rw [hh] at h3
                    have h4 : (fdd 1).toInt = z13.toInt := h3
                    rw [fd1] at h4; omega
                  · rw [hh] at h3
                    have h4 : (fdd 2).toInt = z13.toInt := h3
                    rw [fd2] at h4; omega
              have hs2 : z10.toInt = 2 → (zz23.toInt = 3 ∧ z13.toInt = i4.toInt) ∨ (zz23.toInt = -1 ∧ z13.toInt ≠ i4.toInt) := by
                intro hk
                rcases hin 2 hk (by omega) with ⟨h1, h2⟩ | ⟨h1, h2, h3⟩
                · simp only [Nat.reduceAdd] at h2
                  have y3 := h2 3 (by omega) (by omega)
                  rw [fd3] at y3
                  omega
                · simp only [Nat.reduceAdd] at h2
                  have hh : zz23.toInt = 3 := by omega
                  rcases hh with hh
                  · rw [hh] at h3
                    have h4 : (fdd 3).toInt = z13.toInt := h3
                    rw [fd3] at h4; omega
              have hs3 : z10.toInt = 3 → (zz23.toInt = 4 ∧ z13.toInt = ga.toInt) ∨ (zz23.toInt = 5 ∧ z13.toInt = gb.toInt) ∨ (zz23.toInt = -1 ∧ z13.toInt ≠ ga.toInt ∧ z13.toInt ≠ gb.toInt) := by
                intro hk
                rcases hin 3 hk (by omega) with ⟨h1, h2⟩ | ⟨h1, h2, h3⟩
                · simp only [Nat.reduceAdd] at h2
                  have y4 := h2 4 (by omega) (by omega)
                  rw [fd4] at y4
                  have y5 := h2 5 (by omega) (by omega)
                  rw [fd5] at y5
                  omega
                · simp only [Nat.reduceAdd] at h2
                  have hh : zz23.toInt = 4 ∨ zz23.toInt = 5 := by omega
                  rcases hh with hh | hh
                  · rw [hh] at h3
                    have h4 : (fdd 4).toInt = z13.toInt := h3
                    rw [fd4] at h4; omega
                  · rw [hh] at h3
                    have h4 : (fdd 5).toInt = z13.toInt := h3
                    rw [fd5] at h4; omega
              have hso : z10.toInt ≠ 1 → z10.toInt ≠ 2 → z10.toInt ≠ 3 → zz23.toInt = -1 := by
                intro h1 h2 h3
                by_cases hr : 0 ≤ z10.toInt ∧ z10.toInt < (5 : Int32).toInt
                · rw [own_l5] at hr
                  have hh : z10.toInt = 0 ∨ z10.toInt = 4 := by omega
                  rcases hh with hh | hh
                  · rcases hin 0 hh (by omega) with ⟨h4, -⟩ | ⟨h4, h5, -⟩
                    · exact h4
                    · simp only [Nat.reduceAdd] at h5; omega
                  · rcases hin 4 hh (by omega) with ⟨h4, -⟩ | ⟨h4, h5, -⟩
                    · exact h4
                    · simp only [Nat.reduceAdd] at h5; omega
                · exact zo23 hr
              have hq : zz23 = (-1 : Int32) := by (try simp only [own_ln1, own_l0, own_l1, own_l2, own_l3, own_l4, own_l5, own_l6, own_l7, own_l8, own_l9, own_l12, own_l32, own_L0, own_L1, own_L2, own_L3, own_L7, Int32.lt_iff_toInt_lt, ← Int32.toInt_inj, Int64.lt_iff_toInt_lt, ← Int64.toInt_inj, and_true, true_and, and_false, false_and, or_true, true_or, or_false, false_or, not_true_eq_false, not_false_eq_true, ne_eq, true_implies, false_implies, implies_true] at hz11 hz14 c16 c17 c19 c21 ⊢) <;> omega
              refine own_go (T' := T23) (g' := (mkF m 416 #[.val (.long j0), .second, .val (.long j1), .second, .val (.int i2), .val (.int i3), .val (.int i4), .val (.int i5), .val (.int ea), .val (.int eb), .val (.int ec), .val (.int i4), .val (.int ga), .val (.int gb), .val (.ref b1), .val (.long z10), .second, .val (.int (((i5.toUInt32 >>> ((9 : Int32) &&& 31).toUInt32).toInt32) &&& (7 : Int32))), .val (.long (((((i5.toUInt32 >>> ((12 : Int32) &&& 31).toUInt32).toInt32) &&& (3 : Int32)) - (1 : Int32)).toInt64)), .second, .val (.long z13), .second, .val (.int (-1 : Int32))] [])) (fun _ k => XS.icmpNo X23.here hx rfl (hb hby at_413) rfl (teq hq).2 k) ?_
              refine own_go (T' := T23) (g' := (mkF m 417 #[.val (.long j0), .second, .val (.long j1), .second, .val (.int i2), .val (.int i3), .val (.int i4), .val (.int i5), .val (.int ea), .val (.int eb), .val (.int ec), .val (.int i4), .val (.int ga), .val (.int gb), .val (.ref b1), .val (.long z10), .second, .val (.int (((i5.toUInt32 >>> ((9 : Int32) &&& 31).toUInt32).toInt32) &&& (7 : Int32))), .val (.long (((((i5.toUInt32 >>> ((12 : Int32) &&& 31).toUInt32).toInt32) &&& (3 : Int32)) - (1 : Int32)).toInt64)), .second, .val (.long z13), .second, .val (.int (-1 : Int32))] [(.int (1 : Int32))])) (fun _ k => XS.iconst X23.here hx rfl (hb hby at_416) k) ?_
              refine own_go (T' := T23) (g' := (mkF m 421 #[.val (.long j0), .second, .val (.long j1), .second, .val (.int i2), .val (.int i3), .val (.int i4), .val (.int i5), .val (.int ea), .val (.int eb), .val (.int ec), .val (.int i4), .val (.int ga), .val (.int gb), .val (.ref b1), .val (.long z10), .second, .val (.int (((i5.toUInt32 >>> ((9 : Int32) &&& 31).toUInt32).toInt32) &&& (7 : Int32))), .val (.long (((((i5.toUInt32 >>> ((12 : Int32) &&& 31).toUInt32).toInt32) &&& (3 : Int32)) - (1 : Int32)).toInt64)), .second, .val (.long z13), .second, .val (.int (-1 : Int32))] [(.int (1 : Int32))])) (fun _ k => XS.goto X23.here hx rfl (pc0 := 417) (pc' := 421) rfl (hb hby at_417) (by decide) (by decide) k) ?_
              refine own_ret X23 Bd.notSynchronized (some (.int (1 : Int32))) (fun h => by rw [Bd.returns] at h; cases h) (fun fs hr => retN X23 hx (t := .boolean) Bd.returns (by simp) (hb hby at_421) hr) ?_ (by decide) (by decide)
              show (own_Q0 Z j0 j1 i2 i3 i4 i5 h0 n0) (some (.int (1 : Int32))) T23.heap _
              rw [eq23]
              exact ⟨rfl, NF⟩
      · refine own_go (T' := T9) (g' := (mkF m 342 #[.val (.long j0), .second, .val (.long j1), .second, .val (.int i2), .val (.int i3), .val (.int i4), .val (.int i5), .val (.int ea), .val (.int eb), .val (.int ec), .val (.int i4), .val (.int ga), .val (.int gb), .val (.ref b1), .val (.long z10), .second, .val (.int (((i5.toUInt32 >>> ((9 : Int32) &&& 31).toUInt32).toInt32) &&& (7 : Int32))), .val (.long (((((i5.toUInt32 >>> ((12 : Int32) &&& 31).toUInt32).toInt32) &&& (3 : Int32)) - (1 : Int32)).toInt64)), .second, .val (.long z13), .second, .val (.int (-1 : Int32))] [])) (fun _ k => XS.ifYes X9.here hx rfl (pc0 := 294) (pc' := 342) rfl (hb hby at_294) rfl ((if0 _ _).trans (feq (fun h => c16 ((lw_eq z10 (1 : Int64)).mp h))).2) (by decide) (by decide) k) ?_
        refine own_go (T' := T9) (g' := (mkF m 344 #[.val (.long j0), .second, .val (.long j1), .second, .val (.int i2), .val (.int i3), .val (.int i4), .val (.int i5), .val (.int ea), .val (.int eb), .val (.int ec), .val (.int i4), .val (.int ga), .val (.int gb), .val (.ref b1), .val (.long z10), .second, .val (.int (((i5.toUInt32 >>> ((9 : Int32) &&& 31).toUInt32).toInt32) &&& (7 : Int32))), .val (.long (((((i5.toUInt32 >>> ((12 : Int32) &&& 31).toUInt32).toInt32) &&& (3 : Int32)) - (1 : Int32)).toInt64)), .second, .val (.long z13), .second, .val (.int (-1 : Int32))] [(.long z10)])) (fun _ k => XS.lload X9.here hx rfl (hb hby at_342) rfl k) ?_
        refine own_go (T' := T9) (g' := (mkF m 347 #[.val (.long j0), .second, .val (.long j1), .second, .val (.int i2), .val (.int i3), .val (.int i4), .val (.int i5), .val (.int ea), .val (.int eb), .val (.int ec), .val (.int i4), .val (.int ga), .val (.int gb), .val (.ref b1), .val (.long z10), .second, .val (.int (((i5.toUInt32 >>> ((9 : Int32) &&& 31).toUInt32).toInt32) &&& (7 : Int32))), .val (.long (((((i5.toUInt32 >>> ((12 : Int32) &&& 31).toUInt32).toInt32) &&& (3 : Int32)) - (1 : Int32)).toInt64)), .second, .val (.long z13), .second, .val (.int (-1 : Int32))] [(.long (2 : Int64)), (.long z10)])) (fun _ k => X9.ldc2Long hx hown (mvT hZ (hw _ (List.mem_of_getElem? (i := 48) rfl))) (g := (mkF m 344 #[.val (.long j0), .second, .val (.long j1), .second, .val (.int i2), .val (.int i3), .val (.int i4), .val (.int i5), .val (.int ea), .val (.int eb), .val (.int ec), .val (.int i4), .val (.int ga), .val (.int gb), .val (.ref b1), .val (.long z10), .second, .val (.int (((i5.toUInt32 >>> ((9 : Int32) &&& 31).toUInt32).toInt32) &&& (7 : Int32))), .val (.long (((((i5.toUInt32 >>> ((12 : Int32) &&& 31).toUInt32).toInt32) &&& (3 : Int32)) - (1 : Int32)).toInt64)), .second, .val (.long z13), .second, .val (.int (-1 : Int32))] [(.long z10)])) rfl (hb hby at_344) _ k) ?_
        refine own_go (T' := T9) (g' := (mkF m 348 #[.val (.long j0), .second, .val (.long j1), .second, .val (.int i2), .val (.int i3), .val (.int i4), .val (.int i5), .val (.int ea), .val (.int eb), .val (.int ec), .val (.int i4), .val (.int ga), .val (.int gb), .val (.ref b1), .val (.long z10), .second, .val (.int (((i5.toUInt32 >>> ((9 : Int32) &&& 31).toUInt32).toInt32) &&& (7 : Int32))), .val (.long (((((i5.toUInt32 >>> ((12 : Int32) &&& 31).toUInt32).toInt32) &&& (3 : Int32)) - (1 : Int32)).toInt64)), .second, .val (.long z13), .second, .val (.int (-1 : Int32))] [(.int (lcmpW z10 (2 : Int64)))])) (fun _ k => XS.lcmp X9.here hx rfl (hb hby at_347) rfl k) ?_
        by_cases c24 : z10 = (2 : Int64)
        · refine own_go (T' := T9) (g' := (mkF m 351 #[.val (.long j0), .second, .val (.long j1), .second, .val (.int i2), .val (.int i3), .val (.int i4), .val (.int i5), .val (.int ea), .val (.int eb), .val (.int ec), .val (.int i4), .val (.int ga), .val (.int gb), .val (.ref b1), .val (.long z10), .second, .val (.int (((i5.toUInt32 >>> ((9 : Int32) &&& 31).toUInt32).toInt32) &&& (7 : Int32))), .val (.long (((((i5.toUInt32 >>> ((12 : Int32) &&& 31).toUInt32).toInt32) &&& (3 : Int32)) - (1 : Int32)).toInt64)), .second, .val (.long z13), .second, .val (.int (-1 : Int32))] [])) (fun _ k => XS.ifNo X9.here hx rfl (hb hby at_348) rfl ((if0 _ _).trans (teq ((lw_eq z10 (2 : Int64)).mpr c24)).2) k) ?_
          refine own_go (T' := T9) (g' := (mkF m 353 #[.val (.long j0), .second, .val (.long j1), .second, .val (.int i2), .val (.int i3), .val (.int i4), .val (.int i5), .val (.int ea), .val (.int eb), .val (.int ec), .val (.int i4), .val (.int ga), .val (.int gb), .val (.ref b1), .val (.long z10), .second, .val (.int (((i5.toUInt32 >>> ((9 : Int32) &&& 31).toUInt32).toInt32) &&& (7 : Int32))), .val (.long (((((i5.toUInt32 >>> ((12 : Int32) &&& 31).toUInt32).toInt32) &&& (3 : Int32)) - (1 : Int32)).toInt64)), .second, .val (.long z13), .second, .val (.int (-1 : Int32))] [(.long z13)])) (fun _ k => XS.lload X9.here hx rfl (hb hby at_351) rfl k) ?_
          refine own_go (T' := T9) (g' := (mkF m 355 #[.val (.long j0), .second, .val (.long j1), .second, .val (.int i2), .val (.int i3), .val (.int i4), .val (.int i5), .val (.int ea), .val (.int eb), .val (.int ec), .val (.int i4), .val (.int ga), .val (.int gb), .val (.ref b1), .val (.long z10), .second, .val (.int (((i5.toUInt32 >>> ((9 : Int32) &&& 31).toUInt32).toInt32) &&& (7 : Int32))), .val (.long (((((i5.toUInt32 >>> ((12 : Int32) &&& 31).toUInt32).toInt32) &&& (3 : Int32)) - (1 : Int32)).toInt64)), .second, .val (.long z13), .second, .val (.int (-1 : Int32))] [(.int i4), (.long z13)])) (fun _ k => XS.iload X9.here hx rfl (hb hby at_353) rfl k) ?_
          refine own_go (T' := T9) (g' := (mkF m 356 #[.val (.long j0), .second, .val (.long j1), .second, .val (.int i2), .val (.int i3), .val (.int i4), .val (.int i5), .val (.int ea), .val (.int eb), .val (.int ec), .val (.int i4), .val (.int ga), .val (.int gb), .val (.ref b1), .val (.long z10), .second, .val (.int (((i5.toUInt32 >>> ((9 : Int32) &&& 31).toUInt32).toInt32) &&& (7 : Int32))), .val (.long (((((i5.toUInt32 >>> ((12 : Int32) &&& 31).toUInt32).toInt32) &&& (3 : Int32)) - (1 : Int32)).toInt64)), .second, .val (.long z13), .second, .val (.int (-1 : Int32))] [(.long (i4.toInt64)), (.long z13)])) (fun _ k => XS.i2l X9.here hx rfl (hb hby at_355) rfl k) ?_
          refine own_go (T' := T9) (g' := (mkF m 357 #[.val (.long j0), .second, .val (.long j1), .second, .val (.int i2), .val (.int i3), .val (.int i4), .val (.int i5), .val (.int ea), .val (.int eb), .val (.int ec), .val (.int i4), .val (.int ga), .val (.int gb), .val (.ref b1), .val (.long z10), .second, .val (.int (((i5.toUInt32 >>> ((9 : Int32) &&& 31).toUInt32).toInt32) &&& (7 : Int32))), .val (.long (((((i5.toUInt32 >>> ((12 : Int32) &&& 31).toUInt32).toInt32) &&& (3 : Int32)) - (1 : Int32)).toInt64)), .second, .val (.long z13), .second, .val (.int (-1 : Int32))] [(.int (lcmpW z13 (i4.toInt64)))])) (fun _ k => XS.lcmp X9.here hx rfl (hb hby at_356) rfl k) ?_
          by_cases c25 : z13 = (i4.toInt64)
          · refine own_go (T' := T9) (g' := (mkF m 360 #[.val (.long j0), .second, .val (.long j1), .second, .val (.int i2), .val (.int i3), .val (.int i4), .val (.int i5), .val (.int ea), .val (.int eb), .val (.int ec), .val (.int i4), .val (.int ga), .val (.int gb), .val (.ref b1), .val (.long z10), .second, .val (.int (((i5.toUInt32 >>> ((9 : Int32) &&& 31).toUInt32).toInt32) &&& (7 : Int32))), .val (.long (((((i5.toUInt32 >>> ((12 : Int32) &&& 31).toUInt32).toInt32) &&& (3 : Int32)) - (1 : Int32)).toInt64)), .second, .val (.long z13), .second, .val (.int (-1 : Int32))] [])) (fun _ k => XS.ifNo X9.here hx rfl (hb hby at_357) rfl ((if0 _ _).trans (teq ((lw_eq z13 (i4.toInt64)).mpr c25)).2) k) ?_
            refine own_go (T' := T9) (g' := (mkF m 361 #[.val (.long j0), .second, .val (.long j1), .second, .val (.int i2), .val (.int i3), .val (.int i4), .val (.int i5), .val (.int ea), .val (.int eb), .val (.int ec), .val (.int i4), .val (.int ga), .val (.int gb), .val (.ref b1), .val (.long z10), .second, .val (.int (((i5.toUInt32 >>> ((9 : Int32) &&& 31).toUInt32).toInt32) &&& (7 : Int32))), .val (.long (((((i5.toUInt32 >>> ((12 : Int32) &&& 31).toUInt32).toInt32) &&& (3 : Int32)) - (1 : Int32)).toInt64)), .second, .val (.long z13), .second, .val (.int (-1 : Int32))] [(.int (3 : Int32))])) (fun _ k => XS.iconst X9.here hx rfl (hb hby at_360) k) ?_
            refine own_go (T' := T9) (g' := (mkF m 363 #[.val (.long j0), .second, .val (.long j1), .second, .val (.int i2), .val (.int i3), .val (.int i4), .val (.int i5), .val (.int ea), .val (.int eb), .val (.int ec), .val (.int i4), .val (.int ga), .val (.int gb), .val (.ref b1), .val (.long z10), .second, .val (.int (((i5.toUInt32 >>> ((9 : Int32) &&& 31).toUInt32).toInt32) &&& (7 : Int32))), .val (.long (((((i5.toUInt32 >>> ((12 : Int32) &&& 31).toUInt32).toInt32) &&& (3 : Int32)) - (1 : Int32)).toInt64)), .second, .val (.long z13), .second, .val (.int (3 : Int32))] [])) (fun _ k => XS.istore X9.here hx rfl (hb hby at_361) rfl (l' := #[.val (.long j0), .second, .val (.long j1), .second, .val (.int i2), .val (.int i3), .val (.int i4), .val (.int i5), .val (.int ea), .val (.int eb), .val (.int ec), .val (.int i4), .val (.int ga), .val (.int gb), .val (.ref b1), .val (.long z10), .second, .val (.int (((i5.toUInt32 >>> ((9 : Int32) &&& 31).toUInt32).toInt32) &&& (7 : Int32))), .val (.long (((((i5.toUInt32 >>> ((12 : Int32) &&& 31).toUInt32).toInt32) &&& (3 : Int32)) - (1 : Int32)).toInt64)), .second, .val (.long z13), .second, .val (.int (3 : Int32))]) rfl k) ?_
            refine own_go (T' := T9) (g' := (mkF m 402 #[.val (.long j0), .second, .val (.long j1), .second, .val (.int i2), .val (.int i3), .val (.int i4), .val (.int i5), .val (.int ea), .val (.int eb), .val (.int ec), .val (.int i4), .val (.int ga), .val (.int gb), .val (.ref b1), .val (.long z10), .second, .val (.int (((i5.toUInt32 >>> ((9 : Int32) &&& 31).toUInt32).toInt32) &&& (7 : Int32))), .val (.long (((((i5.toUInt32 >>> ((12 : Int32) &&& 31).toUInt32).toInt32) &&& (3 : Int32)) - (1 : Int32)).toInt64)), .second, .val (.long z13), .second, .val (.int (3 : Int32))] [])) (fun _ k => XS.goto X9.here hx rfl (pc0 := 363) (pc' := 402) rfl (hb hby at_363) (by decide) (by decide) k) ?_
            refine own_go (T' := T9) (g' := (mkF m 404 #[.val (.long j0), .second, .val (.long j1), .second, .val (.int i2), .val (.int i3), .val (.int i4), .val (.int i5), .val (.int ea), .val (.int eb), .val (.int ec), .val (.int i4), .val (.int ga), .val (.int gb), .val (.ref b1), .val (.long z10), .second, .val (.int (((i5.toUInt32 >>> ((9 : Int32) &&& 31).toUInt32).toInt32) &&& (7 : Int32))), .val (.long (((((i5.toUInt32 >>> ((12 : Int32) &&& 31).toUInt32).toInt32) &&& (3 : Int32)) - (1 : Int32)).toInt64)), .second, .val (.long z13), .second, .val (.int (3 : Int32))] [(.ref b1)])) (fun _ k => XS.aload X9.here hx rfl (hb hby at_402) rfl rfl k) ?_
            refine own_go (T' := T9) (g' := (mkF m 406 #[.val (.long j0), .second, .val (.long j1), .second, .val (.int i2), .val (.int i3), .val (.int i4), .val (.int i5), .val (.int ea), .val (.int eb), .val (.int ec), .val (.int i4), .val (.int ga), .val (.int gb), .val (.ref b1), .val (.long z10), .second, .val (.int (((i5.toUInt32 >>> ((9 : Int32) &&& 31).toUInt32).toInt32) &&& (7 : Int32))), .val (.long (((((i5.toUInt32 >>> ((12 : Int32) &&& 31).toUInt32).toInt32) &&& (3 : Int32)) - (1 : Int32)).toInt64)), .second, .val (.long z13), .second, .val (.int (3 : Int32))] [(.long z10), (.ref b1)])) (fun _ k => XS.lload X9.here hx rfl (hb hby at_404) rfl k) ?_
            refine own_go (T' := T9) (g' := (mkF m 408 #[.val (.long j0), .second, .val (.long j1), .second, .val (.int i2), .val (.int i3), .val (.int i4), .val (.int i5), .val (.int ea), .val (.int eb), .val (.int ec), .val (.int i4), .val (.int ga), .val (.int gb), .val (.ref b1), .val (.long z10), .second, .val (.int (((i5.toUInt32 >>> ((9 : Int32) &&& 31).toUInt32).toInt32) &&& (7 : Int32))), .val (.long (((((i5.toUInt32 >>> ((12 : Int32) &&& 31).toUInt32).toInt32) &&& (3 : Int32)) - (1 : Int32)).toInt64)), .second, .val (.long z13), .second, .val (.int (3 : Int32))] [(.long z13), (.long z10), (.ref b1)])) (fun _ k => XS.lload X9.here hx rfl (hb hby at_406) rfl k) ?_
            obtain ⟨cq26, kq26, q26a, q26b, q26c⟩ := isOf hZ rfl E_b1
            obtain ⟨_, _, ⟨T26, L26, k26, n26⟩, -, X26, ⟨Lc26, hQ26, l26, y26, z26⟩, st26⟩ := X9.virtualBack hx (y := (⟨"com/example/nimble_twig/nimbletwig/index/store/StoredStreams", "place", "(JJ)I"⟩ : MethodName)) (z := (⟨"com/example/nimble_twig/nimbletwig/index/store/StoredStreams", "place", "(JJ)I"⟩ : MethodName)) hown (mvT hZ (hw _ (List.mem_of_getElem? (i := 49) rfl))) (mvT hZ (hw _ (List.mem_of_getElem? (i := 50) rfl))) (notFace_of_selects (args := #[]) (mvT hZ (hw _ (List.mem_of_getElem? (i := 52) rfl)))) (mvT hZ (hw _ (List.mem_of_getElem? (i := 52) rfl))) (mvT hZ (hw _ (List.mem_of_getElem? (i := 51) rfl))) (by decide) (backOf (W := 0) (own_rm5 l Z a0 hw [] b1 z10 z13 s2 t2 dA (5 : Int32) (6 : Int32) fS fT fdd T9.heap n0 Zs F_b1_firstStreams F_b1_firstDepths F_b1_depths I_s2 I_t2 I_dA hps hpm hpo) hZ (hw _ (List.mem_of_getElem? (i := 53) rfl)) (hw _ (List.mem_of_getElem? (i := 2) rfl)) (by decide) (by decide)) q26a q26c (g := (mkF m 408 #[.val (.long j0), .second, .val (.long j1), .second, .val (.int i2), .val (.int i3), .val (.int i4), .val (.int i5), .val (.int ea), .val (.int eb), .val (.int ec), .val (.int i4), .val (.int ga), .val (.int gb), .val (.ref b1), .val (.long z10), .second, .val (.int (((i5.toUInt32 >>> ((9 : Int32) &&& 31).toUInt32).toInt32) &&& (7 : Int32))), .val (.long (((((i5.toUInt32 >>> ((12 : Int32) &&& 31).toUInt32).toInt32) &&& (3 : Int32)) - (1 : Int32)).toInt64)), .second, .val (.long z13), .second, .val (.int (3 : Int32))] [(.long z13), (.long z10), (.ref b1)])) rfl (by rw [hml]; rfl) (Steps.refl _) (argsL := [(.long z10), (.long z13)]) (rest := []) (lenOf own_pd0_2 rfl) rfl (by show 2 * 0 + _ ≤ _; exact Nat.le_of_eq rfl) (hb hby at_408) (fun _ _ => ⟨rfl, rfl, (by decide : 12 + 0 ≤ _), (by decide : 66 + 0 ≤ _)⟩)
            dsimp only [Pt.U, Pt.locs, Pt.cells, Pt.slots] at X26 l26 y26 z26 st26 hQ26
            subst l26 y26 z26
            obtain ⟨⟨zz26, rfl, zo26, zi26⟩, NQ26, eq26⟩ := hQ26
            have NF := Fr.app NF NQ26
            refine own_go (T' := T26) (g' := (mkF m 411 #[.val (.long j0), .second, .val (.long j1), .second, .val (.int i2), .val (.int i3), .val (.int i4), .val (.int i5), .val (.int ea), .val (.int eb), .val (.int ec), .val (.int i4), .val (.int ga), .val (.int gb), .val (.ref b1), .val (.long z10), .second, .val (.int (((i5.toUInt32 >>> ((9 : Int32) &&& 31).toUInt32).toInt32) &&& (7 : Int32))), .val (.long (((((i5.toUInt32 >>> ((12 : Int32) &&& 31).toUInt32).toInt32) &&& (3 : Int32)) - (1 : Int32)).toInt64)), .second, .val (.long z13), .second, .val (.int (3 : Int32))] [(.int zz26)])) (fun _ k => st26.trans k) ?_
            refine own_go (T' := T26) (g' := (mkF m 413 #[.val (.long j0), .second, .val (.long j1), .second, .val (.int i2), .val (.int i3), .val (.int i4), .val (.int i5), .val (.int ea), .val (.int eb), .val (.int ec), .val (.int i4), .val (.int ga), .val (.int gb), .val (.ref b1), .val (.long z10), .second, .val (.int (((i5.toUInt32 >>> ((9 : Int32) &&& 31).toUInt32).toInt32) &&& (7 : Int32))), .val (.long (((((i5.toUInt32 >>> ((12 : Int32) &&& 31).toUInt32).toInt32) &&& (3 : Int32)) - (1 : Int32)).toInt64)), .second, .val (.long z13), .second, .val (.int (3 : Int32))] [(.int (3 : Int32)), (.int zz26)])) (fun _ k => XS.iload X26.here hx rfl (hb hby at_411) rfl k) ?_
            have l_ea := c_i2l ea
            have l_eb := c_i2l eb
            have l_ec := c_i2l ec
            have l_i4 := c_i2l i4
            have l_ga := c_i2l ga
            have l_gb := c_i2l gb
            have hin : ∀ k : Nat, z10.toInt = k → k < 5 → (zz26.toInt = -1 ∧ ∀ x : Nat, (fS k).toInt ≤ x → (x : Int) < (fS (k + 1)).toInt → (fdd x).toInt ≠ z13.toInt) ∨ ((fS k).toInt ≤ zz26.toInt ∧ zz26.toInt < (fS (k + 1)).toInt ∧ (fdd zz26.toInt.toNat).toInt = z13.toInt) := by
              intro k hk h5
              have eq9 : z10.toInt.toNat = k := by omega
              have := zi26 ⟨by omega, by rw [own_l5]; omega⟩
              rw [eq9] at this; exact this
            have hs1 : z10.toInt = 1 → (zz26.toInt = 0 ∧ z13.toInt = ea.toInt) ∨ (zz26.toInt = 1 ∧ z13.toInt = eb.toInt) ∨ (zz26.toInt = 2 ∧ z13.toInt = ec.toInt) ∨ (zz26.toInt = -1 ∧ z13.toInt ≠ ea.toInt ∧ z13.toInt ≠ eb.toInt ∧ z13.toInt ≠ ec.toInt) := by
              intro hk
              rcases hin 1 hk (by omega) with ⟨h1, h2⟩ | ⟨h1, h2, h3⟩
              · simp only [Nat.reduceAdd] at h2
                have y0 := h2 0 (by omega) (by omega)
                rw [fd0] at y0
                have y1 := h2 1 (by omega) (by omega)
                rw [fd1] at y1
                have y2 := h2 2 (by omega) (by omega)
                rw [fd2] at y2
                omega
              · simp only [Nat.reduceAdd] at h2
                have hh : zz26.toInt = 0 ∨ zz26.toInt = 1 ∨ zz26.toInt = 2 := by omega
                rcases hh with hh | hh | hh
                · rw [hh] at h3
                  have h4 : (fdd 0).toInt = z13.toInt := h3
                  rw [fd0] at h4; omega
                · rw [hh] at h3
                  have h4 : (fdd 1).toInt = z13.toInt := h3
                  rw [fd1] at h4; omega
                · rw [hh] at h3
                  have h4 : (fdd 2).toInt = z13.toInt := h3
                  rw [fd2] at h4; omega
            have hs2 : z10.toInt = 2 → (zz26.toInt = 3 ∧ z13.toInt = i4.toInt) ∨ (zz26.toInt = -1 ∧ z13.toInt ≠ i4.toInt) := by
              intro hk
              rcases hin 2 hk (by omega) with ⟨h1, h2⟩ | ⟨h1, h2, h3⟩
              · simp only [Nat.reduceAdd] at h2
                have y3 := h2 3 (by omega) (by omega)
                rw [fd3] at y3
                omega
              · simp only [Nat.reduceAdd] at h2
                have hh : zz26.toInt = 3 := by omega
                rcases hh with hh
                · rw [hh] at h3
                  have h4 : (fdd 3).toInt = z13.toInt := h3
                  rw [fd3] at h4; omega
            have hs3 : z10.toInt = 3 → (zz26.toInt = 4 ∧ z13.toInt = ga.toInt) ∨ (zz26.toInt = 5 ∧ z13.toInt = gb.toInt) ∨ (zz26.toInt = -1 ∧ z13.toInt ≠ ga.toInt ∧ z13.toInt ≠ gb.toInt) := by
              intro hk
              rcases hin 3 hk (by omega) with ⟨h1, h2⟩ | ⟨h1, h2, h3⟩
              · simp only [Nat.reduceAdd] at h2
                have y4 := h2 4 (by omega) (by omega)
                rw [fd4] at y4
                have y5 := h2 5 (by omega) (by omega)
                rw [fd5] at y5
                omega
              · simp only [Nat.reduceAdd] at h2
                have hh : zz26.toInt = 4 ∨ zz26.toInt = 5 := by omega
                rcases hh with hh | hh
                · rw [hh] at h3
                  have h4 : (fdd 4).toInt = z13.toInt := h3
                  rw [fd4] at h4; omega
                · rw [hh] at h3
                  have h4 : (fdd 5).toInt = z13.toInt := h3
                  rw [fd5] at h4; omega
            have hso : z10.toInt ≠ 1 → z10.toInt ≠ 2 → z10.toInt ≠ 3 → zz26.toInt = -1 := by
              intro h1 h2 h3
              by_cases hr : 0 ≤ z10.toInt ∧ z10.toInt < (5 : Int32).toInt
              · rw [own_l5] at hr
                have hh : z10.toInt = 0 ∨ z10.toInt = 4 := by omega
                rcases hh with hh | hh
                · rcases hin 0 hh (by omega) with ⟨h4, -⟩ | ⟨h4, h5, -⟩
                  · exact h4
                  · simp only [Nat.reduceAdd] at h5; omega
                · rcases hin 4 hh (by omega) with ⟨h4, -⟩ | ⟨h4, h5, -⟩
                  · exact h4
                  · simp only [Nat.reduceAdd] at h5; omega
              · exact zo26 hr
            have hq : zz26 = (3 : Int32) := by (try simp only [own_ln1, own_l0, own_l1, own_l2, own_l3, own_l4, own_l5, own_l6, own_l7, own_l8, own_l9, own_l12, own_l32, own_L0, own_L1, own_L2, own_L3, own_L7, Int32.lt_iff_toInt_lt, ← Int32.toInt_inj, Int64.lt_iff_toInt_lt, ← Int64.toInt_inj, and_true, true_and, and_false, false_and, or_true, true_or, or_false, false_or, not_true_eq_false, not_false_eq_true, ne_eq, true_implies, false_implies, implies_true] at hz11 hz14 c16 c24 c25 ⊢) <;> omega
            refine own_go (T' := T26) (g' := (mkF m 416 #[.val (.long j0), .second, .val (.long j1), .second, .val (.int i2), .val (.int i3), .val (.int i4), .val (.int i5), .val (.int ea), .val (.int eb), .val (.int ec), .val (.int i4), .val (.int ga), .val (.int gb), .val (.ref b1), .val (.long z10), .second, .val (.int (((i5.toUInt32 >>> ((9 : Int32) &&& 31).toUInt32).toInt32) &&& (7 : Int32))), .val (.long (((((i5.toUInt32 >>> ((12 : Int32) &&& 31).toUInt32).toInt32) &&& (3 : Int32)) - (1 : Int32)).toInt64)), .second, .val (.long z13), .second, .val (.int (3 : Int32))] [])) (fun _ k => XS.icmpNo X26.here hx rfl (hb hby at_413) rfl (teq hq).2 k) ?_
            refine own_go (T' := T26) (g' := (mkF m 417 #[.val (.long j0), .second, .val (.long j1), .second, .val (.int i2), .val (.int i3), .val (.int i4), .val (.int i5), .val (.int ea), .val (.int eb), .val (.int ec), .val (.int i4), .val (.int ga), .val (.int gb), .val (.ref b1), .val (.long z10), .second, .val (.int (((i5.toUInt32 >>> ((9 : Int32) &&& 31).toUInt32).toInt32) &&& (7 : Int32))), .val (.long (((((i5.toUInt32 >>> ((12 : Int32) &&& 31).toUInt32).toInt32) &&& (3 : Int32)) - (1 : Int32)).toInt64)), .second, .val (.long z13), .second, .val (.int (3 : Int32))] [(.int (1 : Int32))])) (fun _ k => XS.iconst X26.here hx rfl (hb hby at_416) k) ?_
            refine own_go (T' := T26) (g' := (mkF m 421 #[.val (.long j0), .second, .val (.long j1), .second, .val (.int i2), .val (.int i3), .val (.int i4), .val (.int i5), .val (.int ea), .val (.int eb), .val (.int ec), .val (.int i4), .val (.int ga), .val (.int gb), .val (.ref b1), .val (.long z10), .second, .val (.int (((i5.toUInt32 >>> ((9 : Int32) &&& 31).toUInt32).toInt32) &&& (7 : Int32))), .val (.long (((((i5.toUInt32 >>> ((12 : Int32) &&& 31).toUInt32).toInt32) &&& (3 : Int32)) - (1 : Int32)).toInt64)), .second, .val (.long z13), .second, .val (.int (3 : Int32))] [(.int (1 : Int32))])) (fun _ k => XS.goto X26.here hx rfl (pc0 := 417) (pc' := 421) rfl (hb hby at_417) (by decide) (by decide) k) ?_
            refine own_ret X26 Bd.notSynchronized (some (.int (1 : Int32))) (fun h => by rw [Bd.returns] at h; cases h) (fun fs hr => retN X26 hx (t := .boolean) Bd.returns (by simp) (hb hby at_421) hr) ?_ (by decide) (by decide)
            show (own_Q0 Z j0 j1 i2 i3 i4 i5 h0 n0) (some (.int (1 : Int32))) T26.heap _
            rw [eq26]
            exact ⟨rfl, NF⟩
          · refine own_go (T' := T9) (g' := (mkF m 402 #[.val (.long j0), .second, .val (.long j1), .second, .val (.int i2), .val (.int i3), .val (.int i4), .val (.int i5), .val (.int ea), .val (.int eb), .val (.int ec), .val (.int i4), .val (.int ga), .val (.int gb), .val (.ref b1), .val (.long z10), .second, .val (.int (((i5.toUInt32 >>> ((9 : Int32) &&& 31).toUInt32).toInt32) &&& (7 : Int32))), .val (.long (((((i5.toUInt32 >>> ((12 : Int32) &&& 31).toUInt32).toInt32) &&& (3 : Int32)) - (1 : Int32)).toInt64)), .second, .val (.long z13), .second, .val (.int (-1 : Int32))] [])) (fun _ k => XS.ifYes X9.here hx rfl (pc0 := 357) (pc' := 402) rfl (hb hby at_357) rfl ((if0 _ _).trans (feq (fun h => c25 ((lw_eq z13 (i4.toInt64)).mp h))).2) (by decide) (by decide) k) ?_
            refine own_go (T' := T9) (g' := (mkF m 404 #[.val (.long j0), .second, .val (.long j1), .second, .val (.int i2), .val (.int i3), .val (.int i4), .val (.int i5), .val (.int ea), .val (.int eb), .val (.int ec), .val (.int i4), .val (.int ga), .val (.int gb), .val (.ref b1), .val (.long z10), .second, .val (.int (((i5.toUInt32 >>> ((9 : Int32) &&& 31).toUInt32).toInt32) &&& (7 : Int32))), .val (.long (((((i5.toUInt32 >>> ((12 : Int32) &&& 31).toUInt32).toInt32) &&& (3 : Int32)) - (1 : Int32)).toInt64)), .second, .val (.long z13), .second, .val (.int (-1 : Int32))] [(.ref b1)])) (fun _ k => XS.aload X9.here hx rfl (hb hby at_402) rfl rfl k) ?_
            refine own_go (T' := T9) (g' := (mkF m 406 #[.val (.long j0), .second, .val (.long j1), .second, .val (.int i2), .val (.int i3), .val (.int i4), .val (.int i5), .val (.int ea), .val (.int eb), .val (.int ec), .val (.int i4), .val (.int ga), .val (.int gb), .val (.ref b1), .val (.long z10), .second, .val (.int (((i5.toUInt32 >>> ((9 : Int32) &&& 31).toUInt32).toInt32) &&& (7 : Int32))), .val (.long (((((i5.toUInt32 >>> ((12 : Int32) &&& 31).toUInt32).toInt32) &&& (3 : Int32)) - (1 : Int32)).toInt64)), .second, .val (.long z13), .second, .val (.int (-1 : Int32))] [(.long z10), (.ref b1)])) (fun _ k => XS.lload X9.here hx rfl (hb hby at_404) rfl k) ?_
            refine own_go (T' := T9) (g' := (mkF m 408 #[.val (.long j0), .second, .val (.long j1), .second, .val (.int i2), .val (.int i3), .val (.int i4), .val (.int i5), .val (.int ea), .val (.int eb), .val (.int ec), .val (.int i4), .val (.int ga), .val (.int gb), .val (.ref b1), .val (.long z10), .second, .val (.int (((i5.toUInt32 >>> ((9 : Int32) &&& 31).toUInt32).toInt32) &&& (7 : Int32))), .val (.long (((((i5.toUInt32 >>> ((12 : Int32) &&& 31).toUInt32).toInt32) &&& (3 : Int32)) - (1 : Int32)).toInt64)), .second, .val (.long z13), .second, .val (.int (-1 : Int32))] [(.long z13), (.long z10), (.ref b1)])) (fun _ k => XS.lload X9.here hx rfl (hb hby at_406) rfl k) ?_
            obtain ⟨cq27, kq27, q27a, q27b, q27c⟩ := isOf hZ rfl E_b1
            obtain ⟨_, _, ⟨T27, L27, k27, n27⟩, -, X27, ⟨Lc27, hQ27, l27, y27, z27⟩, st27⟩ := X9.virtualBack hx (y := (⟨"com/example/nimble_twig/nimbletwig/index/store/StoredStreams", "place", "(JJ)I"⟩ : MethodName)) (z := (⟨"com/example/nimble_twig/nimbletwig/index/store/StoredStreams", "place", "(JJ)I"⟩ : MethodName)) hown (mvT hZ (hw _ (List.mem_of_getElem? (i := 49) rfl))) (mvT hZ (hw _ (List.mem_of_getElem? (i := 50) rfl))) (notFace_of_selects (args := #[]) (mvT hZ (hw _ (List.mem_of_getElem? (i := 52) rfl)))) (mvT hZ (hw _ (List.mem_of_getElem? (i := 52) rfl))) (mvT hZ (hw _ (List.mem_of_getElem? (i := 51) rfl))) (by decide) (backOf (W := 0) (own_rm5 l Z a0 hw [] b1 z10 z13 s2 t2 dA (5 : Int32) (6 : Int32) fS fT fdd T9.heap n0 Zs F_b1_firstStreams F_b1_firstDepths F_b1_depths I_s2 I_t2 I_dA hps hpm hpo) hZ (hw _ (List.mem_of_getElem? (i := 53) rfl)) (hw _ (List.mem_of_getElem? (i := 2) rfl)) (by decide) (by decide)) q27a q27c (g := (mkF m 408 #[.val (.long j0), .second, .val (.long j1), .second, .val (.int i2), .val (.int i3), .val (.int i4), .val (.int i5), .val (.int ea), .val (.int eb), .val (.int ec), .val (.int i4), .val (.int ga), .val (.int gb), .val (.ref b1), .val (.long z10), .second, .val (.int (((i5.toUInt32 >>> ((9 : Int32) &&& 31).toUInt32).toInt32) &&& (7 : Int32))), .val (.long (((((i5.toUInt32 >>> ((12 : Int32) &&& 31).toUInt32).toInt32) &&& (3 : Int32)) - (1 : Int32)).toInt64)), .second, .val (.long z13), .second, .val (.int (-1 : Int32))] [(.long z13), (.long z10), (.ref b1)])) rfl (by rw [hml]; rfl) (Steps.refl _) (argsL := [(.long z10), (.long z13)]) (rest := []) (lenOf own_pd0_2 rfl) rfl (by show 2 * 0 + _ ≤ _; exact Nat.le_of_eq rfl) (hb hby at_408) (fun _ _ => ⟨rfl, rfl, (by decide : 12 + 0 ≤ _), (by decide : 66 + 0 ≤ _)⟩)
            dsimp only [Pt.U, Pt.locs, Pt.cells, Pt.slots] at X27 l27 y27 z27 st27 hQ27
            subst l27 y27 z27
            obtain ⟨⟨zz27, rfl, zo27, zi27⟩, NQ27, eq27⟩ := hQ27
            have NF := Fr.app NF NQ27
            refine own_go (T' := T27) (g' := (mkF m 411 #[.val (.long j0), .second, .val (.long j1), .second, .val (.int i2), .val (.int i3), .val (.int i4), .val (.int i5), .val (.int ea), .val (.int eb), .val (.int ec), .val (.int i4), .val (.int ga), .val (.int gb), .val (.ref b1), .val (.long z10), .second, .val (.int (((i5.toUInt32 >>> ((9 : Int32) &&& 31).toUInt32).toInt32) &&& (7 : Int32))), .val (.long (((((i5.toUInt32 >>> ((12 : Int32) &&& 31).toUInt32).toInt32) &&& (3 : Int32)) - (1 : Int32)).toInt64)), .second, .val (.long z13), .second, .val (.int (-1 : Int32))] [(.int zz27)])) (fun _ k => st27.trans k) ?_
            refine own_go (T' := T27) (g' := (mkF m 413 #[.val (.long j0), .second, .val (.long j1), .second, .val (.int i2), .val (.int i3), .val (.int i4), .val (.int i5), .val (.int ea), .val (.int eb), .val (.int ec), .val (.int i4), .val (.int ga), .val (.int gb), .val (.ref b1), .val (.long z10), .second, .val (.int (((i5.toUInt32 >>> ((9 : Int32) &&& 31).toUInt32).toInt32) &&& (7 : Int32))), .val (.long (((((i5.toUInt32 >>> ((12 : Int32) &&& 31).toUInt32).toInt32) &&& (3 : Int32)) - (1 : Int32)).toInt64)), .second, .val (.long z13), .second, .val (.int (-1 : Int32))] [(.int (-1 : Int32)), (.int zz27)])) (fun _ k => XS.iload X27.here hx rfl (hb hby at_411) rfl k) ?_
            have l_ea := c_i2l ea
            have l_eb := c_i2l eb
            have l_ec := c_i2l ec
            have l_i4 := c_i2l i4
            have l_ga := c_i2l ga
            have l_gb := c_i2l gb
            have hin : ∀ k : Nat, z10.toInt = k → k < 5 → (zz27.toInt = -1 ∧ ∀ x : Nat, (fS k).toInt ≤ x → (x : Int) < (fS (k + 1)).toInt → (fdd x).toInt ≠ z13.toInt) ∨ ((fS k).toInt ≤ zz27.toInt ∧ zz27.toInt < (fS (k + 1)).toInt ∧ (fdd zz27.toInt.toNat).toInt = z13.toInt) := by
              intro k hk h5
              have eq9 : z10.toInt.toNat = k := by omega
              have := zi27 ⟨by omega, by rw [own_l5]; omega⟩
              rw [eq9] at this; exact this
            have hs1 : z10.toInt = 1 → (zz27.toInt = 0 ∧ z13.toInt = ea.toInt) ∨ (zz27.toInt = 1 ∧ z13.toInt = eb.toInt) ∨ (zz27.toInt = 2 ∧ z13.toInt = ec.toInt) ∨ (zz27.toInt = -1 ∧ z13.toInt ≠ ea.toInt ∧ z13.toInt ≠ eb.toInt ∧ z13.toInt ≠ ec.toInt) := by
              intro hk
              rcases hin 1 hk (by omega) with ⟨h1, h2⟩ | ⟨h1, h2, h3⟩
              · simp only [Nat.reduceAdd] at h2
                have y0 := h2 0 (by omega) (by omega)
                rw [fd0] at y0
                have y1 := h2 1 (by omega) (by omega)
                rw [fd1] at y1
                have y2 := h2 2 (by omega) (by omega)
                rw [fd2] at y2
                omega
              · simp only [Nat.reduceAdd] at h2
                have hh : zz27.toInt = 0 ∨ zz27.toInt = 1 ∨ zz27.toInt = 2 := by omega
                rcases hh with hh | hh | hh
                · rw [hh] at h3
                  have h4 : (fdd 0).toInt = z13.toInt := h3
                  rw [fd0] at h4; omega
                · rw [hh] at h3
                  have h4 : (fdd 1).toInt = z13.toInt := h3
                  rw [fd1] at h4; omega
                · rw [hh] at h3
                  have h4 : (fdd 2).toInt = z13.toInt := h3
                  rw [fd2] at h4; omega
            have hs2 : z10.toInt = 2 → (zz27.toInt = 3 ∧ z13.toInt = i4.toInt) ∨ (zz27.toInt = -1 ∧ z13.toInt ≠ i4.toInt) := by
              intro hk
              rcases hin 2 hk (by omega) with ⟨h1, h2⟩ | ⟨h1, h2, h3⟩
              · simp only [Nat.reduceAdd] at h2
                have y3 := h2 3 (by omega) (by omega)
                rw [fd3] at y3
                omega
              · simp only [Nat.reduceAdd] at h2
                have hh : zz27.toInt = 3 := by omega
                rcases hh with hh
                · rw [hh] at h3
                  have h4 : (fdd 3).toInt = z13.toInt := h3
                  rw [fd3] at h4; omega
            have hs3 : z10.toInt = 3 → (zz27.toInt = 4 ∧ z13.toInt = ga.toInt) ∨ (zz27.toInt = 5 ∧ z13.toInt = gb.toInt) ∨ (zz27.toInt = -1 ∧ z13.toInt ≠ ga.toInt ∧ z13.toInt ≠ gb.toInt) := by
              intro hk
              rcases hin 3 hk (by omega) with ⟨h1, h2⟩ | ⟨h1, h2, h3⟩
              · simp only [Nat.reduceAdd] at h2
                have y4 := h2 4 (by omega) (by omega)
                rw [fd4] at y4
                have y5 := h2 5 (by omega) (by omega)
                rw [fd5] at y5
                omega
              · simp only [Nat.reduceAdd] at h2
                have hh : zz27.toInt = 4 ∨ zz27.toInt = 5 := by omega
                rcases hh with hh | hh
                · rw [hh] at h3
                  have h4 : (fdd 4).toInt = z13.toInt := h3
                  rw [fd4] at h4; omega
                · rw [hh] at h3
                  have h4 : (fdd 5).toInt = z13.toInt := h3
                  rw [fd5] at h4; omega
            have hso : z10.toInt ≠ 1 → z10.toInt ≠ 2 → z10.toInt ≠ 3 → zz27.toInt = -1 := by
              intro h1 h2 h3
              by_cases hr : 0 ≤ z10.toInt ∧ z10.toInt < (5 : Int32).toInt
              · rw [own_l5] at hr
                have hh : z10.toInt = 0 ∨ z10.toInt = 4 := by omega
                rcases hh with hh | hh
                · rcases hin 0 hh (by omega) with ⟨h4, -⟩ | ⟨h4, h5, -⟩
                  · exact h4
                  · simp only [Nat.reduceAdd] at h5; omega
                · rcases hin 4 hh (by omega) with ⟨h4, -⟩ | ⟨h4, h5, -⟩
                  · exact h4
                  · simp only [Nat.reduceAdd] at h5; omega
              · exact zo27 hr
            have hq : zz27 = (-1 : Int32) := by (try simp only [own_ln1, own_l0, own_l1, own_l2, own_l3, own_l4, own_l5, own_l6, own_l7, own_l8, own_l9, own_l12, own_l32, own_L0, own_L1, own_L2, own_L3, own_L7, Int32.lt_iff_toInt_lt, ← Int32.toInt_inj, Int64.lt_iff_toInt_lt, ← Int64.toInt_inj, and_true, true_and, and_false, false_and, or_true, true_or, or_false, false_or, not_true_eq_false, not_false_eq_true, ne_eq, true_implies, false_implies, implies_true] at hz11 hz14 c16 c24 c25 ⊢) <;> omega
            refine own_go (T' := T27) (g' := (mkF m 416 #[.val (.long j0), .second, .val (.long j1), .second, .val (.int i2), .val (.int i3), .val (.int i4), .val (.int i5), .val (.int ea), .val (.int eb), .val (.int ec), .val (.int i4), .val (.int ga), .val (.int gb), .val (.ref b1), .val (.long z10), .second, .val (.int (((i5.toUInt32 >>> ((9 : Int32) &&& 31).toUInt32).toInt32) &&& (7 : Int32))), .val (.long (((((i5.toUInt32 >>> ((12 : Int32) &&& 31).toUInt32).toInt32) &&& (3 : Int32)) - (1 : Int32)).toInt64)), .second, .val (.long z13), .second, .val (.int (-1 : Int32))] [])) (fun _ k => XS.icmpNo X27.here hx rfl (hb hby at_413) rfl (teq hq).2 k) ?_
            refine own_go (T' := T27) (g' := (mkF m 417 #[.val (.long j0), .second, .val (.long j1), .second, .val (.int i2), .val (.int i3), .val (.int i4), .val (.int i5), .val (.int ea), .val (.int eb), .val (.int ec), .val (.int i4), .val (.int ga), .val (.int gb), .val (.ref b1), .val (.long z10), .second, .val (.int (((i5.toUInt32 >>> ((9 : Int32) &&& 31).toUInt32).toInt32) &&& (7 : Int32))), .val (.long (((((i5.toUInt32 >>> ((12 : Int32) &&& 31).toUInt32).toInt32) &&& (3 : Int32)) - (1 : Int32)).toInt64)), .second, .val (.long z13), .second, .val (.int (-1 : Int32))] [(.int (1 : Int32))])) (fun _ k => XS.iconst X27.here hx rfl (hb hby at_416) k) ?_
            refine own_go (T' := T27) (g' := (mkF m 421 #[.val (.long j0), .second, .val (.long j1), .second, .val (.int i2), .val (.int i3), .val (.int i4), .val (.int i5), .val (.int ea), .val (.int eb), .val (.int ec), .val (.int i4), .val (.int ga), .val (.int gb), .val (.ref b1), .val (.long z10), .second, .val (.int (((i5.toUInt32 >>> ((9 : Int32) &&& 31).toUInt32).toInt32) &&& (7 : Int32))), .val (.long (((((i5.toUInt32 >>> ((12 : Int32) &&& 31).toUInt32).toInt32) &&& (3 : Int32)) - (1 : Int32)).toInt64)), .second, .val (.long z13), .second, .val (.int (-1 : Int32))] [(.int (1 : Int32))])) (fun _ k => XS.goto X27.here hx rfl (pc0 := 417) (pc' := 421) rfl (hb hby at_417) (by decide) (by decide) k) ?_
            refine own_ret X27 Bd.notSynchronized (some (.int (1 : Int32))) (fun h => by rw [Bd.returns] at h; cases h) (fun fs hr => retN X27 hx (t := .boolean) Bd.returns (by simp) (hb hby at_421) hr) ?_ (by decide) (by decide)
            show (own_Q0 Z j0 j1 i2 i3 i4 i5 h0 n0) (some (.int (1 : Int32))) T27.heap _
            rw [eq27]
            exact ⟨rfl, NF⟩
        · refine own_go (T' := T9) (g' := (mkF m 366 #[.val (.long j0), .second, .val (.long j1), .second, .val (.int i2), .val (.int i3), .val (.int i4), .val (.int i5), .val (.int ea), .val (.int eb), .val (.int ec), .val (.int i4), .val (.int ga), .val (.int gb), .val (.ref b1), .val (.long z10), .second, .val (.int (((i5.toUInt32 >>> ((9 : Int32) &&& 31).toUInt32).toInt32) &&& (7 : Int32))), .val (.long (((((i5.toUInt32 >>> ((12 : Int32) &&& 31).toUInt32).toInt32) &&& (3 : Int32)) - (1 : Int32)).toInt64)), .second, .val (.long z13), .second, .val (.int (-1 : Int32))] [])) (fun _ k => XS.ifYes X9.here hx rfl (pc0 := 348) (pc' := 366) rfl (hb hby at_348) rfl ((if0 _ _).trans (feq (fun h => c24 ((lw_eq z10 (2 : Int64)).mp h))).2) (by decide) (by decide) k) ?_
          refine own_go (T' := T9) (g' := (mkF m 368 #[.val (.long j0), .second, .val (.long j1), .second, .val (.int i2), .val (.int i3), .val (.int i4), .val (.int i5), .val (.int ea), .val (.int eb), .val (.int ec), .val (.int i4), .val (.int ga), .val (.int gb), .val (.ref b1), .val (.long z10), .second, .val (.int (((i5.toUInt32 >>> ((9 : Int32) &&& 31).toUInt32).toInt32) &&& (7 : Int32))), .val (.long (((((i5.toUInt32 >>> ((12 : Int32) &&& 31).toUInt32).toInt32) &&& (3 : Int32)) - (1 : Int32)).toInt64)), .second, .val (.long z13), .second, .val (.int (-1 : Int32))] [(.long z10)])) (fun _ k => XS.lload X9.here hx rfl (hb hby at_366) rfl k) ?_
          refine own_go (T' := T9) (g' := (mkF m 371 #[.val (.long j0), .second, .val (.long j1), .second, .val (.int i2), .val (.int i3), .val (.int i4), .val (.int i5), .val (.int ea), .val (.int eb), .val (.int ec), .val (.int i4), .val (.int ga), .val (.int gb), .val (.ref b1), .val (.long z10), .second, .val (.int (((i5.toUInt32 >>> ((9 : Int32) &&& 31).toUInt32).toInt32) &&& (7 : Int32))), .val (.long (((((i5.toUInt32 >>> ((12 : Int32) &&& 31).toUInt32).toInt32) &&& (3 : Int32)) - (1 : Int32)).toInt64)), .second, .val (.long z13), .second, .val (.int (-1 : Int32))] [(.long (3 : Int64)), (.long z10)])) (fun _ k => X9.ldc2Long hx hown (mvT hZ (hw _ (List.mem_of_getElem? (i := 54) rfl))) (g := (mkF m 368 #[.val (.long j0), .second, .val (.long j1), .second, .val (.int i2), .val (.int i3), .val (.int i4), .val (.int i5), .val (.int ea), .val (.int eb), .val (.int ec), .val (.int i4), .val (.int ga), .val (.int gb), .val (.ref b1), .val (.long z10), .second, .val (.int (((i5.toUInt32 >>> ((9 : Int32) &&& 31).toUInt32).toInt32) &&& (7 : Int32))), .val (.long (((((i5.toUInt32 >>> ((12 : Int32) &&& 31).toUInt32).toInt32) &&& (3 : Int32)) - (1 : Int32)).toInt64)), .second, .val (.long z13), .second, .val (.int (-1 : Int32))] [(.long z10)])) rfl (hb hby at_368) _ k) ?_
          refine own_go (T' := T9) (g' := (mkF m 372 #[.val (.long j0), .second, .val (.long j1), .second, .val (.int i2), .val (.int i3), .val (.int i4), .val (.int i5), .val (.int ea), .val (.int eb), .val (.int ec), .val (.int i4), .val (.int ga), .val (.int gb), .val (.ref b1), .val (.long z10), .second, .val (.int (((i5.toUInt32 >>> ((9 : Int32) &&& 31).toUInt32).toInt32) &&& (7 : Int32))), .val (.long (((((i5.toUInt32 >>> ((12 : Int32) &&& 31).toUInt32).toInt32) &&& (3 : Int32)) - (1 : Int32)).toInt64)), .second, .val (.long z13), .second, .val (.int (-1 : Int32))] [(.int (lcmpW z10 (3 : Int64)))])) (fun _ k => XS.lcmp X9.here hx rfl (hb hby at_371) rfl k) ?_
          by_cases c28 : z10 = (3 : Int64)
          · refine own_go (T' := T9) (g' := (mkF m 375 #[.val (.long j0), .second, .val (.long j1), .second, .val (.int i2), .val (.int i3), .val (.int i4), .val (.int i5), .val (.int ea), .val (.int eb), .val (.int ec), .val (.int i4), .val (.int ga), .val (.int gb), .val (.ref b1), .val (.long z10), .second, .val (.int (((i5.toUInt32 >>> ((9 : Int32) &&& 31).toUInt32).toInt32) &&& (7 : Int32))), .val (.long (((((i5.toUInt32 >>> ((12 : Int32) &&& 31).toUInt32).toInt32) &&& (3 : Int32)) - (1 : Int32)).toInt64)), .second, .val (.long z13), .second, .val (.int (-1 : Int32))] [])) (fun _ k => XS.ifNo X9.here hx rfl (hb hby at_372) rfl ((if0 _ _).trans (teq ((lw_eq z10 (3 : Int64)).mpr c28)).2) k) ?_
            refine own_go (T' := T9) (g' := (mkF m 377 #[.val (.long j0), .second, .val (.long j1), .second, .val (.int i2), .val (.int i3), .val (.int i4), .val (.int i5), .val (.int ea), .val (.int eb), .val (.int ec), .val (.int i4), .val (.int ga), .val (.int gb), .val (.ref b1), .val (.long z10), .second, .val (.int (((i5.toUInt32 >>> ((9 : Int32) &&& 31).toUInt32).toInt32) &&& (7 : Int32))), .val (.long (((((i5.toUInt32 >>> ((12 : Int32) &&& 31).toUInt32).toInt32) &&& (3 : Int32)) - (1 : Int32)).toInt64)), .second, .val (.long z13), .second, .val (.int (-1 : Int32))] [(.long z13)])) (fun _ k => XS.lload X9.here hx rfl (hb hby at_375) rfl k) ?_
            refine own_go (T' := T9) (g' := (mkF m 379 #[.val (.long j0), .second, .val (.long j1), .second, .val (.int i2), .val (.int i3), .val (.int i4), .val (.int i5), .val (.int ea), .val (.int eb), .val (.int ec), .val (.int i4), .val (.int ga), .val (.int gb), .val (.ref b1), .val (.long z10), .second, .val (.int (((i5.toUInt32 >>> ((9 : Int32) &&& 31).toUInt32).toInt32) &&& (7 : Int32))), .val (.long (((((i5.toUInt32 >>> ((12 : Int32) &&& 31).toUInt32).toInt32) &&& (3 : Int32)) - (1 : Int32)).toInt64)), .second, .val (.long z13), .second, .val (.int (-1 : Int32))] [(.int ga), (.long z13)])) (fun _ k => XS.iload X9.here hx rfl (hb hby at_377) rfl k) ?_
            refine own_go (T' := T9) (g' := (mkF m 380 #[.val (.long j0), .second, .val (.long j1), .second, .val (.int i2), .val (.int i3), .val (.int i4), .val (.int i5), .val (.int ea), .val (.int eb), .val (.int ec), .val (.int i4), .val (.int ga), .val (.int gb), .val (.ref b1), .val (.long z10), .second, .val (.int (((i5.toUInt32 >>> ((9 : Int32) &&& 31).toUInt32).toInt32) &&& (7 : Int32))), .val (.long (((((i5.toUInt32 >>> ((12 : Int32) &&& 31).toUInt32).toInt32) &&& (3 : Int32)) - (1 : Int32)).toInt64)), .second, .val (.long z13), .second, .val (.int (-1 : Int32))] [(.long (ga.toInt64)), (.long z13)])) (fun _ k => XS.i2l X9.here hx rfl (hb hby at_379) rfl k) ?_
            refine own_go (T' := T9) (g' := (mkF m 381 #[.val (.long j0), .second, .val (.long j1), .second, .val (.int i2), .val (.int i3), .val (.int i4), .val (.int i5), .val (.int ea), .val (.int eb), .val (.int ec), .val (.int i4), .val (.int ga), .val (.int gb), .val (.ref b1), .val (.long z10), .second, .val (.int (((i5.toUInt32 >>> ((9 : Int32) &&& 31).toUInt32).toInt32) &&& (7 : Int32))), .val (.long (((((i5.toUInt32 >>> ((12 : Int32) &&& 31).toUInt32).toInt32) &&& (3 : Int32)) - (1 : Int32)).toInt64)), .second, .val (.long z13), .second, .val (.int (-1 : Int32))] [(.int (lcmpW z13 (ga.toInt64)))])) (fun _ k => XS.lcmp X9.here hx rfl (hb hby at_380) rfl k) ?_
            by_cases c29 : z13 = (ga.toInt64)
            · refine own_go (T' := T9) (g' := (mkF m 384 #[.val (.long j0), .second, .val (.long j1), .second, .val (.int i2), .val (.int i3), .val (.int i4), .val (.int i5), .val (.int ea), .val (.int eb), .val (.int ec), .val (.int i4), .val (.int ga), .val (.int gb), .val (.ref b1), .val (.long z10), .second, .val (.int (((i5.toUInt32 >>> ((9 : Int32) &&& 31).toUInt32).toInt32) &&& (7 : Int32))), .val (.long (((((i5.toUInt32 >>> ((12 : Int32) &&& 31).toUInt32).toInt32) &&& (3 : Int32)) - (1 : Int32)).toInt64)), .second, .val (.long z13), .second, .val (.int (-1 : Int32))] [])) (fun _ k => XS.ifNo X9.here hx rfl (hb hby at_381) rfl ((if0 _ _).trans (teq ((lw_eq z13 (ga.toInt64)).mpr c29)).2) k) ?_
              refine own_go (T' := T9) (g' := (mkF m 385 #[.val (.long j0), .second, .val (.long j1), .second, .val (.int i2), .val (.int i3), .val (.int i4), .val (.int i5), .val (.int ea), .val (.int eb), .val (.int ec), .val (.int i4), .val (.int ga), .val (.int gb), .val (.ref b1), .val (.long z10), .second, .val (.int (((i5.toUInt32 >>> ((9 : Int32) &&& 31).toUInt32).toInt32) &&& (7 : Int32))), .val (.long (((((i5.toUInt32 >>> ((12 : Int32) &&& 31).toUInt32).toInt32) &&& (3 : Int32)) - (1 : Int32)).toInt64)), .second, .val (.long z13), .second, .val (.int (-1 : Int32))] [(.int (4 : Int32))])) (fun _ k => XS.iconst X9.here hx rfl (hb hby at_384) k) ?_
              refine own_go (T' := T9) (g' := (mkF m 387 #[.val (.long j0), .second, .val (.long j1), .second, .val (.int i2), .val (.int i3), .val (.int i4), .val (.int i5), .val (.int ea), .val (.int eb), .val (.int ec), .val (.int i4), .val (.int ga), .val (.int gb), .val (.ref b1), .val (.long z10), .second, .val (.int (((i5.toUInt32 >>> ((9 : Int32) &&& 31).toUInt32).toInt32) &&& (7 : Int32))), .val (.long (((((i5.toUInt32 >>> ((12 : Int32) &&& 31).toUInt32).toInt32) &&& (3 : Int32)) - (1 : Int32)).toInt64)), .second, .val (.long z13), .second, .val (.int (4 : Int32))] [])) (fun _ k => XS.istore X9.here hx rfl (hb hby at_385) rfl (l' := #[.val (.long j0), .second, .val (.long j1), .second, .val (.int i2), .val (.int i3), .val (.int i4), .val (.int i5), .val (.int ea), .val (.int eb), .val (.int ec), .val (.int i4), .val (.int ga), .val (.int gb), .val (.ref b1), .val (.long z10), .second, .val (.int (((i5.toUInt32 >>> ((9 : Int32) &&& 31).toUInt32).toInt32) &&& (7 : Int32))), .val (.long (((((i5.toUInt32 >>> ((12 : Int32) &&& 31).toUInt32).toInt32) &&& (3 : Int32)) - (1 : Int32)).toInt64)), .second, .val (.long z13), .second, .val (.int (4 : Int32))]) rfl k) ?_
              refine own_go (T' := T9) (g' := (mkF m 402 #[.val (.long j0), .second, .val (.long j1), .second, .val (.int i2), .val (.int i3), .val (.int i4), .val (.int i5), .val (.int ea), .val (.int eb), .val (.int ec), .val (.int i4), .val (.int ga), .val (.int gb), .val (.ref b1), .val (.long z10), .second, .val (.int (((i5.toUInt32 >>> ((9 : Int32) &&& 31).toUInt32).toInt32) &&& (7 : Int32))), .val (.long (((((i5.toUInt32 >>> ((12 : Int32) &&& 31).toUInt32).toInt32) &&& (3 : Int32)) - (1 : Int32)).toInt64)), .second, .val (.long z13), .second, .val (.int (4 : Int32))] [])) (fun _ k => XS.goto X9.here hx rfl (pc0 := 387) (pc' := 402) rfl (hb hby at_387) (by decide) (by decide) k) ?_
              refine own_go (T' := T9) (g' := (mkF m 404 #[.val (.long j0), .second, .val (.long j1), .second, .val (.int i2), .val (.int i3), .val (.int i4), .val (.int i5), .val (.int ea), .val (.int eb), .val (.int ec), .val (.int i4), .val (.int ga), .val (.int gb), .val (.ref b1), .val (.long z10), .second, .val (.int (((i5.toUInt32 >>> ((9 : Int32) &&& 31).toUInt32).toInt32) &&& (7 : Int32))), .val (.long (((((i5.toUInt32 >>> ((12 : Int32) &&& 31).toUInt32).toInt32) &&& (3 : Int32)) - (1 : Int32)).toInt64)), .second, .val (.long z13), .second, .val (.int (4 : Int32))] [(.ref b1)])) (fun _ k => XS.aload X9.here hx rfl (hb hby at_402) rfl rfl k) ?_
              refine own_go (T' := T9) (g' := (mkF m 406 #[.val (.long j0), .second, .val (.long j1), .second, .val (.int i2), .val (.int i3), .val (.int i4), .val (.int i5), .val (.int ea), .val (.int eb), .val (.int ec), .val (.int i4), .val (.int ga), .val (.int gb), .val (.ref b1), .val (.long z10), .second, .val (.int (((i5.toUInt32 >>> ((9 : Int32) &&& 31).toUInt32).toInt32) &&& (7 : Int32))), .val (.long (((((i5.toUInt32 >>> ((12 : Int32) &&& 31).toUInt32).toInt32) &&& (3 : Int32)) - (1 : Int32)).toInt64)), .second, .val (.long z13), .second, .val (.int (4 : Int32))] [(.long z10), (.ref b1)])) (fun _ k => XS.lload X9.here hx rfl (hb hby at_404) rfl k) ?_
              refine own_go (T' := T9) (g' := (mkF m 408 #[.val (.long j0), .second, .val (.long j1), .second, .val (.int i2), .val (.int i3), .val (.int i4), .val (.int i5), .val (.int ea), .val (.int eb), .val (.int ec), .val (.int i4), .val (.int ga), .val (.int gb), .val (.ref b1), .val (.long z10), .second, .val (.int (((i5.toUInt32 >>> ((9 : Int32) &&& 31).toUInt32).toInt32) &&& (7 : Int32))), .val (.long (((((i5.toUInt32 >>> ((12 : Int32) &&& 31).toUInt32).toInt32) &&& (3 : Int32)) - (1 : Int32)).toInt64)), .second, .val (.long z13), .second, .val (.int (4 : Int32))] [(.long z13), (.long z10), (.ref b1)])) (fun _ k => XS.lload X9.here hx rfl (hb hby at_406) rfl k) ?_
              obtain ⟨cq30, kq30, q30a, q30b, q30c⟩ := isOf hZ rfl E_b1
              obtain ⟨_, _, ⟨T30, L30, k30, n30⟩, -, X30, ⟨Lc30, hQ30, l30, y30, z30⟩, st30⟩ := X9.virtualBack hx (y := (⟨"com/example/nimble_twig/nimbletwig/index/store/StoredStreams", "place", "(JJ)I"⟩ : MethodName)) (z := (⟨"com/example/nimble_twig/nimbletwig/index/store/StoredStreams", "place", "(JJ)I"⟩ : MethodName)) hown (mvT hZ (hw _ (List.mem_of_getElem? (i := 49) rfl))) (mvT hZ (hw _ (List.mem_of_getElem? (i := 50) rfl))) (notFace_of_selects (args := #[]) (mvT hZ (hw _ (List.mem_of_getElem? (i := 52) rfl)))) (mvT hZ (hw _ (List.mem_of_getElem? (i := 52) rfl))) (mvT hZ (hw _ (List.mem_of_getElem? (i := 51) rfl))) (by decide) (backOf (W := 0) (own_rm5 l Z a0 hw [] b1 z10 z13 s2 t2 dA (5 : Int32) (6 : Int32) fS fT fdd T9.heap n0 Zs F_b1_firstStreams F_b1_firstDepths F_b1_depths I_s2 I_t2 I_dA hps hpm hpo) hZ (hw _ (List.mem_of_getElem? (i := 53) rfl)) (hw _ (List.mem_of_getElem? (i := 2) rfl)) (by decide) (by decide)) q30a q30c (g := (mkF m 408 #[.val (.long j0), .second, .val (.long j1), .second, .val (.int i2), .val (.int i3), .val (.int i4), .val (.int i5), .val (.int ea), .val (.int eb), .val (.int ec), .val (.int i4), .val (.int ga), .val (.int gb), .val (.ref b1), .val (.long z10), .second, .val (.int (((i5.toUInt32 >>> ((9 : Int32) &&& 31).toUInt32).toInt32) &&& (7 : Int32))), .val (.long (((((i5.toUInt32 >>> ((12 : Int32) &&& 31).toUInt32).toInt32) &&& (3 : Int32)) - (1 : Int32)).toInt64)), .second, .val (.long z13), .second, .val (.int (4 : Int32))] [(.long z13), (.long z10), (.ref b1)])) rfl (by rw [hml]; rfl) (Steps.refl _) (argsL := [(.long z10), (.long z13)]) (rest := []) (lenOf own_pd0_2 rfl) rfl (by show 2 * 0 + _ ≤ _; exact Nat.le_of_eq rfl) (hb hby at_408) (fun _ _ => ⟨rfl, rfl, (by decide : 12 + 0 ≤ _), (by decide : 66 + 0 ≤ _)⟩)
              dsimp only [Pt.U, Pt.locs, Pt.cells, Pt.slots] at X30 l30 y30 z30 st30 hQ30
              subst l30 y30 z30
              obtain ⟨⟨zz30, rfl, zo30, zi30⟩, NQ30, eq30⟩ := hQ30
              have NF := Fr.app NF NQ30
              refine own_go (T' := T30) (g' := (mkF m 411 #[.val (.long j0), .second, .val (.long j1), .second, .val (.int i2), .val (.int i3), .val (.int i4), .val (.int i5), .val (.int ea), .val (.int eb), .val (.int ec), .val (.int i4), .val (.int ga), .val (.int gb), .val (.ref b1), .val (.long z10), .second, .val (.int (((i5.toUInt32 >>> ((9 : Int32) &&& 31).toUInt32).toInt32) &&& (7 : Int32))), .val (.long (((((i5.toUInt32 >>> ((12 : Int32) &&& 31).toUInt32).toInt32) &&& (3 : Int32)) - (1 : Int32)).toInt64)), .second, .val (.long z13), .second, .val (.int (4 : Int32))] [(.int zz30)])) (fun _ k => st30.trans k) ?_
              refine own_go (T' := T30) (g' := (mkF m 413 #[.val (.long j0), .second, .val (.long j1), .second, .val (.int i2), .val (.int i3), .val (.int i4), .val (.int i5), .val (.int ea), .val (.int eb), .val (.int ec), .val (.int i4), .val (.int ga), .val (.int gb), .val (.ref b1), .val (.long z10), .second, .val (.int (((i5.toUInt32 >>> ((9 : Int32) &&& 31).toUInt32).toInt32) &&& (7 : Int32))), .val (.long (((((i5.toUInt32 >>> ((12 : Int32) &&& 31).toUInt32).toInt32) &&& (3 : Int32)) - (1 : Int32)).toInt64)), .second, .val (.long z13), .second, .val (.int (4 : Int32))] [(.int (4 : Int32)), (.int zz30)])) (fun _ k => XS.iload X30.here hx rfl (hb hby at_411) rfl k) ?_
              have l_ea := c_i2l ea
              have l_eb := c_i2l eb
              have l_ec := c_i2l ec
              have l_i4 := c_i2l i4
              have l_ga := c_i2l ga
              have l_gb := c_i2l gb
              have hin : ∀ k : Nat, z10.toInt = k → k < 5 → (zz30.toInt = -1 ∧ ∀ x : Nat, (fS k).toInt ≤ x → (x : Int) < (fS (k + 1)).toInt → (fdd x).toInt ≠ z13.toInt) ∨ ((fS k).toInt ≤ zz30.toInt ∧ zz30.toInt < (fS (k + 1)).toInt ∧ (fdd zz30.toInt.toNat).toInt = z13.toInt) := by
                intro k hk h5
                have eq9 : z10.toInt.toNat = k := by omega
                have := zi30 ⟨by omega, by rw [own_l5]; omega⟩
                rw [eq9] at this; exact this
              have hs1 : z10.toInt = 1 → (zz30.toInt = 0 ∧ z13.toInt = ea.toInt) ∨ (zz30.toInt = 1 ∧ z13.toInt = eb.toInt) ∨ (zz30.toInt = 2 ∧ z13.toInt = ec.toInt) ∨ (zz30.toInt = -1 ∧ z13.toInt ≠ ea.toInt ∧ z13.toInt ≠ eb.toInt ∧ z13.toInt ≠ ec.toInt) := by
                intro hk
                rcases hin 1 hk (by omega) with ⟨h1, h2⟩ | ⟨h1, h2, h3⟩
                · simp only [Nat.reduceAdd] at h2
                  have y0 := h2 0 (by omega) (by omega)
                  rw [fd0] at y0
                  have y1 := h2 1 (by omega) (by omega)
                  rw [fd1] at y1
                  have y2 := h2 2 (by omega) (by omega)
                  rw [fd2] at y2
                  omega
                · simp only [Nat.reduceAdd] at h2
                  have hh : zz30.toInt = 0 ∨ zz30.toInt = 1 ∨ zz30.toInt = 2 := by omega
                  rcases hh with hh | hh | hh
                  · rw [hh] at h3
                    have h4 : (fdd 0).toInt = z13.toInt := h3
                    rw [fd0] at h4; omega
                  · rw [hh] at h3
                    have h4 : (fdd 1).toInt = z13.toInt := h3
                    rw [fd1] at h4; omega
                  · rw [hh] at h3
                    have h4 : (fdd 2).toInt = z13.toInt := h3
                    rw [fd2] at h4; omega
              have hs2 : z10.toInt = 2 → (zz30.toInt = 3 ∧ z13.toInt = i4.toInt) ∨ (zz30.toInt = -1 ∧ z13.toInt ≠ i4.toInt) := by
                intro hk
                rcases hin 2 hk (by omega) with ⟨h1, h2⟩ | ⟨h1, h2, h3⟩
                · simp only [Nat.reduceAdd] at h2
                  have y3 := h2 3 (by omega) (by omega)
                  rw [fd3] at y3
                  omega
                · simp only [Nat.reduceAdd] at h2
                  have hh : zz30.toInt = 3 := by omega
                  rcases hh with hh
                  · rw [hh] at h3
                    have h4 : (fdd 3).toInt = z13.toInt := h3
                    rw [fd3] at h4; omega
              have hs3 : z10.toInt = 3 → (zz30.toInt = 4 ∧ z13.toInt = ga.toInt) ∨ (zz30.toInt = 5 ∧ z13.toInt = gb.toInt) ∨ (zz30.toInt = -1 ∧ z13.toInt ≠ ga.toInt ∧ z13.toInt ≠ gb.toInt) := by
                intro hk
                rcases hin 3 hk (by omega) with ⟨h1, h2⟩ | ⟨h1, h2, h3⟩
                · simp only [Nat.reduceAdd] at h2
                  have y4 := h2 4 (by omega) (by omega)
                  rw [fd4] at y4
                  have y5 := h2 5 (by omega) (by omega)
                  rw [fd5] at y5
                  omega
                · simp only [Nat.reduceAdd] at h2
                  have hh : zz30.toInt = 4 ∨ zz30.toInt = 5 := by omega
                  rcases hh with hh | hh
                  · rw [hh] at h3
                    have h4 : (fdd 4).toInt = z13.toInt := h3
                    rw [fd4] at h4; omega
                  · rw [hh] at h3
                    have h4 : (fdd 5).toInt = z13.toInt := h3
                    rw [fd5] at h4; omega
              have hso : z10.toInt ≠ 1 → z10.toInt ≠ 2 → z10.toInt ≠ 3 → zz30.toInt = -1 := by
                intro h1 h2 h3
                by_cases hr : 0 ≤ z10.toInt ∧ z10.toInt < (5 : Int32).toInt
                · rw [own_l5] at hr
                  have hh : z10.toInt = 0 ∨ z10.toInt = 4 := by omega
                  rcases hh with hh | hh
                  · rcases hin 0 hh (by omega) with ⟨h4, -⟩ | ⟨h4, h5, -⟩
                    · exact h4
                    · simp only [Nat.reduceAdd] at h5; omega
                  · rcases hin 4 hh (by omega) with ⟨h4, -⟩ | ⟨h4, h5, -⟩
                    · exact h4
                    · simp only [Nat.reduceAdd] at h5; omega
                · exact zo30 hr
              have hq : zz30 = (4 : Int32) := by (try simp only [own_ln1, own_l0, own_l1, own_l2, own_l3, own_l4, own_l5, own_l6, own_l7, own_l8, own_l9, own_l12, own_l32, own_L0, own_L1, own_L2, own_L3, own_L7, Int32.lt_iff_toInt_lt, ← Int32.toInt_inj, Int64.lt_iff_toInt_lt, ← Int64.toInt_inj, and_true, true_and, and_false, false_and, or_true, true_or, or_false, false_or, not_true_eq_false, not_false_eq_true, ne_eq, true_implies, false_implies, implies_true] at hz11 hz14 c16 c24 c28 c29 ⊢) <;> omega
              refine own_go (T' := T30) (g' := (mkF m 416 #[.val (.long j0), .second, .val (.long j1), .second, .val (.int i2), .val (.int i3), .val (.int i4), .val (.int i5), .val (.int ea), .val (.int eb), .val (.int ec), .val (.int i4), .val (.int ga), .val (.int gb), .val (.ref b1), .val (.long z10), .second, .val (.int (((i5.toUInt32 >>> ((9 : Int32) &&& 31).toUInt32).toInt32) &&& (7 : Int32))), .val (.long (((((i5.toUInt32 >>> ((12 : Int32) &&& 31).toUInt32).toInt32) &&& (3 : Int32)) - (1 : Int32)).toInt64)), .second, .val (.long z13), .second, .val (.int (4 : Int32))] [])) (fun _ k => XS.icmpNo X30.here hx rfl (hb hby at_413) rfl (teq hq).2 k) ?_
              refine own_go (T' := T30) (g' := (mkF m 417 #[.val (.long j0), .second, .val (.long j1), .second, .val (.int i2), .val (.int i3), .val (.int i4), .val (.int i5), .val (.int ea), .val (.int eb), .val (.int ec), .val (.int i4), .val (.int ga), .val (.int gb), .val (.ref b1), .val (.long z10), .second, .val (.int (((i5.toUInt32 >>> ((9 : Int32) &&& 31).toUInt32).toInt32) &&& (7 : Int32))), .val (.long (((((i5.toUInt32 >>> ((12 : Int32) &&& 31).toUInt32).toInt32) &&& (3 : Int32)) - (1 : Int32)).toInt64)), .second, .val (.long z13), .second, .val (.int (4 : Int32))] [(.int (1 : Int32))])) (fun _ k => XS.iconst X30.here hx rfl (hb hby at_416) k) ?_
              refine own_go (T' := T30) (g' := (mkF m 421 #[.val (.long j0), .second, .val (.long j1), .second, .val (.int i2), .val (.int i3), .val (.int i4), .val (.int i5), .val (.int ea), .val (.int eb), .val (.int ec), .val (.int i4), .val (.int ga), .val (.int gb), .val (.ref b1), .val (.long z10), .second, .val (.int (((i5.toUInt32 >>> ((9 : Int32) &&& 31).toUInt32).toInt32) &&& (7 : Int32))), .val (.long (((((i5.toUInt32 >>> ((12 : Int32) &&& 31).toUInt32).toInt32) &&& (3 : Int32)) - (1 : Int32)).toInt64)), .second, .val (.long z13), .second, .val (.int (4 : Int32))] [(.int (1 : Int32))])) (fun _ k => XS.goto X30.here hx rfl (pc0 := 417) (pc' := 421) rfl (hb hby at_417) (by decide) (by decide) k) ?_
              refine own_ret X30 Bd.notSynchronized (some (.int (1 : Int32))) (fun h => by rw [Bd.returns] at h; cases h) (fun fs hr => retN X30 hx (t := .boolean) Bd.returns (by simp) (hb hby at_421) hr) ?_ (by decide) (by decide)
              show (own_Q0 Z j0 j1 i2 i3 i4 i5 h0 n0) (some (.int (1 : Int32))) T30.heap _
              rw [eq30]
              exact ⟨rfl, NF⟩
            · refine own_go (T' := T9) (g' := (mkF m 390 #[.val (.long j0), .second, .val (.long j1), .second, .val (.int i2), .val (.int i3), .val (.int i4), .val (.int i5), .val (.int ea), .val (.int eb), .val (.int ec), .val (.int i4), .val (.int ga), .val (.int gb), .val (.ref b1), .val (.long z10), .second, .val (.int (((i5.toUInt32 >>> ((9 : Int32) &&& 31).toUInt32).toInt32) &&& (7 : Int32))), .val (.long (((((i5.toUInt32 >>> ((12 : Int32) &&& 31).toUInt32).toInt32) &&& (3 : Int32)) - (1 : Int32)).toInt64)), .second, .val (.long z13), .second, .val (.int (-1 : Int32))] [])) (fun _ k => XS.ifYes X9.here hx rfl (pc0 := 381) (pc' := 390) rfl (hb hby at_381) rfl ((if0 _ _).trans (feq (fun h => c29 ((lw_eq z13 (ga.toInt64)).mp h))).2) (by decide) (by decide) k) ?_
              refine own_go (T' := T9) (g' := (mkF m 392 #[.val (.long j0), .second, .val (.long j1), .second, .val (.int i2), .val (.int i3), .val (.int i4), .val (.int i5), .val (.int ea), .val (.int eb), .val (.int ec), .val (.int i4), .val (.int ga), .val (.int gb), .val (.ref b1), .val (.long z10), .second, .val (.int (((i5.toUInt32 >>> ((9 : Int32) &&& 31).toUInt32).toInt32) &&& (7 : Int32))), .val (.long (((((i5.toUInt32 >>> ((12 : Int32) &&& 31).toUInt32).toInt32) &&& (3 : Int32)) - (1 : Int32)).toInt64)), .second, .val (.long z13), .second, .val (.int (-1 : Int32))] [(.long z13)])) (fun _ k => XS.lload X9.here hx rfl (hb hby at_390) rfl k) ?_
              refine own_go (T' := T9) (g' := (mkF m 394 #[.val (.long j0), .second, .val (.long j1), .second, .val (.int i2), .val (.int i3), .val (.int i4), .val (.int i5), .val (.int ea), .val (.int eb), .val (.int ec), .val (.int i4), .val (.int ga), .val (.int gb), .val (.ref b1), .val (.long z10), .second, .val (.int (((i5.toUInt32 >>> ((9 : Int32) &&& 31).toUInt32).toInt32) &&& (7 : Int32))), .val (.long (((((i5.toUInt32 >>> ((12 : Int32) &&& 31).toUInt32).toInt32) &&& (3 : Int32)) - (1 : Int32)).toInt64)), .second, .val (.long z13), .second, .val (.int (-1 : Int32))] [(.int gb), (.long z13)])) (fun _ k => XS.iload X9.here hx rfl (hb hby at_392) rfl k) ?_
              refine own_go (T' := T9) (g' := (mkF m 395 #[.val (.long j0), .second, .val (.long j1), .second, .val (.int i2), .val (.int i3), .val (.int i4), .val (.int i5), .val (.int ea), .val (.int eb), .val (.int ec), .val (.int i4), .val (.int ga), .val (.int gb), .val (.ref b1), .val (.long z10), .second, .val (.int (((i5.toUInt32 >>> ((9 : Int32) &&& 31).toUInt32).toInt32) &&& (7 : Int32))), .val (.long (((((i5.toUInt32 >>> ((12 : Int32) &&& 31).toUInt32).toInt32) &&& (3 : Int32)) - (1 : Int32)).toInt64)), .second, .val (.long z13), .second, .val (.int (-1 : Int32))] [(.long (gb.toInt64)), (.long z13)])) (fun _ k => XS.i2l X9.here hx rfl (hb hby at_394) rfl k) ?_
              refine own_go (T' := T9) (g' := (mkF m 396 #[.val (.long j0), .second, .val (.long j1), .second, .val (.int i2), .val (.int i3), .val (.int i4), .val (.int i5), .val (.int ea), .val (.int eb), .val (.int ec), .val (.int i4), .val (.int ga), .val (.int gb), .val (.ref b1), .val (.long z10), .second, .val (.int (((i5.toUInt32 >>> ((9 : Int32) &&& 31).toUInt32).toInt32) &&& (7 : Int32))), .val (.long (((((i5.toUInt32 >>> ((12 : Int32) &&& 31).toUInt32).toInt32) &&& (3 : Int32)) - (1 : Int32)).toInt64)), .second, .val (.long z13), .second, .val (.int (-1 : Int32))] [(.int (lcmpW z13 (gb.toInt64)))])) (fun _ k => XS.lcmp X9.here hx rfl (hb hby at_395) rfl k) ?_
              by_cases c31 : z13 = (gb.toInt64)
              · refine own_go (T' := T9) (g' := (mkF m 399 #[.val (.long j0), .second, .val (.long j1), .second, .val (.int i2), .val (.int i3), .val (.int i4), .val (.int i5), .val (.int ea), .val (.int eb), .val (.int ec), .val (.int i4), .val (.int ga), .val (.int gb), .val (.ref b1), .val (.long z10), .second, .val (.int (((i5.toUInt32 >>> ((9 : Int32) &&& 31).toUInt32).toInt32) &&& (7 : Int32))), .val (.long (((((i5.toUInt32 >>> ((12 : Int32) &&& 31).toUInt32).toInt32) &&& (3 : Int32)) - (1 : Int32)).toInt64)), .second, .val (.long z13), .second, .val (.int (-1 : Int32))] [])) (fun _ k => XS.ifNo X9.here hx rfl (hb hby at_396) rfl ((if0 _ _).trans (teq ((lw_eq z13 (gb.toInt64)).mpr c31)).2) k) ?_
                refine own_go (T' := T9) (g' := (mkF m 400 #[.val (.long j0), .second, .val (.long j1), .second, .val (.int i2), .val (.int i3), .val (.int i4), .val (.int i5), .val (.int ea), .val (.int eb), .val (.int ec), .val (.int i4), .val (.int ga), .val (.int gb), .val (.ref b1), .val (.long z10), .second, .val (.int (((i5.toUInt32 >>> ((9 : Int32) &&& 31).toUInt32).toInt32) &&& (7 : Int32))), .val (.long (((((i5.toUInt32 >>> ((12 : Int32) &&& 31).toUInt32).toInt32) &&& (3 : Int32)) - (1 : Int32)).toInt64)), .second, .val (.long z13), .second, .val (.int (-1 : Int32))] [(.int (5 : Int32))])) (fun _ k => XS.iconst X9.here hx rfl (hb hby at_399) k) ?_
                refine own_go (T' := T9) (g' := (mkF m 402 #[.val (.long j0), .second, .val (.long j1), .second, .val (.int i2), .val (.int i3), .val (.int i4), .val (.int i5), .val (.int ea), .val (.int eb), .val (.int ec), .val (.int i4), .val (.int ga), .val (.int gb), .val (.ref b1), .val (.long z10), .second, .val (.int (((i5.toUInt32 >>> ((9 : Int32) &&& 31).toUInt32).toInt32) &&& (7 : Int32))), .val (.long (((((i5.toUInt32 >>> ((12 : Int32) &&& 31).toUInt32).toInt32) &&& (3 : Int32)) - (1 : Int32)).toInt64)), .second, .val (.long z13), .second, .val (.int (5 : Int32))] [])) (fun _ k => XS.istore X9.here hx rfl (hb hby at_400) rfl (l' := #[.val (.long j0), .second, .val (.long j1), .second, .val (.int i2), .val (.int i3), .val (.int i4), .val (.int i5), .val (.int ea), .val (.int eb), .val (.int ec), .val (.int i4), .val (.int ga), .val (.int gb), .val (.ref b1), .val (.long z10), .second, .val (.int (((i5.toUInt32 >>> ((9 : Int32) &&& 31).toUInt32).toInt32) &&& (7 : Int32))), .val (.long (((((i5.toUInt32 >>> ((12 : Int32) &&& 31).toUInt32).toInt32) &&& (3 : Int32)) - (1 : Int32)).toInt64)), .second, .val (.long z13), .second, .val (.int (5 : Int32))]) rfl k) ?_
                refine own_go (T' := T9) (g' := (mkF m 404 #[.val (.long j0), .second, .val (.long j1), .second, .val (.int i2), .val (.int i3), .val (.int i4), .val (.int i5), .val (.int ea), .val (.int eb), .val (.int ec), .val (.int i4), .val (.int ga), .val (.int gb), .val (.ref b1), .val (.long z10), .second, .val (.int (((i5.toUInt32 >>> ((9 : Int32) &&& 31).toUInt32).toInt32) &&& (7 : Int32))), .val (.long (((((i5.toUInt32 >>> ((12 : Int32) &&& 31).toUInt32).toInt32) &&& (3 : Int32)) - (1 : Int32)).toInt64)), .second, .val (.long z13), .second, .val (.int (5 : Int32))] [(.ref b1)])) (fun _ k => XS.aload X9.here hx rfl (hb hby at_402) rfl rfl k) ?_
                refine own_go (T' := T9) (g' := (mkF m 406 #[.val (.long j0), .second, .val (.long j1), .second, .val (.int i2), .val (.int i3), .val (.int i4), .val (.int i5), .val (.int ea), .val (.int eb), .val (.int ec), .val (.int i4), .val (.int ga), .val (.int gb), .val (.ref b1), .val (.long z10), .second, .val (.int (((i5.toUInt32 >>> ((9 : Int32) &&& 31).toUInt32).toInt32) &&& (7 : Int32))), .val (.long (((((i5.toUInt32 >>> ((12 : Int32) &&& 31).toUInt32).toInt32) &&& (3 : Int32)) - (1 : Int32)).toInt64)), .second, .val (.long z13), .second, .val (.int (5 : Int32))] [(.long z10), (.ref b1)])) (fun _ k => XS.lload X9.here hx rfl (hb hby at_404) rfl k) ?_
                refine own_go (T' := T9) (g' := (mkF m 408 #[.val (.long j0), .second, .val (.long j1), .second, .val (.int i2), .val (.int i3), .val (.int i4), .val (.int i5), .val (.int ea), .val (.int eb), .val (.int ec), .val (.int i4), .val (.int ga), .val (.int gb), .val (.ref b1), .val (.long z10), .second, .val (.int (((i5.toUInt32 >>> ((9 : Int32) &&& 31).toUInt32).toInt32) &&& (7 : Int32))), .val (.long (((((i5.toUInt32 >>> ((12 : Int32) &&& 31).toUInt32).toInt32) &&& (3 : Int32)) - (1 : Int32)).toInt64)), .second, .val (.long z13), .second, .val (.int (5 : Int32))] [(.long z13), (.long z10), (.ref b1)])) (fun _ k => XS.lload X9.here hx rfl (hb hby at_406) rfl k) ?_
                obtain ⟨cq32, kq32, q32a, q32b, q32c⟩ := isOf hZ rfl E_b1
                obtain ⟨_, _, ⟨T32, L32, k32, n32⟩, -, X32, ⟨Lc32, hQ32, l32, y32, z32⟩, st32⟩ := X9.virtualBack hx (y := (⟨"com/example/nimble_twig/nimbletwig/index/store/StoredStreams", "place", "(JJ)I"⟩ : MethodName)) (z := (⟨"com/example/nimble_twig/nimbletwig/index/store/StoredStreams", "place", "(JJ)I"⟩ : MethodName)) hown (mvT hZ (hw _ (List.mem_of_getElem? (i := 49) rfl))) (mvT hZ (hw _ (List.mem_of_getElem? (i := 50) rfl))) (notFace_of_selects (args := #[]) (mvT hZ (hw _ (List.mem_of_getElem? (i := 52) rfl)))) (mvT hZ (hw _ (List.mem_of_getElem? (i := 52) rfl))) (mvT hZ (hw _ (List.mem_of_getElem? (i := 51) rfl))) (by decide) (backOf (W := 0) (own_rm5 l Z a0 hw [] b1 z10 z13 s2 t2 dA (5 : Int32) (6 : Int32) fS fT fdd T9.heap n0 Zs F_b1_firstStreams F_b1_firstDepths F_b1_depths I_s2 I_t2 I_dA hps hpm hpo) hZ (hw _ (List.mem_of_getElem? (i := 53) rfl)) (hw _ (List.mem_of_getElem? (i := 2) rfl)) (by decide) (by decide)) q32a q32c (g := (mkF m 408 #[.val (.long j0), .second, .val (.long j1), .second, .val (.int i2), .val (.int i3), .val (.int i4), .val (.int i5), .val (.int ea), .val (.int eb), .val (.int ec), .val (.int i4), .val (.int ga), .val (.int gb), .val (.ref b1), .val (.long z10), .second, .val (.int (((i5.toUInt32 >>> ((9 : Int32) &&& 31).toUInt32).toInt32) &&& (7 : Int32))), .val (.long (((((i5.toUInt32 >>> ((12 : Int32) &&& 31).toUInt32).toInt32) &&& (3 : Int32)) - (1 : Int32)).toInt64)), .second, .val (.long z13), .second, .val (.int (5 : Int32))] [(.long z13), (.long z10), (.ref b1)])) rfl (by rw [hml]; rfl) (Steps.refl _) (argsL := [(.long z10), (.long z13)]) (rest := []) (lenOf own_pd0_2 rfl) rfl (by show 2 * 0 + _ ≤ _; exact Nat.le_of_eq rfl) (hb hby at_408) (fun _ _ => ⟨rfl, rfl, (by decide : 12 + 0 ≤ _), (by decide : 66 + 0 ≤ _)⟩)
                dsimp only [Pt.U, Pt.locs, Pt.cells, Pt.slots] at X32 l32 y32 z32 st32 hQ32
                subst l32 y32 z32
                obtain ⟨⟨zz32, rfl, zo32, zi32⟩, NQ32, eq32⟩ := hQ32
                have NF := Fr.app NF NQ32
                refine own_go (T' := T32) (g' := (mkF m 411 #[.val (.long j0), .second, .val (.long j1), .second, .val (.int i2), .val (.int i3), .val (.int i4), .val (.int i5), .val (.int ea), .val (.int eb), .val (.int ec), .val (.int i4), .val (.int ga), .val (.int gb), .val (.ref b1), .val (.long z10), .second, .val (.int (((i5.toUInt32 >>> ((9 : Int32) &&& 31).toUInt32).toInt32) &&& (7 : Int32))), .val (.long (((((i5.toUInt32 >>> ((12 : Int32) &&& 31).toUInt32).toInt32) &&& (3 : Int32)) - (1 : Int32)).toInt64)), .second, .val (.long z13), .second, .val (.int (5 : Int32))] [(.int zz32)])) (fun _ k => st32.trans k) ?_
                refine own_go (T' := T32) (g' := (mkF m 413 #[.val (.long j0), .second, .val (.long j1), .second, .val (.int i2), .val (.int i3), .val (.int i4), .val (.int i5), .val (.int ea), .val (.int eb), .val (.int ec), .val (.int i4), .val (.int ga), .val (.int gb), .val (.ref b1), .val (.long z10), .second, .val (.int (((i5.toUInt32 >>> ((9 : Int32) &&& 31).toUInt32).toInt32) &&& (7 : Int32))), .val (.long (((((i5.toUInt32 >>> ((12 : Int32) &&& 31).toUInt32).toInt32) &&& (3 : Int32)) - (1 : Int32)).toInt64)), .second, .val (.long z13), .second, .val (.int (5 : Int32))] [(.int (5 : Int32)), (.int zz32)])) (fun _ k => XS.iload X32.here hx rfl (hb hby at_411) rfl k) ?_
                have l_ea := c_i2l ea
                have l_eb := c_i2l eb
                have l_ec := c_i2l ec
                have l_i4 := c_i2l i4
                have l_ga := c_i2l ga
                have l_gb := c_i2l gb
                have hin : ∀ k : Nat, z10.toInt = k → k < 5 → (zz32.toInt = -1 ∧ ∀ x : Nat, (fS k).toInt ≤ x → (x : Int) < (fS (k + 1)).toInt → (fdd x).toInt ≠ z13.toInt) ∨ ((fS k).toInt ≤ zz32.toInt ∧ zz32.toInt < (fS (k + 1)).toInt ∧ (fdd zz32.toInt.toNat).toInt = z13.toInt) := by
                  intro k hk h5
                  have eq9 : z10.toInt.toNat = k := by omega
                  have := zi32 ⟨by omega, by rw [own_l5]; omega⟩
                  rw [eq9] at this; exact this
                have hs1 : z10.toInt = 1 → (zz32.toInt = 0 ∧ z13.toInt = ea.toInt) ∨ (zz32.toInt = 1 ∧ z13.toInt = eb.toInt) ∨ (zz32.toInt = 2 ∧ z13.toInt = ec.toInt) ∨ (zz32.toInt = -1 ∧ z13.toInt ≠ ea.toInt ∧ z13.toInt ≠ eb.toInt ∧ z13.toInt ≠ ec.toInt) := by
                  intro hk
                  rcases hin 1 hk (by omega) with ⟨h1, h2⟩ | ⟨h1, h2, h3⟩
                  · simp only [Nat.reduceAdd] at h2
                    have y0 := h2 0 (by omega) (by omega)
                    rw [fd0] at y0
                    have y1 := h2 1 (by omega) (by omega)
                    rw [fd1] at y1
                    have y2 := h2 2 (by omega) (by omega)
                    rw [fd2] at y2
                    omega
                  · simp only [Nat.reduceAdd] at h2
                    have hh : zz32.toInt = 0 ∨ zz32.toInt = 1 ∨ zz32.toInt = 2 := by omega
                    rcases hh with hh | hh | hh
                    · rw [hh] at h3
                      have h4 : (fdd 0).toInt = z13.toInt := h3
                      rw [fd0] at h4; omega
                    · rw [hh] at h3
                      have h4 : (fdd 1).toInt = z13.toInt := h3
                      rw [fd1] at h4; omega
                    · rw [hh] at h3
                      have h4 : (fdd 2).toInt = z13.toInt := h3
                      rw [fd2] at h4; omega
                have hs2 : z10.toInt = 2 → (zz32.toInt = 3 ∧ z13.toInt = i4.toInt) ∨ (zz32.toInt = -1 ∧ z13.toInt ≠ i4.toInt) := by
                  intro hk
                  rcases hin 2 hk (by omega) with ⟨h1, h2⟩ | ⟨h1, h2, h3⟩
                  · simp only [Nat.reduceAdd] at h2
                    have y3 := h2 3 (by omega) (by omega)
                    rw [fd3] at y3
                    omega
                  · simp only [Nat.reduceAdd] at h2
                    have hh : zz32.toInt = 3 := by omega
                    rcases hh with hh
                    · rw [hh] at h3
                      have h4 : (fdd 3).toInt = z13.toInt := h3
                      rw [fd3] at h4; omega
                have hs3 : z10.toInt = 3 → (zz32.toInt = 4 ∧ z13.toInt = ga.toInt) ∨ (zz32.toInt = 5 ∧ z13.toInt = gb.toInt) ∨ (zz32.toInt = -1 ∧ z13.toInt ≠ ga.toInt ∧ z13.toInt ≠ gb.toInt) := by
                  intro hk
                  rcases hin 3 hk (by omega) with ⟨h1, h2⟩ | ⟨h1, h2, h3⟩
                  · simp only [Nat.reduceAdd] at h2
                    have y4 := h2 4 (by omega) (by omega)
                    rw [fd4] at y4
                    have y5 := h2 5 (by omega) (by omega)
                    rw [fd5] at y5
                    omega
                  · simp only [Nat.reduceAdd] at h2
                    have hh : zz32.toInt = 4 ∨ zz32.toInt = 5 := by omega
                    rcases hh with hh | hh
                    · rw [hh] at h3
                      have h4 : (fdd 4).toInt = z13.toInt := h3
                      rw [fd4] at h4; omega
                    · rw [hh] at h3
                      have h4 : (fdd 5).toInt = z13.toInt := h3
                      rw [fd5] at h4; omega
                have hso : z10.toInt ≠ 1 → z10.toInt ≠ 2 → z10.toInt ≠ 3 → zz32.toInt = -1 := by
                  intro h1 h2 h3
                  by_cases hr : 0 ≤ z10.toInt ∧ z10.toInt < (5 : Int32).toInt
                  · rw [own_l5] at hr
                    have hh : z10.toInt = 0 ∨ z10.toInt = 4 := by omega
                    rcases hh with hh | hh
                    · rcases hin 0 hh (by omega) with ⟨h4, -⟩ | ⟨h4, h5, -⟩
                      · exact h4
                      · simp only [Nat.reduceAdd] at h5; omega
                    · rcases hin 4 hh (by omega) with ⟨h4, -⟩ | ⟨h4, h5, -⟩
                      · exact h4
                      · simp only [Nat.reduceAdd] at h5; omega
                  · exact zo32 hr
                have hq : zz32 = (5 : Int32) := by (try simp only [own_ln1, own_l0, own_l1, own_l2, own_l3, own_l4, own_l5, own_l6, own_l7, own_l8, own_l9, own_l12, own_l32, own_L0, own_L1, own_L2, own_L3, own_L7, Int32.lt_iff_toInt_lt, ← Int32.toInt_inj, Int64.lt_iff_toInt_lt, ← Int64.toInt_inj, and_true, true_and, and_false, false_and, or_true, true_or, or_false, false_or, not_true_eq_false, not_false_eq_true, ne_eq, true_implies, false_implies, implies_true] at hz11 hz14 c16 c24 c28 c29 c31 ⊢) <;> omega
                refine own_go (T' := T32) (g' := (mkF m 416 #[.val (.long j0), .second, .val (.long j1), .second, .val (.int i2), .val (.int i3), .val (.int i4), .val (.int i5), .val (.int ea), .val (.int eb), .val (.int ec), .val (.int i4), .val (.int ga), .val (.int gb), .val (.ref b1), .val (.long z10), .second, .val (.int (((i5.toUInt32 >>> ((9 : Int32) &&& 31).toUInt32).toInt32) &&& (7 : Int32))), .val (.long (((((i5.toUInt32 >>> ((12 : Int32) &&& 31).toUInt32).toInt32) &&& (3 : Int32)) - (1 : Int32)).toInt64)), .second, .val (.long z13), .second, .val (.int (5 : Int32))] [])) (fun _ k => XS.icmpNo X32.here hx rfl (hb hby at_413) rfl (teq hq).2 k) ?_
                refine own_go (T' := T32) (g' := (mkF m 417 #[.val (.long j0), .second, .val (.long j1), .second, .val (.int i2), .val (.int i3), .val (.int i4), .val (.int i5), .val (.int ea), .val (.int eb), .val (.int ec), .val (.int i4), .val (.int ga), .val (.int gb), .val (.ref b1), .val (.long z10), .second, .val (.int (((i5.toUInt32 >>> ((9 : Int32) &&& 31).toUInt32).toInt32) &&& (7 : Int32))), .val (.long (((((i5.toUInt32 >>> ((12 : Int32) &&& 31).toUInt32).toInt32) &&& (3 : Int32)) - (1 : Int32)).toInt64)), .second, .val (.long z13), .second, .val (.int (5 : Int32))] [(.int (1 : Int32))])) (fun _ k => XS.iconst X32.here hx rfl (hb hby at_416) k) ?_
                refine own_go (T' := T32) (g' := (mkF m 421 #[.val (.long j0), .second, .val (.long j1), .second, .val (.int i2), .val (.int i3), .val (.int i4), .val (.int i5), .val (.int ea), .val (.int eb), .val (.int ec), .val (.int i4), .val (.int ga), .val (.int gb), .val (.ref b1), .val (.long z10), .second, .val (.int (((i5.toUInt32 >>> ((9 : Int32) &&& 31).toUInt32).toInt32) &&& (7 : Int32))), .val (.long (((((i5.toUInt32 >>> ((12 : Int32) &&& 31).toUInt32).toInt32) &&& (3 : Int32)) - (1 : Int32)).toInt64)), .second, .val (.long z13), .second, .val (.int (5 : Int32))] [(.int (1 : Int32))])) (fun _ k => XS.goto X32.here hx rfl (pc0 := 417) (pc' := 421) rfl (hb hby at_417) (by decide) (by decide) k) ?_
                refine own_ret X32 Bd.notSynchronized (some (.int (1 : Int32))) (fun h => by rw [Bd.returns] at h; cases h) (fun fs hr => retN X32 hx (t := .boolean) Bd.returns (by simp) (hb hby at_421) hr) ?_ (by decide) (by decide)
                show (own_Q0 Z j0 j1 i2 i3 i4 i5 h0 n0) (some (.int (1 : Int32))) T32.heap _
                rw [eq32]
                exact ⟨rfl, NF⟩
              · refine own_go (T' := T9) (g' := (mkF m 402 #[.val (.long j0), .second, .val (.long j1), .second, .val (.int i2), .val (.int i3), .val (.int i4), .val (.int i5), .val (.int ea), .val (.int eb), .val (.int ec), .val (.int i4), .val (.int ga), .val (.int gb), .val (.ref b1), .val (.long z10), .second, .val (.int (((i5.toUInt32 >>> ((9 : Int32) &&& 31).toUInt32).toInt32) &&& (7 : Int32))), .val (.long (((((i5.toUInt32 >>> ((12 : Int32) &&& 31).toUInt32).toInt32) &&& (3 : Int32)) - (1 : Int32)).toInt64)), .second, .val (.long z13), .second, .val (.int (-1 : Int32))] [])) (fun _ k => XS.ifYes X9.here hx rfl (pc0 := 396) (pc' := 402) rfl (hb hby at_396) rfl ((if0 _ _).trans (feq (fun h => c31 ((lw_eq z13 (gb.toInt64)).mp h))).2) (by decide) (by decide) k) ?_
                refine own_go (T' := T9) (g' := (mkF m 404 #[.val (.long j0), .second, .val (.long j1), .second, .val (.int i2), .val (.int i3), .val (.int i4), .val (.int i5), .val (.int ea), .val (.int eb), .val (.int ec), .val (.int i4), .val (.int ga), .val (.int gb), .val (.ref b1), .val (.long z10), .second, .val (.int (((i5.toUInt32 >>> ((9 : Int32) &&& 31).toUInt32).toInt32) &&& (7 : Int32))), .val (.long (((((i5.toUInt32 >>> ((12 : Int32) &&& 31).toUInt32).toInt32) &&& (3 : Int32)) - (1 : Int32)).toInt64)), .second, .val (.long z13), .second, .val (.int (-1 : Int32))] [(.ref b1)])) (fun _ k => XS.aload X9.here hx rfl (hb hby at_402) rfl rfl k) ?_
                refine own_go (T' := T9) (g' := (mkF m 406 #[.val (.long j0), .second, .val (.long j1), .second, .val (.int i2), .val (.int i3), .val (.int i4), .val (.int i5), .val (.int ea), .val (.int eb), .val (.int ec), .val (.int i4), .val (.int ga), .val (.int gb), .val (.ref b1), .val (.long z10), .second, .val (.int (((i5.toUInt32 >>> ((9 : Int32) &&& 31).toUInt32).toInt32) &&& (7 : Int32))), .val (.long (((((i5.toUInt32 >>> ((12 : Int32) &&& 31).toUInt32).toInt32) &&& (3 : Int32)) - (1 : Int32)).toInt64)), .second, .val (.long z13), .second, .val (.int (-1 : Int32))] [(.long z10), (.ref b1)])) (fun _ k => XS.lload X9.here hx rfl (hb hby at_404) rfl k) ?_
                refine own_go (T' := T9) (g' := (mkF m 408 #[.val (.long j0), .second, .val (.long j1), .second, .val (.int i2), .val (.int i3), .val (.int i4), .val (.int i5), .val (.int ea), .val (.int eb), .val (.int ec), .val (.int i4), .val (.int ga), .val (.int gb), .val (.ref b1), .val (.long z10), .second, .val (.int (((i5.toUInt32 >>> ((9 : Int32) &&& 31).toUInt32).toInt32) &&& (7 : Int32))), .val (.long (((((i5.toUInt32 >>> ((12 : Int32) &&& 31).toUInt32).toInt32) &&& (3 : Int32)) - (1 : Int32)).toInt64)), .second, .val (.long z13), .second, .val (.int (-1 : Int32))] [(.long z13), (.long z10), (.ref b1)])) (fun _ k => XS.lload X9.here hx rfl (hb hby at_406) rfl k) ?_
                obtain ⟨cq33, kq33, q33a, q33b, q33c⟩ := isOf hZ rfl E_b1
                obtain ⟨_, _, ⟨T33, L33, k33, n33⟩, -, X33, ⟨Lc33, hQ33, l33, y33, z33⟩, st33⟩ := X9.virtualBack hx (y := (⟨"com/example/nimble_twig/nimbletwig/index/store/StoredStreams", "place", "(JJ)I"⟩ : MethodName)) (z := (⟨"com/example/nimble_twig/nimbletwig/index/store/StoredStreams", "place", "(JJ)I"⟩ : MethodName)) hown (mvT hZ (hw _ (List.mem_of_getElem? (i := 49) rfl))) (mvT hZ (hw _ (List.mem_of_getElem? (i := 50) rfl))) (notFace_of_selects (args := #[]) (mvT hZ (hw _ (List.mem_of_getElem? (i := 52) rfl)))) (mvT hZ (hw _ (List.mem_of_getElem? (i := 52) rfl))) (mvT hZ (hw _ (List.mem_of_getElem? (i := 51) rfl))) (by decide) (backOf (W := 0) (own_rm5 l Z a0 hw [] b1 z10 z13 s2 t2 dA (5 : Int32) (6 : Int32) fS fT fdd T9.heap n0 Zs F_b1_firstStreams F_b1_firstDepths F_b1_depths I_s2 I_t2 I_dA hps hpm hpo) hZ (hw _ (List.mem_of_getElem? (i := 53) rfl)) (hw _ (List.mem_of_getElem? (i := 2) rfl)) (by decide) (by decide)) q33a q33c (g := (mkF m 408 #[.val (.long j0), .second, .val (.long j1), .second, .val (.int i2), .val (.int i3), .val (.int i4), .val (.int i5), .val (.int ea), .val (.int eb), .val (.int ec), .val (.int i4), .val (.int ga), .val (.int gb), .val (.ref b1), .val (.long z10), .second, .val (.int (((i5.toUInt32 >>> ((9 : Int32) &&& 31).toUInt32).toInt32) &&& (7 : Int32))), .val (.long (((((i5.toUInt32 >>> ((12 : Int32) &&& 31).toUInt32).toInt32) &&& (3 : Int32)) - (1 : Int32)).toInt64)), .second, .val (.long z13), .second, .val (.int (-1 : Int32))] [(.long z13), (.long z10), (.ref b1)])) rfl (by rw [hml]; rfl) (Steps.refl _) (argsL := [(.long z10), (.long z13)]) (rest := []) (lenOf own_pd0_2 rfl) rfl (by show 2 * 0 + _ ≤ _; exact Nat.le_of_eq rfl) (hb hby at_408) (fun _ _ => ⟨rfl, rfl, (by decide : 12 + 0 ≤ _), (by decide : 66 + 0 ≤ _)⟩)
                dsimp only [Pt.U, Pt.locs, Pt.cells, Pt.slots] at X33 l33 y33 z33 st33 hQ33
                subst l33 y33 z33
                obtain ⟨⟨zz33, rfl, zo33, zi33⟩, NQ33, eq33⟩ := hQ33
                have NF := Fr.app NF NQ33
                refine own_go (T' := T33) (g' := (mkF m 411 #[.val (.long j0), .second, .val (.long j1), .second, .val (.int i2), .val (.int i3), .val (.int i4), .val (.int i5), .val (.int ea), .val (.int eb), .val (.int ec), .val (.int i4), .val (.int ga), .val (.int gb), .val (.ref b1), .val (.long z10), .second, .val (.int (((i5.toUInt32 >>> ((9 : Int32) &&& 31).toUInt32).toInt32) &&& (7 : Int32))), .val (.long (((((i5.toUInt32 >>> ((12 : Int32) &&& 31).toUInt32).toInt32) &&& (3 : Int32)) - (1 : Int32)).toInt64)), .second, .val (.long z13), .second, .val (.int (-1 : Int32))] [(.int zz33)])) (fun _ k => st33.trans k) ?_
                refine own_go (T' := T33) (g' := (mkF m 413 #[.val (.long j0), .second, .val (.long j1), .second, .val (.int i2), .val (.int i3), .val (.int i4), .val (.int i5), .val (.int ea), .val (.int eb), .val (.int ec), .val (.int i4), .val (.int ga), .val (.int gb), .val (.ref b1), .val (.long z10), .second, .val (.int (((i5.toUInt32 >>> ((9 : Int32) &&& 31).toUInt32).toInt32) &&& (7 : Int32))), .val (.long (((((i5.toUInt32 >>> ((12 : Int32) &&& 31).toUInt32).toInt32) &&& (3 : Int32)) - (1 : Int32)).toInt64)), .second, .val (.long z13), .second, .val (.int (-1 : Int32))] [(.int (-1 : Int32)), (.int zz33)])) (fun _ k => XS.iload X33.here hx rfl (hb hby at_411) rfl k) ?_
                have l_ea := c_i2l ea
                have l_eb := c_i2l eb
                have l_ec := c_i2l ec
                have l_i4 := c_i2l i4
                have l_ga := c_i2l ga
                have l_gb := c_i2l gb
                have hin : ∀ k : Nat, z10.toInt = k → k < 5 → (zz33.toInt = -1 ∧ ∀ x : Nat, (fS k).toInt ≤ x → (x : Int) < (fS (k + 1)).toInt → (fdd x).toInt ≠ z13.toInt) ∨ ((fS k).toInt ≤ zz33.toInt ∧ zz33.toInt < (fS (k + 1)).toInt ∧ (fdd zz33.toInt.toNat).toInt = z13.toInt) := by
                  intro k hk h5
                  have eq9 : z10.toInt.toNat = k := by omega
                  have := zi33 ⟨by omega, by rw [own_l5]; omega⟩
                  rw [eq9] at this; exact this
                have hs1 : z10.toInt = 1 → (zz33.toInt = 0 ∧ z13.toInt = ea.toInt) ∨ (zz33.toInt = 1 ∧ z13.toInt = eb.toInt) ∨ (zz33.toInt = 2 ∧ z13.toInt = ec.toInt) ∨ (zz33.toInt = -1 ∧ z13.toInt ≠ ea.toInt ∧ z13.toInt ≠ eb.toInt ∧ z13.toInt ≠ ec.toInt) := by
                  intro hk
                  rcases hin 1 hk (by omega) with ⟨h1, h2⟩ | ⟨h1, h2, h3⟩
                  · simp only [Nat.reduceAdd] at h2
                    have y0 := h2 0 (by omega) (by omega)
                    rw [fd0] at y0
                    have y1 := h2 1 (by omega) (by omega)
                    rw [fd1] at y1
                    have y2 := h2 2 (by omega) (by omega)
                    rw [fd2] at y2
                    omega
                  · simp only [Nat.reduceAdd] at h2
                    have hh : zz33.toInt = 0 ∨ zz33.toInt = 1 ∨ zz33.toInt = 2 := by omega
                    rcases hh with hh | hh | hh
                    · rw [hh] at h3
                      have h4 : (fdd 0).toInt = z13.toInt := h3
                      rw [fd0] at h4; omega
                    · rw [hh] at h3
                      have h4 : (fdd 1).toInt = z13.toInt := h3
                      rw [fd1] at h4; omega
                    · rw [hh] at h3
                      have h4 : (fdd 2).toInt = z13.toInt := h3
                      rw [fd2] at h4; omega
                have hs2 : z10.toInt = 2 → (zz33.toInt = 3 ∧ z13.toInt = i4.toInt) ∨ (zz33.toInt = -1 ∧ z13.toInt ≠ i4.toInt) := by
                  intro hk
                  rcases hin 2 hk (by omega) with ⟨h1, h2⟩ | ⟨h1, h2, h3⟩
                  · simp only [Nat.reduceAdd] at h2
                    have y3 := h2 3 (by omega) (by omega)
                    rw [fd3] at y3
                    omega
                  · simp only [Nat.reduceAdd] at h2
                    have hh : zz33.toInt = 3 := by omega
                    rcases hh with hh
                    · rw [hh] at h3
                      have h4 : (fdd 3).toInt = z13.toInt := h3
                      rw [fd3] at h4; omega
                have hs3 : z10.toInt = 3 → (zz33.toInt = 4 ∧ z13.toInt = ga.toInt) ∨ (zz33.toInt = 5 ∧ z13.toInt = gb.toInt) ∨ (zz33.toInt = -1 ∧ z13.toInt ≠ ga.toInt ∧ z13.toInt ≠ gb.toInt) := by
                  intro hk
                  rcases hin 3 hk (by omega) with ⟨h1, h2⟩ | ⟨h1, h2, h3⟩
                  · simp only [Nat.reduceAdd] at h2
                    have y4 := h2 4 (by omega) (by omega)
                    rw [fd4] at y4
                    have y5 := h2 5 (by omega) (by omega)
                    rw [fd5] at y5
                    omega
                  · simp only [Nat.reduceAdd] at h2
                    have hh : zz33.toInt = 4 ∨ zz33.toInt = 5 := by omega
                    rcases hh with hh | hh
                    · rw [hh] at h3
                      have h4 : (fdd 4).toInt = z13.toInt := h3
                      rw [fd4] at h4; omega
                    · rw [hh] at h3
                      have h4 : (fdd 5).toInt = z13.toInt := h3
                      rw [fd5] at h4; omega
                have hso : z10.toInt ≠ 1 → z10.toInt ≠ 2 → z10.toInt ≠ 3 → zz33.toInt = -1 := by
                  intro h1 h2 h3
                  by_cases hr : 0 ≤ z10.toInt ∧ z10.toInt < (5 : Int32).toInt
                  · rw [own_l5] at hr
                    have hh : z10.toInt = 0 ∨ z10.toInt = 4 := by omega
                    rcases hh with hh | hh
                    · rcases hin 0 hh (by omega) with ⟨h4, -⟩ | ⟨h4, h5, -⟩
                      · exact h4
                      · simp only [Nat.reduceAdd] at h5; omega
                    · rcases hin 4 hh (by omega) with ⟨h4, -⟩ | ⟨h4, h5, -⟩
                      · exact h4
                      · simp only [Nat.reduceAdd] at h5; omega
                  · exact zo33 hr
                have hq : zz33 = (-1 : Int32) := by (try simp only [own_ln1, own_l0, own_l1, own_l2, own_l3, own_l4, own_l5, own_l6, own_l7, own_l8, own_l9, own_l12, own_l32, own_L0, own_L1, own_L2, own_L3, own_L7, Int32.lt_iff_toInt_lt, ← Int32.toInt_inj, Int64.lt_iff_toInt_lt, ← Int64.toInt_inj, and_true, true_and, and_false, false_and, or_true, true_or, or_false, false_or, not_true_eq_false, not_false_eq_true, ne_eq, true_implies, false_implies, implies_true] at hz11 hz14 c16 c24 c28 c29 c31 ⊢) <;> omega
                refine own_go (T' := T33) (g' := (mkF m 416 #[.val (.long j0), .second, .val (.long j1), .second, .val (.int i2), .val (.int i3), .val (.int i4), .val (.int i5), .val (.int ea), .val (.int eb), .val (.int ec), .val (.int i4), .val (.int ga), .val (.int gb), .val (.ref b1), .val (.long z10), .second, .val (.int (((i5.toUInt32 >>> ((9 : Int32) &&& 31).toUInt32).toInt32) &&& (7 : Int32))), .val (.long (((((i5.toUInt32 >>> ((12 : Int32) &&& 31).toUInt32).toInt32) &&& (3 : Int32)) - (1 : Int32)).toInt64)), .second, .val (.long z13), .second, .val (.int (-1 : Int32))] [])) (fun _ k => XS.icmpNo X33.here hx rfl (hb hby at_413) rfl (teq hq).2 k) ?_
                refine own_go (T' := T33) (g' := (mkF m 417 #[.val (.long j0), .second, .val (.long j1), .second, .val (.int i2), .val (.int i3), .val (.int i4), .val (.int i5), .val (.int ea), .val (.int eb), .val (.int ec), .val (.int i4), .val (.int ga), .val (.int gb), .val (.ref b1), .val (.long z10), .second, .val (.int (((i5.toUInt32 >>> ((9 : Int32) &&& 31).toUInt32).toInt32) &&& (7 : Int32))), .val (.long (((((i5.toUInt32 >>> ((12 : Int32) &&& 31).toUInt32).toInt32) &&& (3 : Int32)) - (1 : Int32)).toInt64)), .second, .val (.long z13), .second, .val (.int (-1 : Int32))] [(.int (1 : Int32))])) (fun _ k => XS.iconst X33.here hx rfl (hb hby at_416) k) ?_
                refine own_go (T' := T33) (g' := (mkF m 421 #[.val (.long j0), .second, .val (.long j1), .second, .val (.int i2), .val (.int i3), .val (.int i4), .val (.int i5), .val (.int ea), .val (.int eb), .val (.int ec), .val (.int i4), .val (.int ga), .val (.int gb), .val (.ref b1), .val (.long z10), .second, .val (.int (((i5.toUInt32 >>> ((9 : Int32) &&& 31).toUInt32).toInt32) &&& (7 : Int32))), .val (.long (((((i5.toUInt32 >>> ((12 : Int32) &&& 31).toUInt32).toInt32) &&& (3 : Int32)) - (1 : Int32)).toInt64)), .second, .val (.long z13), .second, .val (.int (-1 : Int32))] [(.int (1 : Int32))])) (fun _ k => XS.goto X33.here hx rfl (pc0 := 417) (pc' := 421) rfl (hb hby at_417) (by decide) (by decide) k) ?_
                refine own_ret X33 Bd.notSynchronized (some (.int (1 : Int32))) (fun h => by rw [Bd.returns] at h; cases h) (fun fs hr => retN X33 hx (t := .boolean) Bd.returns (by simp) (hb hby at_421) hr) ?_ (by decide) (by decide)
                show (own_Q0 Z j0 j1 i2 i3 i4 i5 h0 n0) (some (.int (1 : Int32))) T33.heap _
                rw [eq33]
                exact ⟨rfl, NF⟩
          · refine own_go (T' := T9) (g' := (mkF m 402 #[.val (.long j0), .second, .val (.long j1), .second, .val (.int i2), .val (.int i3), .val (.int i4), .val (.int i5), .val (.int ea), .val (.int eb), .val (.int ec), .val (.int i4), .val (.int ga), .val (.int gb), .val (.ref b1), .val (.long z10), .second, .val (.int (((i5.toUInt32 >>> ((9 : Int32) &&& 31).toUInt32).toInt32) &&& (7 : Int32))), .val (.long (((((i5.toUInt32 >>> ((12 : Int32) &&& 31).toUInt32).toInt32) &&& (3 : Int32)) - (1 : Int32)).toInt64)), .second, .val (.long z13), .second, .val (.int (-1 : Int32))] [])) (fun _ k => XS.ifYes X9.here hx rfl (pc0 := 372) (pc' := 402) rfl (hb hby at_372) rfl ((if0 _ _).trans (feq (fun h => c28 ((lw_eq z10 (3 : Int64)).mp h))).2) (by decide) (by decide) k) ?_
            refine own_go (T' := T9) (g' := (mkF m 404 #[.val (.long j0), .second, .val (.long j1), .second, .val (.int i2), .val (.int i3), .val (.int i4), .val (.int i5), .val (.int ea), .val (.int eb), .val (.int ec), .val (.int i4), .val (.int ga), .val (.int gb), .val (.ref b1), .val (.long z10), .second, .val (.int (((i5.toUInt32 >>> ((9 : Int32) &&& 31).toUInt32).toInt32) &&& (7 : Int32))), .val (.long (((((i5.toUInt32 >>> ((12 : Int32) &&& 31).toUInt32).toInt32) &&& (3 : Int32)) - (1 : Int32)).toInt64)), .second, .val (.long z13), .second, .val (.int (-1 : Int32))] [(.ref b1)])) (fun _ k => XS.aload X9.here hx rfl (hb hby at_402) rfl rfl k) ?_
            refine own_go (T' := T9) (g' := (mkF m 406 #[.val (.long j0), .second, .val (.long j1), .second, .val (.int i2), .val (.int i3), .val (.int i4), .val (.int i5), .val (.int ea), .val (.int eb), .val (.int ec), .val (.int i4), .val (.int ga), .val (.int gb), .val (.ref b1), .val (.long z10), .second, .val (.int (((i5.toUInt32 >>> ((9 : Int32) &&& 31).toUInt32).toInt32) &&& (7 : Int32))), .val (.long (((((i5.toUInt32 >>> ((12 : Int32) &&& 31).toUInt32).toInt32) &&& (3 : Int32)) - (1 : Int32)).toInt64)), .second, .val (.long z13), .second, .val (.int (-1 : Int32))] [(.long z10), (.ref b1)])) (fun _ k => XS.lload X9.here hx rfl (hb hby at_404) rfl k) ?_
            refine own_go (T' := T9) (g' := (mkF m 408 #[.val (.long j0), .second, .val (.long j1), .second, .val (.int i2), .val (.int i3), .val (.int i4), .val (.int i5), .val (.int ea), .val (.int eb), .val (.int ec), .val (.int i4), .val (.int ga), .val (.int gb), .val (.ref b1), .val (.long z10), .second, .val (.int (((i5.toUInt32 >>> ((9 : Int32) &&& 31).toUInt32).toInt32) &&& (7 : Int32))), .val (.long (((((i5.toUInt32 >>> ((12 : Int32) &&& 31).toUInt32).toInt32) &&& (3 : Int32)) - (1 : Int32)).toInt64)), .second, .val (.long z13), .second, .val (.int (-1 : Int32))] [(.long z13), (.long z10), (.ref b1)])) (fun _ k => XS.lload X9.here hx rfl (hb hby at_406) rfl k) ?_
            obtain ⟨cq34, kq34, q34a, q34b, q34c⟩ := isOf hZ rfl E_b1
            obtain ⟨_, _, ⟨T34, L34, k34, n34⟩, -, X34, ⟨Lc34, hQ34, l34, y34, z34⟩, st34⟩ := X9.virtualBack hx (y := (⟨"com/example/nimble_twig/nimbletwig/index/store/StoredStreams", "place", "(JJ)I"⟩ : MethodName)) (z := (⟨"com/example/nimble_twig/nimbletwig/index/store/StoredStreams", "place", "(JJ)I"⟩ : MethodName)) hown (mvT hZ (hw _ (List.mem_of_getElem? (i := 49) rfl))) (mvT hZ (hw _ (List.mem_of_getElem? (i := 50) rfl))) (notFace_of_selects (args := #[]) (mvT hZ (hw _ (List.mem_of_getElem? (i := 52) rfl)))) (mvT hZ (hw _ (List.mem_of_getElem? (i := 52) rfl))) (mvT hZ (hw _ (List.mem_of_getElem? (i := 51) rfl))) (by decide) (backOf (W := 0) (own_rm5 l Z a0 hw [] b1 z10 z13 s2 t2 dA (5 : Int32) (6 : Int32) fS fT fdd T9.heap n0 Zs F_b1_firstStreams F_b1_firstDepths F_b1_depths I_s2 I_t2 I_dA hps hpm hpo) hZ (hw _ (List.mem_of_getElem? (i := 53) rfl)) (hw _ (List.mem_of_getElem? (i := 2) rfl)) (by decide) (by decide)) q34a q34c (g := (mkF m 408 #[.val (.long j0), .second, .val (.long j1), .second, .val (.int i2), .val (.int i3), .val (.int i4), .val (.int i5), .val (.int ea), .val (.int eb), .val (.int ec), .val (.int i4), .val (.int ga), .val (.int gb), .val (.ref b1), .val (.long z10), .second, .val (.int (((i5.toUInt32 >>> ((9 : Int32) &&& 31).toUInt32).toInt32) &&& (7 : Int32))), .val (.long (((((i5.toUInt32 >>> ((12 : Int32) &&& 31).toUInt32).toInt32) &&& (3 : Int32)) - (1 : Int32)).toInt64)), .second, .val (.long z13), .second, .val (.int (-1 : Int32))] [(.long z13), (.long z10), (.ref b1)])) rfl (by rw [hml]; rfl) (Steps.refl _) (argsL := [(.long z10), (.long z13)]) (rest := []) (lenOf own_pd0_2 rfl) rfl (by show 2 * 0 + _ ≤ _; exact Nat.le_of_eq rfl) (hb hby at_408) (fun _ _ => ⟨rfl, rfl, (by decide : 12 + 0 ≤ _), (by decide : 66 + 0 ≤ _)⟩)
            dsimp only [Pt.U, Pt.locs, Pt.cells, Pt.slots] at X34 l34 y34 z34 st34 hQ34
            subst l34 y34 z34
            obtain ⟨⟨zz34, rfl, zo34, zi34⟩, NQ34, eq34⟩ := hQ34
            have NF := Fr.app NF NQ34
            refine own_go (T' := T34) (g' := (mkF m 411 #[.val (.long j0), .second, .val (.long j1), .second, .val (.int i2), .val (.int i3), .val (.int i4), .val (.int i5), .val (.int ea), .val (.int eb), .val (.int ec), .val (.int i4), .val (.int ga), .val (.int gb), .val (.ref b1), .val (.long z10), .second, .val (.int (((i5.toUInt32 >>> ((9 : Int32) &&& 31).toUInt32).toInt32) &&& (7 : Int32))), .val (.long (((((i5.toUInt32 >>> ((12 : Int32) &&& 31).toUInt32).toInt32) &&& (3 : Int32)) - (1 : Int32)).toInt64)), .second, .val (.long z13), .second, .val (.int (-1 : Int32))] [(.int zz34)])) (fun _ k => st34.trans k) ?_
            refine own_go (T' := T34) (g' := (mkF m 413 #[.val (.long j0), .second, .val (.long j1), .second, .val (.int i2), .val (.int i3), .val (.int i4), .val (.int i5), .val (.int ea), .val (.int eb), .val (.int ec), .val (.int i4), .val (.int ga), .val (.int gb), .val (.ref b1), .val (.long z10), .second, .val (.int (((i5.toUInt32 >>> ((9 : Int32) &&& 31).toUInt32).toInt32) &&& (7 : Int32))), .val (.long (((((i5.toUInt32 >>> ((12 : Int32) &&& 31).toUInt32).toInt32) &&& (3 : Int32)) - (1 : Int32)).toInt64)), .second, .val (.long z13), .second, .val (.int (-1 : Int32))] [(.int (-1 : Int32)), (.int zz34)])) (fun _ k => XS.iload X34.here hx rfl (hb hby at_411) rfl k) ?_
            have l_ea := c_i2l ea
            have l_eb := c_i2l eb
            have l_ec := c_i2l ec
            have l_i4 := c_i2l i4
            have l_ga := c_i2l ga
            have l_gb := c_i2l gb
            have hin : ∀ k : Nat, z10.toInt = k → k < 5 → (zz34.toInt = -1 ∧ ∀ x : Nat, (fS k).toInt ≤ x → (x : Int) < (fS (k + 1)).toInt → (fdd x).toInt ≠ z13.toInt) ∨ ((fS k).toInt ≤ zz34.toInt ∧ zz34.toInt < (fS (k + 1)).toInt ∧ (fdd zz34.toInt.toNat).toInt = z13.toInt) := by
              intro k hk h5
              have eq9 : z10.toInt.toNat = k := by omega
              have := zi34 ⟨by omega, by rw [own_l5]; omega⟩
              rw [eq9] at this; exact this
            have hs1 : z10.toInt = 1 → (zz34.toInt = 0 ∧ z13.toInt = ea.toInt) ∨ (zz34.toInt = 1 ∧ z13.toInt = eb.toInt) ∨ (zz34.toInt = 2 ∧ z13.toInt = ec.toInt) ∨ (zz34.toInt = -1 ∧ z13.toInt ≠ ea.toInt ∧ z13.toInt ≠ eb.toInt ∧ z13.toInt ≠ ec.toInt) := by
              intro hk
              rcases hin 1 hk (by omega) with ⟨h1, h2⟩ | ⟨h1, h2, h3⟩
              · simp only [Nat.reduceAdd] at h2
                have y0 := h2 0 (by omega) (by omega)
                rw [fd0] at y0
                have y1 := h2 1 (by omega) (by omega)
                rw [fd1] at y1
                have y2 := h2 2 (by omega) (by omega)
                rw [fd2] at y2
                omega
              · simp only [Nat.reduceAdd] at h2
                have hh : zz34.toInt = 0 ∨ zz34.toInt = 1 ∨ zz34.toInt = 2 := by omega
                rcases hh with hh | hh | hh
                · rw [hh] at h3
                  have h4 : (fdd 0).toInt = z13.toInt := h3
                  rw [fd0] at h4; omega
                · rw [hh] at h3
                  have h4 : (fdd 1).toInt = z13.toInt := h3
                  rw [fd1] at h4; omega
                · rw [hh] at h3
                  have h4 : (fdd 2).toInt = z13.toInt := h3
                  rw [fd2] at h4; omega
            have hs2 : z10.toInt = 2 → (zz34.toInt = 3 ∧ z13.toInt = i4.toInt) ∨ (zz34.toInt = -1 ∧ z13.toInt ≠ i4.toInt) := by
              intro hk
              rcases hin 2 hk (by omega) with ⟨h1, h2⟩ | ⟨h1, h2, h3⟩
              · simp only [Nat.reduceAdd] at h2
                have y3 := h2 3 (by omega) (by omega)
                rw [fd3] at y3
                omega
              · simp only [Nat.reduceAdd] at h2
                have hh : zz34.toInt = 3 := by omega
                rcases hh with hh
                · rw [hh] at h3
                  have h4 : (fdd 3).toInt = z13.toInt := h3
                  rw [fd3] at h4; omega
            have hs3 : z10.toInt = 3 → (zz34.toInt = 4 ∧ z13.toInt = ga.toInt) ∨ (zz34.toInt = 5 ∧ z13.toInt = gb.toInt) ∨ (zz34.toInt = -1 ∧ z13.toInt ≠ ga.toInt ∧ z13.toInt ≠ gb.toInt) := by
              intro hk
              rcases hin 3 hk (by omega) with ⟨h1, h2⟩ | ⟨h1, h2, h3⟩
              · simp only [Nat.reduceAdd] at h2
                have y4 := h2 4 (by omega) (by omega)
                rw [fd4] at y4
                have y5 := h2 5 (by omega) (by omega)
                rw [fd5] at y5
                omega
              · simp only [Nat.reduceAdd] at h2
                have hh : zz34.toInt = 4 ∨ zz34.toInt = 5 := by omega
                rcases hh with hh | hh
                · rw [hh] at h3
                  have h4 : (fdd 4).toInt = z13.toInt := h3
                  rw [fd4] at h4; omega
                · rw [hh] at h3
                  have h4 : (fdd 5).toInt = z13.toInt := h3
                  rw [fd5] at h4; omega
            have hso : z10.toInt ≠ 1 → z10.toInt ≠ 2 → z10.toInt ≠ 3 → zz34.toInt = -1 := by
              intro h1 h2 h3
              by_cases hr : 0 ≤ z10.toInt ∧ z10.toInt < (5 : Int32).toInt
              · rw [own_l5] at hr
                have hh : z10.toInt = 0 ∨ z10.toInt = 4 := by omega
                rcases hh with hh | hh
                · rcases hin 0 hh (by omega) with ⟨h4, -⟩ | ⟨h4, h5, -⟩
                  · exact h4
                  · simp only [Nat.reduceAdd] at h5; omega
                · rcases hin 4 hh (by omega) with ⟨h4, -⟩ | ⟨h4, h5, -⟩
                  · exact h4
                  · simp only [Nat.reduceAdd] at h5; omega
              · exact zo34 hr
            have hq : zz34 = (-1 : Int32) := by (try simp only [own_ln1, own_l0, own_l1, own_l2, own_l3, own_l4, own_l5, own_l6, own_l7, own_l8, own_l9, own_l12, own_l32, own_L0, own_L1, own_L2, own_L3, own_L7, Int32.lt_iff_toInt_lt, ← Int32.toInt_inj, Int64.lt_iff_toInt_lt, ← Int64.toInt_inj, and_true, true_and, and_false, false_and, or_true, true_or, or_false, false_or, not_true_eq_false, not_false_eq_true, ne_eq, true_implies, false_implies, implies_true] at hz11 hz14 c16 c24 c28 ⊢) <;> omega
            refine own_go (T' := T34) (g' := (mkF m 416 #[.val (.long j0), .second, .val (.long j1), .second, .val (.int i2), .val (.int i3), .val (.int i4), .val (.int i5), .val (.int ea), .val (.int eb), .val (.int ec), .val (.int i4), .val (.int ga), .val (.int gb), .val (.ref b1), .val (.long z10), .second, .val (.int (((i5.toUInt32 >>> ((9 : Int32) &&& 31).toUInt32).toInt32) &&& (7 : Int32))), .val (.long (((((i5.toUInt32 >>> ((12 : Int32) &&& 31).toUInt32).toInt32) &&& (3 : Int32)) - (1 : Int32)).toInt64)), .second, .val (.long z13), .second, .val (.int (-1 : Int32))] [])) (fun _ k => XS.icmpNo X34.here hx rfl (hb hby at_413) rfl (teq hq).2 k) ?_
            refine own_go (T' := T34) (g' := (mkF m 417 #[.val (.long j0), .second, .val (.long j1), .second, .val (.int i2), .val (.int i3), .val (.int i4), .val (.int i5), .val (.int ea), .val (.int eb), .val (.int ec), .val (.int i4), .val (.int ga), .val (.int gb), .val (.ref b1), .val (.long z10), .second, .val (.int (((i5.toUInt32 >>> ((9 : Int32) &&& 31).toUInt32).toInt32) &&& (7 : Int32))), .val (.long (((((i5.toUInt32 >>> ((12 : Int32) &&& 31).toUInt32).toInt32) &&& (3 : Int32)) - (1 : Int32)).toInt64)), .second, .val (.long z13), .second, .val (.int (-1 : Int32))] [(.int (1 : Int32))])) (fun _ k => XS.iconst X34.here hx rfl (hb hby at_416) k) ?_
            refine own_go (T' := T34) (g' := (mkF m 421 #[.val (.long j0), .second, .val (.long j1), .second, .val (.int i2), .val (.int i3), .val (.int i4), .val (.int i5), .val (.int ea), .val (.int eb), .val (.int ec), .val (.int i4), .val (.int ga), .val (.int gb), .val (.ref b1), .val (.long z10), .second, .val (.int (((i5.toUInt32 >>> ((9 : Int32) &&& 31).toUInt32).toInt32) &&& (7 : Int32))), .val (.long (((((i5.toUInt32 >>> ((12 : Int32) &&& 31).toUInt32).toInt32) &&& (3 : Int32)) - (1 : Int32)).toInt64)), .second, .val (.long z13), .second, .val (.int (-1 : Int32))] [(.int (1 : Int32))])) (fun _ k => XS.goto X34.here hx rfl (pc0 := 417) (pc' := 421) rfl (hb hby at_417) (by decide) (by decide) k) ?_
            refine own_ret X34 Bd.notSynchronized (some (.int (1 : Int32))) (fun h => by rw [Bd.returns] at h; cases h) (fun fs hr => retN X34 hx (t := .boolean) Bd.returns (by simp) (hb hby at_421) hr) ?_ (by decide) (by decide)
            show (own_Q0 Z j0 j1 i2 i3 i4 i5 h0 n0) (some (.int (1 : Int32))) T34.heap _
            rw [eq34]
            exact ⟨rfl, NF⟩
    by_cases c35 : (((i5.toUInt32 >>> ((9 : Int32) &&& 31).toUInt32).toInt32) &&& (7 : Int32)) = (0 : Int32)
    · refine own_go (T' := T9) (g' := (mkF m 168 #[.val (.long j0), .second, .val (.long j1), .second, .val (.int i2), .val (.int i3), .val (.int i4), .val (.int i5), .val (.int ea), .val (.int eb), .val (.int ec), .val (.int i4), .val (.int ga), .val (.int gb), .val (.ref b1), .val (.long z10), .second, .val (.int (((i5.toUInt32 >>> ((9 : Int32) &&& 31).toUInt32).toInt32) &&& (7 : Int32))), .val (.long (((((i5.toUInt32 >>> ((12 : Int32) &&& 31).toUInt32).toInt32) &&& (3 : Int32)) - (1 : Int32)).toInt64)), .second, .unset, .unset, .unset] [])) (fun _ k => XS.ifNo X9.here hx rfl (hb hby at_165) rfl ((if0 _ _).trans (teq c35).2) k) ?_
      refine own_go (T' := T9) (g' := (mkF m 170 #[.val (.long j0), .second, .val (.long j1), .second, .val (.int i2), .val (.int i3), .val (.int i4), .val (.int i5), .val (.int ea), .val (.int eb), .val (.int ec), .val (.int i4), .val (.int ga), .val (.int gb), .val (.ref b1), .val (.long z10), .second, .val (.int (((i5.toUInt32 >>> ((9 : Int32) &&& 31).toUInt32).toInt32) &&& (7 : Int32))), .val (.long (((((i5.toUInt32 >>> ((12 : Int32) &&& 31).toUInt32).toInt32) &&& (3 : Int32)) - (1 : Int32)).toInt64)), .second, .unset, .unset, .unset] [(.int ea)])) (fun _ k => XS.iload X9.here hx rfl (hb hby at_168) rfl k) ?_
      refine own_go (T' := T9) (g' := (mkF m 171 #[.val (.long j0), .second, .val (.long j1), .second, .val (.int i2), .val (.int i3), .val (.int i4), .val (.int i5), .val (.int ea), .val (.int eb), .val (.int ec), .val (.int i4), .val (.int ga), .val (.int gb), .val (.ref b1), .val (.long z10), .second, .val (.int (((i5.toUInt32 >>> ((9 : Int32) &&& 31).toUInt32).toInt32) &&& (7 : Int32))), .val (.long (((((i5.toUInt32 >>> ((12 : Int32) &&& 31).toUInt32).toInt32) &&& (3 : Int32)) - (1 : Int32)).toInt64)), .second, .unset, .unset, .unset] [(.long (ea.toInt64))])) (fun _ k => XS.i2l X9.here hx rfl (hb hby at_170) rfl k) ?_
      refine own_go (T' := T9) (g' := (mkF m 173 #[.val (.long j0), .second, .val (.long j1), .second, .val (.int i2), .val (.int i3), .val (.int i4), .val (.int i5), .val (.int ea), .val (.int eb), .val (.int ec), .val (.int i4), .val (.int ga), .val (.int gb), .val (.ref b1), .val (.long z10), .second, .val (.int (((i5.toUInt32 >>> ((9 : Int32) &&& 31).toUInt32).toInt32) &&& (7 : Int32))), .val (.long (((((i5.toUInt32 >>> ((12 : Int32) &&& 31).toUInt32).toInt32) &&& (3 : Int32)) - (1 : Int32)).toInt64)), .second, .unset, .unset, .unset] [(.long (((((i5.toUInt32 >>> ((12 : Int32) &&& 31).toUInt32).toInt32) &&& (3 : Int32)) - (1 : Int32)).toInt64)), (.long (ea.toInt64))])) (fun _ k => XS.lload X9.here hx rfl (hb hby at_171) rfl k) ?_
      refine own_go (T' := T9) (g' := (mkF m 174 #[.val (.long j0), .second, .val (.long j1), .second, .val (.int i2), .val (.int i3), .val (.int i4), .val (.int i5), .val (.int ea), .val (.int eb), .val (.int ec), .val (.int i4), .val (.int ga), .val (.int gb), .val (.ref b1), .val (.long z10), .second, .val (.int (((i5.toUInt32 >>> ((9 : Int32) &&& 31).toUInt32).toInt32) &&& (7 : Int32))), .val (.long (((((i5.toUInt32 >>> ((12 : Int32) &&& 31).toUInt32).toInt32) &&& (3 : Int32)) - (1 : Int32)).toInt64)), .second, .unset, .unset, .unset] [(.long ((ea.toInt64) + (((((i5.toUInt32 >>> ((12 : Int32) &&& 31).toUInt32).toInt32) &&& (3 : Int32)) - (1 : Int32)).toInt64)))])) (fun _ k => XS.ladd X9.here hx rfl (hb hby at_173) rfl k) ?_
      refine own_go (T' := T9) (g' := (mkF m 176 #[.val (.long j0), .second, .val (.long j1), .second, .val (.int i2), .val (.int i3), .val (.int i4), .val (.int i5), .val (.int ea), .val (.int eb), .val (.int ec), .val (.int i4), .val (.int ga), .val (.int gb), .val (.ref b1), .val (.long z10), .second, .val (.int (((i5.toUInt32 >>> ((9 : Int32) &&& 31).toUInt32).toInt32) &&& (7 : Int32))), .val (.long (((((i5.toUInt32 >>> ((12 : Int32) &&& 31).toUInt32).toInt32) &&& (3 : Int32)) - (1 : Int32)).toInt64)), .second, .val (.long ((ea.toInt64) + (((((i5.toUInt32 >>> ((12 : Int32) &&& 31).toUInt32).toInt32) &&& (3 : Int32)) - (1 : Int32)).toInt64))), .second, .unset] [])) (fun _ k => XS.lstore X9.here hx rfl (hb hby at_174) rfl (l' := #[.val (.long j0), .second, .val (.long j1), .second, .val (.int i2), .val (.int i3), .val (.int i4), .val (.int i5), .val (.int ea), .val (.int eb), .val (.int ec), .val (.int i4), .val (.int ga), .val (.int gb), .val (.ref b1), .val (.long z10), .second, .val (.int (((i5.toUInt32 >>> ((9 : Int32) &&& 31).toUInt32).toInt32) &&& (7 : Int32))), .val (.long (((((i5.toUInt32 >>> ((12 : Int32) &&& 31).toUInt32).toInt32) &&& (3 : Int32)) - (1 : Int32)).toInt64)), .second, .val (.long ((ea.toInt64) + (((((i5.toUInt32 >>> ((12 : Int32) &&& 31).toUInt32).toInt32) &&& (3 : Int32)) - (1 : Int32)).toInt64))), .second, .unset]) rfl k) ?_
      refine own_go (T' := T9) (g' := (mkF m 287 #[.val (.long j0), .second, .val (.long j1), .second, .val (.int i2), .val (.int i3), .val (.int i4), .val (.int i5), .val (.int ea), .val (.int eb), .val (.int ec), .val (.int i4), .val (.int ga), .val (.int gb), .val (.ref b1), .val (.long z10), .second, .val (.int (((i5.toUInt32 >>> ((9 : Int32) &&& 31).toUInt32).toInt32) &&& (7 : Int32))), .val (.long (((((i5.toUInt32 >>> ((12 : Int32) &&& 31).toUInt32).toInt32) &&& (3 : Int32)) - (1 : Int32)).toInt64)), .second, .val (.long ((ea.toInt64) + (((((i5.toUInt32 >>> ((12 : Int32) &&& 31).toUInt32).toInt32) &&& (3 : Int32)) - (1 : Int32)).toInt64))), .second, .unset] [])) (fun _ k => XS.goto X9.here hx rfl (pc0 := 176) (pc' := 287) rfl (hb hby at_176) (by decide) (by decide) k) ?_
      exact J15 _ (by (try simp only [own_ln1, own_l0, own_l1, own_l2, own_l3, own_l4, own_l5, own_l6, own_l7, own_l8, own_l9, own_l12, own_l32, own_L0, own_L1, own_L2, own_L3, own_L7, Int32.lt_iff_toInt_lt, ← Int32.toInt_inj, Int64.lt_iff_toInt_lt, ← Int64.toInt_inj, and_true, true_and, and_false, false_and, or_true, true_or, or_false, false_or, not_true_eq_false, not_false_eq_true, ne_eq, true_implies, false_implies, implies_true] at hz11 c35 ⊢) <;> omega)
    · refine own_go (T' := T9) (g' := (mkF m 179 #[.val (.long j0), .second, .val (.long j1), .second, .val (.int i2), .val (.int i3), .val (.int i4), .val (.int i5), .val (.int ea), .val (.int eb), .val (.int ec), .val (.int i4), .val (.int ga), .val (.int gb), .val (.ref b1), .val (.long z10), .second, .val (.int (((i5.toUInt32 >>> ((9 : Int32) &&& 31).toUInt32).toInt32) &&& (7 : Int32))), .val (.long (((((i5.toUInt32 >>> ((12 : Int32) &&& 31).toUInt32).toInt32) &&& (3 : Int32)) - (1 : Int32)).toInt64)), .second, .unset, .unset, .unset] [])) (fun _ k => XS.ifYes X9.here hx rfl (pc0 := 165) (pc' := 179) rfl (hb hby at_165) rfl ((if0 _ _).trans (feq c35).2) (by decide) (by decide) k) ?_
      refine own_go (T' := T9) (g' := (mkF m 181 #[.val (.long j0), .second, .val (.long j1), .second, .val (.int i2), .val (.int i3), .val (.int i4), .val (.int i5), .val (.int ea), .val (.int eb), .val (.int ec), .val (.int i4), .val (.int ga), .val (.int gb), .val (.ref b1), .val (.long z10), .second, .val (.int (((i5.toUInt32 >>> ((9 : Int32) &&& 31).toUInt32).toInt32) &&& (7 : Int32))), .val (.long (((((i5.toUInt32 >>> ((12 : Int32) &&& 31).toUInt32).toInt32) &&& (3 : Int32)) - (1 : Int32)).toInt64)), .second, .unset, .unset, .unset] [(.int (((i5.toUInt32 >>> ((9 : Int32) &&& 31).toUInt32).toInt32) &&& (7 : Int32)))])) (fun _ k => XS.iload X9.here hx rfl (hb hby at_179) rfl k) ?_
      refine own_go (T' := T9) (g' := (mkF m 182 #[.val (.long j0), .second, .val (.long j1), .second, .val (.int i2), .val (.int i3), .val (.int i4), .val (.int i5), .val (.int ea), .val (.int eb), .val (.int ec), .val (.int i4), .val (.int ga), .val (.int gb), .val (.ref b1), .val (.long z10), .second, .val (.int (((i5.toUInt32 >>> ((9 : Int32) &&& 31).toUInt32).toInt32) &&& (7 : Int32))), .val (.long (((((i5.toUInt32 >>> ((12 : Int32) &&& 31).toUInt32).toInt32) &&& (3 : Int32)) - (1 : Int32)).toInt64)), .second, .unset, .unset, .unset] [(.int (1 : Int32)), (.int (((i5.toUInt32 >>> ((9 : Int32) &&& 31).toUInt32).toInt32) &&& (7 : Int32)))])) (fun _ k => XS.iconst X9.here hx rfl (hb hby at_181) k) ?_
      by_cases c36 : (((i5.toUInt32 >>> ((9 : Int32) &&& 31).toUInt32).toInt32) &&& (7 : Int32)) = (1 : Int32)
      · refine own_go (T' := T9) (g' := (mkF m 185 #[.val (.long j0), .second, .val (.long j1), .second, .val (.int i2), .val (.int i3), .val (.int i4), .val (.int i5), .val (.int ea), .val (.int eb), .val (.int ec), .val (.int i4), .val (.int ga), .val (.int gb), .val (.ref b1), .val (.long z10), .second, .val (.int (((i5.toUInt32 >>> ((9 : Int32) &&& 31).toUInt32).toInt32) &&& (7 : Int32))), .val (.long (((((i5.toUInt32 >>> ((12 : Int32) &&& 31).toUInt32).toInt32) &&& (3 : Int32)) - (1 : Int32)).toInt64)), .second, .unset, .unset, .unset] [])) (fun _ k => XS.icmpNo X9.here hx rfl (hb hby at_182) rfl (teq c36).2 k) ?_
        refine own_go (T' := T9) (g' := (mkF m 187 #[.val (.long j0), .second, .val (.long j1), .second, .val (.int i2), .val (.int i3), .val (.int i4), .val (.int i5), .val (.int ea), .val (.int eb), .val (.int ec), .val (.int i4), .val (.int ga), .val (.int gb), .val (.ref b1), .val (.long z10), .second, .val (.int (((i5.toUInt32 >>> ((9 : Int32) &&& 31).toUInt32).toInt32) &&& (7 : Int32))), .val (.long (((((i5.toUInt32 >>> ((12 : Int32) &&& 31).toUInt32).toInt32) &&& (3 : Int32)) - (1 : Int32)).toInt64)), .second, .unset, .unset, .unset] [(.int eb)])) (fun _ k => XS.iload X9.here hx rfl (hb hby at_185) rfl k) ?_
        refine own_go (T' := T9) (g' := (mkF m 188 #[.val (.long j0), .second, .val (.long j1), .second, .val (.int i2), .val (.int i3), .val (.int i4), .val (.int i5), .val (.int ea), .val (.int eb), .val (.int ec), .val (.int i4), .val (.int ga), .val (.int gb), .val (.ref b1), .val (.long z10), .second, .val (.int (((i5.toUInt32 >>> ((9 : Int32) &&& 31).toUInt32).toInt32) &&& (7 : Int32))), .val (.long (((((i5.toUInt32 >>> ((12 : Int32) &&& 31).toUInt32).toInt32) &&& (3 : Int32)) - (1 : Int32)).toInt64)), .second, .unset, .unset, .unset] [(.long (eb.toInt64))])) (fun _ k => XS.i2l X9.here hx rfl (hb hby at_187) rfl k) ?_
        refine own_go (T' := T9) (g' := (mkF m 190 #[.val (.long j0), .second, .val (.long j1), .second, .val (.int i2), .val (.int i3), .val (.int i4), .val (.int i5), .val (.int ea), .val (.int eb), .val (.int ec), .val (.int i4), .val (.int ga), .val (.int gb), .val (.ref b1), .val (.long z10), .second, .val (.int (((i5.toUInt32 >>> ((9 : Int32) &&& 31).toUInt32).toInt32) &&& (7 : Int32))), .val (.long (((((i5.toUInt32 >>> ((12 : Int32) &&& 31).toUInt32).toInt32) &&& (3 : Int32)) - (1 : Int32)).toInt64)), .second, .unset, .unset, .unset] [(.long (((((i5.toUInt32 >>> ((12 : Int32) &&& 31).toUInt32).toInt32) &&& (3 : Int32)) - (1 : Int32)).toInt64)), (.long (eb.toInt64))])) (fun _ k => XS.lload X9.here hx rfl (hb hby at_188) rfl k) ?_
        refine own_go (T' := T9) (g' := (mkF m 191 #[.val (.long j0), .second, .val (.long j1), .second, .val (.int i2), .val (.int i3), .val (.int i4), .val (.int i5), .val (.int ea), .val (.int eb), .val (.int ec), .val (.int i4), .val (.int ga), .val (.int gb), .val (.ref b1), .val (.long z10), .second, .val (.int (((i5.toUInt32 >>> ((9 : Int32) &&& 31).toUInt32).toInt32) &&& (7 : Int32))), .val (.long (((((i5.toUInt32 >>> ((12 : Int32) &&& 31).toUInt32).toInt32) &&& (3 : Int32)) - (1 : Int32)).toInt64)), .second, .unset, .unset, .unset] [(.long ((eb.toInt64) + (((((i5.toUInt32 >>> ((12 : Int32) &&& 31).toUInt32).toInt32) &&& (3 : Int32)) - (1 : Int32)).toInt64)))])) (fun _ k => XS.ladd X9.here hx rfl (hb hby at_190) rfl k) ?_
        refine own_go (T' := T9) (g' := (mkF m 193 #[.val (.long j0), .second, .val (.long j1), .second, .val (.int i2), .val (.int i3), .val (.int i4), .val (.int i5), .val (.int ea), .val (.int eb), .val (.int ec), .val (.int i4), .val (.int ga), .val (.int gb), .val (.ref b1), .val (.long z10), .second, .val (.int (((i5.toUInt32 >>> ((9 : Int32) &&& 31).toUInt32).toInt32) &&& (7 : Int32))), .val (.long (((((i5.toUInt32 >>> ((12 : Int32) &&& 31).toUInt32).toInt32) &&& (3 : Int32)) - (1 : Int32)).toInt64)), .second, .val (.long ((eb.toInt64) + (((((i5.toUInt32 >>> ((12 : Int32) &&& 31).toUInt32).toInt32) &&& (3 : Int32)) - (1 : Int32)).toInt64))), .second, .unset] [])) (fun _ k => XS.lstore X9.here hx rfl (hb hby at_191) rfl (l' := #[.val (.long j0), .second, .val (.long j1), .second, .val (.int i2), .val (.int i3), .val (.int i4), .val (.int i5), .val (.int ea), .val (.int eb), .val (.int ec), .val (.int i4), .val (.int ga), .val (.int gb), .val (.ref b1), .val (.long z10), .second, .val (.int (((i5.toUInt32 >>> ((9 : Int32) &&& 31).toUInt32).toInt32) &&& (7 : Int32))), .val (.long (((((i5.toUInt32 >>> ((12 : Int32) &&& 31).toUInt32).toInt32) &&& (3 : Int32)) - (1 : Int32)).toInt64)), .second, .val (.long ((eb.toInt64) + (((((i5.toUInt32 >>> ((12 : Int32) &&& 31).toUInt32).toInt32) &&& (3 : Int32)) - (1 : Int32)).toInt64))), .second, .unset]) rfl k) ?_
        refine own_go (T' := T9) (g' := (mkF m 287 #[.val (.long j0), .second, .val (.long j1), .second, .val (.int i2), .val (.int i3), .val (.int i4), .val (.int i5), .val (.int ea), .val (.int eb), .val (.int ec), .val (.int i4), .val (.int ga), .val (.int gb), .val (.ref b1), .val (.long z10), .second, .val (.int (((i5.toUInt32 >>> ((9 : Int32) &&& 31).toUInt32).toInt32) &&& (7 : Int32))), .val (.long (((((i5.toUInt32 >>> ((12 : Int32) &&& 31).toUInt32).toInt32) &&& (3 : Int32)) - (1 : Int32)).toInt64)), .second, .val (.long ((eb.toInt64) + (((((i5.toUInt32 >>> ((12 : Int32) &&& 31).toUInt32).toInt32) &&& (3 : Int32)) - (1 : Int32)).toInt64))), .second, .unset] [])) (fun _ k => XS.goto X9.here hx rfl (pc0 := 193) (pc' := 287) rfl (hb hby at_193) (by decide) (by decide) k) ?_
        exact J15 _ (by (try simp only [own_ln1, own_l0, own_l1, own_l2, own_l3, own_l4, own_l5, own_l6, own_l7, own_l8, own_l9, own_l12, own_l32, own_L0, own_L1, own_L2, own_L3, own_L7, Int32.lt_iff_toInt_lt, ← Int32.toInt_inj, Int64.lt_iff_toInt_lt, ← Int64.toInt_inj, and_true, true_and, and_false, false_and, or_true, true_or, or_false, false_or, not_true_eq_false, not_false_eq_true, ne_eq, true_implies, false_implies, implies_true] at hz11 c35 c36 ⊢) <;> omega)
      · refine own_go (T' := T9) (g' := (mkF m 196 #[.val (.long j0), .second, .val (.long j1), .second, .val (.int i2), .val (.int i3), .val (.int i4), .val (.int i5), .val (.int ea), .val (.int eb), .val (.int ec), .val (.int i4), .val (.int ga), .val (.int gb), .val (.ref b1), .val (.long z10), .second, .val (.int (((i5.toUInt32 >>> ((9 : Int32) &&& 31).toUInt32).toInt32) &&& (7 : Int32))), .val (.long (((((i5.toUInt32 >>> ((12 : Int32) &&& 31).toUInt32).toInt32) &&& (3 : Int32)) - (1 : Int32)).toInt64)), .second, .unset, .unset, .unset] [])) (fun _ k => XS.icmpYes X9.here hx rfl (pc0 := 182) (pc' := 196) rfl (hb hby at_182) rfl (feq c36).2 (by decide) (by decide) k) ?_
        refine own_go (T' := T9) (g' := (mkF m 198 #[.val (.long j0), .second, .val (.long j1), .second, .val (.int i2), .val (.int i3), .val (.int i4), .val (.int i5), .val (.int ea), .val (.int eb), .val (.int ec), .val (.int i4), .val (.int ga), .val (.int gb), .val (.ref b1), .val (.long z10), .second, .val (.int (((i5.toUInt32 >>> ((9 : Int32) &&& 31).toUInt32).toInt32) &&& (7 : Int32))), .val (.long (((((i5.toUInt32 >>> ((12 : Int32) &&& 31).toUInt32).toInt32) &&& (3 : Int32)) - (1 : Int32)).toInt64)), .second, .unset, .unset, .unset] [(.int (((i5.toUInt32 >>> ((9 : Int32) &&& 31).toUInt32).toInt32) &&& (7 : Int32)))])) (fun _ k => XS.iload X9.here hx rfl (hb hby at_196) rfl k) ?_
        refine own_go (T' := T9) (g' := (mkF m 199 #[.val (.long j0), .second, .val (.long j1), .second, .val (.int i2), .val (.int i3), .val (.int i4), .val (.int i5), .val (.int ea), .val (.int eb), .val (.int ec), .val (.int i4), .val (.int ga), .val (.int gb), .val (.ref b1), .val (.long z10), .second, .val (.int (((i5.toUInt32 >>> ((9 : Int32) &&& 31).toUInt32).toInt32) &&& (7 : Int32))), .val (.long (((((i5.toUInt32 >>> ((12 : Int32) &&& 31).toUInt32).toInt32) &&& (3 : Int32)) - (1 : Int32)).toInt64)), .second, .unset, .unset, .unset] [(.int (2 : Int32)), (.int (((i5.toUInt32 >>> ((9 : Int32) &&& 31).toUInt32).toInt32) &&& (7 : Int32)))])) (fun _ k => XS.iconst X9.here hx rfl (hb hby at_198) k) ?_
        by_cases c37 : (((i5.toUInt32 >>> ((9 : Int32) &&& 31).toUInt32).toInt32) &&& (7 : Int32)) = (2 : Int32)
        · refine own_go (T' := T9) (g' := (mkF m 202 #[.val (.long j0), .second, .val (.long j1), .second, .val (.int i2), .val (.int i3), .val (.int i4), .val (.int i5), .val (.int ea), .val (.int eb), .val (.int ec), .val (.int i4), .val (.int ga), .val (.int gb), .val (.ref b1), .val (.long z10), .second, .val (.int (((i5.toUInt32 >>> ((9 : Int32) &&& 31).toUInt32).toInt32) &&& (7 : Int32))), .val (.long (((((i5.toUInt32 >>> ((12 : Int32) &&& 31).toUInt32).toInt32) &&& (3 : Int32)) - (1 : Int32)).toInt64)), .second, .unset, .unset, .unset] [])) (fun _ k => XS.icmpNo X9.here hx rfl (hb hby at_199) rfl (teq c37).2 k) ?_
          refine own_go (T' := T9) (g' := (mkF m 204 #[.val (.long j0), .second, .val (.long j1), .second, .val (.int i2), .val (.int i3), .val (.int i4), .val (.int i5), .val (.int ea), .val (.int eb), .val (.int ec), .val (.int i4), .val (.int ga), .val (.int gb), .val (.ref b1), .val (.long z10), .second, .val (.int (((i5.toUInt32 >>> ((9 : Int32) &&& 31).toUInt32).toInt32) &&& (7 : Int32))), .val (.long (((((i5.toUInt32 >>> ((12 : Int32) &&& 31).toUInt32).toInt32) &&& (3 : Int32)) - (1 : Int32)).toInt64)), .second, .unset, .unset, .unset] [(.int ec)])) (fun _ k => XS.iload X9.here hx rfl (hb hby at_202) rfl k) ?_
          refine own_go (T' := T9) (g' := (mkF m 205 #[.val (.long j0), .second, .val (.long j1), .second, .val (.int i2), .val (.int i3), .val (.int i4), .val (.int i5), .val (.int ea), .val (.int eb), .val (.int ec), .val (.int i4), .val (.int ga), .val (.int gb), .val (.ref b1), .val (.long z10), .second, .val (.int (((i5.toUInt32 >>> ((9 : Int32) &&& 31).toUInt32).toInt32) &&& (7 : Int32))), .val (.long (((((i5.toUInt32 >>> ((12 : Int32) &&& 31).toUInt32).toInt32) &&& (3 : Int32)) - (1 : Int32)).toInt64)), .second, .unset, .unset, .unset] [(.long (ec.toInt64))])) (fun _ k => XS.i2l X9.here hx rfl (hb hby at_204) rfl k) ?_
          refine own_go (T' := T9) (g' := (mkF m 207 #[.val (.long j0), .second, .val (.long j1), .second, .val (.int i2), .val (.int i3), .val (.int i4), .val (.int i5), .val (.int ea), .val (.int eb), .val (.int ec), .val (.int i4), .val (.int ga), .val (.int gb), .val (.ref b1), .val (.long z10), .second, .val (.int (((i5.toUInt32 >>> ((9 : Int32) &&& 31).toUInt32).toInt32) &&& (7 : Int32))), .val (.long (((((i5.toUInt32 >>> ((12 : Int32) &&& 31).toUInt32).toInt32) &&& (3 : Int32)) - (1 : Int32)).toInt64)), .second, .unset, .unset, .unset] [(.long (((((i5.toUInt32 >>> ((12 : Int32) &&& 31).toUInt32).toInt32) &&& (3 : Int32)) - (1 : Int32)).toInt64)), (.long (ec.toInt64))])) (fun _ k => XS.lload X9.here hx rfl (hb hby at_205) rfl k) ?_
          refine own_go (T' := T9) (g' := (mkF m 208 #[.val (.long j0), .second, .val (.long j1), .second, .val (.int i2), .val (.int i3), .val (.int i4), .val (.int i5), .val (.int ea), .val (.int eb), .val (.int ec), .val (.int i4), .val (.int ga), .val (.int gb), .val (.ref b1), .val (.long z10), .second, .val (.int (((i5.toUInt32 >>> ((9 : Int32) &&& 31).toUInt32).toInt32) &&& (7 : Int32))), .val (.long (((((i5.toUInt32 >>> ((12 : Int32) &&& 31).toUInt32).toInt32) &&& (3 : Int32)) - (1 : Int32)).toInt64)), .second, .unset, .unset, .unset] [(.long ((ec.toInt64) + (((((i5.toUInt32 >>> ((12 : Int32) &&& 31).toUInt32).toInt32) &&& (3 : Int32)) - (1 : Int32)).toInt64)))])) (fun _ k => XS.ladd X9.here hx rfl (hb hby at_207) rfl k) ?_
          refine own_go (T' := T9) (g' := (mkF m 210 #[.val (.long j0), .second, .val (.long j1), .second, .val (.int i2), .val (.int i3), .val (.int i4), .val (.int i5), .val (.int ea), .val (.int eb), .val (.int ec), .val (.int i4), .val (.int ga), .val (.int gb), .val (.ref b1), .val (.long z10), .second, .val (.int (((i5.toUInt32 >>> ((9 : Int32) &&& 31).toUInt32).toInt32) &&& (7 : Int32))), .val (.long (((((i5.toUInt32 >>> ((12 : Int32) &&& 31).toUInt32).toInt32) &&& (3 : Int32)) - (1 : Int32)).toInt64)), .second, .val (.long ((ec.toInt64) + (((((i5.toUInt32 >>> ((12 : Int32) &&& 31).toUInt32).toInt32) &&& (3 : Int32)) - (1 : Int32)).toInt64))), .second, .unset] [])) (fun _ k => XS.lstore X9.here hx rfl (hb hby at_208) rfl (l' := #[.val (.long j0), .second, .val (.long j1), .second, .val (.int i2), .val (.int i3), .val (.int i4), .val (.int i5), .val (.int ea), .val (.int eb), .val (.int ec), .val (.int i4), .val (.int ga), .val (.int gb), .val (.ref b1), .val (.long z10), .second, .val (.int (((i5.toUInt32 >>> ((9 : Int32) &&& 31).toUInt32).toInt32) &&& (7 : Int32))), .val (.long (((((i5.toUInt32 >>> ((12 : Int32) &&& 31).toUInt32).toInt32) &&& (3 : Int32)) - (1 : Int32)).toInt64)), .second, .val (.long ((ec.toInt64) + (((((i5.toUInt32 >>> ((12 : Int32) &&& 31).toUInt32).toInt32) &&& (3 : Int32)) - (1 : Int32)).toInt64))), .second, .unset]) rfl k) ?_
          refine own_go (T' := T9) (g' := (mkF m 287 #[.val (.long j0), .second, .val (.long j1), .second, .val (.int i2), .val (.int i3), .val (.int i4), .val (.int i5), .val (.int ea), .val (.int eb), .val (.int ec), .val (.int i4), .val (.int ga), .val (.int gb), .val (.ref b1), .val (.long z10), .second, .val (.int (((i5.toUInt32 >>> ((9 : Int32) &&& 31).toUInt32).toInt32) &&& (7 : Int32))), .val (.long (((((i5.toUInt32 >>> ((12 : Int32) &&& 31).toUInt32).toInt32) &&& (3 : Int32)) - (1 : Int32)).toInt64)), .second, .val (.long ((ec.toInt64) + (((((i5.toUInt32 >>> ((12 : Int32) &&& 31).toUInt32).toInt32) &&& (3 : Int32)) - (1 : Int32)).toInt64))), .second, .unset] [])) (fun _ k => XS.goto X9.here hx rfl (pc0 := 210) (pc' := 287) rfl (hb hby at_210) (by decide) (by decide) k) ?_
          exact J15 _ (by (try simp only [own_ln1, own_l0, own_l1, own_l2, own_l3, own_l4, own_l5, own_l6, own_l7, own_l8, own_l9, own_l12, own_l32, own_L0, own_L1, own_L2, own_L3, own_L7, Int32.lt_iff_toInt_lt, ← Int32.toInt_inj, Int64.lt_iff_toInt_lt, ← Int64.toInt_inj, and_true, true_and, and_false, false_and, or_true, true_or, or_false, false_or, not_true_eq_false, not_false_eq_true, ne_eq, true_implies, false_implies, implies_true] at hz11 c35 c36 c37 ⊢) <;> omega)
        · refine own_go (T' := T9) (g' := (mkF m 213 #[.val (.long j0), .second, .val (.long j1), .second, .val (.int i2), .val (.int i3), .val (.int i4), .val (.int i5), .val (.int ea), .val (.int eb), .val (.int ec), .val (.int i4), .val (.int ga), .val (.int gb), .val (.ref b1), .val (.long z10), .second, .val (.int (((i5.toUInt32 >>> ((9 : Int32) &&& 31).toUInt32).toInt32) &&& (7 : Int32))), .val (.long (((((i5.toUInt32 >>> ((12 : Int32) &&& 31).toUInt32).toInt32) &&& (3 : Int32)) - (1 : Int32)).toInt64)), .second, .unset, .unset, .unset] [])) (fun _ k => XS.icmpYes X9.here hx rfl (pc0 := 199) (pc' := 213) rfl (hb hby at_199) rfl (feq c37).2 (by decide) (by decide) k) ?_
          refine own_go (T' := T9) (g' := (mkF m 215 #[.val (.long j0), .second, .val (.long j1), .second, .val (.int i2), .val (.int i3), .val (.int i4), .val (.int i5), .val (.int ea), .val (.int eb), .val (.int ec), .val (.int i4), .val (.int ga), .val (.int gb), .val (.ref b1), .val (.long z10), .second, .val (.int (((i5.toUInt32 >>> ((9 : Int32) &&& 31).toUInt32).toInt32) &&& (7 : Int32))), .val (.long (((((i5.toUInt32 >>> ((12 : Int32) &&& 31).toUInt32).toInt32) &&& (3 : Int32)) - (1 : Int32)).toInt64)), .second, .unset, .unset, .unset] [(.int (((i5.toUInt32 >>> ((9 : Int32) &&& 31).toUInt32).toInt32) &&& (7 : Int32)))])) (fun _ k => XS.iload X9.here hx rfl (hb hby at_213) rfl k) ?_
          refine own_go (T' := T9) (g' := (mkF m 216 #[.val (.long j0), .second, .val (.long j1), .second, .val (.int i2), .val (.int i3), .val (.int i4), .val (.int i5), .val (.int ea), .val (.int eb), .val (.int ec), .val (.int i4), .val (.int ga), .val (.int gb), .val (.ref b1), .val (.long z10), .second, .val (.int (((i5.toUInt32 >>> ((9 : Int32) &&& 31).toUInt32).toInt32) &&& (7 : Int32))), .val (.long (((((i5.toUInt32 >>> ((12 : Int32) &&& 31).toUInt32).toInt32) &&& (3 : Int32)) - (1 : Int32)).toInt64)), .second, .unset, .unset, .unset] [(.int (3 : Int32)), (.int (((i5.toUInt32 >>> ((9 : Int32) &&& 31).toUInt32).toInt32) &&& (7 : Int32)))])) (fun _ k => XS.iconst X9.here hx rfl (hb hby at_215) k) ?_
          by_cases c38 : (((i5.toUInt32 >>> ((9 : Int32) &&& 31).toUInt32).toInt32) &&& (7 : Int32)) = (3 : Int32)
          · refine own_go (T' := T9) (g' := (mkF m 219 #[.val (.long j0), .second, .val (.long j1), .second, .val (.int i2), .val (.int i3), .val (.int i4), .val (.int i5), .val (.int ea), .val (.int eb), .val (.int ec), .val (.int i4), .val (.int ga), .val (.int gb), .val (.ref b1), .val (.long z10), .second, .val (.int (((i5.toUInt32 >>> ((9 : Int32) &&& 31).toUInt32).toInt32) &&& (7 : Int32))), .val (.long (((((i5.toUInt32 >>> ((12 : Int32) &&& 31).toUInt32).toInt32) &&& (3 : Int32)) - (1 : Int32)).toInt64)), .second, .unset, .unset, .unset] [])) (fun _ k => XS.icmpNo X9.here hx rfl (hb hby at_216) rfl (teq c38).2 k) ?_
            refine own_go (T' := T9) (g' := (mkF m 221 #[.val (.long j0), .second, .val (.long j1), .second, .val (.int i2), .val (.int i3), .val (.int i4), .val (.int i5), .val (.int ea), .val (.int eb), .val (.int ec), .val (.int i4), .val (.int ga), .val (.int gb), .val (.ref b1), .val (.long z10), .second, .val (.int (((i5.toUInt32 >>> ((9 : Int32) &&& 31).toUInt32).toInt32) &&& (7 : Int32))), .val (.long (((((i5.toUInt32 >>> ((12 : Int32) &&& 31).toUInt32).toInt32) &&& (3 : Int32)) - (1 : Int32)).toInt64)), .second, .unset, .unset, .unset] [(.int i4)])) (fun _ k => XS.iload X9.here hx rfl (hb hby at_219) rfl k) ?_
            refine own_go (T' := T9) (g' := (mkF m 222 #[.val (.long j0), .second, .val (.long j1), .second, .val (.int i2), .val (.int i3), .val (.int i4), .val (.int i5), .val (.int ea), .val (.int eb), .val (.int ec), .val (.int i4), .val (.int ga), .val (.int gb), .val (.ref b1), .val (.long z10), .second, .val (.int (((i5.toUInt32 >>> ((9 : Int32) &&& 31).toUInt32).toInt32) &&& (7 : Int32))), .val (.long (((((i5.toUInt32 >>> ((12 : Int32) &&& 31).toUInt32).toInt32) &&& (3 : Int32)) - (1 : Int32)).toInt64)), .second, .unset, .unset, .unset] [(.long (i4.toInt64))])) (fun _ k => XS.i2l X9.here hx rfl (hb hby at_221) rfl k) ?_
            refine own_go (T' := T9) (g' := (mkF m 224 #[.val (.long j0), .second, .val (.long j1), .second, .val (.int i2), .val (.int i3), .val (.int i4), .val (.int i5), .val (.int ea), .val (.int eb), .val (.int ec), .val (.int i4), .val (.int ga), .val (.int gb), .val (.ref b1), .val (.long z10), .second, .val (.int (((i5.toUInt32 >>> ((9 : Int32) &&& 31).toUInt32).toInt32) &&& (7 : Int32))), .val (.long (((((i5.toUInt32 >>> ((12 : Int32) &&& 31).toUInt32).toInt32) &&& (3 : Int32)) - (1 : Int32)).toInt64)), .second, .unset, .unset, .unset] [(.long (((((i5.toUInt32 >>> ((12 : Int32) &&& 31).toUInt32).toInt32) &&& (3 : Int32)) - (1 : Int32)).toInt64)), (.long (i4.toInt64))])) (fun _ k => XS.lload X9.here hx rfl (hb hby at_222) rfl k) ?_
            refine own_go (T' := T9) (g' := (mkF m 225 #[.val (.long j0), .second, .val (.long j1), .second, .val (.int i2), .val (.int i3), .val (.int i4), .val (.int i5), .val (.int ea), .val (.int eb), .val (.int ec), .val (.int i4), .val (.int ga), .val (.int gb), .val (.ref b1), .val (.long z10), .second, .val (.int (((i5.toUInt32 >>> ((9 : Int32) &&& 31).toUInt32).toInt32) &&& (7 : Int32))), .val (.long (((((i5.toUInt32 >>> ((12 : Int32) &&& 31).toUInt32).toInt32) &&& (3 : Int32)) - (1 : Int32)).toInt64)), .second, .unset, .unset, .unset] [(.long ((i4.toInt64) + (((((i5.toUInt32 >>> ((12 : Int32) &&& 31).toUInt32).toInt32) &&& (3 : Int32)) - (1 : Int32)).toInt64)))])) (fun _ k => XS.ladd X9.here hx rfl (hb hby at_224) rfl k) ?_
            refine own_go (T' := T9) (g' := (mkF m 227 #[.val (.long j0), .second, .val (.long j1), .second, .val (.int i2), .val (.int i3), .val (.int i4), .val (.int i5), .val (.int ea), .val (.int eb), .val (.int ec), .val (.int i4), .val (.int ga), .val (.int gb), .val (.ref b1), .val (.long z10), .second, .val (.int (((i5.toUInt32 >>> ((9 : Int32) &&& 31).toUInt32).toInt32) &&& (7 : Int32))), .val (.long (((((i5.toUInt32 >>> ((12 : Int32) &&& 31).toUInt32).toInt32) &&& (3 : Int32)) - (1 : Int32)).toInt64)), .second, .val (.long ((i4.toInt64) + (((((i5.toUInt32 >>> ((12 : Int32) &&& 31).toUInt32).toInt32) &&& (3 : Int32)) - (1 : Int32)).toInt64))), .second, .unset] [])) (fun _ k => XS.lstore X9.here hx rfl (hb hby at_225) rfl (l' := #[.val (.long j0), .second, .val (.long j1), .second, .val (.int i2), .val (.int i3), .val (.int i4), .val (.int i5), .val (.int ea), .val (.int eb), .val (.int ec), .val (.int i4), .val (.int ga), .val (.int gb), .val (.ref b1), .val (.long z10), .second, .val (.int (((i5.toUInt32 >>> ((9 : Int32) &&& 31).toUInt32).toInt32) &&& (7 : Int32))), .val (.long (((((i5.toUInt32 >>> ((12 : Int32) &&& 31).toUInt32).toInt32) &&& (3 : Int32)) - (1 : Int32)).toInt64)), .second, .val (.long ((i4.toInt64) + (((((i5.toUInt32 >>> ((12 : Int32) &&& 31).toUInt32).toInt32) &&& (3 : Int32)) - (1 : Int32)).toInt64))), .second, .unset]) rfl k) ?_
            refine own_go (T' := T9) (g' := (mkF m 287 #[.val (.long j0), .second, .val (.long j1), .second, .val (.int i2), .val (.int i3), .val (.int i4), .val (.int i5), .val (.int ea), .val (.int eb), .val (.int ec), .val (.int i4), .val (.int ga), .val (.int gb), .val (.ref b1), .val (.long z10), .second, .val (.int (((i5.toUInt32 >>> ((9 : Int32) &&& 31).toUInt32).toInt32) &&& (7 : Int32))), .val (.long (((((i5.toUInt32 >>> ((12 : Int32) &&& 31).toUInt32).toInt32) &&& (3 : Int32)) - (1 : Int32)).toInt64)), .second, .val (.long ((i4.toInt64) + (((((i5.toUInt32 >>> ((12 : Int32) &&& 31).toUInt32).toInt32) &&& (3 : Int32)) - (1 : Int32)).toInt64))), .second, .unset] [])) (fun _ k => XS.goto X9.here hx rfl (pc0 := 227) (pc' := 287) rfl (hb hby at_227) (by decide) (by decide) k) ?_
            exact J15 _ (by (try simp only [own_ln1, own_l0, own_l1, own_l2, own_l3, own_l4, own_l5, own_l6, own_l7, own_l8, own_l9, own_l12, own_l32, own_L0, own_L1, own_L2, own_L3, own_L7, Int32.lt_iff_toInt_lt, ← Int32.toInt_inj, Int64.lt_iff_toInt_lt, ← Int64.toInt_inj, and_true, true_and, and_false, false_and, or_true, true_or, or_false, false_or, not_true_eq_false, not_false_eq_true, ne_eq, true_implies, false_implies, implies_true] at hz11 c35 c36 c37 c38 ⊢) <;> omega)
          · refine own_go (T' := T9) (g' := (mkF m 230 #[.val (.long j0), .second, .val (.long j1), .second, .val (.int i2), .val (.int i3), .val (.int i4), .val (.int i5), .val (.int ea), .val (.int eb), .val (.int ec), .val (.int i4), .val (.int ga), .val (.int gb), .val (.ref b1), .val (.long z10), .second, .val (.int (((i5.toUInt32 >>> ((9 : Int32) &&& 31).toUInt32).toInt32) &&& (7 : Int32))), .val (.long (((((i5.toUInt32 >>> ((12 : Int32) &&& 31).toUInt32).toInt32) &&& (3 : Int32)) - (1 : Int32)).toInt64)), .second, .unset, .unset, .unset] [])) (fun _ k => XS.icmpYes X9.here hx rfl (pc0 := 216) (pc' := 230) rfl (hb hby at_216) rfl (feq c38).2 (by decide) (by decide) k) ?_
            refine own_go (T' := T9) (g' := (mkF m 232 #[.val (.long j0), .second, .val (.long j1), .second, .val (.int i2), .val (.int i3), .val (.int i4), .val (.int i5), .val (.int ea), .val (.int eb), .val (.int ec), .val (.int i4), .val (.int ga), .val (.int gb), .val (.ref b1), .val (.long z10), .second, .val (.int (((i5.toUInt32 >>> ((9 : Int32) &&& 31).toUInt32).toInt32) &&& (7 : Int32))), .val (.long (((((i5.toUInt32 >>> ((12 : Int32) &&& 31).toUInt32).toInt32) &&& (3 : Int32)) - (1 : Int32)).toInt64)), .second, .unset, .unset, .unset] [(.int (((i5.toUInt32 >>> ((9 : Int32) &&& 31).toUInt32).toInt32) &&& (7 : Int32)))])) (fun _ k => XS.iload X9.here hx rfl (hb hby at_230) rfl k) ?_
            refine own_go (T' := T9) (g' := (mkF m 233 #[.val (.long j0), .second, .val (.long j1), .second, .val (.int i2), .val (.int i3), .val (.int i4), .val (.int i5), .val (.int ea), .val (.int eb), .val (.int ec), .val (.int i4), .val (.int ga), .val (.int gb), .val (.ref b1), .val (.long z10), .second, .val (.int (((i5.toUInt32 >>> ((9 : Int32) &&& 31).toUInt32).toInt32) &&& (7 : Int32))), .val (.long (((((i5.toUInt32 >>> ((12 : Int32) &&& 31).toUInt32).toInt32) &&& (3 : Int32)) - (1 : Int32)).toInt64)), .second, .unset, .unset, .unset] [(.int (4 : Int32)), (.int (((i5.toUInt32 >>> ((9 : Int32) &&& 31).toUInt32).toInt32) &&& (7 : Int32)))])) (fun _ k => XS.iconst X9.here hx rfl (hb hby at_232) k) ?_
            by_cases c39 : (((i5.toUInt32 >>> ((9 : Int32) &&& 31).toUInt32).toInt32) &&& (7 : Int32)) = (4 : Int32)
            · refine own_go (T' := T9) (g' := (mkF m 236 #[.val (.long j0), .second, .val (.long j1), .second, .val (.int i2), .val (.int i3), .val (.int i4), .val (.int i5), .val (.int ea), .val (.int eb), .val (.int ec), .val (.int i4), .val (.int ga), .val (.int gb), .val (.ref b1), .val (.long z10), .second, .val (.int (((i5.toUInt32 >>> ((9 : Int32) &&& 31).toUInt32).toInt32) &&& (7 : Int32))), .val (.long (((((i5.toUInt32 >>> ((12 : Int32) &&& 31).toUInt32).toInt32) &&& (3 : Int32)) - (1 : Int32)).toInt64)), .second, .unset, .unset, .unset] [])) (fun _ k => XS.icmpNo X9.here hx rfl (hb hby at_233) rfl (teq c39).2 k) ?_
              refine own_go (T' := T9) (g' := (mkF m 238 #[.val (.long j0), .second, .val (.long j1), .second, .val (.int i2), .val (.int i3), .val (.int i4), .val (.int i5), .val (.int ea), .val (.int eb), .val (.int ec), .val (.int i4), .val (.int ga), .val (.int gb), .val (.ref b1), .val (.long z10), .second, .val (.int (((i5.toUInt32 >>> ((9 : Int32) &&& 31).toUInt32).toInt32) &&& (7 : Int32))), .val (.long (((((i5.toUInt32 >>> ((12 : Int32) &&& 31).toUInt32).toInt32) &&& (3 : Int32)) - (1 : Int32)).toInt64)), .second, .unset, .unset, .unset] [(.int ga)])) (fun _ k => XS.iload X9.here hx rfl (hb hby at_236) rfl k) ?_
              refine own_go (T' := T9) (g' := (mkF m 239 #[.val (.long j0), .second, .val (.long j1), .second, .val (.int i2), .val (.int i3), .val (.int i4), .val (.int i5), .val (.int ea), .val (.int eb), .val (.int ec), .val (.int i4), .val (.int ga), .val (.int gb), .val (.ref b1), .val (.long z10), .second, .val (.int (((i5.toUInt32 >>> ((9 : Int32) &&& 31).toUInt32).toInt32) &&& (7 : Int32))), .val (.long (((((i5.toUInt32 >>> ((12 : Int32) &&& 31).toUInt32).toInt32) &&& (3 : Int32)) - (1 : Int32)).toInt64)), .second, .unset, .unset, .unset] [(.long (ga.toInt64))])) (fun _ k => XS.i2l X9.here hx rfl (hb hby at_238) rfl k) ?_
              refine own_go (T' := T9) (g' := (mkF m 241 #[.val (.long j0), .second, .val (.long j1), .second, .val (.int i2), .val (.int i3), .val (.int i4), .val (.int i5), .val (.int ea), .val (.int eb), .val (.int ec), .val (.int i4), .val (.int ga), .val (.int gb), .val (.ref b1), .val (.long z10), .second, .val (.int (((i5.toUInt32 >>> ((9 : Int32) &&& 31).toUInt32).toInt32) &&& (7 : Int32))), .val (.long (((((i5.toUInt32 >>> ((12 : Int32) &&& 31).toUInt32).toInt32) &&& (3 : Int32)) - (1 : Int32)).toInt64)), .second, .unset, .unset, .unset] [(.long (((((i5.toUInt32 >>> ((12 : Int32) &&& 31).toUInt32).toInt32) &&& (3 : Int32)) - (1 : Int32)).toInt64)), (.long (ga.toInt64))])) (fun _ k => XS.lload X9.here hx rfl (hb hby at_239) rfl k) ?_
              refine own_go (T' := T9) (g' := (mkF m 242 #[.val (.long j0), .second, .val (.long j1), .second, .val (.int i2), .val (.int i3), .val (.int i4), .val (.int i5), .val (.int ea), .val (.int eb), .val (.int ec), .val (.int i4), .val (.int ga), .val (.int gb), .val (.ref b1), .val (.long z10), .second, .val (.int (((i5.toUInt32 >>> ((9 : Int32) &&& 31).toUInt32).toInt32) &&& (7 : Int32))), .val (.long (((((i5.toUInt32 >>> ((12 : Int32) &&& 31).toUInt32).toInt32) &&& (3 : Int32)) - (1 : Int32)).toInt64)), .second, .unset, .unset, .unset] [(.long ((ga.toInt64) + (((((i5.toUInt32 >>> ((12 : Int32) &&& 31).toUInt32).toInt32) &&& (3 : Int32)) - (1 : Int32)).toInt64)))])) (fun _ k => XS.ladd X9.here hx rfl (hb hby at_241) rfl k) ?_
              refine own_go (T' := T9) (g' := (mkF m 244 #[.val (.long j0), .second, .val (.long j1), .second, .val (.int i2), .val (.int i3), .val (.int i4), .val (.int i5), .val (.int ea), .val (.int eb), .val (.int ec), .val (.int i4), .val (.int ga), .val (.int gb), .val (.ref b1), .val (.long z10), .second, .val (.int (((i5.toUInt32 >>> ((9 : Int32) &&& 31).toUInt32).toInt32) &&& (7 : Int32))), .val (.long (((((i5.toUInt32 >>> ((12 : Int32) &&& 31).toUInt32).toInt32) &&& (3 : Int32)) - (1 : Int32)).toInt64)), .second, .val (.long ((ga.toInt64) + (((((i5.toUInt32 >>> ((12 : Int32) &&& 31).toUInt32).toInt32) &&& (3 : Int32)) - (1 : Int32)).toInt64))), .second, .unset] [])) (fun _ k => XS.lstore X9.here hx rfl (hb hby at_242) rfl (l' := #[.val (.long j0), .second, .val (.long j1), .second, .val (.int i2), .val (.int i3), .val (.int i4), .val (.int i5), .val (.int ea), .val (.int eb), .val (.int ec), .val (.int i4), .val (.int ga), .val (.int gb), .val (.ref b1), .val (.long z10), .second, .val (.int (((i5.toUInt32 >>> ((9 : Int32) &&& 31).toUInt32).toInt32) &&& (7 : Int32))), .val (.long (((((i5.toUInt32 >>> ((12 : Int32) &&& 31).toUInt32).toInt32) &&& (3 : Int32)) - (1 : Int32)).toInt64)), .second, .val (.long ((ga.toInt64) + (((((i5.toUInt32 >>> ((12 : Int32) &&& 31).toUInt32).toInt32) &&& (3 : Int32)) - (1 : Int32)).toInt64))), .second, .unset]) rfl k) ?_
              refine own_go (T' := T9) (g' := (mkF m 287 #[.val (.long j0), .second, .val (.long j1), .second, .val (.int i2), .val (.int i3), .val (.int i4), .val (.int i5), .val (.int ea), .val (.int eb), .val (.int ec), .val (.int i4), .val (.int ga), .val (.int gb), .val (.ref b1), .val (.long z10), .second, .val (.int (((i5.toUInt32 >>> ((9 : Int32) &&& 31).toUInt32).toInt32) &&& (7 : Int32))), .val (.long (((((i5.toUInt32 >>> ((12 : Int32) &&& 31).toUInt32).toInt32) &&& (3 : Int32)) - (1 : Int32)).toInt64)), .second, .val (.long ((ga.toInt64) + (((((i5.toUInt32 >>> ((12 : Int32) &&& 31).toUInt32).toInt32) &&& (3 : Int32)) - (1 : Int32)).toInt64))), .second, .unset] [])) (fun _ k => XS.goto X9.here hx rfl (pc0 := 244) (pc' := 287) rfl (hb hby at_244) (by decide) (by decide) k) ?_
              exact J15 _ (by (try simp only [own_ln1, own_l0, own_l1, own_l2, own_l3, own_l4, own_l5, own_l6, own_l7, own_l8, own_l9, own_l12, own_l32, own_L0, own_L1, own_L2, own_L3, own_L7, Int32.lt_iff_toInt_lt, ← Int32.toInt_inj, Int64.lt_iff_toInt_lt, ← Int64.toInt_inj, and_true, true_and, and_false, false_and, or_true, true_or, or_false, false_or, not_true_eq_false, not_false_eq_true, ne_eq, true_implies, false_implies, implies_true] at hz11 c35 c36 c37 c38 c39 ⊢) <;> omega)
            · refine own_go (T' := T9) (g' := (mkF m 247 #[.val (.long j0), .second, .val (.long j1), .second, .val (.int i2), .val (.int i3), .val (.int i4), .val (.int i5), .val (.int ea), .val (.int eb), .val (.int ec), .val (.int i4), .val (.int ga), .val (.int gb), .val (.ref b1), .val (.long z10), .second, .val (.int (((i5.toUInt32 >>> ((9 : Int32) &&& 31).toUInt32).toInt32) &&& (7 : Int32))), .val (.long (((((i5.toUInt32 >>> ((12 : Int32) &&& 31).toUInt32).toInt32) &&& (3 : Int32)) - (1 : Int32)).toInt64)), .second, .unset, .unset, .unset] [])) (fun _ k => XS.icmpYes X9.here hx rfl (pc0 := 233) (pc' := 247) rfl (hb hby at_233) rfl (feq c39).2 (by decide) (by decide) k) ?_
              refine own_go (T' := T9) (g' := (mkF m 249 #[.val (.long j0), .second, .val (.long j1), .second, .val (.int i2), .val (.int i3), .val (.int i4), .val (.int i5), .val (.int ea), .val (.int eb), .val (.int ec), .val (.int i4), .val (.int ga), .val (.int gb), .val (.ref b1), .val (.long z10), .second, .val (.int (((i5.toUInt32 >>> ((9 : Int32) &&& 31).toUInt32).toInt32) &&& (7 : Int32))), .val (.long (((((i5.toUInt32 >>> ((12 : Int32) &&& 31).toUInt32).toInt32) &&& (3 : Int32)) - (1 : Int32)).toInt64)), .second, .unset, .unset, .unset] [(.int (((i5.toUInt32 >>> ((9 : Int32) &&& 31).toUInt32).toInt32) &&& (7 : Int32)))])) (fun _ k => XS.iload X9.here hx rfl (hb hby at_247) rfl k) ?_
              refine own_go (T' := T9) (g' := (mkF m 250 #[.val (.long j0), .second, .val (.long j1), .second, .val (.int i2), .val (.int i3), .val (.int i4), .val (.int i5), .val (.int ea), .val (.int eb), .val (.int ec), .val (.int i4), .val (.int ga), .val (.int gb), .val (.ref b1), .val (.long z10), .second, .val (.int (((i5.toUInt32 >>> ((9 : Int32) &&& 31).toUInt32).toInt32) &&& (7 : Int32))), .val (.long (((((i5.toUInt32 >>> ((12 : Int32) &&& 31).toUInt32).toInt32) &&& (3 : Int32)) - (1 : Int32)).toInt64)), .second, .unset, .unset, .unset] [(.int (5 : Int32)), (.int (((i5.toUInt32 >>> ((9 : Int32) &&& 31).toUInt32).toInt32) &&& (7 : Int32)))])) (fun _ k => XS.iconst X9.here hx rfl (hb hby at_249) k) ?_
              by_cases c40 : (((i5.toUInt32 >>> ((9 : Int32) &&& 31).toUInt32).toInt32) &&& (7 : Int32)) = (5 : Int32)
              · refine own_go (T' := T9) (g' := (mkF m 253 #[.val (.long j0), .second, .val (.long j1), .second, .val (.int i2), .val (.int i3), .val (.int i4), .val (.int i5), .val (.int ea), .val (.int eb), .val (.int ec), .val (.int i4), .val (.int ga), .val (.int gb), .val (.ref b1), .val (.long z10), .second, .val (.int (((i5.toUInt32 >>> ((9 : Int32) &&& 31).toUInt32).toInt32) &&& (7 : Int32))), .val (.long (((((i5.toUInt32 >>> ((12 : Int32) &&& 31).toUInt32).toInt32) &&& (3 : Int32)) - (1 : Int32)).toInt64)), .second, .unset, .unset, .unset] [])) (fun _ k => XS.icmpNo X9.here hx rfl (hb hby at_250) rfl (teq c40).2 k) ?_
                refine own_go (T' := T9) (g' := (mkF m 255 #[.val (.long j0), .second, .val (.long j1), .second, .val (.int i2), .val (.int i3), .val (.int i4), .val (.int i5), .val (.int ea), .val (.int eb), .val (.int ec), .val (.int i4), .val (.int ga), .val (.int gb), .val (.ref b1), .val (.long z10), .second, .val (.int (((i5.toUInt32 >>> ((9 : Int32) &&& 31).toUInt32).toInt32) &&& (7 : Int32))), .val (.long (((((i5.toUInt32 >>> ((12 : Int32) &&& 31).toUInt32).toInt32) &&& (3 : Int32)) - (1 : Int32)).toInt64)), .second, .unset, .unset, .unset] [(.int gb)])) (fun _ k => XS.iload X9.here hx rfl (hb hby at_253) rfl k) ?_
                refine own_go (T' := T9) (g' := (mkF m 256 #[.val (.long j0), .second, .val (.long j1), .second, .val (.int i2), .val (.int i3), .val (.int i4), .val (.int i5), .val (.int ea), .val (.int eb), .val (.int ec), .val (.int i4), .val (.int ga), .val (.int gb), .val (.ref b1), .val (.long z10), .second, .val (.int (((i5.toUInt32 >>> ((9 : Int32) &&& 31).toUInt32).toInt32) &&& (7 : Int32))), .val (.long (((((i5.toUInt32 >>> ((12 : Int32) &&& 31).toUInt32).toInt32) &&& (3 : Int32)) - (1 : Int32)).toInt64)), .second, .unset, .unset, .unset] [(.long (gb.toInt64))])) (fun _ k => XS.i2l X9.here hx rfl (hb hby at_255) rfl k) ?_
                refine own_go (T' := T9) (g' := (mkF m 258 #[.val (.long j0), .second, .val (.long j1), .second, .val (.int i2), .val (.int i3), .val (.int i4), .val (.int i5), .val (.int ea), .val (.int eb), .val (.int ec), .val (.int i4), .val (.int ga), .val (.int gb), .val (.ref b1), .val (.long z10), .second, .val (.int (((i5.toUInt32 >>> ((9 : Int32) &&& 31).toUInt32).toInt32) &&& (7 : Int32))), .val (.long (((((i5.toUInt32 >>> ((12 : Int32) &&& 31).toUInt32).toInt32) &&& (3 : Int32)) - (1 : Int32)).toInt64)), .second, .unset, .unset, .unset] [(.long (((((i5.toUInt32 >>> ((12 : Int32) &&& 31).toUInt32).toInt32) &&& (3 : Int32)) - (1 : Int32)).toInt64)), (.long (gb.toInt64))])) (fun _ k => XS.lload X9.here hx rfl (hb hby at_256) rfl k) ?_
                refine own_go (T' := T9) (g' := (mkF m 259 #[.val (.long j0), .second, .val (.long j1), .second, .val (.int i2), .val (.int i3), .val (.int i4), .val (.int i5), .val (.int ea), .val (.int eb), .val (.int ec), .val (.int i4), .val (.int ga), .val (.int gb), .val (.ref b1), .val (.long z10), .second, .val (.int (((i5.toUInt32 >>> ((9 : Int32) &&& 31).toUInt32).toInt32) &&& (7 : Int32))), .val (.long (((((i5.toUInt32 >>> ((12 : Int32) &&& 31).toUInt32).toInt32) &&& (3 : Int32)) - (1 : Int32)).toInt64)), .second, .unset, .unset, .unset] [(.long ((gb.toInt64) + (((((i5.toUInt32 >>> ((12 : Int32) &&& 31).toUInt32).toInt32) &&& (3 : Int32)) - (1 : Int32)).toInt64)))])) (fun _ k => XS.ladd X9.here hx rfl (hb hby at_258) rfl k) ?_
                refine own_go (T' := T9) (g' := (mkF m 261 #[.val (.long j0), .second, .val (.long j1), .second, .val (.int i2), .val (.int i3), .val (.int i4), .val (.int i5), .val (.int ea), .val (.int eb), .val (.int ec), .val (.int i4), .val (.int ga), .val (.int gb), .val (.ref b1), .val (.long z10), .second, .val (.int (((i5.toUInt32 >>> ((9 : Int32) &&& 31).toUInt32).toInt32) &&& (7 : Int32))), .val (.long (((((i5.toUInt32 >>> ((12 : Int32) &&& 31).toUInt32).toInt32) &&& (3 : Int32)) - (1 : Int32)).toInt64)), .second, .val (.long ((gb.toInt64) + (((((i5.toUInt32 >>> ((12 : Int32) &&& 31).toUInt32).toInt32) &&& (3 : Int32)) - (1 : Int32)).toInt64))), .second, .unset] [])) (fun _ k => XS.lstore X9.here hx rfl (hb hby at_259) rfl (l' := #[.val (.long j0), .second, .val (.long j1), .second, .val (.int i2), .val (.int i3), .val (.int i4), .val (.int i5), .val (.int ea), .val (.int eb), .val (.int ec), .val (.int i4), .val (.int ga), .val (.int gb), .val (.ref b1), .val (.long z10), .second, .val (.int (((i5.toUInt32 >>> ((9 : Int32) &&& 31).toUInt32).toInt32) &&& (7 : Int32))), .val (.long (((((i5.toUInt32 >>> ((12 : Int32) &&& 31).toUInt32).toInt32) &&& (3 : Int32)) - (1 : Int32)).toInt64)), .second, .val (.long ((gb.toInt64) + (((((i5.toUInt32 >>> ((12 : Int32) &&& 31).toUInt32).toInt32) &&& (3 : Int32)) - (1 : Int32)).toInt64))), .second, .unset]) rfl k) ?_
                refine own_go (T' := T9) (g' := (mkF m 287 #[.val (.long j0), .second, .val (.long j1), .second, .val (.int i2), .val (.int i3), .val (.int i4), .val (.int i5), .val (.int ea), .val (.int eb), .val (.int ec), .val (.int i4), .val (.int ga), .val (.int gb), .val (.ref b1), .val (.long z10), .second, .val (.int (((i5.toUInt32 >>> ((9 : Int32) &&& 31).toUInt32).toInt32) &&& (7 : Int32))), .val (.long (((((i5.toUInt32 >>> ((12 : Int32) &&& 31).toUInt32).toInt32) &&& (3 : Int32)) - (1 : Int32)).toInt64)), .second, .val (.long ((gb.toInt64) + (((((i5.toUInt32 >>> ((12 : Int32) &&& 31).toUInt32).toInt32) &&& (3 : Int32)) - (1 : Int32)).toInt64))), .second, .unset] [])) (fun _ k => XS.goto X9.here hx rfl (pc0 := 261) (pc' := 287) rfl (hb hby at_261) (by decide) (by decide) k) ?_
                exact J15 _ (by (try simp only [own_ln1, own_l0, own_l1, own_l2, own_l3, own_l4, own_l5, own_l6, own_l7, own_l8, own_l9, own_l12, own_l32, own_L0, own_L1, own_L2, own_L3, own_L7, Int32.lt_iff_toInt_lt, ← Int32.toInt_inj, Int64.lt_iff_toInt_lt, ← Int64.toInt_inj, and_true, true_and, and_false, false_and, or_true, true_or, or_false, false_or, not_true_eq_false, not_false_eq_true, ne_eq, true_implies, false_implies, implies_true] at hz11 c35 c36 c37 c38 c39 c40 ⊢) <;> omega)
              · refine own_go (T' := T9) (g' := (mkF m 264 #[.val (.long j0), .second, .val (.long j1), .second, .val (.int i2), .val (.int i3), .val (.int i4), .val (.int i5), .val (.int ea), .val (.int eb), .val (.int ec), .val (.int i4), .val (.int ga), .val (.int gb), .val (.ref b1), .val (.long z10), .second, .val (.int (((i5.toUInt32 >>> ((9 : Int32) &&& 31).toUInt32).toInt32) &&& (7 : Int32))), .val (.long (((((i5.toUInt32 >>> ((12 : Int32) &&& 31).toUInt32).toInt32) &&& (3 : Int32)) - (1 : Int32)).toInt64)), .second, .unset, .unset, .unset] [])) (fun _ k => XS.icmpYes X9.here hx rfl (pc0 := 250) (pc' := 264) rfl (hb hby at_250) rfl (feq c40).2 (by decide) (by decide) k) ?_
                refine own_go (T' := T9) (g' := (mkF m 266 #[.val (.long j0), .second, .val (.long j1), .second, .val (.int i2), .val (.int i3), .val (.int i4), .val (.int i5), .val (.int ea), .val (.int eb), .val (.int ec), .val (.int i4), .val (.int ga), .val (.int gb), .val (.ref b1), .val (.long z10), .second, .val (.int (((i5.toUInt32 >>> ((9 : Int32) &&& 31).toUInt32).toInt32) &&& (7 : Int32))), .val (.long (((((i5.toUInt32 >>> ((12 : Int32) &&& 31).toUInt32).toInt32) &&& (3 : Int32)) - (1 : Int32)).toInt64)), .second, .unset, .unset, .unset] [(.int (((i5.toUInt32 >>> ((9 : Int32) &&& 31).toUInt32).toInt32) &&& (7 : Int32)))])) (fun _ k => XS.iload X9.here hx rfl (hb hby at_264) rfl k) ?_
                refine own_go (T' := T9) (g' := (mkF m 268 #[.val (.long j0), .second, .val (.long j1), .second, .val (.int i2), .val (.int i3), .val (.int i4), .val (.int i5), .val (.int ea), .val (.int eb), .val (.int ec), .val (.int i4), .val (.int ga), .val (.int gb), .val (.ref b1), .val (.long z10), .second, .val (.int (((i5.toUInt32 >>> ((9 : Int32) &&& 31).toUInt32).toInt32) &&& (7 : Int32))), .val (.long (((((i5.toUInt32 >>> ((12 : Int32) &&& 31).toUInt32).toInt32) &&& (3 : Int32)) - (1 : Int32)).toInt64)), .second, .unset, .unset, .unset] [(.int (6 : Int32)), (.int (((i5.toUInt32 >>> ((9 : Int32) &&& 31).toUInt32).toInt32) &&& (7 : Int32)))])) (fun _ k => XS.bipush X9.here hx rfl (hb hby at_266) k) ?_
                by_cases c41 : (((i5.toUInt32 >>> ((9 : Int32) &&& 31).toUInt32).toInt32) &&& (7 : Int32)) = (6 : Int32)
                · refine own_go (T' := T9) (g' := (mkF m 271 #[.val (.long j0), .second, .val (.long j1), .second, .val (.int i2), .val (.int i3), .val (.int i4), .val (.int i5), .val (.int ea), .val (.int eb), .val (.int ec), .val (.int i4), .val (.int ga), .val (.int gb), .val (.ref b1), .val (.long z10), .second, .val (.int (((i5.toUInt32 >>> ((9 : Int32) &&& 31).toUInt32).toInt32) &&& (7 : Int32))), .val (.long (((((i5.toUInt32 >>> ((12 : Int32) &&& 31).toUInt32).toInt32) &&& (3 : Int32)) - (1 : Int32)).toInt64)), .second, .unset, .unset, .unset] [])) (fun _ k => XS.icmpNo X9.here hx rfl (hb hby at_268) rfl (teq c41).2 k) ?_
                  refine own_go (T' := T9) (g' := (mkF m 272 #[.val (.long j0), .second, .val (.long j1), .second, .val (.int i2), .val (.int i3), .val (.int i4), .val (.int i5), .val (.int ea), .val (.int eb), .val (.int ec), .val (.int i4), .val (.int ga), .val (.int gb), .val (.ref b1), .val (.long z10), .second, .val (.int (((i5.toUInt32 >>> ((9 : Int32) &&& 31).toUInt32).toInt32) &&& (7 : Int32))), .val (.long (((((i5.toUInt32 >>> ((12 : Int32) &&& 31).toUInt32).toInt32) &&& (3 : Int32)) - (1 : Int32)).toInt64)), .second, .unset, .unset, .unset] [(.long j1)])) (fun _ k => XS.lloadN X9.here hx rfl (hb hby at_271) rfl k) ?_
                  refine own_go (T' := T9) (g' := (mkF m 274 #[.val (.long j0), .second, .val (.long j1), .second, .val (.int i2), .val (.int i3), .val (.int i4), .val (.int i5), .val (.int ea), .val (.int eb), .val (.int ec), .val (.int i4), .val (.int ga), .val (.int gb), .val (.ref b1), .val (.long z10), .second, .val (.int (((i5.toUInt32 >>> ((9 : Int32) &&& 31).toUInt32).toInt32) &&& (7 : Int32))), .val (.long (((((i5.toUInt32 >>> ((12 : Int32) &&& 31).toUInt32).toInt32) &&& (3 : Int32)) - (1 : Int32)).toInt64)), .second, .val (.long j1), .second, .unset] [])) (fun _ k => XS.lstore X9.here hx rfl (hb hby at_272) rfl (l' := #[.val (.long j0), .second, .val (.long j1), .second, .val (.int i2), .val (.int i3), .val (.int i4), .val (.int i5), .val (.int ea), .val (.int eb), .val (.int ec), .val (.int i4), .val (.int ga), .val (.int gb), .val (.ref b1), .val (.long z10), .second, .val (.int (((i5.toUInt32 >>> ((9 : Int32) &&& 31).toUInt32).toInt32) &&& (7 : Int32))), .val (.long (((((i5.toUInt32 >>> ((12 : Int32) &&& 31).toUInt32).toInt32) &&& (3 : Int32)) - (1 : Int32)).toInt64)), .second, .val (.long j1), .second, .unset]) rfl k) ?_
                  refine own_go (T' := T9) (g' := (mkF m 287 #[.val (.long j0), .second, .val (.long j1), .second, .val (.int i2), .val (.int i3), .val (.int i4), .val (.int i5), .val (.int ea), .val (.int eb), .val (.int ec), .val (.int i4), .val (.int ga), .val (.int gb), .val (.ref b1), .val (.long z10), .second, .val (.int (((i5.toUInt32 >>> ((9 : Int32) &&& 31).toUInt32).toInt32) &&& (7 : Int32))), .val (.long (((((i5.toUInt32 >>> ((12 : Int32) &&& 31).toUInt32).toInt32) &&& (3 : Int32)) - (1 : Int32)).toInt64)), .second, .val (.long j1), .second, .unset] [])) (fun _ k => XS.goto X9.here hx rfl (pc0 := 274) (pc' := 287) rfl (hb hby at_274) (by decide) (by decide) k) ?_
                  exact J15 _ (by (try simp only [own_ln1, own_l0, own_l1, own_l2, own_l3, own_l4, own_l5, own_l6, own_l7, own_l8, own_l9, own_l12, own_l32, own_L0, own_L1, own_L2, own_L3, own_L7, Int32.lt_iff_toInt_lt, ← Int32.toInt_inj, Int64.lt_iff_toInt_lt, ← Int64.toInt_inj, and_true, true_and, and_false, false_and, or_true, true_or, or_false, false_or, not_true_eq_false, not_false_eq_true, ne_eq, true_implies, false_implies, implies_true] at hz11 c35 c36 c37 c38 c39 c40 c41 ⊢) <;> omega)
                · refine own_go (T' := T9) (g' := (mkF m 277 #[.val (.long j0), .second, .val (.long j1), .second, .val (.int i2), .val (.int i3), .val (.int i4), .val (.int i5), .val (.int ea), .val (.int eb), .val (.int ec), .val (.int i4), .val (.int ga), .val (.int gb), .val (.ref b1), .val (.long z10), .second, .val (.int (((i5.toUInt32 >>> ((9 : Int32) &&& 31).toUInt32).toInt32) &&& (7 : Int32))), .val (.long (((((i5.toUInt32 >>> ((12 : Int32) &&& 31).toUInt32).toInt32) &&& (3 : Int32)) - (1 : Int32)).toInt64)), .second, .unset, .unset, .unset] [])) (fun _ k => XS.icmpYes X9.here hx rfl (pc0 := 268) (pc' := 277) rfl (hb hby at_268) rfl (feq c41).2 (by decide) (by decide) k) ?_
                  refine own_go (T' := T9) (g' := (mkF m 279 #[.val (.long j0), .second, .val (.long j1), .second, .val (.int i2), .val (.int i3), .val (.int i4), .val (.int i5), .val (.int ea), .val (.int eb), .val (.int ec), .val (.int i4), .val (.int ga), .val (.int gb), .val (.ref b1), .val (.long z10), .second, .val (.int (((i5.toUInt32 >>> ((9 : Int32) &&& 31).toUInt32).toInt32) &&& (7 : Int32))), .val (.long (((((i5.toUInt32 >>> ((12 : Int32) &&& 31).toUInt32).toInt32) &&& (3 : Int32)) - (1 : Int32)).toInt64)), .second, .unset, .unset, .unset] [(.int eb)])) (fun _ k => XS.iload X9.here hx rfl (hb hby at_277) rfl k) ?_
                  refine own_go (T' := T9) (g' := (mkF m 280 #[.val (.long j0), .second, .val (.long j1), .second, .val (.int i2), .val (.int i3), .val (.int i4), .val (.int i5), .val (.int ea), .val (.int eb), .val (.int ec), .val (.int i4), .val (.int ga), .val (.int gb), .val (.ref b1), .val (.long z10), .second, .val (.int (((i5.toUInt32 >>> ((9 : Int32) &&& 31).toUInt32).toInt32) &&& (7 : Int32))), .val (.long (((((i5.toUInt32 >>> ((12 : Int32) &&& 31).toUInt32).toInt32) &&& (3 : Int32)) - (1 : Int32)).toInt64)), .second, .unset, .unset, .unset] [(.long (eb.toInt64))])) (fun _ k => XS.i2l X9.here hx rfl (hb hby at_279) rfl k) ?_
                  refine own_go (T' := T9) (g' := (mkF m 281 #[.val (.long j0), .second, .val (.long j1), .second, .val (.int i2), .val (.int i3), .val (.int i4), .val (.int i5), .val (.int ea), .val (.int eb), .val (.int ec), .val (.int i4), .val (.int ga), .val (.int gb), .val (.ref b1), .val (.long z10), .second, .val (.int (((i5.toUInt32 >>> ((9 : Int32) &&& 31).toUInt32).toInt32) &&& (7 : Int32))), .val (.long (((((i5.toUInt32 >>> ((12 : Int32) &&& 31).toUInt32).toInt32) &&& (3 : Int32)) - (1 : Int32)).toInt64)), .second, .unset, .unset, .unset] [(.long j1), (.long (eb.toInt64))])) (fun _ k => XS.lloadN X9.here hx rfl (hb hby at_280) rfl k) ?_
                  refine own_go (T' := T9) (g' := (mkF m 283 #[.val (.long j0), .second, .val (.long j1), .second, .val (.int i2), .val (.int i3), .val (.int i4), .val (.int i5), .val (.int ea), .val (.int eb), .val (.int ec), .val (.int i4), .val (.int ga), .val (.int gb), .val (.ref b1), .val (.long z10), .second, .val (.int (((i5.toUInt32 >>> ((9 : Int32) &&& 31).toUInt32).toInt32) &&& (7 : Int32))), .val (.long (((((i5.toUInt32 >>> ((12 : Int32) &&& 31).toUInt32).toInt32) &&& (3 : Int32)) - (1 : Int32)).toInt64)), .second, .unset, .unset, .unset] [(.int (32 : Int32)), (.long j1), (.long (eb.toInt64))])) (fun _ k => XS.bipush X9.here hx rfl (hb hby at_281) k) ?_
                  refine own_go (T' := T9) (g' := (mkF m 284 #[.val (.long j0), .second, .val (.long j1), .second, .val (.int i2), .val (.int i3), .val (.int i4), .val (.int i5), .val (.int ea), .val (.int eb), .val (.int ec), .val (.int i4), .val (.int ga), .val (.int gb), .val (.ref b1), .val (.long z10), .second, .val (.int (((i5.toUInt32 >>> ((9 : Int32) &&& 31).toUInt32).toInt32) &&& (7 : Int32))), .val (.long (((((i5.toUInt32 >>> ((12 : Int32) &&& 31).toUInt32).toInt32) &&& (3 : Int32)) - (1 : Int32)).toInt64)), .second, .unset, .unset, .unset] [(.long (j1 <<< ((32 : Int32) &&& 0x3f).toInt64)), (.long (eb.toInt64))])) (fun _ k => XS.lshl X9.here hx rfl (hb hby at_283) rfl k) ?_
                  refine own_go (T' := T9) (g' := (mkF m 285 #[.val (.long j0), .second, .val (.long j1), .second, .val (.int i2), .val (.int i3), .val (.int i4), .val (.int i5), .val (.int ea), .val (.int eb), .val (.int ec), .val (.int i4), .val (.int ga), .val (.int gb), .val (.ref b1), .val (.long z10), .second, .val (.int (((i5.toUInt32 >>> ((9 : Int32) &&& 31).toUInt32).toInt32) &&& (7 : Int32))), .val (.long (((((i5.toUInt32 >>> ((12 : Int32) &&& 31).toUInt32).toInt32) &&& (3 : Int32)) - (1 : Int32)).toInt64)), .second, .unset, .unset, .unset] [(.long ((eb.toInt64) + (j1 <<< ((32 : Int32) &&& 0x3f).toInt64)))])) (fun _ k => XS.ladd X9.here hx rfl (hb hby at_284) rfl k) ?_
                  refine own_go (T' := T9) (g' := (mkF m 287 #[.val (.long j0), .second, .val (.long j1), .second, .val (.int i2), .val (.int i3), .val (.int i4), .val (.int i5), .val (.int ea), .val (.int eb), .val (.int ec), .val (.int i4), .val (.int ga), .val (.int gb), .val (.ref b1), .val (.long z10), .second, .val (.int (((i5.toUInt32 >>> ((9 : Int32) &&& 31).toUInt32).toInt32) &&& (7 : Int32))), .val (.long (((((i5.toUInt32 >>> ((12 : Int32) &&& 31).toUInt32).toInt32) &&& (3 : Int32)) - (1 : Int32)).toInt64)), .second, .val (.long ((eb.toInt64) + (j1 <<< ((32 : Int32) &&& 0x3f).toInt64))), .second, .unset] [])) (fun _ k => XS.lstore X9.here hx rfl (hb hby at_285) rfl (l' := #[.val (.long j0), .second, .val (.long j1), .second, .val (.int i2), .val (.int i3), .val (.int i4), .val (.int i5), .val (.int ea), .val (.int eb), .val (.int ec), .val (.int i4), .val (.int ga), .val (.int gb), .val (.ref b1), .val (.long z10), .second, .val (.int (((i5.toUInt32 >>> ((9 : Int32) &&& 31).toUInt32).toInt32) &&& (7 : Int32))), .val (.long (((((i5.toUInt32 >>> ((12 : Int32) &&& 31).toUInt32).toInt32) &&& (3 : Int32)) - (1 : Int32)).toInt64)), .second, .val (.long ((eb.toInt64) + (j1 <<< ((32 : Int32) &&& 0x3f).toInt64))), .second, .unset]) rfl k) ?_
                  exact J15 _ (by (try simp only [own_ln1, own_l0, own_l1, own_l2, own_l3, own_l4, own_l5, own_l6, own_l7, own_l8, own_l9, own_l12, own_l32, own_L0, own_L1, own_L2, own_L3, own_L7, Int32.lt_iff_toInt_lt, ← Int32.toInt_inj, Int64.lt_iff_toInt_lt, ← Int64.toInt_inj, and_true, true_and, and_false, false_and, or_true, true_or, or_false, false_or, not_true_eq_false, not_false_eq_true, ne_eq, true_implies, false_implies, implies_true] at hz11 c35 c36 c37 c38 c39 c40 c41 ⊢) <;> omega)
  by_cases c42 : (((i5.toUInt32 >>> ((8 : Int32) &&& 31).toUInt32).toInt32) &&& (1 : Int32)) = (0 : Int32)
  · refine own_go (T' := T9) (g' := (mkF m 132 #[.val (.long j0), .second, .val (.long j1), .second, .val (.int i2), .val (.int i3), .val (.int i4), .val (.int i5), .val (.int ea), .val (.int eb), .val (.int ec), .val (.int i4), .val (.int ga), .val (.int gb), .val (.ref b1), .unset, .unset, .unset, .unset, .unset, .unset, .unset, .unset] [])) (fun _ k => XS.ifYes X9.here hx rfl (pc0 := 125) (pc' := 132) rfl (hb hby at_125) rfl ((if0 _ _).trans (teq c42).1) (by decide) (by decide) k) ?_
    refine own_go (T' := T9) (g' := (mkF m 133 #[.val (.long j0), .second, .val (.long j1), .second, .val (.int i2), .val (.int i3), .val (.int i4), .val (.int i5), .val (.int ea), .val (.int eb), .val (.int ec), .val (.int i4), .val (.int ga), .val (.int gb), .val (.ref b1), .unset, .unset, .unset, .unset, .unset, .unset, .unset, .unset] [(.long j0)])) (fun _ k => XS.lloadN X9.here hx rfl (hb hby at_132) rfl k) ?_
    refine own_go (T' := T9) (g' := (mkF m 136 #[.val (.long j0), .second, .val (.long j1), .second, .val (.int i2), .val (.int i3), .val (.int i4), .val (.int i5), .val (.int ea), .val (.int eb), .val (.int ec), .val (.int i4), .val (.int ga), .val (.int gb), .val (.ref b1), .unset, .unset, .unset, .unset, .unset, .unset, .unset, .unset] [(.long (7 : Int64)), (.long j0)])) (fun _ k => X9.ldc2Long hx hown (mvT hZ (hw _ (List.mem_of_getElem? (i := 47) rfl))) (g := (mkF m 133 #[.val (.long j0), .second, .val (.long j1), .second, .val (.int i2), .val (.int i3), .val (.int i4), .val (.int i5), .val (.int ea), .val (.int eb), .val (.int ec), .val (.int i4), .val (.int ga), .val (.int gb), .val (.ref b1), .unset, .unset, .unset, .unset, .unset, .unset, .unset, .unset] [(.long j0)])) rfl (hb hby at_133) _ k) ?_
    refine own_go (T' := T9) (g' := (mkF m 137 #[.val (.long j0), .second, .val (.long j1), .second, .val (.int i2), .val (.int i3), .val (.int i4), .val (.int i5), .val (.int ea), .val (.int eb), .val (.int ec), .val (.int i4), .val (.int ga), .val (.int gb), .val (.ref b1), .unset, .unset, .unset, .unset, .unset, .unset, .unset, .unset] [(.long (j0 &&& (7 : Int64)))])) (fun _ k => XS.land X9.here hx rfl (hb hby at_136) rfl k) ?_
    refine own_go (T' := T9) (g' := (mkF m 138 #[.val (.long j0), .second, .val (.long j1), .second, .val (.int i2), .val (.int i3), .val (.int i4), .val (.int i5), .val (.int ea), .val (.int eb), .val (.int ec), .val (.int i4), .val (.int ga), .val (.int gb), .val (.ref b1), .unset, .unset, .unset, .unset, .unset, .unset, .unset, .unset] [(.long (1 : Int64)), (.long (j0 &&& (7 : Int64)))])) (fun _ k => XS.lconst X9.here hx rfl (hb hby at_137) k) ?_
    refine own_go (T' := T9) (g' := (mkF m 139 #[.val (.long j0), .second, .val (.long j1), .second, .val (.int i2), .val (.int i3), .val (.int i4), .val (.int i5), .val (.int ea), .val (.int eb), .val (.int ec), .val (.int i4), .val (.int ga), .val (.int gb), .val (.ref b1), .unset, .unset, .unset, .unset, .unset, .unset, .unset, .unset] [(.long ((j0 &&& (7 : Int64)) - (1 : Int64)))])) (fun _ k => XS.lsub X9.here hx rfl (hb hby at_138) rfl k) ?_
    exact J12 _ (by (try simp only [own_ln1, own_l0, own_l1, own_l2, own_l3, own_l4, own_l5, own_l6, own_l7, own_l8, own_l9, own_l12, own_l32, own_L0, own_L1, own_L2, own_L3, own_L7, Int32.lt_iff_toInt_lt, ← Int32.toInt_inj, Int64.lt_iff_toInt_lt, ← Int64.toInt_inj, and_true, true_and, and_false, false_and, or_true, true_or, or_false, false_or, not_true_eq_false, not_false_eq_true, ne_eq, true_implies, false_implies, implies_true] at c42 ⊢) <;> omega)
  · refine own_go (T' := T9) (g' := (mkF m 128 #[.val (.long j0), .second, .val (.long j1), .second, .val (.int i2), .val (.int i3), .val (.int i4), .val (.int i5), .val (.int ea), .val (.int eb), .val (.int ec), .val (.int i4), .val (.int ga), .val (.int gb), .val (.ref b1), .unset, .unset, .unset, .unset, .unset, .unset, .unset, .unset] [])) (fun _ k => XS.ifNo X9.here hx rfl (hb hby at_125) rfl ((if0 _ _).trans (feq c42).1) k) ?_
    refine own_go (T' := T9) (g' := (mkF m 129 #[.val (.long j0), .second, .val (.long j1), .second, .val (.int i2), .val (.int i3), .val (.int i4), .val (.int i5), .val (.int ea), .val (.int eb), .val (.int ec), .val (.int i4), .val (.int ga), .val (.int gb), .val (.ref b1), .unset, .unset, .unset, .unset, .unset, .unset, .unset, .unset] [(.long j0)])) (fun _ k => XS.lloadN X9.here hx rfl (hb hby at_128) rfl k) ?_
    refine own_go (T' := T9) (g' := (mkF m 139 #[.val (.long j0), .second, .val (.long j1), .second, .val (.int i2), .val (.int i3), .val (.int i4), .val (.int i5), .val (.int ea), .val (.int eb), .val (.int ec), .val (.int i4), .val (.int ga), .val (.int gb), .val (.ref b1), .unset, .unset, .unset, .unset, .unset, .unset, .unset, .unset] [(.long j0)])) (fun _ k => XS.goto X9.here hx rfl (pc0 := 129) (pc' := 139) rfl (hb hby at_129) (by decide) (by decide) k) ?_
    exact J12 _ (by (try simp only [own_ln1, own_l0, own_l1, own_l2, own_l3, own_l4, own_l5, own_l6, own_l7, own_l8, own_l9, own_l12, own_l32, own_L0, own_L1, own_L2, own_L3, own_L7, Int32.lt_iff_toInt_lt, ← Int32.toInt_inj, Int64.lt_iff_toInt_lt, ← Int64.toInt_inj, and_true, true_and, and_false, false_and, or_true, true_or, or_false, false_or, not_true_eq_false, not_false_eq_true, ne_eq, true_implies, false_implies, implies_true] at c42 ⊢) <;> omega)
set_option maxRecDepth 65536 in
set_option maxHeartbeats 40000000 in
theorem own_comes {Post : Tables → Env → Array Value → State → Outcome → State → Prop} (hpost : ∀ tb e args s v u, (limb_1_1.after args s (.returned v) u = true ∧ limb_1_2.after args s (.returned v) u = true ∧ True) → FrameEnd s (.returned v) u (Jvm.fieldLocs frame_1_writes args s ++ Jvm.arrayLocs frame_1_arrays args s ++ Jvm.staticLocs frame_1_statics s) 32 256 → Post tb e args s (.returned v) u) :
    ArmFor flags0 classFile x code maxLocals ret World_1 tables_1 room_1 Calls_1 rest_1 Pre_1 Post := by
  intro l hfl _ _ p e ha hc hk s m args below hf hA hF happ hP
  obtain ⟨hcalls, hrest, hpre⟩ := hP
  obtain ⟨-, -, -, hnamed, -, -, -, hat⟩ := (Spec.applies_iff hf).mp happ
  obtain ⟨hg, hn⟩ := and_e (Cond.before_iff.mp (show (Jvm.Cond.and given_1 narrow_1).before args s = true from hpre))
  obtain ⟨gg1, gg2⟩ := and_e hg
  obtain ⟨gg3, gg4⟩ := and_e gg2
  obtain ⟨gg5, gg6⟩ := and_e gg4
  obtain ⟨gg7, gg8⟩ := and_e gg6
  obtain ⟨gg9, gg10⟩ := and_e gg8
  obtain ⟨gg11, gg12⟩ := and_e gg10
  obtain ⟨w0, w1, w2, w3, w4, w5, rfl⟩ : ∃ w0 w1 w2 w3 w4 w5 : Value, args = #[w0, w1, w2, w3, w4, w5] := by
    have hs : args.size = 6 := by simpa [Cond.value, given_1] using gg1
    obtain ⟨L⟩ := args
    match L, hs with
    | [w0, w1, w2, w3, w4, w5], _ => exact ⟨w0, w1, w2, w3, w4, w5, rfl⟩
  have hw := fun d (hd : d ∈ tables_1) => atoms_spec (ws := Jvm.Cond.code x code maxLocals ret :: tables_1) hat d (List.mem_cons_of_mem _ hd)
  have hfit : Fit s := fun {y c} hc i hi => by
    obtain ⟨ha, rfl⟩ := Array.getElem?_eq_some_iff.mp hc
    have q := List.all_eq_true.mp ((Array.all_eq_true_iff_forall_mem.mp hF) _ (Array.getElem_mem ha)) i (List.mem_range.mpr hi)
    simpa [Array.getElem?_eq_getElem hi] using q
  obtain ⟨i0, ei0⟩ := isL_v gg3
  obtain rfl : w0 = (.long i0) := Option.some.inj ei0
  obtain ⟨i1, ei1⟩ := isL_v gg5
  obtain rfl : w1 = (.long i1) := Option.some.inj ei1
  obtain ⟨i2, ei2⟩ := is_v gg7
  obtain rfl : w2 = (.int i2) := Option.some.inj ei2
  obtain ⟨i3, ei3⟩ := is_v gg9
  obtain rfl : w3 = (.int i3) := Option.some.inj ei3
  obtain ⟨i4, ei4⟩ := is_v gg11
  obtain rfl : w4 = (.int i4) := Option.some.inj ei4
  obtain ⟨i5, ei5⟩ := is_v gg12
  obtain rfl : w5 = (.int i5) := Option.some.inj ei5
  obtain ⟨n, o, h1, h2, h3, _, L, rfl, ⟨rfl, N⟩, hq⟩ := own_rm0 l s _ hw tables_1 i0 i1 i2 i3 i4 i5 s.heap s.heap.size (Nat.le_refl _)  p e ha hc hk s m _ below hf ((Spec.applies_iff_loose hf).mp happ).1 ⟨rfl, State.Warmed39.refl s, rfl⟩ trivial
  refine ⟨n, _, h1, h2, h3, hpost _ _ _ _ _ _ ⟨Cond.after_iff.mpr rfl, Cond.after_iff.mpr (eq_i res_at (Term.int_eval (1)) rfl), trivial⟩ ⟨hq.1, hq.2.1, (hq.2.2.sift fun y hy => Or.inr (N y hy)).mono (by decide) (by decide)⟩⟩
theorem main_1_1 : Claimed_1_1 := own_comes fun _ _ _ _ _ _ h hF => ⟨h.1, hF⟩
theorem main_1_2 : Claimed_1_2 := own_comes fun _ _ _ _ _ _ h hF => ⟨h.2.1, hF⟩
end Jvm.Pilot.@@N@@
namespace Jvm.Pilot.@@N@@
open Jvm Jvm.ClassFile Sem Op Lib Jvm.Free Jvm.Stand Jvm.Pilot.@@N@@.Jvm.D
/-! MADE BY PROGRAM (witnessworld.py) out of the Statement's table words and the real class files: 12 classes; the members and pool entries that the words name. The judged class is class 1, her method 1. -/
namespace start1
open Jvm.ClassFile
def u (s : String) : CpInfo := .utf8 (stringToUtf16 s)
/-- a pool by its gaps: so many unusable entries, then the entry; so many at the end -/
def gap : Nat → List CpInfo → List CpInfo
  | 0, r => r
  | n + 1, r => .unusable :: gap n r
def poolList (es : List (Nat × CpInfo)) (last : Nat) : List CpInfo := es.foldr (fun e r => gap e.1 (e.2 :: r)) (gap last [])
def pool (es : List (Nat × CpInfo)) (last : Nat) : Array CpInfo := ⟨poolList es last⟩
def fileOf (pool : Array CpInfo) (this : Nat) (attrs : Array Attribute := #[]) (ms : Array MethodInfo := #[]) (fl : Nat := 33) (sup : Nat := 0) (ifs : Array Nat := #[]) (fds : Array FieldInfo := #[]) : ClassFile where
  minorVersion := 0
  majorVersion := 65
  constantPool := pool
  accessFlags := fl
  thisClass := this
  superClass := sup
  interfaces := ifs
  fields := fds
  methods := ms
  attributes := attrs
def plain (name : String) (sup : Option ClassId) : Class where
  name := name
  kind := .ordinary
  loader := none
  accessFlags := 33
  super := sup
  interfaces := #[]
  cf := none
  fields := #[]
  methods := #[]
  instanceTypes := #[]
  staticTypes := #[]
  resolved := #[]
  callSites := []
  init := .initialized
  statics := none
  mirror := none

def pool0 : Array CpInfo := pool [(5, u "<init>"), (0, u "()V"), (1, .class_ 10), (1, u "java/lang/Object")] 113

def k0c0 : Code := { maxStack := 0, maxLocals := 1, code := object_method_1_code, exceptionTable := #[], attributes := #[] }
def k0m0 : Method := { name := "<init>", desc := "()V", sig := { parameters := [], returnType := none }, accessFlags := 1, code := some k0c0 }
/-- java/lang/Object -/
def k0 : Class := { plain "java/lang/Object" none with
  accessFlags := 33
  interfaces := #[]
  cf := some (fileOf pool0 8 #[] #[{ accessFlags := 1, nameIndex := 5, descriptorIndex := 6, attributes := #[] }] 33 0 #[] #[])
  fields := #[]
  methods := #[k0m0]
  instanceTypes := #[]
  staticTypes := #[]
  resolved := Array.replicate 124 none
  statics := none }

def pool1 : Array CpInfo := pool [(2, .class_ 4), (1, u "java/lang/Object"), (0, u "<init>"), (0, u "()V"), (0, .class_ 8), (0, u "com/example/nimble_twig/nimbletwig/index/store/StoredStreams"), (0, .methodref 7 10), (0, .nameAndType 5 11), (0, u "(I)V"), (0, .methodref 7 13), (0, .nameAndType 14 15), (0, u "add"), (0, u "(II)V"), (0, .methodref 7 17), (0, .nameAndType 18 11), (0, u "findByName"), (0, .long 7), (1, .long 2), (1, .long 3), (1, .methodref 7 26), (0, .nameAndType 27 28), (0, u "place"), (0, u "(JJ)I"), (0, .class_ 30), (0, u "com/example/nimble_twig/nimbletwig/index/store/StoredStreamsPlacePinLaw"), (2, u "law"), (0, u "(JJIIII)Z")] 3

def k1m0 : Method := { name := "<init>", desc := "()V", sig := { parameters := [], returnType := none }, accessFlags := 1, code := none }
def k1c1 : Code := { maxStack := 5, maxLocals := 23, code := code, exceptionTable := #[], attributes := #[] }
def k1m1 : Method := { name := "law", desc := "(JJIIII)Z", sig := { parameters := [.long, .long, .int, .int, .int, .int], returnType := some .boolean }, accessFlags := 9, code := some k1c1 }
/-- com/example/nimble_twig/nimbletwig/index/store/StoredStreamsPlacePinLaw -/
def k1 : Class := { plain "com/example/nimble_twig/nimbletwig/index/store/StoredStreamsPlacePinLaw" (some 0) with
  accessFlags := 49
  interfaces := #[]
  cf := some (fileOf pool1 29 #[] #[{ accessFlags := 1, nameIndex := 5, descriptorIndex := 6, attributes := #[] }, { accessFlags := 9, nameIndex := 33, descriptorIndex := 34, attributes := #[] }] 49 2 #[] #[])
  fields := #[]
  methods := #[k1m0, k1m1]
  instanceTypes := #[]
  staticTypes := #[]
  resolved := Array.replicate 38 none
  statics := none }

def pool2 : Array CpInfo := pool [(1, .methodref 2 3), (0, .class_ 4), (0, .nameAndType 5 6), (0, u "java/lang/Object"), (0, u "<init>"), (0, u "()V"), (0, .fieldref 8 9), (0, .class_ 10), (0, .nameAndType 11 12), (0, u "com/example/nimble_twig/nimbletwig/index/store/StoredStreams"), (0, u "firstStreams"), (0, u "[I"), (0, .fieldref 8 14), (0, .nameAndType 15 12), (0, u "firstDepths"), (0, .methodref 17 18), (0, .class_ 19), (0, .nameAndType 20 21), (0, u "java/lang/Math"), (0, u "max"), (0, u "(II)I"), (0, .fieldref 8 23), (0, .nameAndType 24 12), (0, u "names"), (0, .fieldref 8 26), (0, .nameAndType 27 12), (0, u "depths"), (0, .fieldref 8 29), (0, .nameAndType 30 12), (0, u "firstExtents"), (0, .fieldref 8 32), (0, .nameAndType 33 34), (0, u "offsets"), (0, u "[J"), (0, .fieldref 8 36), (0, .nameAndType 37 34), (0, u "starts"), (0, .fieldref 8 39), (0, .nameAndType 40 12), (0, u "sizes"), (0, .fieldref 8 42), (0, .nameAndType 43 12), (0, u "checksums"), (5, .fieldref 8 50), (0, .nameAndType 51 52), (0, u "size"), (0, u "I"), (14, .fieldref 8 68), (0, .nameAndType 69 52), (0, u "extents"), (17, u "(I)V"), (4, u "add"), (0, u "(II)V"), (2, u "findByName"), (0, u "place"), (0, u "(JJ)I")] 16

def k2c0 : Code := { maxStack := 3, maxLocals := 3, code := prog_95_method_1_code, exceptionTable := #[], attributes := #[] }
def k2m0 : Method := { name := "<init>", desc := "(I)V", sig := { parameters := [.int], returnType := none }, accessFlags := 0, code := some k2c0 }
def k2c1 : Code := { maxStack := 4, maxLocals := 4, code := prog_95_method_3_code, exceptionTable := #[], attributes := #[] }
def k2m1 : Method := { name := "add", desc := "(II)V", sig := { parameters := [.int, .int], returnType := none }, accessFlags := 0, code := some k2c1 }
def k2c2 : Code := { maxStack := 5, maxLocals := 3, code := prog_95_method_5_code, exceptionTable := #[], attributes := #[] }
def k2m2 : Method := { name := "findByName", desc := "(I)V", sig := { parameters := [.int], returnType := none }, accessFlags := 0, code := some k2c2 }
def k2c3 : Code := { maxStack := 7, maxLocals := 10, code := prog_95_method_6_code, exceptionTable := #[], attributes := #[] }
def k2m3 : Method := { name := "place", desc := "(JJ)I", sig := { parameters := [.long, .long], returnType := some .int }, accessFlags := 0, code := some k2c3 }
/-- com/example/nimble_twig/nimbletwig/index/store/StoredStreams -/
def k2 : Class := { plain "com/example/nimble_twig/nimbletwig/index/store/StoredStreams" (some 0) with
  accessFlags := 48
  interfaces := #[]
  cf := some (fileOf pool2 8 #[] #[{ accessFlags := 0, nameIndex := 5, descriptorIndex := 87, attributes := #[] }, { accessFlags := 0, nameIndex := 92, descriptorIndex := 93, attributes := #[] }, { accessFlags := 0, nameIndex := 96, descriptorIndex := 87, attributes := #[] }, { accessFlags := 0, nameIndex := 97, descriptorIndex := 98, attributes := #[] }] 48 2 #[] #[{ accessFlags := 2, nameIndex := 24, descriptorIndex := 12, attributes := #[] }, { accessFlags := 2, nameIndex := 27, descriptorIndex := 12, attributes := #[] }, { accessFlags := 2, nameIndex := 11, descriptorIndex := 12, attributes := #[] }, { accessFlags := 2, nameIndex := 15, descriptorIndex := 12, attributes := #[] }, { accessFlags := 2, nameIndex := 30, descriptorIndex := 12, attributes := #[] }, { accessFlags := 2, nameIndex := 51, descriptorIndex := 52, attributes := #[] }, { accessFlags := 2, nameIndex := 33, descriptorIndex := 34, attributes := #[] }, { accessFlags := 2, nameIndex := 37, descriptorIndex := 34, attributes := #[] }, { accessFlags := 2, nameIndex := 40, descriptorIndex := 12, attributes := #[] }, { accessFlags := 2, nameIndex := 43, descriptorIndex := 12, attributes := #[] }, { accessFlags := 2, nameIndex := 69, descriptorIndex := 52, attributes := #[] }])
  fields := #[{ name := "names", type := (.array .int), accessFlags := 2, slot := 0, constantValue := 0 }, { name := "depths", type := (.array .int), accessFlags := 2, slot := 1, constantValue := 0 }, { name := "firstStreams", type := (.array .int), accessFlags := 2, slot := 2, constantValue := 0 }, { name := "firstDepths", type := (.array .int), accessFlags := 2, slot := 3, constantValue := 0 }, { name := "firstExtents", type := (.array .int), accessFlags := 2, slot := 4, constantValue := 0 }, { name := "size", type := .int, accessFlags := 2, slot := 5, constantValue := 0 }, { name := "offsets", type := (.array .long), accessFlags := 2, slot := 6, constantValue := 0 }, { name := "starts", type := (.array .long), accessFlags := 2, slot := 7, constantValue := 0 }, { name := "sizes", type := (.array .int), accessFlags := 2, slot := 8, constantValue := 0 }, { name := "checksums", type := (.array .int), accessFlags := 2, slot := 9, constantValue := 0 }, { name := "extents", type := .int, accessFlags := 2, slot := 10, constantValue := 0 }]
  methods := #[k2m0, k2m1, k2m2, k2m3]
  instanceTypes := #[(.array .int), (.array .int), (.array .int), (.array .int), (.array .int), .int, (.array .long), (.array .long), (.array .int), (.array .int), .int]
  staticTypes := #[]
  resolved := Array.replicate 115 none
  statics := none }

def pool3 : Array CpInfo := pool [(1, .class_ 2), (0, u "java/lang/Math"), (1, .class_ 6), (1, u "java/lang/Object"), (0, u "<init>"), (0, u "()V"), (89, .class_ 100), (1, u "java/lang/Math$RandomNumberGeneratorHolder"), (71, u "negativeZeroFloatBits"), (0, u "J"), (2, u "negativeZeroDoubleBits"), (21, u "max"), (46, u "$assertionsDisabled"), (0, u "Z"), (88, u "(II)I"), (2, u "twoToTheDoubleScaleDown"), (0, u "D"), (4, u "twoToTheDoubleScaleUp"), (9, u "E"), (3, u "PI"), (2, u "TAU"), (2, u "DEGREES_TO_RADIANS"), (0, u "RADIANS_TO_DEGREES")] 94

def k3m0 : Method := { name := "<init>", desc := "()V", sig := { parameters := [], returnType := none }, accessFlags := 2, code := none }
def k3c1 : Code := { maxStack := 2, maxLocals := 2, code := jdk_29_method_65_code, exceptionTable := #[], attributes := #[] }
def k3m1 : Method := { name := "max", desc := "(II)I", sig := { parameters := [.int, .int], returnType := some .int }, accessFlags := 9, code := some k3c1 }
/-- java/lang/Math -/
def k3 : Class := { plain "java/lang/Math" (some 0) with
  accessFlags := 49
  interfaces := #[]
  cf := some (fileOf pool3 1 #[.nestMembers #[98]] #[{ accessFlags := 2, nameIndex := 7, descriptorIndex := 8, attributes := #[] }, { accessFlags := 9, nameIndex := 198, descriptorIndex := 335, attributes := #[] }] 49 4 #[] #[{ accessFlags := 25, nameIndex := 354, descriptorIndex := 339, attributes := #[] }, { accessFlags := 25, nameIndex := 358, descriptorIndex := 339, attributes := #[] }, { accessFlags := 25, nameIndex := 361, descriptorIndex := 339, attributes := #[] }, { accessFlags := 26, nameIndex := 364, descriptorIndex := 339, attributes := #[] }, { accessFlags := 26, nameIndex := 365, descriptorIndex := 339, attributes := #[] }, { accessFlags := 26, nameIndex := 172, descriptorIndex := 173, attributes := #[] }, { accessFlags := 26, nameIndex := 176, descriptorIndex := 173, attributes := #[] }, { accessFlags := 8, nameIndex := 344, descriptorIndex := 339, attributes := #[] }, { accessFlags := 8, nameIndex := 338, descriptorIndex := 339, attributes := #[] }, { accessFlags := 4120, nameIndex := 245, descriptorIndex := 246, attributes := #[] }])
  fields := #[{ name := "E", type := .double, accessFlags := 25, slot := 0, constantValue := 0 }, { name := "PI", type := .double, accessFlags := 25, slot := 1, constantValue := 0 }, { name := "TAU", type := .double, accessFlags := 25, slot := 2, constantValue := 0 }, { name := "DEGREES_TO_RADIANS", type := .double, accessFlags := 26, slot := 3, constantValue := 0 }, { name := "RADIANS_TO_DEGREES", type := .double, accessFlags := 26, slot := 4, constantValue := 0 }, { name := "negativeZeroFloatBits", type := .long, accessFlags := 26, slot := 5, constantValue := 0 }, { name := "negativeZeroDoubleBits", type := .long, accessFlags := 26, slot := 6, constantValue := 0 }, { name := "twoToTheDoubleScaleUp", type := .double, accessFlags := 8, slot := 7, constantValue := 0 }, { name := "twoToTheDoubleScaleDown", type := .double, accessFlags := 8, slot := 8, constantValue := 0 }, { name := "$assertionsDisabled", type := .boolean, accessFlags := 4120, slot := 9, constantValue := 0 }]
  methods := #[k3m0, k3m1]
  instanceTypes := #[]
  staticTypes := #[.double, .double, .double, .double, .double, .long, .long, .double, .double, .boolean]
  resolved := Array.replicate 460 none
  statics := none }

def pool4 : Array CpInfo := pool [(1, u "java/lang/Cloneable"), (0, .class_ 1), (0, u "java/lang/Object"), (0, .class_ 3)] 3

/-- java/lang/Cloneable -/
def k4 : Class := { plain "java/lang/Cloneable" (some 0) with
  accessFlags := 1537
  interfaces := #[]
  cf := some (fileOf pool4 2 #[] #[] 1537 4 #[] #[])
  fields := #[]
  methods := #[]
  instanceTypes := #[]
  staticTypes := #[]
  resolved := Array.replicate 8 none
  statics := none }

def pool5 : Array CpInfo := pool [(1, u "java/io/Serializable"), (0, .class_ 1), (0, u "java/lang/Object"), (0, .class_ 3)] 3

/-- java/io/Serializable -/
def k5 : Class := { plain "java/io/Serializable" (some 0) with
  accessFlags := 1537
  interfaces := #[]
  cf := some (fileOf pool5 2 #[] #[] 1537 4 #[] #[])
  fields := #[]
  methods := #[]
  instanceTypes := #[]
  staticTypes := #[]
  resolved := Array.replicate 8 none
  statics := none }

/-- the primitive byte -/
def k6 : Class := { plain "byte" none with kind := .primitive 'B', accessFlags := 0x411 }
/-- [B -/
def k7 : Class := { plain "[B" (some 0) with kind := .array 6 .byte, interfaces := #[4, 5], accessFlags := 1041 }

/-- the primitive int -/
def k8 : Class := { plain "int" none with kind := .primitive 'I', accessFlags := 0x411 }
/-- [I -/
def k9 : Class := { plain "[I" (some 0) with kind := .array 8 .int, interfaces := #[4, 5], accessFlags := 1041 }

/-- the primitive long -/
def k10 : Class := { plain "long" none with kind := .primitive 'J', accessFlags := 0x411 }
/-- [J -/
def k11 : Class := { plain "[J" (some 0) with kind := .array 10 .long, interfaces := #[4, 5], accessFlags := 1041 }

def heap : Heap := #[]
def classes : Array Class := #[k0, k1, k2, k3, k4, k5, k6, k7, k8, k9, k10, k11]
def interned : List (Array UInt16 × Addr) := []
def slotsUsed : Nat := 0
def theMethod : MethodId := ⟨1, 1⟩
def args0 : Array Value := #[.long 1, .long 2, .int 3, .int 4, .int 5, .int 6]
def aboutOver (below : List Frame) : State where
  vm := { classes := classes, interned := interned.toArray }
  heap := heap
  slotsUsed := slotsUsed
  threads := #[{ frames := .invoking theMethod args0 :: below }]
def below0 : List Frame := [.native { method := ⟨0, 0⟩, args := #[] }]
def about1 : State := aboutOver below0
def p0 : Program := .bare "" "" ""
def e0 : Env := launch0.env 0 0 0
theorem w_frames : about1.frames = Frame.invoking theMethod args0 :: below0 := rfl
set_option maxRecDepth 65536 in
theorem w_args : argsFit about1.vm theMethod args0 = true := by decide +kernel
set_option maxRecDepth 65536 in
theorem w_heap : heapFits about1 = true := by decide +kernel
set_option maxRecDepth 65536 in
theorem w_runnable : about1.curStatus? = some .runnable := by decide +kernel
set_option maxRecDepth 65536 in
theorem w_alone : about1.alone = true := by decide +kernel
set_option maxRecDepth 65536 in
theorem w_named : about1.methodNamed? x = some theMethod := by decide +kernel
set_option maxRecDepth 65536 in
theorem w_hears : about1.hears theMethod below0 = true := by decide +kernel
set_option maxRecDepth 65536 in
theorem w_ripe : about1.ripe theMethod args0 below0 = true := by decide +kernel
theorem w_running : about1.status = .running := rfl
set_option maxRecDepth 65536 in
theorem w_room : about1.hasRoom e0.platform room_1 = true :=
  launch0.hasRoom_least _ room_1 (by decide +kernel) (by decide +kernel) (by decide +kernel) (by decide +kernel) (by decide +kernel) (by decide +kernel)
theorem allAtoms_all (ts : List Jvm.Cond) (a : Array Jvm.Value) (st : Jvm.State) : (allAtoms ts).before a st = ts.all (fun c => c.before a st) := by
  induction ts with
  | nil => rfl
  | cons c t ih =>
    show (Jvm.Cond.and c (allAtoms t)).before a st = _
    rw [Jvm.Cond.before_and, ih, List.all_cons]
def words1 : List Jvm.Cond := Jvm.Cond.code x code maxLocals ret :: tables_1
/-- a 'code' word, met by the world's own term for the bytes: nothing is compared byte by byte -/
theorem code_word {y : MethodName} {bytes : ByteArray} {mx : Nat} {rt : Option FieldType} {a : Array Value} {s : State} {m : MethodId} {meth : Method} {c : Code} (h1 : s.methodNamed? y = some m) (h2 : s.vm.method? m = some meth) (h3 : meth.code = some c) (h4 : c.code = bytes)
    (h5 : (c.maxLocals == mx && c.exceptionTable.isEmpty && decide (c.maxStack ≤ mostOperands) && decide (meth.sig.returnType = rt) && !meth.locks && decide (parseMethodDescriptor y.desc = some meth.sig)) = true) : (Jvm.Cond.code y bytes mx rt).before a s = true := by
  simp only [Bool.and_eq_true, beq_iff_eq, Bool.not_eq_true', decide_eq_true_eq] at h5
  obtain ⟨⟨⟨⟨⟨g1, g2⟩, g3⟩, g4⟩, g5⟩, g6⟩ := h5
  simp [Cond.before, Cond.holds, Cond.value, h1, h2, h3, h4, g1, g2, g3, g4, g5, g6]
def isCode : Jvm.Cond → Bool
  | .code _ _ _ _ => true
  | _ => false
theorem all_split {L : List Jvm.Cond} {P : Jvm.Cond → Bool} (h1 : L.all (fun c => isCode c || P c) = true) (h2 : ∀ c ∈ L.filter isCode, P c = true) : L.all P = true := by
  refine List.all_eq_true.mpr fun c hc => ?_
  have h := List.all_eq_true.mp h1 c hc
  rcases Bool.eq_false_or_eq_true (isCode c) with hi | hi
  · exact h2 c (List.mem_filter.mpr ⟨hc, hi⟩)
  · simpa [hi] using h
set_option maxRecDepth 65536 in
theorem w_c0 : (Jvm.Cond.code x code maxLocals ret).before args0 about1 = true := code_word (m := ⟨1, 1⟩) (meth := k1m1) (c := k1c1) (by decide +kernel) rfl rfl rfl (by decide +kernel)
set_option maxRecDepth 65536 in
theorem w_c1 : (Jvm.Cond.code ({ cls := "com/example/nimble_twig/nimbletwig/index/store/StoredStreams", name := "<init>", desc := "(I)V" } : Jvm.MethodName) prog_95_method_1_code (3 : Nat) (Option.none : Option Jvm.ClassFile.FieldType)).before args0 about1 = true := code_word (m := ⟨2, 0⟩) (meth := k2m0) (c := k2c0) (by decide +kernel) rfl rfl rfl (by decide +kernel)
set_option maxRecDepth 65536 in
theorem w_c2 : (Jvm.Cond.code ({ cls := "java/lang/Object", name := "<init>", desc := "()V" } : Jvm.MethodName) object_method_1_code (1 : Nat) (Option.none : Option Jvm.ClassFile.FieldType)).before args0 about1 = true := code_word (m := ⟨0, 0⟩) (meth := k0m0) (c := k0c0) (by decide +kernel) rfl rfl rfl (by decide +kernel)
set_option maxRecDepth 65536 in
theorem w_c3 : (Jvm.Cond.code ({ cls := "java/lang/Math", name := "max", desc := "(II)I" } : Jvm.MethodName) jdk_29_method_65_code (2 : Nat) (Option.some Jvm.ClassFile.FieldType.int)).before args0 about1 = true := code_word (m := ⟨3, 1⟩) (meth := k3m1) (c := k3c1) (by decide +kernel) rfl rfl rfl (by decide +kernel)
set_option maxRecDepth 65536 in
theorem w_c4 : (Jvm.Cond.code ({ cls := "com/example/nimble_twig/nimbletwig/index/store/StoredStreams", name := "add", desc := "(II)V" } : Jvm.MethodName) prog_95_method_3_code (4 : Nat) (Option.none : Option Jvm.ClassFile.FieldType)).before args0 about1 = true := code_word (m := ⟨2, 1⟩) (meth := k2m1) (c := k2c1) (by decide +kernel) rfl rfl rfl (by decide +kernel)
set_option maxRecDepth 65536 in
theorem w_c5 : (Jvm.Cond.code ({ cls := "com/example/nimble_twig/nimbletwig/index/store/StoredStreams", name := "findByName", desc := "(I)V" } : Jvm.MethodName) prog_95_method_5_code (3 : Nat) (Option.none : Option Jvm.ClassFile.FieldType)).before args0 about1 = true := code_word (m := ⟨2, 2⟩) (meth := k2m2) (c := k2c2) (by decide +kernel) rfl rfl rfl (by decide +kernel)
set_option maxRecDepth 65536 in
theorem w_c6 : (Jvm.Cond.code ({ cls := "com/example/nimble_twig/nimbletwig/index/store/StoredStreams", name := "place", desc := "(JJ)I" } : Jvm.MethodName) prog_95_method_6_code (10 : Nat) (Option.some Jvm.ClassFile.FieldType.int)).before args0 about1 = true := code_word (m := ⟨2, 3⟩) (meth := k2m3) (c := k2c3) (by decide +kernel) rfl rfl rfl (by decide +kernel)
def codes1 : List Jvm.Cond := [Jvm.Cond.code x code maxLocals ret, Jvm.Cond.code ({ cls := "com/example/nimble_twig/nimbletwig/index/store/StoredStreams", name := "<init>", desc := "(I)V" } : Jvm.MethodName) prog_95_method_1_code (3 : Nat) (Option.none : Option Jvm.ClassFile.FieldType), Jvm.Cond.code ({ cls := "java/lang/Object", name := "<init>", desc := "()V" } : Jvm.MethodName) object_method_1_code (1 : Nat) (Option.none : Option Jvm.ClassFile.FieldType), Jvm.Cond.code ({ cls := "java/lang/Math", name := "max", desc := "(II)I" } : Jvm.MethodName) jdk_29_method_65_code (2 : Nat) (Option.some Jvm.ClassFile.FieldType.int), Jvm.Cond.code ({ cls := "com/example/nimble_twig/nimbletwig/index/store/StoredStreams", name := "add", desc := "(II)V" } : Jvm.MethodName) prog_95_method_3_code (4 : Nat) (Option.none : Option Jvm.ClassFile.FieldType), Jvm.Cond.code ({ cls := "com/example/nimble_twig/nimbletwig/index/store/StoredStreams", name := "findByName", desc := "(I)V" } : Jvm.MethodName) prog_95_method_5_code (3 : Nat) (Option.none : Option Jvm.ClassFile.FieldType), Jvm.Cond.code ({ cls := "com/example/nimble_twig/nimbletwig/index/store/StoredStreams", name := "place", desc := "(JJ)I" } : Jvm.MethodName) prog_95_method_6_code (10 : Nat) (Option.some Jvm.ClassFile.FieldType.int)]
set_option maxRecDepth 65536 in
theorem codes_eq : words1.filter isCode = codes1 := rfl
theorem w_codes : ∀ c ∈ words1.filter isCode, c.before args0 about1 = true := by
  rw [codes_eq]
  intro c hc
  simp only [codes1, List.mem_cons, List.not_mem_nil, or_false] at hc
  rcases hc with rfl | rfl | rfl | rfl | rfl | rfl | rfl
  · exact w_c0
  · exact w_c1
  · exact w_c2
  · exact w_c3
  · exact w_c4
  · exact w_c5
  · exact w_c6
set_option maxRecDepth 65536 in
theorem w_t1 : (words1.take 24).all (fun c => isCode c || c.before args0 about1) = true := by decide +kernel
set_option maxRecDepth 65536 in
theorem w_t2 : ((words1.drop 24).take 24).all (fun c => isCode c || c.before args0 about1) = true := by decide +kernel
set_option maxRecDepth 65536 in
theorem w_t3 : ((words1.drop 24).drop 24).all (fun c => isCode c || c.before args0 about1) = true := by decide +kernel
theorem w_tables : (allAtoms (Jvm.Cond.code x code maxLocals ret :: tables_1)).before args0 about1 = true := by
  rw [allAtoms_all]
  show words1.all (fun c => c.before args0 about1) = true
  refine all_split ?_ w_codes
  rw [← List.take_append_drop 24 words1, List.all_append, w_t1, ← List.take_append_drop 24 (words1.drop 24), List.all_append, w_t2, w_t3]
  rfl
set_option maxRecDepth 65536 in
theorem w_case : (Jvm.Cond.and given_1 narrow_1).before args0 about1 = true := by decide +kernel
theorem w_applies : (headSpec (Jvm.Cond.code x code maxLocals ret :: tables_1) room_1).applies x e0.platform about1 = true :=
  (Spec.applies_iff w_frames).mpr ⟨w_running, w_runnable, w_alone, w_named, w_hears, w_ripe, w_room, w_tables⟩
theorem atStart : AtStart classFile x code maxLocals ret World_1 tables_1 room_1 Calls_1 rest_1 Pre_1 launch0 p0 e0 about1 theMethod args0 below0 :=
  ⟨lists_1, trivial, launch0.admits_env _ _ _, launch0.least_env, fairChoices_fair.cas, fairChoices_fair.clock, w_frames, w_args, w_heap, w_applies, trivial, trivial, w_case⟩
end start1
theorem witness_1 : WitnessClaimed_1 := ⟨start1.p0, start1.e0, start1.about1, start1.theMethod, start1.args0, start1.below0, start1.atStart⟩
end Jvm.Pilot.@@N@@
