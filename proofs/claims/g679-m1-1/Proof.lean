import JvmDerived
import JvmDerived.Pilot.@@N@@Statement
import JvmDerived.Pilot.@@N@@Code
set_option linter.unusedVariables false
set_option linter.unusedSimpArgs false
namespace Jvm.RoadKit
open Sem ClassFile Op Lib Jvm.Stand Jvm.Free Jvm.LawKit
section New
variable {p : Program} {l : Launch} {e : Env} {R : Room} {s : State} {m : MethodId} {args : Array Value} {below : List Frame} {meth : Method} {c : Code} {T : State} {locs : List Loc} {cells slots : Nat}
theorem retI (X : Stand p l e R s m args below meth c T locs cells slots) (hx : p.tables.exec = Jvm.exec) {pc : Nat} {Ls : Array Slot} {z : Int32} {rest : List Value} (hret : meth.sig.returnType = some .int) (hd : decode c.code pc = .ok (.ireturn, 1)) {fs : List Frame}
    (hl : ∀ (f : JFrame) (acts : List Action), f.method = m → f.locked = none → f.entered = [] → (doReturn e (T.setTop f) acts (some (.int z))).1 = T.setFrames fs) : Steps p.tables e below (T.setTop (mkF m pc Ls (.int z :: rest))) (T.setFrames fs) := by
  have hm' : T.vm.method? m = some meth := X.method'
  have hn : narrow .int (.int z) = .int z := rfl
  show Steps p.tables e below (T.setTop { method := m, pc := pc, locals := Ls, stack := _ :: rest, locked := none }) _
  jvm_step X.here [X.here.top, hx, hd, hm', hret, hn]
  first | (intro acts; rw [hl _ acts rfl rfl rfl]) | rw [hl _ _ rfl rfl rfl]
  exact Steps.refl _
end New
end Jvm.RoadKit
namespace Jvm.Pilot.@@N@@
open Jvm Jvm.ClassFile Sem Op Lib Jvm.Free Jvm.Stand Jvm.LawKit Jvm.RoadKit Bundle Jvm.Pilot.@@N@@.Jvm.D
abbrev own_un : Slot := Slot.unset
abbrev own_sd : Slot := Slot.second
abbrev own_jv (x : Int64) : Slot := Slot.val (.long x)
theorem own_lo {p : Program} {l : Launch} {e : Env} {R : Room} {s : State} {m : MethodId} {args : Array Value} {below : List Frame} {meth : Method} {c : Code} {T : State} {locs : List Loc} {cells slots n : Nat}
    (X : Stand p l e R s m args below meth c T locs cells slots) (N : Fr n locs) : ∃ lc, Stand p l e R s m args below meth c T lc cells slots ∧ Fr n lc := ⟨_, X, N⟩
/-- from this frame the run comes to its end, and Q is said of what it leaves -/
def own_Dn (p : Program) (e : Env) (below : List Frame) (s : State) (Q : Option Value → Heap → List Loc → Prop) (k n : Nat) (T : State) (g : JFrame) : Prop :=
  ∃ s₂ o, Steps p.tables e below (T.setTop g) s₂ ∧ s₂.status = .running ∧ Ended s₂ below o ∧ ∃ v L, o = .returned v ∧ Q v s₂.heap L ∧ FrameEnd s o s₂ L k n
theorem own_go {p : Program} {e : Env} {below : List Frame} {s : State} {Q : Option Value → Heap → List Loc → Prop} {k n : Nat} {T T' : State} {g g' : JFrame}
    (h : ∀ t, Steps p.tables e below (T'.setTop g') t → Steps p.tables e below (T.setTop g) t) (d : own_Dn p e below s Q k n T' g') : own_Dn p e below s Q k n T g := by
  obtain ⟨s₂, o, h1, h2⟩ := d
  exact ⟨s₂, o, h _ h1, h2⟩
theorem own_as {p : Program} {e : Env} {below : List Frame} {s : State} {Q : Option Value → Heap → List Loc → Prop} {k n : Nat} {T : State} {g g' : JFrame}
    (h : g = g') (d : own_Dn p e below s Q k n T g') : own_Dn p e below s Q k n T g := h ▸ d
theorem own_ret {p : Program} {l : Launch} {e : Env} {R : Room} {s : State} {m : MethodId} {args : Array Value} {below : List Frame} {meth : Method} {c : Code} {T : State} {locs : List Loc} {cells slots : Nat}
    {Q : Option Value → Heap → List Loc → Prop} {k n : Nat} {g : JFrame} (X : Stand p l e R s m args below meth c T locs cells slots) (hlocks : meth.locks = false) (v : Option Value) (hv : meth.sig.returnType = none → v = none)
    (hr : ∀ fs : List Frame, (∀ (f : JFrame) (acts : List Action), f.method = m → f.locked = none → f.entered = [] → (doReturn e (T.setTop f) acts v).1 = T.setFrames fs) → Steps p.tables e below (T.setTop g) (T.setFrames fs))
    (hQ : Q v T.heap locs) (hk : cells ≤ k) (hn : slots ≤ n) : own_Dn p e below s Q k n T g := by
  obtain ⟨fs, h1, hrun, hended, hW, hsame⟩ := X.leave (v := v) hv hlocks
  exact ⟨_, _, hr fs h1, hrun, hended, _, _, rfl, hQ, ⟨_, rfl⟩, hW, hsame.mono hk hn⟩
theorem own_l0 : (0 : Int32).toInt = 0 := by decide
theorem own_l1 : (1 : Int32).toInt = 1 := by decide
theorem own_l2 : (2 : Int32).toInt = 2 := by decide
theorem own_l3 : (3 : Int32).toInt = 3 := by decide
theorem own_l4 : (4 : Int32).toInt = 4 := by decide
theorem own_l8 : (8 : Int32).toInt = 8 := by decide
theorem own_l31 : (31 : Int32).toInt = 31 := by decide
theorem own_l255 : (255 : Int32).toInt = 255 := by decide
theorem own_l2147483647 : (2147483647 : Int32).toInt = 2147483647 := by decide
theorem own_found {Z : State} {a0 : Array Value} {K : String} {n : Nat} (w : (Jvm.Cond.instantiable K n).before a0 Z = true) : ∃ t k, Z.vm.findClass K = some t ∧ Z.vm.classes[t]? = some k ∧ k.kind = .ordinary ∧ k.isInterface = false := by
  obtain ⟨t, k, h1, h2, h3, h4, -⟩ := Cond.instantiable_spec w
  exact ⟨t, k, h1, h2, h3, (Bool.or_eq_false_iff.mp h4).1⟩
theorem own_nsroot {Z : State} {a0 : Array Value} {O K : String} {n : Nat} (w : (Jvm.Cond.noSuperclass O).before a0 Z = true) (wk : (Jvm.Cond.instantiable K n).before a0 Z = true) (hn : O ≠ K) : NS Z O K := by
  obtain ⟨c, k, h1, h2, h3, -, -⟩ := Cond.noSuperclass_spec w
  obtain ⟨t, kt, g1, -⟩ := own_found wk
  have ne := ids_ne h1 g1 hn
  refine ⟨c, t, h1, g1, fun fuel => ?_⟩
  cases fuel with
  | zero => rfl
  | succ f => simp [Vm.isSubclassAux, ne, h2, h3]
theorem own_nsno {Z : State} {a0 : Array Value} {C S K : String} {n : Nat} (w : (Jvm.Cond.superclass C S).before a0 Z = true) (wk : (Jvm.Cond.instantiable K n).before a0 Z = true) (ns : NS Z C K) (hn : C ≠ K) : ∃ c t, Z.vm.findClass C = some c ∧ Z.vm.findClass K = some t ∧ Z.vm.assignable c t = false := by
  obtain ⟨c, t, h0, g0, n3⟩ := ns
  obtain ⟨p, k, kp, h1, h2, h3, h4, h5, -, h7⟩ := Cond.superclass_spec h0 w
  obtain ⟨t', k', g1, g2, g5, g7⟩ := own_found wk
  cases g0.symm.trans g1
  have ne := ids_ne h0 g0 hn
  refine ⟨c, t, h0, g0, ?_⟩
  show Z.vm.assignableAux (255 + 1) c t = false
  simp [Vm.assignableAux, ne, h2, g2, h5, g5, g7, Vm.isSubclass, n3]
def own_DnW (p : Program) (e : Env) (below : List Frame) (s : State) (Q : Option Value → Heap → List Loc → Prop) (k n : Nat) (T : State) (g : JFrame) : Prop :=
  ∃ s₂ o, Steps p.tables e below (T.setTop g) s₂ ∧ s₂.status = .running ∧ Ended s₂ below o ∧ ∃ v L, o = .returned v ∧ Q v s₂.heap L ∧ ReturnedEndW s o s₂ L k n
theorem own_goW {p : Program} {e : Env} {below : List Frame} {s : State} {Q : Option Value → Heap → List Loc → Prop} {k n : Nat} {T T' : State} {g g' : JFrame}
    (h : ∀ t, Steps p.tables e below (T'.setTop g') t → Steps p.tables e below (T.setTop g) t) (d : own_DnW p e below s Q k n T' g') : own_DnW p e below s Q k n T g := by
  obtain ⟨s₂, o, h1, h2⟩ := d
  exact ⟨s₂, o, h _ h1, h2⟩
theorem own_retW {p : Program} {l : Launch} {e : Env} {R : Room} {s : State} {vm₁ : Vm} {m : MethodId} {args : Array Value} {below : List Frame} {meth : Method} {c : Code} {T : State} {locs : List Loc} {cells slots : Nat}
    {Q : Option Value → Heap → List Loc → Prop} {k n k1 : Nat} {g : JFrame} (X : Stand p l e R (s.setVm vm₁) m args below meth c T locs cells slots) (hlocks : meth.locks = false) (v : Option Value) (hv : meth.sig.returnType = none → v = none)
    (hr : ∀ fs : List Frame, (∀ (f : JFrame) (acts : List Action), f.method = m → f.locked = none → f.entered = [] → (doReturn e (T.setTop f) acts v).1 = T.setFrames fs) → Steps p.tables e below (T.setTop g) (T.setFrames fs))
    (hQ : Q v T.heap locs) (hk : cells ≤ k) (hn : slots ≤ n) (hS : s.Since vm₁ k1) (hb : k1 ≤ T.heap.size) : own_DnW p e below s Q k n T g := by
  obtain ⟨fs, h1, hrun, hended, hE⟩ := X.leaveW hS hb (v := v) hv hlocks
  exact ⟨_, _, hr fs h1, hrun, hended, _, _, rfl, hQ, hE.1, hE.2.1, hE.2.2.1, hE.2.2.2.mono hk hn⟩
theorem own_c16 {x : Int32} (h : 0 ≤ x.toInt ∧ x.toInt ≤ 255) : x.toUInt32.toUInt16.toUInt32.toInt32 = x := by
  have h1 : ∀ u : UInt16, (u.toUInt32.toInt32).toInt = u.toNat := fun u => by
    have hu := u.toNat_lt
    show ((u.toUInt32).toBitVec).toInt = _
    have hm : (u.toUInt32).toBitVec.toNat = u.toNat := by
      show (u.toUInt32).toNat = _
      simp
    rw [BitVec.toInt_eq_toNat_cond, hm, if_pos (by omega)]
  rw [← Int32.toInt_inj, h1]
  have h2 : x.toInt = (x.toUInt32.toNat : Int) := by
    have q : x.toInt = x.toBitVec.toInt := rfl
    rw [q, BitVec.toInt_eq_toNat_cond] at h ⊢
    split at h
    · rw [if_pos ‹_›]; rfl
    · have := x.toBitVec.isLt; omega
  have h3 : x.toUInt32.toUInt16.toNat = x.toUInt32.toNat % 65536 := by simp
  rw [h3, h2]; omega
def own_by (c : Int32) : Int32 := (nar .char c).toInt8.toInt32.toInt8.toInt32
theorem own_nc {c : Int32} (hc : 0 ≤ c.toInt ∧ c.toInt ≤ 255) : nar .char c = c := own_c16 hc
theorem own_ncl {c : Int32} (hc : 0 ≤ c.toInt ∧ c.toInt ≤ 255) : ¬ ((255 : Int32) < nar .char c) := by
  rw [own_nc hc, Int32.lt_iff_toInt_lt, show (255 : Int32).toInt = 255 from rfl]; omega
theorem own_by_inj {c d : Int32} (hc : 0 ≤ c.toInt ∧ c.toInt ≤ 255) (hd : 0 ≤ d.toInt ∧ d.toInt ≤ 255) : own_by c = own_by d ↔ c = d := by
  unfold own_by
  rw [own_nc hc, own_nc hd, ← Int32.toInt_inj, ← Int32.toInt_inj]
  simp only [Int8.toInt_toInt32, Int32.toInt_toInt8, Int.bmod_def]
  omega
theorem own_chr' (x : Int32) : 0 ≤ ((x &&& (255 : Int32)).toUInt32.toUInt16.toUInt32.toInt32).toInt ∧ ((x &&& (255 : Int32)).toUInt32.toUInt16.toUInt32.toInt32).toInt ≤ 255 := by
  have h : 0 ≤ (x &&& (255 : Int32)).toInt ∧ (x &&& (255 : Int32)).toInt ≤ 255 := c_and x (255 : Int32) (by decide)
  rw [own_c16 h]; exact h
theorem own_pos (x : Int32) : 0 ≤ (x &&& (2147483647 : Int32)).toInt := (c_and x (2147483647 : Int32) (by decide)).1
theorem own_nneg {x : Int32} (h : 0 ≤ x.toInt) : ¬ (x < (0 : Int32)) := by
  rw [Int32.lt_iff_toInt_lt, show (0 : Int32).toInt = 0 from rfl]; omega
theorem own_12 (x : Int32) : ((1 : Int32) + (x &&& (1 : Int32))).toInt = 1 ∨ ((1 : Int32) + (x &&& (1 : Int32))).toInt = 2 := by
  have s1 := c_and x (1 : Int32) (by decide)
  have s2 := c_iadd (1 : Int32) (x &&& (1 : Int32))
  have s3 := rng32 ((1 : Int32) + (x &&& (1 : Int32)))
  rw [show (1 : Int32).toInt = 1 from rfl] at s1 s2
  omega
theorem own_n0 {x : Int32} (h : x.toInt = 1 ∨ x.toInt = 2) : ¬ (x = (0 : Int32)) := fun q => by
  rw [q, show (0 : Int32).toInt = 0 from rfl] at h; omega
theorem own_one {Z : State} {h : Heap} {a : Addr} {k : ClassId} {nn : Int32} {x y d : Value} (e : nn = (1 : Int32)) (V : Arv Z h a k .byte (1 : Int32) [x] d) : Arv Z h a k .byte nn [x, y] d := by
  subst e
  obtain ⟨c, A, q, S, N, H, G⟩ := V
  have hs : c.slots.size = 1 := S.trans (by decide)
  refine ⟨c, A, q, S, N, fun i hi => ?_, fun i hi => ?_⟩
  · obtain rfl : i = 0 := by omega
    exact H 0 hi
  · obtain rfl : i = 0 := by omega
    exact G 0 hi
theorem own_two {Z : State} {h : Heap} {a : Addr} {k : ClassId} {nn : Int32} {vs : List Value} {d : Value} (hn : nn.toInt = 1 ∨ nn.toInt = 2) (e : ¬ (nn = (1 : Int32))) (V : Arv Z h a k .byte (2 : Int32) vs d) : Arv Z h a k .byte nn vs d := by
  have : nn = (2 : Int32) := by
    rw [← Int32.toInt_inj, show (1 : Int32).toInt = 1 from rfl] at e
    rw [← Int32.toInt_inj, show (2 : Int32).toInt = 2 from rfl]
    omega
  subst this; exact V
theorem own_tr {r u u2 n m x y x2 y2 c d c2 d2 : Int32} (h0 : x = x2 ↔ c = c2) (h1 : y = y2 ↔ d = d2) (hz : (r = (1 : Int32) ∧ (u = u2 ∧ n = m ∧ x = x2 ∧ (n = (1 : Int32) ∨ y = y2))) ∨ (r = (0 : Int32) ∧ ¬ (u = u2 ∧ n = m ∧ x = x2 ∧ (n = (1 : Int32) ∨ y = y2)))) :
    (r = (1 : Int32) ∧ (u = u2 ∧ n = m ∧ c = c2 ∧ (n = (1 : Int32) ∨ d = d2))) ∨ (r = (0 : Int32) ∧ ¬ (u = u2 ∧ n = m ∧ c = c2 ∧ (n = (1 : Int32) ∨ d = d2))) := by
  rw [h0, h1] at hz; exact hz
theorem own_sy {u u2 n m c c2 d d2 : Int32} (h : u = u2 ∧ n = m ∧ c = c2 ∧ (n = (1 : Int32) ∨ d = d2)) : u2 = u ∧ m = n ∧ c2 = c ∧ (m = (1 : Int32) ∨ d2 = d) :=
  ⟨h.1.symm, h.2.1.symm, h.2.2.1.symm, h.2.2.2.elim (fun q => Or.inl (h.2.1 ▸ q)) (fun q => Or.inr q.symm)⟩
theorem own_sym {r u u2 n m c c2 d d2 : Int32} (hz : (r = (1 : Int32) ∧ (u = u2 ∧ n = m ∧ c = c2 ∧ (n = (1 : Int32) ∨ d = d2))) ∨ (r = (0 : Int32) ∧ ¬ (u = u2 ∧ n = m ∧ c = c2 ∧ (n = (1 : Int32) ∨ d = d2)))) :
    (r = (1 : Int32) ∧ (u2 = u ∧ m = n ∧ c2 = c ∧ (m = (1 : Int32) ∨ d2 = d))) ∨ (r = (0 : Int32) ∧ ¬ (u2 = u ∧ m = n ∧ c2 = c ∧ (m = (1 : Int32) ∨ d2 = d))) :=
  hz.elim (fun q => Or.inl ⟨q.1, own_sy q.2⟩) (fun q => Or.inr ⟨q.1, fun w => q.2 (own_sy w)⟩)
theorem own_same {r z : Int32} {C : Prop} (h1 : (r = (1 : Int32) ∧ C) ∨ (r = (0 : Int32) ∧ ¬ C)) (h2 : (z = (1 : Int32) ∧ C) ∨ (z = (0 : Int32) ∧ ¬ C)) : r = z := by
  rcases h1 with ⟨a, b⟩ | ⟨a, b⟩ <;> rcases h2 with ⟨c, d⟩ | ⟨c, d⟩
  · rw [a, c]
  · exact absurd b d
  · exact absurd d b
  · rw [a, c]
theorem own_notTP (Z : State) (a0 : Array Value) (hw : ∀ d ∈ tables_1, d.before a0 Z = true) : ∃ c t, Z.vm.findClass "java/lang/String" = some c ∧ Z.vm.findClass "com/example/gentle_rebalance/gentlerebalance/engine/TopicPartition" = some t ∧ Z.vm.assignable c t = false :=
  own_nsno (hw _ (List.mem_of_getElem? (i := 65) rfl)) (hw _ (List.mem_of_getElem? (i := 36) rfl)) (NS.step (hw _ (List.mem_of_getElem? (i := 65) rfl)) (own_nsroot (hw _ (List.mem_of_getElem? (i := 66) rfl)) (hw _ (List.mem_of_getElem? (i := 36) rfl)) (by decide)) (by decide)) (by decide)
theorem own_d5_1_0 : decode jdk_52_method_21_code 0 = .ok (.iconst 0, 1) := by decide +kernel
theorem own_d5_1_1 : decode jdk_52_method_21_code 1 = .ok (.istore 5, 2) := by decide +kernel
theorem own_d5_1_3 : decode jdk_52_method_21_code 3 = .ok (.iload 5, 2) := by decide +kernel
theorem own_d5_1_5 : decode jdk_52_method_21_code 5 = .ok (.iload 4, 2) := by decide +kernel
theorem own_d5_1_7 : decode jdk_52_method_21_code 7 = .ok (.if_icmp .ge 37, 3) := by decide +kernel
theorem own_d5_1_10 : decode jdk_52_method_21_code 10 = .ok (.aload_n 0, 1) := by decide +kernel
theorem own_d5_1_11 : decode jdk_52_method_21_code 11 = .ok (.iload_n 1, 1) := by decide +kernel
theorem own_d5_1_12 : decode jdk_52_method_21_code 12 = .ok (.caload, 1) := by decide +kernel
theorem own_d5_1_13 : decode jdk_52_method_21_code 13 = .ok (.istore 6, 2) := by decide +kernel
theorem own_d5_1_15 : decode jdk_52_method_21_code 15 = .ok (.iload 6, 2) := by decide +kernel
theorem own_d5_1_17 : decode jdk_52_method_21_code 17 = .ok (.sipush 255, 3) := by decide +kernel
theorem own_d5_1_20 : decode jdk_52_method_21_code 20 = .ok (.if_icmp .le 6, 3) := by decide +kernel
theorem own_d5_1_26 : decode jdk_52_method_21_code 26 = .ok (.aload_n 2, 1) := by decide +kernel
theorem own_d5_1_27 : decode jdk_52_method_21_code 27 = .ok (.iload_n 3, 1) := by decide +kernel
theorem own_d5_1_28 : decode jdk_52_method_21_code 28 = .ok (.iload 6, 2) := by decide +kernel
theorem own_d5_1_30 : decode jdk_52_method_21_code 30 = .ok (.i2b, 1) := by decide +kernel
theorem own_d5_1_31 : decode jdk_52_method_21_code 31 = .ok (.bastore, 1) := by decide +kernel
theorem own_d5_1_32 : decode jdk_52_method_21_code 32 = .ok (.iinc 1 1, 3) := by decide +kernel
theorem own_d5_1_35 : decode jdk_52_method_21_code 35 = .ok (.iinc 3 1, 3) := by decide +kernel
theorem own_d5_1_38 : decode jdk_52_method_21_code 38 = .ok (.iinc 5 1, 3) := by decide +kernel
theorem own_d5_1_41 : decode jdk_52_method_21_code 41 = .ok (.goto (-38), 3) := by decide +kernel
theorem own_d5_1_44 : decode jdk_52_method_21_code 44 = .ok (.iload 4, 2) := by decide +kernel
theorem own_d5_1_46 : decode jdk_52_method_21_code 46 = .ok (.ireturn, 1) := by decide +kernel
theorem own_pn5_1 : plainName "java/lang/StringUTF16" = true := by first | (simp [plainName, overriddenIn]; done) | decide +kernel
theorem own_ef5_1 (m : MethodId) (ca : Addr) (ba : Addr) : entryFrame m #[(.ref ca), (.int (0 : Int32)), (.ref ba), (.int (0 : Int32)), (.int (1 : Int32))] 7 = mkF m 0 #[.val (.ref ca), .val (.int (0 : Int32)), .val (.ref ba), .val (.int (0 : Int32)), .val (.int (1 : Int32)), .unset, .unset] [] := by first | (simp [entryFrame, mkF, argsToLocals, Value.category]; done) | rfl
def own_Q5_1 (Z : State) (ca : Addr) (ba : Addr) (kc : ClassId) (kb : ClassId) (x : Int32) (h0 : Heap) (n0 : Nat) (v : Option Value) (h : Heap) (L : List Loc) : Prop := v = some (.int (1 : Int32)) ∧ Fr n0 L ∧ Keep h0 h [ba] ∧ Arv Z h ba kb .byte (1 : Int32) [(.int (x.toInt8.toInt32.toInt8.toInt32))] (.int (0 : Int32))
set_option maxRecDepth 65536 in
set_option maxHeartbeats 40000000 in
theorem own_rm5_1 (l : Launch) (Z : State) (a0 : Array Value) (hw : ∀ d ∈ tables_1, d.before a0 Z = true) (ws : List Jvm.Cond) (ca : Addr) (ba : Addr) (kc : ClassId) (kb : ClassId) (x : Int32) (h0 : Heap) (n0 : Nat) (Zs : n0 ≤ h0.size) (V_ca : Arv Z h0 ca kc .char (1 : Int32) [(.int x)] (.int (0 : Int32))) (V_ba : Arv Z h0 ba kb .byte (1 : Int32) [(.int (0 : Int32))] (.int (0 : Int32))) (g_ba : n0 ≤ ba) (ne_ca_ba : ca ≠ ba) (hxl : ¬ ((255 : Int32) < x)) :
    MetFree l (⟨"java/lang/StringUTF16", "compress", "([CI[BII)I"⟩ : MethodName) (head1 (Jvm.Cond.code (⟨"java/lang/StringUTF16", "compress", "([CI[BII)I"⟩ : MethodName) jdk_52_method_21_code 7 (some .int) :: ws) ({ frames := 0, cells := 0, slots := 0, locals := 0 } : Room)) (fun aA_ U => aA_ = #[(.ref ca), (.int (0 : Int32)), (.ref ba), (.int (0 : Int32)), (.int (1 : Int32))] ∧ Z.Warmed39 U.vm ∧ U.heap = h0) (fun _ _ _ _ _ => True) (fun _ U o U' => ∃ v L, o = .returned v ∧ own_Q5_1 Z ca ba kc kb x h0 n0 v U'.heap L ∧ FrameEnd U o U' L ({ frames := 0, cells := 0, slots := 0, locals := 0 } : Room).cells ({ frames := 0, cells := 0, slots := 0, locals := 0 } : Room).slots) := by
  refine MetFree.of_bodySF (plainFor_of_name own_pn5_1) hisR ?_
  intro p e s m args below meth c s₁ Bd hml0 hP hK
  obtain ⟨rfl, hZ, hh⟩ := hP
  have hx := Bd.exec
  have hby := Bd.bytes
  have hml : c.maxLocals = 7 := hml0
  have hown : s.vm.findClass "java/lang/StringUTF16" = some m.cls := findClass_of_methodNamed Bd.named
  have hnm := (name_of_methodNamed Bd.named Bd.method).1
  have X0 : Stand p l e ({ frames := 0, cells := 0, slots := 0, locals := 0 } : Room) s m #[(.ref ca), (.int (0 : Int32)), (.ref ba), (.int (0 : Int32)), (.int (1 : Int32))] below meth c s₁ [] 0 0 := Stand.of_body Bd
  have e0 : s₁.heap = h0 := by rw [← hh, Bd.state]; rfl
  have NF := Fr.nil n0
  rw [own_ef5_1 m ca ba]
  show own_Dn p e below s (own_Q5_1 Z ca ba kc kb x h0 n0) 0 0 s₁ (mkF m 0 #[.val (.ref ca), .val (.int (0 : Int32)), .val (.ref ba), .val (.int (0 : Int32)), .val (.int (1 : Int32)), .unset, .unset] [])
  have KP := Keep.refl h0 [ba]
  refine own_go (T' := s₁) (g' := (mkF m 1 #[.val (.ref ca), .val (.int (0 : Int32)), .val (.ref ba), .val (.int (0 : Int32)), .val (.int (1 : Int32)), .unset, .unset] [(.int (0 : Int32))])) (fun _ k => XS.iconst X0.here hx rfl (hb hby own_d5_1_0) k) ?_
  refine own_go (T' := s₁) (g' := (mkF m 3 #[.val (.ref ca), .val (.int (0 : Int32)), .val (.ref ba), .val (.int (0 : Int32)), .val (.int (1 : Int32)), .val (.int (0 : Int32)), .unset] [])) (fun _ k => XS.istore X0.here hx rfl (hb hby own_d5_1_1) rfl (l' := #[.val (.ref ca), .val (.int (0 : Int32)), .val (.ref ba), .val (.int (0 : Int32)), .val (.int (1 : Int32)), .val (.int (0 : Int32)), .unset]) rfl k) ?_
  refine own_go (T' := s₁) (g' := (mkF m 5 #[.val (.ref ca), .val (.int (0 : Int32)), .val (.ref ba), .val (.int (0 : Int32)), .val (.int (1 : Int32)), .val (.int (0 : Int32)), .unset] [(.int (0 : Int32))])) (fun _ k => XS.iload X0.here hx rfl (hb hby own_d5_1_3) rfl k) ?_
  refine own_go (T' := s₁) (g' := (mkF m 7 #[.val (.ref ca), .val (.int (0 : Int32)), .val (.ref ba), .val (.int (0 : Int32)), .val (.int (1 : Int32)), .val (.int (0 : Int32)), .unset] [(.int (1 : Int32)), (.int (0 : Int32))])) (fun _ k => XS.iload X0.here hx rfl (hb hby own_d5_1_5) rfl k) ?_
  refine own_go (T' := s₁) (g' := (mkF m 10 #[.val (.ref ca), .val (.int (0 : Int32)), .val (.ref ba), .val (.int (0 : Int32)), .val (.int (1 : Int32)), .val (.int (0 : Int32)), .unset] [])) (fun _ k => XS.icmpNo X0.here hx rfl (hb hby own_d5_1_7) rfl (by decide) k) ?_
  refine own_go (T' := s₁) (g' := (mkF m 11 #[.val (.ref ca), .val (.int (0 : Int32)), .val (.ref ba), .val (.int (0 : Int32)), .val (.int (1 : Int32)), .val (.int (0 : Int32)), .unset] [(.ref ca)])) (fun _ k => XS.aloadN X0.here hx rfl (hb hby own_d5_1_10) rfl rfl k) ?_
  refine own_go (T' := s₁) (g' := (mkF m 12 #[.val (.ref ca), .val (.int (0 : Int32)), .val (.ref ba), .val (.int (0 : Int32)), .val (.int (1 : Int32)), .val (.int (0 : Int32)), .unset] [(.int (0 : Int32)), (.ref ca)])) (fun _ k => XS.iloadN X0.here hx rfl (hb hby own_d5_1_11) rfl k) ?_
  obtain ⟨c_1, Ar_1, q_1, S_1, N_1, H_1, G_1⟩ := id V_ca
  have hin_1 : ¬ ((0 : Int32) < 0 ∨ c_1.slots.size ≤ ((0 : Int32)).toNatClampNeg) := inb_of S_1 ⟨by decide, by decide⟩
  have hat_1 : c_1.slots[((0 : Int32)).toNatClampNeg]? = some (.int x) := H_1.at hin_1 rfl
  refine own_go (T' := s₁) (g' := (mkF m 13 #[.val (.ref ca), .val (.int (0 : Int32)), .val (.ref ba), .val (.int (0 : Int32)), .val (.int (1 : Int32)), .val (.int (0 : Int32)), .unset] [(.int x)])) (fun _ k => X0.caload hx (j := (0 : Int32)) (v := (.int x)) (by rw [e0]; exact Ar_1.1) (State.isArrayOf_alike hZ.alike Ar_1.2.1) Ar_1.2.2 hin_1 hat_1 (g := (mkF m 12 #[.val (.ref ca), .val (.int (0 : Int32)), .val (.ref ba), .val (.int (0 : Int32)), .val (.int (1 : Int32)), .val (.int (0 : Int32)), .unset] [(.int (0 : Int32)), (.ref ca)])) rfl rfl (hb hby own_d5_1_12) _ k) ?_
  refine own_go (T' := s₁) (g' := (mkF m 15 #[.val (.ref ca), .val (.int (0 : Int32)), .val (.ref ba), .val (.int (0 : Int32)), .val (.int (1 : Int32)), .val (.int (0 : Int32)), .val (.int x)] [])) (fun _ k => XS.istore X0.here hx rfl (hb hby own_d5_1_13) rfl (l' := #[.val (.ref ca), .val (.int (0 : Int32)), .val (.ref ba), .val (.int (0 : Int32)), .val (.int (1 : Int32)), .val (.int (0 : Int32)), .val (.int x)]) rfl k) ?_
  refine own_go (T' := s₁) (g' := (mkF m 17 #[.val (.ref ca), .val (.int (0 : Int32)), .val (.ref ba), .val (.int (0 : Int32)), .val (.int (1 : Int32)), .val (.int (0 : Int32)), .val (.int x)] [(.int x)])) (fun _ k => XS.iload X0.here hx rfl (hb hby own_d5_1_15) rfl k) ?_
  refine own_go (T' := s₁) (g' := (mkF m 20 #[.val (.ref ca), .val (.int (0 : Int32)), .val (.ref ba), .val (.int (0 : Int32)), .val (.int (1 : Int32)), .val (.int (0 : Int32)), .val (.int x)] [(.int (255 : Int32)), (.int x)])) (fun _ k => XS.sipush X0.here hx rfl (hb hby own_d5_1_17) k) ?_
  refine own_go (T' := s₁) (g' := (mkF m 26 #[.val (.ref ca), .val (.int (0 : Int32)), .val (.ref ba), .val (.int (0 : Int32)), .val (.int (1 : Int32)), .val (.int (0 : Int32)), .val (.int x)] [])) (fun _ k => XS.icmpYes X0.here hx rfl (pc0 := 20) (pc' := 26) rfl (hb hby own_d5_1_20) rfl (flt hxl).2.2.2 (by decide) (by decide) k) ?_
  refine own_go (T' := s₁) (g' := (mkF m 27 #[.val (.ref ca), .val (.int (0 : Int32)), .val (.ref ba), .val (.int (0 : Int32)), .val (.int (1 : Int32)), .val (.int (0 : Int32)), .val (.int x)] [(.ref ba)])) (fun _ k => XS.aloadN X0.here hx rfl (hb hby own_d5_1_26) rfl rfl k) ?_
  refine own_go (T' := s₁) (g' := (mkF m 28 #[.val (.ref ca), .val (.int (0 : Int32)), .val (.ref ba), .val (.int (0 : Int32)), .val (.int (1 : Int32)), .val (.int (0 : Int32)), .val (.int x)] [(.int (0 : Int32)), (.ref ba)])) (fun _ k => XS.iloadN X0.here hx rfl (hb hby own_d5_1_27) rfl k) ?_
  refine own_go (T' := s₁) (g' := (mkF m 30 #[.val (.ref ca), .val (.int (0 : Int32)), .val (.ref ba), .val (.int (0 : Int32)), .val (.int (1 : Int32)), .val (.int (0 : Int32)), .val (.int x)] [(.int x), (.int (0 : Int32)), (.ref ba)])) (fun _ k => XS.iload X0.here hx rfl (hb hby own_d5_1_28) rfl k) ?_
  refine own_go (T' := s₁) (g' := (mkF m 31 #[.val (.ref ca), .val (.int (0 : Int32)), .val (.ref ba), .val (.int (0 : Int32)), .val (.int (1 : Int32)), .val (.int (0 : Int32)), .val (.int x)] [(.int (x.toInt8.toInt32)), (.int (0 : Int32)), (.ref ba)])) (fun _ k => XS.i2b X0.here hx rfl (hb hby own_d5_1_30) rfl k) ?_
  obtain ⟨c_2, Ar_2, q_2, S_2, N_2, H_2, G_2⟩ := id V_ba
  have hin_2 : ¬ ((0 : Int32) < 0 ∨ c_2.slots.size ≤ ((0 : Int32)).toNatClampNeg) := inb_of S_2 ⟨by decide, by decide⟩
  obtain ⟨T2, h2, X2, e2, W2, st2⟩ := stB X0 hx hZ e0 Ar_2 (j := (0 : Int32)) hin_2 (g := (mkF m 31 #[.val (.ref ca), .val (.int (0 : Int32)), .val (.ref ba), .val (.int (0 : Int32)), .val (.int (1 : Int32)), .val (.int (0 : Int32)), .val (.int x)] [(.int (x.toInt8.toInt32)), (.int (0 : Int32)), (.ref ba)])) rfl rfl (hb hby own_d5_1_31)
  have V_ca := V_ca.other W2 ne_ca_ba
  have Zs := Nat.le_trans Zs (Keep.of_wr W2).1
  have V_ba := Arv.set Ar_2 q_2 S_2 N_2 H_2 G_2 (fits_nar_byte _) W2 0 rfl (Nat.le_of_ble_eq_true rfl)
  have KP := KP.wr W2 (Or.inl (by simp))
  have NF := Fr.snoc X2 NF g_ba
  refine own_go (T' := T2) (g' := (mkF m 32 #[.val (.ref ca), .val (.int (0 : Int32)), .val (.ref ba), .val (.int (0 : Int32)), .val (.int (1 : Int32)), .val (.int (0 : Int32)), .val (.int x)] [])) (fun _ k => st2 _ k) ?_
  refine own_go (T' := T2) (g' := (mkF m 35 #[.val (.ref ca), .val (.int (1 : Int32)), .val (.ref ba), .val (.int (0 : Int32)), .val (.int (1 : Int32)), .val (.int (0 : Int32)), .val (.int x)] [])) (fun _ k => XS.iinc X2.here hx rfl (hb hby own_d5_1_32) rfl (l' := #[.val (.ref ca), .val (.int (1 : Int32)), .val (.ref ba), .val (.int (0 : Int32)), .val (.int (1 : Int32)), .val (.int (0 : Int32)), .val (.int x)]) rfl k) ?_
  refine own_go (T' := T2) (g' := (mkF m 38 #[.val (.ref ca), .val (.int (1 : Int32)), .val (.ref ba), .val (.int (1 : Int32)), .val (.int (1 : Int32)), .val (.int (0 : Int32)), .val (.int x)] [])) (fun _ k => XS.iinc X2.here hx rfl (hb hby own_d5_1_35) rfl (l' := #[.val (.ref ca), .val (.int (1 : Int32)), .val (.ref ba), .val (.int (1 : Int32)), .val (.int (1 : Int32)), .val (.int (0 : Int32)), .val (.int x)]) rfl k) ?_
  refine own_go (T' := T2) (g' := (mkF m 41 #[.val (.ref ca), .val (.int (1 : Int32)), .val (.ref ba), .val (.int (1 : Int32)), .val (.int (1 : Int32)), .val (.int (1 : Int32)), .val (.int x)] [])) (fun _ k => XS.iinc X2.here hx rfl (hb hby own_d5_1_38) rfl (l' := #[.val (.ref ca), .val (.int (1 : Int32)), .val (.ref ba), .val (.int (1 : Int32)), .val (.int (1 : Int32)), .val (.int (1 : Int32)), .val (.int x)]) rfl k) ?_
  refine own_go (T' := T2) (g' := (mkF m 3 #[.val (.ref ca), .val (.int (1 : Int32)), .val (.ref ba), .val (.int (1 : Int32)), .val (.int (1 : Int32)), .val (.int (1 : Int32)), .val (.int x)] [])) (fun _ k => XS.goto X2.here hx rfl (pc0 := 41) (pc' := 3) rfl (hb hby own_d5_1_41) (by decide) (by decide) k) ?_
  refine own_go (T' := T2) (g' := (mkF m 5 #[.val (.ref ca), .val (.int (1 : Int32)), .val (.ref ba), .val (.int (1 : Int32)), .val (.int (1 : Int32)), .val (.int (1 : Int32)), .val (.int x)] [(.int (1 : Int32))])) (fun _ k => XS.iload X2.here hx rfl (hb hby own_d5_1_3) rfl k) ?_
  refine own_go (T' := T2) (g' := (mkF m 7 #[.val (.ref ca), .val (.int (1 : Int32)), .val (.ref ba), .val (.int (1 : Int32)), .val (.int (1 : Int32)), .val (.int (1 : Int32)), .val (.int x)] [(.int (1 : Int32)), (.int (1 : Int32))])) (fun _ k => XS.iload X2.here hx rfl (hb hby own_d5_1_5) rfl k) ?_
  refine own_go (T' := T2) (g' := (mkF m 44 #[.val (.ref ca), .val (.int (1 : Int32)), .val (.ref ba), .val (.int (1 : Int32)), .val (.int (1 : Int32)), .val (.int (1 : Int32)), .val (.int x)] [])) (fun _ k => XS.icmpYes X2.here hx rfl (pc0 := 7) (pc' := 44) rfl (hb hby own_d5_1_7) rfl (by decide) (by decide) (by decide) k) ?_
  refine own_go (T' := T2) (g' := (mkF m 46 #[.val (.ref ca), .val (.int (1 : Int32)), .val (.ref ba), .val (.int (1 : Int32)), .val (.int (1 : Int32)), .val (.int (1 : Int32)), .val (.int x)] [(.int (1 : Int32))])) (fun _ k => XS.iload X2.here hx rfl (hb hby own_d5_1_44) rfl k) ?_
  refine own_ret X2 Bd.notSynchronized (some (.int (1 : Int32))) (fun h => by rw [Bd.returns] at h; cases h) (fun fs hr => retI X2 hx Bd.returns (hb hby own_d5_1_46) hr) ?_ (by decide) (by decide)
  show (own_Q5_1 Z ca ba kc kb x h0 n0) (some (.int (1 : Int32))) T2.heap _
  rw [e2]
  exact ⟨rfl, NF, KP, V_ba⟩
theorem own_d4_1_0 : decode jdk_52_method_16_code 0 = .ok (.iload_n 2, 1) := by decide +kernel
theorem own_d4_1_1 : decode jdk_52_method_16_code 1 = .ok (.newarray .byte, 2) := by decide +kernel
theorem own_d4_1_3 : decode jdk_52_method_16_code 3 = .ok (.astore_n 3, 1) := by decide +kernel
theorem own_d4_1_4 : decode jdk_52_method_16_code 4 = .ok (.aload_n 0, 1) := by decide +kernel
theorem own_d4_1_5 : decode jdk_52_method_16_code 5 = .ok (.iload_n 1, 1) := by decide +kernel
theorem own_d4_1_6 : decode jdk_52_method_16_code 6 = .ok (.aload_n 3, 1) := by decide +kernel
theorem own_d4_1_7 : decode jdk_52_method_16_code 7 = .ok (.iconst 0, 1) := by decide +kernel
theorem own_d4_1_8 : decode jdk_52_method_16_code 8 = .ok (.iload_n 2, 1) := by decide +kernel
theorem own_d4_1_9 : decode jdk_52_method_16_code 9 = .ok (.invokestatic 115, 3) := by decide +kernel
theorem own_d4_1_12 : decode jdk_52_method_16_code 12 = .ok (.istore 4, 2) := by decide +kernel
theorem own_d4_1_14 : decode jdk_52_method_16_code 14 = .ok (.iload 4, 2) := by decide +kernel
theorem own_d4_1_16 : decode jdk_52_method_16_code 16 = .ok (.iload_n 2, 1) := by decide +kernel
theorem own_d4_1_17 : decode jdk_52_method_16_code 17 = .ok (.if_icmp .eq 40, 3) := by decide +kernel
theorem own_d4_1_57 : decode jdk_52_method_16_code 57 = .ok (.aload_n 3, 1) := by decide +kernel
theorem own_d4_1_58 : decode jdk_52_method_16_code 58 = .ok (.areturn, 1) := by decide +kernel
theorem own_pn4_1 : plainName "java/lang/StringUTF16" = true := by first | (simp [plainName, overriddenIn]; done) | decide +kernel
theorem own_pd4_1_0 : parseMethodDescriptor "([CI[BII)I" = some ⟨[(.array .char), .int, (.array .byte), .int, .int], some .int⟩ := by decide +kernel
theorem own_ef4_1 (m : MethodId) (ca : Addr) : entryFrame m #[(.ref ca), (.int (0 : Int32)), (.int (1 : Int32))] 6 = mkF m 0 #[.val (.ref ca), .val (.int (0 : Int32)), .val (.int (1 : Int32)), .unset, .unset, .unset] [] := by first | (simp [entryFrame, mkF, argsToLocals, Value.category]; done) | rfl
def own_Q4_1 (Z : State) (ca : Addr) (kc : ClassId) (x : Int32) (h0 : Heap) (n0 : Nat) (v : Option Value) (h : Heap) (L : List Loc) : Prop := Fr n0 L ∧ Keep h0 h [] ∧ (∃ (ba : Addr) (kb : ClassId), v = some (.ref ba) ∧ h0.size ≤ ba ∧ n0 ≤ ba ∧ Arv Z h ba kb .byte (1 : Int32) [(.int (x.toInt8.toInt32.toInt8.toInt32))] (.int (0 : Int32)))
set_option maxRecDepth 65536 in
set_option maxHeartbeats 40000000 in
theorem own_rm4_1 (l : Launch) (Z : State) (a0 : Array Value) (hw : ∀ d ∈ tables_1, d.before a0 Z = true) (ws : List Jvm.Cond) (ca : Addr) (kc : ClassId) (x : Int32) (h0 : Heap) (n0 : Nat) (Zs : n0 ≤ h0.size) (V_ca : Arv Z h0 ca kc .char (1 : Int32) [(.int x)] (.int (0 : Int32))) (hxl : ¬ ((255 : Int32) < x)) :
    MetFree l (⟨"java/lang/StringUTF16", "compress", "([CII)[B"⟩ : MethodName) (head1 (Jvm.Cond.code (⟨"java/lang/StringUTF16", "compress", "([CII)[B"⟩ : MethodName) jdk_52_method_16_code 6 (some (.array .byte)) :: ws) ({ frames := 1, cells := 1, slots := 1, locals := 18 } : Room)) (fun aA_ U => aA_ = #[(.ref ca), (.int (0 : Int32)), (.int (1 : Int32))] ∧ Z.Warmed39 U.vm ∧ U.heap = h0) (fun _ _ _ _ _ => True) (fun _ U o U' => ∃ v L, o = .returned v ∧ own_Q4_1 Z ca kc x h0 n0 v U'.heap L ∧ FrameEnd U o U' L ({ frames := 1, cells := 1, slots := 1, locals := 18 } : Room).cells ({ frames := 1, cells := 1, slots := 1, locals := 18 } : Room).slots) := by
  refine MetFree.of_bodySF (plainFor_of_name own_pn4_1) hisR ?_
  intro p e s m args below meth c s₁ Bd hml0 hP hK
  obtain ⟨rfl, hZ, hh⟩ := hP
  have hx := Bd.exec
  have hby := Bd.bytes
  have hml : c.maxLocals = 6 := hml0
  have hown : s.vm.findClass "java/lang/StringUTF16" = some m.cls := findClass_of_methodNamed Bd.named
  have hnm := (name_of_methodNamed Bd.named Bd.method).1
  have X0 : Stand p l e ({ frames := 1, cells := 1, slots := 1, locals := 18 } : Room) s m #[(.ref ca), (.int (0 : Int32)), (.int (1 : Int32))] below meth c s₁ [] 0 0 := Stand.of_body Bd
  have e0 : s₁.heap = h0 := by rw [← hh, Bd.state]; rfl
  have NF := Fr.nil n0
  rw [own_ef4_1 m ca]
  show own_Dn p e below s (own_Q4_1 Z ca kc x h0 n0) 1 1 s₁ (mkF m 0 #[.val (.ref ca), .val (.int (0 : Int32)), .val (.int (1 : Int32)), .unset, .unset, .unset] [])
  have KP := Keep.refl h0 []
  refine own_go (T' := s₁) (g' := (mkF m 1 #[.val (.ref ca), .val (.int (0 : Int32)), .val (.int (1 : Int32)), .unset, .unset, .unset] [(.int (1 : Int32))])) (fun _ k => XS.iloadN X0.here hx rfl (hb hby own_d4_1_0) rfl k) ?_
  obtain ⟨T1, h1, k1, X1, e1, E1, A1, st1⟩ := newP X0 hx hZ (hw _ (List.mem_of_getElem? (i := 23) rfl)) e0 (g := (mkF m 1 #[.val (.ref ca), .val (.int (0 : Int32)), .val (.int (1 : Int32)), .unset, .unset, .unset] [(.int (1 : Int32))])) rfl (hb hby own_d4_1_1) rfl (by decide) (cap := 1) (by decide) (by decide) (by decide) (by decide)
  obtain ⟨b1, g1⟩ : ∃ z, z = h0.size := ⟨_, rfl⟩
  rw [← g1] at A1 st1
  have ne_ca_b1 : ca ≠ b1 := Nat.ne_of_lt (Nat.lt_of_lt_of_le V_ca.lt (Nat.le_of_eq g1.symm))
  have g_b1 : n0 ≤ b1 := Nat.le_trans Zs (Nat.le_of_eq g1.symm)
  have sz_b1 : h0.size ≤ b1 := Nat.le_trans KP.1 (Nat.le_of_eq g1.symm)
  have V_ca := V_ca.ext E1
  have KP := KP.ext E1
  have Zs := Nat.le_trans Zs E1.1
  have V_b1 : Arv Z h1 b1 k1 .byte (1 : Int32) [(.int (0 : Int32))] (.int (0 : Int32)) := (Arv.new A1 (by decide)).pad (pad_rep [] (.int (0 : Int32)) 1)
  refine own_go (T' := T1) (g' := (mkF m 3 #[.val (.ref ca), .val (.int (0 : Int32)), .val (.int (1 : Int32)), .unset, .unset, .unset] [(.ref b1)])) (fun _ k => st1 _ k) ?_
  refine own_go (T' := T1) (g' := (mkF m 4 #[.val (.ref ca), .val (.int (0 : Int32)), .val (.int (1 : Int32)), .val (.ref b1), .unset, .unset] [])) (fun _ k => XS.astoreN X1.here hx rfl (hb hby own_d4_1_3) rfl rfl (l' := #[.val (.ref ca), .val (.int (0 : Int32)), .val (.int (1 : Int32)), .val (.ref b1), .unset, .unset]) rfl k) ?_
  refine own_go (T' := T1) (g' := (mkF m 5 #[.val (.ref ca), .val (.int (0 : Int32)), .val (.int (1 : Int32)), .val (.ref b1), .unset, .unset] [(.ref ca)])) (fun _ k => XS.aloadN X1.here hx rfl (hb hby own_d4_1_4) rfl rfl k) ?_
  refine own_go (T' := T1) (g' := (mkF m 6 #[.val (.ref ca), .val (.int (0 : Int32)), .val (.int (1 : Int32)), .val (.ref b1), .unset, .unset] [(.int (0 : Int32)), (.ref ca)])) (fun _ k => XS.iloadN X1.here hx rfl (hb hby own_d4_1_5) rfl k) ?_
  refine own_go (T' := T1) (g' := (mkF m 7 #[.val (.ref ca), .val (.int (0 : Int32)), .val (.int (1 : Int32)), .val (.ref b1), .unset, .unset] [(.ref b1), (.int (0 : Int32)), (.ref ca)])) (fun _ k => XS.aloadN X1.here hx rfl (hb hby own_d4_1_6) rfl rfl k) ?_
  refine own_go (T' := T1) (g' := (mkF m 8 #[.val (.ref ca), .val (.int (0 : Int32)), .val (.int (1 : Int32)), .val (.ref b1), .unset, .unset] [(.int (0 : Int32)), (.ref b1), (.int (0 : Int32)), (.ref ca)])) (fun _ k => XS.iconst X1.here hx rfl (hb hby own_d4_1_7) k) ?_
  refine own_go (T' := T1) (g' := (mkF m 9 #[.val (.ref ca), .val (.int (0 : Int32)), .val (.int (1 : Int32)), .val (.ref b1), .unset, .unset] [(.int (1 : Int32)), (.int (0 : Int32)), (.ref b1), (.int (0 : Int32)), (.ref ca)])) (fun _ k => XS.iloadN X1.here hx rfl (hb hby own_d4_1_8) rfl k) ?_
  obtain ⟨_, _, ⟨T2, L2, k2, n2⟩, -, X2, ⟨Lc2, hQ2, l2, y2, z2⟩, st2⟩ := Jvm.LawKit.callS X1 hx (y := (⟨"java/lang/StringUTF16", "compress", "([CI[BII)I"⟩ : MethodName)) hown (mvT hZ (hw _ (List.mem_of_getElem? (i := 24) rfl))) (mvT hZ (hw _ (List.mem_of_getElem? (i := 25) rfl))) (mvT hZ (hw _ (List.mem_of_getElem? (i := 21) rfl))) (mvT hZ (hw _ (List.mem_of_getElem? (i := 26) rfl))) (by decide) (backOf (W := 0) (own_rm5_1 l Z a0 hw [] ca b1 kc k1 x h1 n0 Zs V_ca V_b1 g_b1 ne_ca_b1 hxl) hZ (hw _ (List.mem_of_getElem? (i := 26) rfl)) (hw _ (List.mem_of_getElem? (i := 21) rfl)) (by decide) (by decide)) (g := (mkF m 9 #[.val (.ref ca), .val (.int (0 : Int32)), .val (.int (1 : Int32)), .val (.ref b1), .unset, .unset] [(.int (1 : Int32)), (.int (0 : Int32)), (.ref b1), (.int (0 : Int32)), (.ref ca)])) rfl (by rw [hml]; rfl) (argsL := [(.ref ca), (.int (0 : Int32)), (.ref b1), (.int (0 : Int32)), (.int (1 : Int32))]) (rest := []) (lenOf own_pd4_1_0 rfl) rfl (by show 2 * 0 + _ ≤ _; exact Nat.le_of_eq rfl) (hb hby own_d4_1_9) (fun _ _ => ⟨rfl, e1, (by decide : 1 + 0 ≤ _), (by decide : 1 + 0 ≤ _)⟩)
  dsimp only [Pt.U, Pt.locs, Pt.cells, Pt.slots] at X2 l2 y2 z2 st2 hQ2
  subst l2 y2 z2
  obtain ⟨rfl, NQ2, K2, V_b1⟩ := hQ2
  have NF := Fr.app NF NQ2
  have V_ca := V_ca.keep K2 (ninS ne_ca_b1 nin0)
  have Zs := Nat.le_trans Zs K2.1
  have KP := KP.trans K2 ((allS (Or.inr sz_b1) all0))
  refine own_go (T' := T2) (g' := (mkF m 12 #[.val (.ref ca), .val (.int (0 : Int32)), .val (.int (1 : Int32)), .val (.ref b1), .unset, .unset] [(.int (1 : Int32))])) (fun _ k => st2 _ k) ?_
  refine own_go (T' := T2) (g' := (mkF m 14 #[.val (.ref ca), .val (.int (0 : Int32)), .val (.int (1 : Int32)), .val (.ref b1), .val (.int (1 : Int32)), .unset] [])) (fun _ k => XS.istore X2.here hx rfl (hb hby own_d4_1_12) rfl (l' := #[.val (.ref ca), .val (.int (0 : Int32)), .val (.int (1 : Int32)), .val (.ref b1), .val (.int (1 : Int32)), .unset]) rfl k) ?_
  refine own_go (T' := T2) (g' := (mkF m 16 #[.val (.ref ca), .val (.int (0 : Int32)), .val (.int (1 : Int32)), .val (.ref b1), .val (.int (1 : Int32)), .unset] [(.int (1 : Int32))])) (fun _ k => XS.iload X2.here hx rfl (hb hby own_d4_1_14) rfl k) ?_
  refine own_go (T' := T2) (g' := (mkF m 17 #[.val (.ref ca), .val (.int (0 : Int32)), .val (.int (1 : Int32)), .val (.ref b1), .val (.int (1 : Int32)), .unset] [(.int (1 : Int32)), (.int (1 : Int32))])) (fun _ k => XS.iloadN X2.here hx rfl (hb hby own_d4_1_16) rfl k) ?_
  refine own_go (T' := T2) (g' := (mkF m 57 #[.val (.ref ca), .val (.int (0 : Int32)), .val (.int (1 : Int32)), .val (.ref b1), .val (.int (1 : Int32)), .unset] [])) (fun _ k => XS.icmpYes X2.here hx rfl (pc0 := 17) (pc' := 57) rfl (hb hby own_d4_1_17) rfl (by decide) (by decide) (by decide) k) ?_
  refine own_go (T' := T2) (g' := (mkF m 58 #[.val (.ref ca), .val (.int (0 : Int32)), .val (.int (1 : Int32)), .val (.ref b1), .val (.int (1 : Int32)), .unset] [(.ref b1)])) (fun _ k => XS.aloadN X2.here hx rfl (hb hby own_d4_1_57) rfl rfl k) ?_
  refine own_ret X2 Bd.notSynchronized (some (.ref b1)) (fun h => by rw [Bd.returns] at h; cases h) (fun fs hr => retOut X2 hx (t := (.array .byte)) Bd.returns rfl (Or.inr (Or.inr (Or.inr (Or.inr ⟨rfl, rfl, rfl⟩)))) (hb hby own_d4_1_58) hr) ?_ (by decide) (by decide)
  show (own_Q4_1 Z ca kc x h0 n0) (some (.ref b1)) T2.heap _
  exact ⟨NF, KP, b1, k1, rfl, sz_b1, g_b1, V_b1⟩
theorem own_d6_1_0 : decode jdk_52_method_15_code 0 = .ok (.iload_n 1, 1) := by decide +kernel
theorem own_d6_1_1 : decode jdk_52_method_15_code 1 = .ok (.aload_n 0, 1) := by decide +kernel
theorem own_d6_1_2 : decode jdk_52_method_15_code 2 = .ok (.arraylength, 1) := by decide +kernel
theorem own_d6_1_3 : decode jdk_52_method_15_code 3 = .ok (.isub, 1) := by decide +kernel
theorem own_d6_1_4 : decode jdk_52_method_15_code 4 = .ok (.bipush 31, 2) := by decide +kernel
theorem own_d6_1_6 : decode jdk_52_method_15_code 6 = .ok (.iushr, 1) := by decide +kernel
theorem own_d6_1_7 : decode jdk_52_method_15_code 7 = .ok (.i2b, 1) := by decide +kernel
theorem own_d6_1_8 : decode jdk_52_method_15_code 8 = .ok (.ireturn, 1) := by decide +kernel
theorem own_pn6_1 : plainName "java/lang/StringUTF16" = true := by first | (simp [plainName, overriddenIn]; done) | decide +kernel
theorem own_ef6_1 (m : MethodId) (ba : Addr) : entryFrame m #[(.ref ba), (.int (1 : Int32))] 2 = mkF m 0 #[.val (.ref ba), .val (.int (1 : Int32))] [] := by first | (simp [entryFrame, mkF, argsToLocals, Value.category]; done) | rfl
def own_Q6_1 (Z : State) (ba : Addr) (kb : ClassId) (x : Int32) (h0 : Heap) (n0 : Nat) (v : Option Value) (h : Heap) (L : List Loc) : Prop := v = some (.int (0 : Int32)) ∧ Fr n0 L ∧ h = h0
set_option maxRecDepth 65536 in
set_option maxHeartbeats 40000000 in
theorem own_rm6_1 (l : Launch) (Z : State) (a0 : Array Value) (hw : ∀ d ∈ tables_1, d.before a0 Z = true) (ws : List Jvm.Cond) (ba : Addr) (kb : ClassId) (x : Int32) (h0 : Heap) (n0 : Nat) (Zs : n0 ≤ h0.size) (V_ba : Arv Z h0 ba kb .byte (1 : Int32) [(.int x)] (.int (0 : Int32))) :
    MetFree l (⟨"java/lang/StringUTF16", "coderFromArrayLen", "([BI)B"⟩ : MethodName) (head1 (Jvm.Cond.code (⟨"java/lang/StringUTF16", "coderFromArrayLen", "([BI)B"⟩ : MethodName) jdk_52_method_15_code 2 (some .byte) :: ws) ({ frames := 0, cells := 0, slots := 0, locals := 0 } : Room)) (fun aA_ U => aA_ = #[(.ref ba), (.int (1 : Int32))] ∧ Z.Warmed39 U.vm ∧ U.heap = h0) (fun _ _ _ _ _ => True) (fun _ U o U' => ∃ v L, o = .returned v ∧ own_Q6_1 Z ba kb x h0 n0 v U'.heap L ∧ FrameEnd U o U' L ({ frames := 0, cells := 0, slots := 0, locals := 0 } : Room).cells ({ frames := 0, cells := 0, slots := 0, locals := 0 } : Room).slots) := by
  refine MetFree.of_bodySF (plainFor_of_name own_pn6_1) hisR ?_
  intro p e s m args below meth c s₁ Bd hml0 hP hK
  obtain ⟨rfl, hZ, hh⟩ := hP
  have hx := Bd.exec
  have hby := Bd.bytes
  have hml : c.maxLocals = 2 := hml0
  have hown : s.vm.findClass "java/lang/StringUTF16" = some m.cls := findClass_of_methodNamed Bd.named
  have hnm := (name_of_methodNamed Bd.named Bd.method).1
  have X0 : Stand p l e ({ frames := 0, cells := 0, slots := 0, locals := 0 } : Room) s m #[(.ref ba), (.int (1 : Int32))] below meth c s₁ [] 0 0 := Stand.of_body Bd
  have e0 : s₁.heap = h0 := by rw [← hh, Bd.state]; rfl
  have NF := Fr.nil n0
  rw [own_ef6_1 m ba]
  show own_Dn p e below s (own_Q6_1 Z ba kb x h0 n0) 0 0 s₁ (mkF m 0 #[.val (.ref ba), .val (.int (1 : Int32))] [])
  refine own_go (T' := s₁) (g' := (mkF m 1 #[.val (.ref ba), .val (.int (1 : Int32))] [(.int (1 : Int32))])) (fun _ k => XS.iloadN X0.here hx rfl (hb hby own_d6_1_0) rfl k) ?_
  refine own_go (T' := s₁) (g' := (mkF m 2 #[.val (.ref ba), .val (.int (1 : Int32))] [(.ref ba), (.int (1 : Int32))])) (fun _ k => XS.aloadN X0.here hx rfl (hb hby own_d6_1_1) rfl rfl k) ?_
  obtain ⟨c_1, Ar_1, q_1, S_1, N_1, H_1, G_1⟩ := id V_ba
  refine own_go (T' := s₁) (g' := (mkF m 3 #[.val (.ref ba), .val (.int (1 : Int32))] [(.int (1 : Int32)), (.int (1 : Int32))])) (fun _ k => X0.arraylength hx (by rw [e0]; exact Ar_1.1) (State.isArrayOf_alike hZ.alike Ar_1.2.1) (g := (mkF m 2 #[.val (.ref ba), .val (.int (1 : Int32))] [(.ref ba), (.int (1 : Int32))])) rfl rfl (hb hby own_d6_1_2) _ (by rw [len_of S_1 N_1]; exact k)) ?_
  refine own_go (T' := s₁) (g' := (mkF m 4 #[.val (.ref ba), .val (.int (1 : Int32))] [(.int (0 : Int32))])) (fun _ k => XS.isub X0.here hx rfl (hb hby own_d6_1_3) rfl k) ?_
  refine own_go (T' := s₁) (g' := (mkF m 6 #[.val (.ref ba), .val (.int (1 : Int32))] [(.int (31 : Int32)), (.int (0 : Int32))])) (fun _ k => XS.bipush X0.here hx rfl (hb hby own_d6_1_4) k) ?_
  refine own_go (T' := s₁) (g' := (mkF m 7 #[.val (.ref ba), .val (.int (1 : Int32))] [(.int (((0 : Int32).toUInt32 >>> ((31 : Int32) &&& 31).toUInt32).toInt32))])) (fun _ k => XS.iushr X0.here hx rfl (hb hby own_d6_1_6) rfl k) ?_
  refine own_go (T' := s₁) (g' := (mkF m 8 #[.val (.ref ba), .val (.int (1 : Int32))] [(.int ((((0 : Int32).toUInt32 >>> ((31 : Int32) &&& 31).toUInt32).toInt32).toInt8.toInt32))])) (fun _ k => XS.i2b X0.here hx rfl (hb hby own_d6_1_7) rfl k) ?_
  refine own_ret X0 Bd.notSynchronized (some (.int (nar .byte ((((0 : Int32).toUInt32 >>> ((31 : Int32) &&& 31).toUInt32).toInt32).toInt8.toInt32)))) (fun h => by rw [Bd.returns] at h; cases h) (fun fs hr => retN X0 hx (t := .byte) Bd.returns (by simp) (hb hby own_d6_1_8) hr) ?_ (by decide) (by decide)
  show (own_Q6_1 Z ba kb x h0 n0) (some (.int (nar .byte ((((0 : Int32).toUInt32 >>> ((31 : Int32) &&& 31).toUInt32).toInt32).toInt8.toInt32)))) s₁.heap _
  rw [e0]
  exact ⟨congrArg (fun z => some (Value.int z)) (by decide), NF, rfl⟩
theorem own_d3_1_0 : decode jdk_42_method_149_code 0 = .ok (.aload_n 0, 1) := by decide +kernel
theorem own_d3_1_1 : decode jdk_42_method_149_code 1 = .ok (.invokespecial 1, 3) := by decide +kernel
theorem own_d3_1_4 : decode jdk_42_method_149_code 4 = .ok (.iload_n 3, 1) := by decide +kernel
theorem own_d3_1_5 : decode jdk_42_method_149_code 5 = .ok (.ifCond .ne 22, 3) := by decide +kernel
theorem own_d3_1_27 : decode jdk_42_method_149_code 27 = .ok (.getstatic 38, 3) := by decide +kernel
theorem own_d3_1_30 : decode jdk_42_method_149_code 30 = .ok (.ifCond .eq 28, 3) := by decide +kernel
theorem own_d3_1_33 : decode jdk_42_method_149_code 33 = .ok (.aload_n 1, 1) := by decide +kernel
theorem own_d3_1_34 : decode jdk_42_method_149_code 34 = .ok (.iload_n 2, 1) := by decide +kernel
theorem own_d3_1_35 : decode jdk_42_method_149_code 35 = .ok (.iload_n 3, 1) := by decide +kernel
theorem own_d3_1_36 : decode jdk_42_method_149_code 36 = .ok (.invokestatic 177, 3) := by decide +kernel
theorem own_d3_1_39 : decode jdk_42_method_149_code 39 = .ok (.astore 5, 2) := by decide +kernel
theorem own_d3_1_41 : decode jdk_42_method_149_code 41 = .ok (.aload_n 0, 1) := by decide +kernel
theorem own_d3_1_42 : decode jdk_42_method_149_code 42 = .ok (.aload 5, 2) := by decide +kernel
theorem own_d3_1_44 : decode jdk_42_method_149_code 44 = .ok (.iload_n 3, 1) := by decide +kernel
theorem own_d3_1_45 : decode jdk_42_method_149_code 45 = .ok (.invokestatic 47, 3) := by decide +kernel
theorem own_d3_1_48 : decode jdk_42_method_149_code 48 = .ok (.putfield 15, 3) := by decide +kernel
theorem own_d3_1_51 : decode jdk_42_method_149_code 51 = .ok (.aload_n 0, 1) := by decide +kernel
theorem own_d3_1_52 : decode jdk_42_method_149_code 52 = .ok (.aload 5, 2) := by decide +kernel
theorem own_d3_1_54 : decode jdk_42_method_149_code 54 = .ok (.putfield 9, 3) := by decide +kernel
theorem own_d3_1_57 : decode jdk_42_method_149_code 57 = .ok (.return_, 1) := by decide +kernel
theorem own_pn3_1 : plainName "java/lang/String" = true := by first | (simp [plainName, overriddenIn]; done) | decide +kernel
theorem own_pd3_1_0 : parseMethodDescriptor "([CII)[B" = some ⟨[(.array .char), .int, .int], some (.array .byte)⟩ := by decide +kernel
theorem own_pd3_1_1 : parseMethodDescriptor "([BI)B" = some ⟨[(.array .byte), .int], some .byte⟩ := by decide +kernel
theorem own_ef3_1 (m : MethodId) (a : Addr) (ca : Addr) : entryFrame m #[(.ref a), (.ref ca), (.int (0 : Int32)), (.int (1 : Int32)), .null] 6 = mkF m 0 #[.val (.ref a), .val (.ref ca), .val (.int (0 : Int32)), .val (.int (1 : Int32)), .val .null, .unset] [] := by first | (simp [entryFrame, mkF, argsToLocals, Value.category]; done) | rfl
def own_Q3_1 (Z : State) (a : Addr) (ca : Addr) (kc : ClassId) (cs : Int32) (x : Int32) (h0 : Heap) (n0 : Nat) (v : Option Value) (h : Heap) (L : List Loc) : Prop := v = none ∧ Fr n0 L ∧ Keep h0 h [a] ∧ Exa Z h a "java/lang/String" ∧ (∃ (ba : Addr) (kb : ClassId), h0.size ≤ ba ∧ n0 ≤ ba ∧ Arv Z h ba kb .byte (1 : Int32) [(.int (x.toInt8.toInt32.toInt8.toInt32))] (.int (0 : Int32)) ∧ Fld Z h a "java/lang/String" "value" "[B" (.ref ba) ∧ Fld Z h a "java/lang/String" "coder" "B" (.int (0 : Int32)))
set_option maxRecDepth 65536 in
set_option maxHeartbeats 40000000 in
theorem own_rm3_1 (l : Launch) (Z : State) (a0 : Array Value) (hw : ∀ d ∈ tables_1, d.before a0 Z = true) (ws : List Jvm.Cond) (a : Addr) (ca : Addr) (kc : ClassId) (cs : Int32) (x : Int32) (h0 : Heap) (n0 : Nat) (Zs : n0 ≤ h0.size) (F_a_value : Fld Z h0 a "java/lang/String" "value" "[B" .null) (F_a_coder : Fld Z h0 a "java/lang/String" "coder" "B" (.int (0 : Int32))) (E_a : Exa Z h0 a "java/lang/String") (g_a : n0 ≤ a) (V_ca : Arv Z h0 ca kc .char (1 : Int32) [(.int x)] (.int (0 : Int32))) (ne_a_ca : a ≠ ca) (OL : Old Z n0 h0) (S_cs : Sta Z Z.heap "java/lang/String" "COMPACT_STRINGS" "Z" (.int cs)) (hcs : ¬ (cs = (0 : Int32))) (hxl : ¬ ((255 : Int32) < x)) :
    MetFree l (⟨"java/lang/String", "<init>", "([CIILjava/lang/Void;)V"⟩ : MethodName) (head1 (Jvm.Cond.code (⟨"java/lang/String", "<init>", "([CIILjava/lang/Void;)V"⟩ : MethodName) jdk_42_method_149_code 6 none :: ws) ({ frames := 2, cells := 1, slots := 1, locals := 35 } : Room)) (fun aA_ U => aA_ = #[(.ref a), (.ref ca), (.int (0 : Int32)), (.int (1 : Int32)), .null] ∧ Z.Warmed39 U.vm ∧ U.heap = h0) (fun _ _ _ _ _ => True) (fun _ U o U' => ∃ v L, o = .returned v ∧ own_Q3_1 Z a ca kc cs x h0 n0 v U'.heap L ∧ FrameEnd U o U' L ({ frames := 2, cells := 1, slots := 1, locals := 35 } : Room).cells ({ frames := 2, cells := 1, slots := 1, locals := 35 } : Room).slots) := by
  refine MetFree.of_bodySF (plainFor_of_name own_pn3_1) hisR ?_
  intro p e s m args below meth c s₁ Bd hml0 hP hK
  obtain ⟨rfl, hZ, hh⟩ := hP
  have hx := Bd.exec
  have hby := Bd.bytes
  have hml : c.maxLocals = 6 := hml0
  have hown : s.vm.findClass "java/lang/String" = some m.cls := findClass_of_methodNamed Bd.named
  have hnm := (name_of_methodNamed Bd.named Bd.method).1
  have X0 : Stand p l e ({ frames := 2, cells := 1, slots := 1, locals := 35 } : Room) s m #[(.ref a), (.ref ca), (.int (0 : Int32)), (.int (1 : Int32)), .null] below meth c s₁ [] 0 0 := Stand.of_body Bd
  have e0 : s₁.heap = h0 := by rw [← hh, Bd.state]; rfl
  have NF := Fr.nil n0
  rw [own_ef3_1 m a ca]
  show own_Dn p e below s (own_Q3_1 Z a ca kc cs x h0 n0) 1 1 s₁ (mkF m 0 #[.val (.ref a), .val (.ref ca), .val (.int (0 : Int32)), .val (.int (1 : Int32)), .val .null, .unset] [])
  have KP := Keep.refl h0 [a]
  refine own_go (T' := s₁) (g' := (mkF m 1 #[.val (.ref a), .val (.ref ca), .val (.int (0 : Int32)), .val (.int (1 : Int32)), .val .null, .unset] [(.ref a)])) (fun _ k => XS.aloadN X0.here hx rfl (hb hby own_d3_1_0) rfl rfl k) ?_
  obtain ⟨T1, X1, e1, st1⟩ := initO X0 hx hZ hown (hw _ (List.mem_of_getElem? (i := 15) rfl)) (hw _ (List.mem_of_getElem? (i := 16) rfl)) (hw _ (List.mem_of_getElem? (i := 17) rfl)) e0 (g := (mkF m 1 #[.val (.ref a), .val (.ref ca), .val (.int (0 : Int32)), .val (.int (1 : Int32)), .val .null, .unset] [(.ref a)])) rfl (by rw [hml]; rfl) rfl (hb hby own_d3_1_1) (by decide) (W := 0) (by show 2 * 0 + _ ≤ _; exact Nat.le_of_eq rfl) (by decide)
  refine own_go (T' := T1) (g' := (mkF m 4 #[.val (.ref a), .val (.ref ca), .val (.int (0 : Int32)), .val (.int (1 : Int32)), .val .null, .unset] [])) (fun _ k => st1 _ k) ?_
  refine own_go (T' := T1) (g' := (mkF m 5 #[.val (.ref a), .val (.ref ca), .val (.int (0 : Int32)), .val (.int (1 : Int32)), .val .null, .unset] [(.int (1 : Int32))])) (fun _ k => XS.iloadN X1.here hx rfl (hb hby own_d3_1_4) rfl k) ?_
  refine own_go (T' := T1) (g' := (mkF m 27 #[.val (.ref a), .val (.ref ca), .val (.int (0 : Int32)), .val (.int (1 : Int32)), .val .null, .unset] [])) (fun _ k => XS.ifYes X1.here hx rfl (pc0 := 5) (pc' := 27) rfl (hb hby own_d3_1_5) rfl (by decide) (by decide) (by decide) k) ?_
  obtain ⟨T2, X2, e2, st2⟩ := getS2 X1 hx hZ hown (host := "") (Or.inl (hw _ (List.mem_of_getElem? (i := 18) rfl))) Via.refl e1 (S_cs.ext OL.2) (g := (mkF m 27 #[.val (.ref a), .val (.ref ca), .val (.int (0 : Int32)), .val (.int (1 : Int32)), .val .null, .unset] [])) rfl (hb hby own_d3_1_27)
  refine own_go (T' := T2) (g' := (mkF m 30 #[.val (.ref a), .val (.ref ca), .val (.int (0 : Int32)), .val (.int (1 : Int32)), .val .null, .unset] [(.int cs)])) (fun _ k => st2 _ k) ?_
  refine own_go (T' := T2) (g' := (mkF m 33 #[.val (.ref a), .val (.ref ca), .val (.int (0 : Int32)), .val (.int (1 : Int32)), .val .null, .unset] [])) (fun _ k => XS.ifNo X2.here hx rfl (hb hby own_d3_1_30) rfl ((if0 _ _).trans (feq hcs).1) k) ?_
  refine own_go (T' := T2) (g' := (mkF m 34 #[.val (.ref a), .val (.ref ca), .val (.int (0 : Int32)), .val (.int (1 : Int32)), .val .null, .unset] [(.ref ca)])) (fun _ k => XS.aloadN X2.here hx rfl (hb hby own_d3_1_33) rfl rfl k) ?_
  refine own_go (T' := T2) (g' := (mkF m 35 #[.val (.ref a), .val (.ref ca), .val (.int (0 : Int32)), .val (.int (1 : Int32)), .val .null, .unset] [(.int (0 : Int32)), (.ref ca)])) (fun _ k => XS.iloadN X2.here hx rfl (hb hby own_d3_1_34) rfl k) ?_
  refine own_go (T' := T2) (g' := (mkF m 36 #[.val (.ref a), .val (.ref ca), .val (.int (0 : Int32)), .val (.int (1 : Int32)), .val .null, .unset] [(.int (1 : Int32)), (.int (0 : Int32)), (.ref ca)])) (fun _ k => XS.iloadN X2.here hx rfl (hb hby own_d3_1_35) rfl k) ?_
  have lt_a := E_a.lt
  have lt_ca := V_ca.lt
  have KPo := KP
  obtain ⟨_, _, ⟨T3, L3, k3, n3⟩, -, X3, ⟨Lc3, hQ3, l3, y3, z3⟩, st3⟩ := Jvm.LawKit.callS X2 hx (y := (⟨"java/lang/StringUTF16", "compress", "([CII)[B"⟩ : MethodName)) hown (mvT hZ (hw _ (List.mem_of_getElem? (i := 19) rfl))) (mvT hZ (hw _ (List.mem_of_getElem? (i := 20) rfl))) (mvT hZ (hw _ (List.mem_of_getElem? (i := 21) rfl))) (mvT hZ (hw _ (List.mem_of_getElem? (i := 22) rfl))) (by decide) (backOf (W := 0) (own_rm4_1 l Z a0 hw [] ca kc x h0 n0 Zs V_ca hxl) hZ (hw _ (List.mem_of_getElem? (i := 22) rfl)) (hw _ (List.mem_of_getElem? (i := 21) rfl)) (by decide) (by decide)) (g := (mkF m 36 #[.val (.ref a), .val (.ref ca), .val (.int (0 : Int32)), .val (.int (1 : Int32)), .val .null, .unset] [(.int (1 : Int32)), (.int (0 : Int32)), (.ref ca)])) rfl (by rw [hml]; rfl) (argsL := [(.ref ca), (.int (0 : Int32)), (.int (1 : Int32))]) (rest := []) (lenOf own_pd3_1_0 rfl) rfl (by show 2 * 0 + _ ≤ _; exact Nat.le_of_eq rfl) (hb hby own_d3_1_36) (fun _ _ => ⟨rfl, e2, (by decide : 0 + 1 ≤ _), (by decide : 0 + 1 ≤ _)⟩)
  dsimp only [Pt.U, Pt.locs, Pt.cells, Pt.slots] at X3 l3 y3 z3 st3 hQ3
  subst l3 y3 z3
  obtain ⟨NQ3, K3, ba3, kb3, rfl, ge_ba3, g_ba3, V_ba3⟩ := hQ3
  have NF := Fr.app NF NQ3
  have E_a := E_a.keep K3
  have F_a_value := F_a_value.keep K3 nin0
  have F_a_coder := F_a_coder.keep K3 nin0
  have V_ca := V_ca.keep K3 nin0
  have OL := OL.keep K3 all0
  have Zs := Nat.le_trans Zs K3.1
  have KP := KP.trans K3 (all0)
  have ne_a_ba3 : a ≠ ba3 := Nat.ne_of_lt (Nat.lt_of_lt_of_le lt_a ge_ba3)
  have ne_ca_ba3 : ca ≠ ba3 := Nat.ne_of_lt (Nat.lt_of_lt_of_le lt_ca ge_ba3)
  have sz_ba3 : h0.size ≤ ba3 := Nat.le_trans KPo.1 ge_ba3
  refine own_go (T' := T3) (g' := (mkF m 39 #[.val (.ref a), .val (.ref ca), .val (.int (0 : Int32)), .val (.int (1 : Int32)), .val .null, .unset] [(.ref ba3)])) (fun _ k => st3 _ k) ?_
  refine own_go (T' := T3) (g' := (mkF m 41 #[.val (.ref a), .val (.ref ca), .val (.int (0 : Int32)), .val (.int (1 : Int32)), .val .null, .val (.ref ba3)] [])) (fun _ k => XS.astore X3.here hx rfl (hb hby own_d3_1_39) rfl rfl (l' := #[.val (.ref a), .val (.ref ca), .val (.int (0 : Int32)), .val (.int (1 : Int32)), .val .null, .val (.ref ba3)]) rfl k) ?_
  refine own_go (T' := T3) (g' := (mkF m 42 #[.val (.ref a), .val (.ref ca), .val (.int (0 : Int32)), .val (.int (1 : Int32)), .val .null, .val (.ref ba3)] [(.ref a)])) (fun _ k => XS.aloadN X3.here hx rfl (hb hby own_d3_1_41) rfl rfl k) ?_
  refine own_go (T' := T3) (g' := (mkF m 44 #[.val (.ref a), .val (.ref ca), .val (.int (0 : Int32)), .val (.int (1 : Int32)), .val .null, .val (.ref ba3)] [(.ref ba3), (.ref a)])) (fun _ k => XS.aload X3.here hx rfl (hb hby own_d3_1_42) rfl rfl k) ?_
  refine own_go (T' := T3) (g' := (mkF m 45 #[.val (.ref a), .val (.ref ca), .val (.int (0 : Int32)), .val (.int (1 : Int32)), .val .null, .val (.ref ba3)] [(.int (1 : Int32)), (.ref ba3), (.ref a)])) (fun _ k => XS.iloadN X3.here hx rfl (hb hby own_d3_1_44) rfl k) ?_
  obtain ⟨_, _, ⟨T4, L4, k4, n4⟩, -, X4, ⟨Lc4, hQ4, l4, y4, z4⟩, st4⟩ := Jvm.LawKit.callS X3 hx (y := (⟨"java/lang/StringUTF16", "coderFromArrayLen", "([BI)B"⟩ : MethodName)) hown (mvT hZ (hw _ (List.mem_of_getElem? (i := 27) rfl))) (mvT hZ (hw _ (List.mem_of_getElem? (i := 28) rfl))) (mvT hZ (hw _ (List.mem_of_getElem? (i := 21) rfl))) (mvT hZ (hw _ (List.mem_of_getElem? (i := 29) rfl))) (by decide) (backOf (W := 1) (own_rm6_1 l Z a0 hw [] ba3 kb3 _ T3.heap n0 Zs V_ba3) hZ (hw _ (List.mem_of_getElem? (i := 29) rfl)) (hw _ (List.mem_of_getElem? (i := 21) rfl)) (by decide) (by decide)) (g := (mkF m 45 #[.val (.ref a), .val (.ref ca), .val (.int (0 : Int32)), .val (.int (1 : Int32)), .val .null, .val (.ref ba3)] [(.int (1 : Int32)), (.ref ba3), (.ref a)])) rfl (by rw [hml]; rfl) (argsL := [(.ref ba3), (.int (1 : Int32))]) (rest := [(.ref a)]) (lenOf own_pd3_1_1 rfl) rfl (by show 2 * 0 + _ ≤ _; exact Nat.le_of_eq rfl) (hb hby own_d3_1_45) (fun _ _ => ⟨rfl, rfl, (by decide : 1 + 0 ≤ _), (by decide : 1 + 0 ≤ _)⟩)
  dsimp only [Pt.U, Pt.locs, Pt.cells, Pt.slots] at X4 l4 y4 z4 st4 hQ4
  subst l4 y4 z4
  obtain ⟨rfl, NQ4, eq4⟩ := hQ4
  have NF := Fr.app NF NQ4
  refine own_go (T' := T4) (g' := (mkF m 48 #[.val (.ref a), .val (.ref ca), .val (.int (0 : Int32)), .val (.int (1 : Int32)), .val .null, .val (.ref ba3)] [(.int (0 : Int32)), (.ref a)])) (fun _ k => st4 _ k) ?_
  obtain ⟨T5, h5, X5, e5, W5, st5⟩ := putFN X4 hx hZ hown (hw _ (List.mem_of_getElem? (i := 30) rfl)) Via.refl eq4 F_a_coder E_a (Or.inr ⟨(hw _ (List.mem_of_getElem? (i := 31) rfl)), rfl, hnm⟩) (hw _ (List.mem_of_getElem? (i := 5) rfl)) (ty := .byte) (v' := (.int (0 : Int32))) (by decide) rfl (by decide) (g := (mkF m 48 #[.val (.ref a), .val (.ref ca), .val (.int (0 : Int32)), .val (.int (1 : Int32)), .val .null, .val (.ref ba3)] [(.int (0 : Int32)), (.ref a)])) rfl rfl (hb hby own_d3_1_48)
  have E_a := E_a.wr W5
  have F_a_value := F_a_value.other W5 (Or.inr (slot_ne (Or.inr (hw _ (List.mem_of_getElem? (i := 33) rfl))) (Or.inr (hw _ (List.mem_of_getElem? (i := 31) rfl))) (by decide) (t := (.array .byte)) (t' := .byte) (by decide) (by decide)))
  have V_ca := V_ca.other W5 (Ne.symm ne_a_ca)
  have OL := OL.wr W5 g_a
  have V_ba3 := V_ba3.other W5 (Ne.symm ne_a_ba3)
  have Zs := Nat.le_trans Zs (Keep.of_wr W5).1
  have F_a_coder := F_a_coder.same W5
  have KP := KP.wr W5 (Or.inl (by simp))
  have NF := Fr.snoc X5 NF g_a
  refine own_go (T' := T5) (g' := (mkF m 51 #[.val (.ref a), .val (.ref ca), .val (.int (0 : Int32)), .val (.int (1 : Int32)), .val .null, .val (.ref ba3)] [])) (fun _ k => st5 _ k) ?_
  refine own_go (T' := T5) (g' := (mkF m 52 #[.val (.ref a), .val (.ref ca), .val (.int (0 : Int32)), .val (.int (1 : Int32)), .val .null, .val (.ref ba3)] [(.ref a)])) (fun _ k => XS.aloadN X5.here hx rfl (hb hby own_d3_1_51) rfl rfl k) ?_
  refine own_go (T' := T5) (g' := (mkF m 54 #[.val (.ref a), .val (.ref ca), .val (.int (0 : Int32)), .val (.int (1 : Int32)), .val .null, .val (.ref ba3)] [(.ref ba3), (.ref a)])) (fun _ k => XS.aload X5.here hx rfl (hb hby own_d3_1_52) rfl rfl k) ?_
  obtain ⟨T6, h6, X6, e6, W6, st6⟩ := putF X5 hx hZ hown (host := "") (Or.inl (hw _ (List.mem_of_getElem? (i := 32) rfl))) Via.refl e5 F_a_value E_a (Or.inr ⟨(hw _ (List.mem_of_getElem? (i := 33) rfl)), rfl, hnm⟩) (hw _ (List.mem_of_getElem? (i := 5) rfl)) (ty := (.array .byte)) (by decide) rfl rfl (g := (mkF m 54 #[.val (.ref a), .val (.ref ca), .val (.int (0 : Int32)), .val (.int (1 : Int32)), .val .null, .val (.ref ba3)] [(.ref ba3), (.ref a)])) rfl rfl (hb hby own_d3_1_54)
  have E_a := E_a.wr W6
  have V_ca := V_ca.other W6 (Ne.symm ne_a_ca)
  have OL := OL.wr W6 g_a
  have V_ba3 := V_ba3.other W6 (Ne.symm ne_a_ba3)
  have F_a_coder := F_a_coder.other W6 (Or.inr (slot_ne (Or.inr (hw _ (List.mem_of_getElem? (i := 31) rfl))) (Or.inr (hw _ (List.mem_of_getElem? (i := 33) rfl))) (by decide) (t := .byte) (t' := (.array .byte)) (by decide) (by decide)))
  have Zs := Nat.le_trans Zs (Keep.of_wr W6).1
  have F_a_value := F_a_value.same W6
  have KP := KP.wr W6 (Or.inl (by simp))
  have NF := Fr.snoc X6 NF g_a
  refine own_go (T' := T6) (g' := (mkF m 57 #[.val (.ref a), .val (.ref ca), .val (.int (0 : Int32)), .val (.int (1 : Int32)), .val .null, .val (.ref ba3)] [])) (fun _ k => st6 _ k) ?_
  refine own_ret X6 Bd.notSynchronized none (fun _ => rfl) (fun fs hr => X6.returnOut hx Bd.returns (hb hby own_d3_1_57) hr) ?_ (by decide) (by decide)
  show (own_Q3_1 Z a ca kc cs x h0 n0) none T6.heap _
  rw [e6]
  exact ⟨rfl, NF, KP, E_a, ba3, kb3, sz_ba3, g_ba3, V_ba3, F_a_value, F_a_coder⟩
theorem own_d2_1_0 : decode jdk_42_method_3_code 0 = .ok (.aload_n 0, 1) := by decide +kernel
theorem own_d2_1_1 : decode jdk_42_method_3_code 1 = .ok (.aload_n 1, 1) := by decide +kernel
theorem own_d2_1_2 : decode jdk_42_method_3_code 2 = .ok (.iconst 0, 1) := by decide +kernel
theorem own_d2_1_3 : decode jdk_42_method_3_code 3 = .ok (.aload_n 1, 1) := by decide +kernel
theorem own_d2_1_4 : decode jdk_42_method_3_code 4 = .ok (.arraylength, 1) := by decide +kernel
theorem own_d2_1_5 : decode jdk_42_method_3_code 5 = .ok (.aconst_null, 1) := by decide +kernel
theorem own_d2_1_6 : decode jdk_42_method_3_code 6 = .ok (.invokespecial 27, 3) := by decide +kernel
theorem own_d2_1_9 : decode jdk_42_method_3_code 9 = .ok (.return_, 1) := by decide +kernel
theorem own_pn2_1 : plainName "java/lang/String" = true := by first | (simp [plainName, overriddenIn]; done) | decide +kernel
theorem own_pd2_1_0 : parseMethodDescriptor "([CIILjava/lang/Void;)V" = some ⟨[(.array .char), .int, .int, (.object "java/lang/Void")], none⟩ := by decide +kernel
theorem own_ef2_1 (m : MethodId) (a : Addr) (ca : Addr) : entryFrame m #[(.ref a), (.ref ca)] 2 = mkF m 0 #[.val (.ref a), .val (.ref ca)] [] := by first | (simp [entryFrame, mkF, argsToLocals, Value.category]; done) | rfl
def own_Q2_1 (Z : State) (a : Addr) (ca : Addr) (kc : ClassId) (cs : Int32) (x : Int32) (h0 : Heap) (n0 : Nat) (v : Option Value) (h : Heap) (L : List Loc) : Prop := v = none ∧ Fr n0 L ∧ Keep h0 h [a] ∧ Exa Z h a "java/lang/String" ∧ (∃ (ba : Addr) (kb : ClassId), h0.size ≤ ba ∧ n0 ≤ ba ∧ Arv Z h ba kb .byte (1 : Int32) [(.int (x.toInt8.toInt32.toInt8.toInt32))] (.int (0 : Int32)) ∧ Fld Z h a "java/lang/String" "value" "[B" (.ref ba) ∧ Fld Z h a "java/lang/String" "coder" "B" (.int (0 : Int32)))
set_option maxRecDepth 65536 in
set_option maxHeartbeats 40000000 in
theorem own_rm2_1 (l : Launch) (Z : State) (a0 : Array Value) (hw : ∀ d ∈ tables_1, d.before a0 Z = true) (ws : List Jvm.Cond) (a : Addr) (ca : Addr) (kc : ClassId) (cs : Int32) (x : Int32) (h0 : Heap) (n0 : Nat) (Zs : n0 ≤ h0.size) (F_a_value : Fld Z h0 a "java/lang/String" "value" "[B" .null) (F_a_coder : Fld Z h0 a "java/lang/String" "coder" "B" (.int (0 : Int32))) (E_a : Exa Z h0 a "java/lang/String") (g_a : n0 ≤ a) (V_ca : Arv Z h0 ca kc .char (1 : Int32) [(.int x)] (.int (0 : Int32))) (ne_a_ca : a ≠ ca) (OL : Old Z n0 h0) (S_cs : Sta Z Z.heap "java/lang/String" "COMPACT_STRINGS" "Z" (.int cs)) (hcs : ¬ (cs = (0 : Int32))) (hxl : ¬ ((255 : Int32) < x)) :
    MetFree l (⟨"java/lang/String", "<init>", "([C)V"⟩ : MethodName) (head1 (Jvm.Cond.code (⟨"java/lang/String", "<init>", "([C)V"⟩ : MethodName) jdk_42_method_3_code 2 none :: ws) ({ frames := 3, cells := 1, slots := 1, locals := 52 } : Room)) (fun aA_ U => aA_ = #[(.ref a), (.ref ca)] ∧ Z.Warmed39 U.vm ∧ U.heap = h0) (fun _ _ _ _ _ => True) (fun _ U o U' => ∃ v L, o = .returned v ∧ own_Q2_1 Z a ca kc cs x h0 n0 v U'.heap L ∧ FrameEnd U o U' L ({ frames := 3, cells := 1, slots := 1, locals := 52 } : Room).cells ({ frames := 3, cells := 1, slots := 1, locals := 52 } : Room).slots) := by
  refine MetFree.of_bodySF (plainFor_of_name own_pn2_1) hisR ?_
  intro p e s m args below meth c s₁ Bd hml0 hP hK
  obtain ⟨rfl, hZ, hh⟩ := hP
  have hx := Bd.exec
  have hby := Bd.bytes
  have hml : c.maxLocals = 2 := hml0
  have hown : s.vm.findClass "java/lang/String" = some m.cls := findClass_of_methodNamed Bd.named
  have hnm := (name_of_methodNamed Bd.named Bd.method).1
  have X0 : Stand p l e ({ frames := 3, cells := 1, slots := 1, locals := 52 } : Room) s m #[(.ref a), (.ref ca)] below meth c s₁ [] 0 0 := Stand.of_body Bd
  have e0 : s₁.heap = h0 := by rw [← hh, Bd.state]; rfl
  have NF := Fr.nil n0
  rw [own_ef2_1 m a ca]
  show own_Dn p e below s (own_Q2_1 Z a ca kc cs x h0 n0) 1 1 s₁ (mkF m 0 #[.val (.ref a), .val (.ref ca)] [])
  have KP := Keep.refl h0 [a]
  refine own_go (T' := s₁) (g' := (mkF m 1 #[.val (.ref a), .val (.ref ca)] [(.ref a)])) (fun _ k => XS.aloadN X0.here hx rfl (hb hby own_d2_1_0) rfl rfl k) ?_
  refine own_go (T' := s₁) (g' := (mkF m 2 #[.val (.ref a), .val (.ref ca)] [(.ref ca), (.ref a)])) (fun _ k => XS.aloadN X0.here hx rfl (hb hby own_d2_1_1) rfl rfl k) ?_
  refine own_go (T' := s₁) (g' := (mkF m 3 #[.val (.ref a), .val (.ref ca)] [(.int (0 : Int32)), (.ref ca), (.ref a)])) (fun _ k => XS.iconst X0.here hx rfl (hb hby own_d2_1_2) k) ?_
  refine own_go (T' := s₁) (g' := (mkF m 4 #[.val (.ref a), .val (.ref ca)] [(.ref ca), (.int (0 : Int32)), (.ref ca), (.ref a)])) (fun _ k => XS.aloadN X0.here hx rfl (hb hby own_d2_1_3) rfl rfl k) ?_
  obtain ⟨c_1, Ar_1, q_1, S_1, N_1, H_1, G_1⟩ := id V_ca
  refine own_go (T' := s₁) (g' := (mkF m 5 #[.val (.ref a), .val (.ref ca)] [(.int (1 : Int32)), (.int (0 : Int32)), (.ref ca), (.ref a)])) (fun _ k => X0.arraylength hx (by rw [e0]; exact Ar_1.1) (State.isArrayOf_alike hZ.alike Ar_1.2.1) (g := (mkF m 4 #[.val (.ref a), .val (.ref ca)] [(.ref ca), (.int (0 : Int32)), (.ref ca), (.ref a)])) rfl rfl (hb hby own_d2_1_4) _ (by rw [len_of S_1 N_1]; exact k)) ?_
  refine own_go (T' := s₁) (g' := (mkF m 6 #[.val (.ref a), .val (.ref ca)] [.null, (.int (1 : Int32)), (.int (0 : Int32)), (.ref ca), (.ref a)])) (fun _ k => XS.aconstNull X0.here hx rfl (hb hby own_d2_1_5) k) ?_
  have lt_a := E_a.lt
  have lt_ca := V_ca.lt
  have KPo := KP
  obtain ⟨_, _, ⟨T2, L2, k2, n2⟩, -, X2, ⟨Lc2, hQ2, l2, y2, z2⟩, st2⟩ := X0.specialBack hx (y := (⟨"java/lang/String", "<init>", "([CIILjava/lang/Void;)V"⟩ : MethodName)) rfl hown (mvT hZ (hw _ (List.mem_of_getElem? (i := 11) rfl))) (mvT hZ (hw _ (List.mem_of_getElem? (i := 12) rfl))) (mvT hZ (hw _ (List.mem_of_getElem? (i := 14) rfl))) (by decide) (backOf (W := 0) (own_rm3_1 l Z a0 hw [] a ca kc cs x h0 n0 Zs F_a_value F_a_coder E_a g_a V_ca ne_a_ca OL S_cs hcs hxl) hZ (hw _ (List.mem_of_getElem? (i := 14) rfl)) (hw _ (List.mem_of_getElem? (i := 6) rfl)) (by decide) (by decide)) (g := (mkF m 6 #[.val (.ref a), .val (.ref ca)] [.null, (.int (1 : Int32)), (.int (0 : Int32)), (.ref ca), (.ref a)])) rfl (by rw [hml]; rfl) (Steps.refl _) (a := a) (argsL := [(.ref ca), (.int (0 : Int32)), (.int (1 : Int32)), .null]) (rest := []) (lenOf own_pd2_1_0 rfl) rfl (by show 2 * 0 + _ ≤ _; exact Nat.le_of_eq rfl) (hb hby own_d2_1_6) (fun _ _ => ⟨rfl, e0, (by decide : 0 + 1 ≤ _), (by decide : 0 + 1 ≤ _)⟩)
  dsimp only [Pt.U, Pt.locs, Pt.cells, Pt.slots] at X2 l2 y2 z2 st2 hQ2
  subst l2 y2 z2
  obtain ⟨rfl, NQ2, K2, E_a, ba2, kb2, ge_ba2, g_ba2, V_ba2, F_a_value, F_a_coder⟩ := hQ2
  have NF := Fr.app NF NQ2
  have V_ca := V_ca.keep K2 (ninS (Ne.symm ne_a_ca) nin0)
  have OL := OL.keep K2 (allS g_a all0)
  have Zs := Nat.le_trans Zs K2.1
  have KP := KP.trans K2 ((allS (Or.inl (by simp)) all0))
  have ne_a_ba2 : a ≠ ba2 := Nat.ne_of_lt (Nat.lt_of_lt_of_le lt_a ge_ba2)
  have ne_ca_ba2 : ca ≠ ba2 := Nat.ne_of_lt (Nat.lt_of_lt_of_le lt_ca ge_ba2)
  have sz_ba2 : h0.size ≤ ba2 := Nat.le_trans KPo.1 ge_ba2
  refine own_go (T' := T2) (g' := (mkF m 9 #[.val (.ref a), .val (.ref ca)] [])) (fun _ k => st2.trans k) ?_
  refine own_ret X2 Bd.notSynchronized none (fun _ => rfl) (fun fs hr => X2.returnOut hx Bd.returns (hb hby own_d2_1_9) hr) ?_ (by decide) (by decide)
  show (own_Q2_1 Z a ca kc cs x h0 n0) none T2.heap _
  exact ⟨rfl, NF, KP, E_a, ba2, kb2, sz_ba2, g_ba2, V_ba2, F_a_value, F_a_coder⟩
theorem own_d5_2_0 : decode jdk_52_method_21_code 0 = .ok (.iconst 0, 1) := by decide +kernel
theorem own_d5_2_1 : decode jdk_52_method_21_code 1 = .ok (.istore 5, 2) := by decide +kernel
theorem own_d5_2_3 : decode jdk_52_method_21_code 3 = .ok (.iload 5, 2) := by decide +kernel
theorem own_d5_2_5 : decode jdk_52_method_21_code 5 = .ok (.iload 4, 2) := by decide +kernel
theorem own_d5_2_7 : decode jdk_52_method_21_code 7 = .ok (.if_icmp .ge 37, 3) := by decide +kernel
theorem own_d5_2_10 : decode jdk_52_method_21_code 10 = .ok (.aload_n 0, 1) := by decide +kernel
theorem own_d5_2_11 : decode jdk_52_method_21_code 11 = .ok (.iload_n 1, 1) := by decide +kernel
theorem own_d5_2_12 : decode jdk_52_method_21_code 12 = .ok (.caload, 1) := by decide +kernel
theorem own_d5_2_13 : decode jdk_52_method_21_code 13 = .ok (.istore 6, 2) := by decide +kernel
theorem own_d5_2_15 : decode jdk_52_method_21_code 15 = .ok (.iload 6, 2) := by decide +kernel
theorem own_d5_2_17 : decode jdk_52_method_21_code 17 = .ok (.sipush 255, 3) := by decide +kernel
theorem own_d5_2_20 : decode jdk_52_method_21_code 20 = .ok (.if_icmp .le 6, 3) := by decide +kernel
theorem own_d5_2_26 : decode jdk_52_method_21_code 26 = .ok (.aload_n 2, 1) := by decide +kernel
theorem own_d5_2_27 : decode jdk_52_method_21_code 27 = .ok (.iload_n 3, 1) := by decide +kernel
theorem own_d5_2_28 : decode jdk_52_method_21_code 28 = .ok (.iload 6, 2) := by decide +kernel
theorem own_d5_2_30 : decode jdk_52_method_21_code 30 = .ok (.i2b, 1) := by decide +kernel
theorem own_d5_2_31 : decode jdk_52_method_21_code 31 = .ok (.bastore, 1) := by decide +kernel
theorem own_d5_2_32 : decode jdk_52_method_21_code 32 = .ok (.iinc 1 1, 3) := by decide +kernel
theorem own_d5_2_35 : decode jdk_52_method_21_code 35 = .ok (.iinc 3 1, 3) := by decide +kernel
theorem own_d5_2_38 : decode jdk_52_method_21_code 38 = .ok (.iinc 5 1, 3) := by decide +kernel
theorem own_d5_2_41 : decode jdk_52_method_21_code 41 = .ok (.goto (-38), 3) := by decide +kernel
theorem own_d5_2_44 : decode jdk_52_method_21_code 44 = .ok (.iload 4, 2) := by decide +kernel
theorem own_d5_2_46 : decode jdk_52_method_21_code 46 = .ok (.ireturn, 1) := by decide +kernel
theorem own_pn5_2 : plainName "java/lang/StringUTF16" = true := by first | (simp [plainName, overriddenIn]; done) | decide +kernel
theorem own_ef5_2 (m : MethodId) (ca : Addr) (ba : Addr) : entryFrame m #[(.ref ca), (.int (0 : Int32)), (.ref ba), (.int (0 : Int32)), (.int (2 : Int32))] 7 = mkF m 0 #[.val (.ref ca), .val (.int (0 : Int32)), .val (.ref ba), .val (.int (0 : Int32)), .val (.int (2 : Int32)), .unset, .unset] [] := by first | (simp [entryFrame, mkF, argsToLocals, Value.category]; done) | rfl
def own_Q5_2 (Z : State) (ca : Addr) (ba : Addr) (kc : ClassId) (kb : ClassId) (x : Int32) (y : Int32) (h0 : Heap) (n0 : Nat) (v : Option Value) (h : Heap) (L : List Loc) : Prop := v = some (.int (2 : Int32)) ∧ Fr n0 L ∧ Keep h0 h [ba] ∧ Arv Z h ba kb .byte (2 : Int32) [(.int (x.toInt8.toInt32.toInt8.toInt32)), (.int (y.toInt8.toInt32.toInt8.toInt32))] (.int (0 : Int32))
set_option maxRecDepth 65536 in
set_option maxHeartbeats 40000000 in
theorem own_rm5_2 (l : Launch) (Z : State) (a0 : Array Value) (hw : ∀ d ∈ tables_1, d.before a0 Z = true) (ws : List Jvm.Cond) (ca : Addr) (ba : Addr) (kc : ClassId) (kb : ClassId) (x : Int32) (y : Int32) (h0 : Heap) (n0 : Nat) (Zs : n0 ≤ h0.size) (V_ca : Arv Z h0 ca kc .char (2 : Int32) [(.int x), (.int y)] (.int (0 : Int32))) (V_ba : Arv Z h0 ba kb .byte (2 : Int32) [(.int (0 : Int32)), (.int (0 : Int32))] (.int (0 : Int32))) (g_ba : n0 ≤ ba) (ne_ca_ba : ca ≠ ba) (hxl : ¬ ((255 : Int32) < x)) (hyl : ¬ ((255 : Int32) < y)) :
    MetFree l (⟨"java/lang/StringUTF16", "compress", "([CI[BII)I"⟩ : MethodName) (head1 (Jvm.Cond.code (⟨"java/lang/StringUTF16", "compress", "([CI[BII)I"⟩ : MethodName) jdk_52_method_21_code 7 (some .int) :: ws) ({ frames := 0, cells := 0, slots := 0, locals := 0 } : Room)) (fun aA_ U => aA_ = #[(.ref ca), (.int (0 : Int32)), (.ref ba), (.int (0 : Int32)), (.int (2 : Int32))] ∧ Z.Warmed39 U.vm ∧ U.heap = h0) (fun _ _ _ _ _ => True) (fun _ U o U' => ∃ v L, o = .returned v ∧ own_Q5_2 Z ca ba kc kb x y h0 n0 v U'.heap L ∧ FrameEnd U o U' L ({ frames := 0, cells := 0, slots := 0, locals := 0 } : Room).cells ({ frames := 0, cells := 0, slots := 0, locals := 0 } : Room).slots) := by
  refine MetFree.of_bodySF (plainFor_of_name own_pn5_2) hisR ?_
  intro p e s m args below meth c s₁ Bd hml0 hP hK
  obtain ⟨rfl, hZ, hh⟩ := hP
  have hx := Bd.exec
  have hby := Bd.bytes
  have hml : c.maxLocals = 7 := hml0
  have hown : s.vm.findClass "java/lang/StringUTF16" = some m.cls := findClass_of_methodNamed Bd.named
  have hnm := (name_of_methodNamed Bd.named Bd.method).1
  have X0 : Stand p l e ({ frames := 0, cells := 0, slots := 0, locals := 0 } : Room) s m #[(.ref ca), (.int (0 : Int32)), (.ref ba), (.int (0 : Int32)), (.int (2 : Int32))] below meth c s₁ [] 0 0 := Stand.of_body Bd
  have e0 : s₁.heap = h0 := by rw [← hh, Bd.state]; rfl
  have NF := Fr.nil n0
  rw [own_ef5_2 m ca ba]
  show own_Dn p e below s (own_Q5_2 Z ca ba kc kb x y h0 n0) 0 0 s₁ (mkF m 0 #[.val (.ref ca), .val (.int (0 : Int32)), .val (.ref ba), .val (.int (0 : Int32)), .val (.int (2 : Int32)), .unset, .unset] [])
  have KP := Keep.refl h0 [ba]
  refine own_go (T' := s₁) (g' := (mkF m 1 #[.val (.ref ca), .val (.int (0 : Int32)), .val (.ref ba), .val (.int (0 : Int32)), .val (.int (2 : Int32)), .unset, .unset] [(.int (0 : Int32))])) (fun _ k => XS.iconst X0.here hx rfl (hb hby own_d5_2_0) k) ?_
  refine own_go (T' := s₁) (g' := (mkF m 3 #[.val (.ref ca), .val (.int (0 : Int32)), .val (.ref ba), .val (.int (0 : Int32)), .val (.int (2 : Int32)), .val (.int (0 : Int32)), .unset] [])) (fun _ k => XS.istore X0.here hx rfl (hb hby own_d5_2_1) rfl (l' := #[.val (.ref ca), .val (.int (0 : Int32)), .val (.ref ba), .val (.int (0 : Int32)), .val (.int (2 : Int32)), .val (.int (0 : Int32)), .unset]) rfl k) ?_
  refine own_go (T' := s₁) (g' := (mkF m 5 #[.val (.ref ca), .val (.int (0 : Int32)), .val (.ref ba), .val (.int (0 : Int32)), .val (.int (2 : Int32)), .val (.int (0 : Int32)), .unset] [(.int (0 : Int32))])) (fun _ k => XS.iload X0.here hx rfl (hb hby own_d5_2_3) rfl k) ?_
  refine own_go (T' := s₁) (g' := (mkF m 7 #[.val (.ref ca), .val (.int (0 : Int32)), .val (.ref ba), .val (.int (0 : Int32)), .val (.int (2 : Int32)), .val (.int (0 : Int32)), .unset] [(.int (2 : Int32)), (.int (0 : Int32))])) (fun _ k => XS.iload X0.here hx rfl (hb hby own_d5_2_5) rfl k) ?_
  refine own_go (T' := s₁) (g' := (mkF m 10 #[.val (.ref ca), .val (.int (0 : Int32)), .val (.ref ba), .val (.int (0 : Int32)), .val (.int (2 : Int32)), .val (.int (0 : Int32)), .unset] [])) (fun _ k => XS.icmpNo X0.here hx rfl (hb hby own_d5_2_7) rfl (by decide) k) ?_
  refine own_go (T' := s₁) (g' := (mkF m 11 #[.val (.ref ca), .val (.int (0 : Int32)), .val (.ref ba), .val (.int (0 : Int32)), .val (.int (2 : Int32)), .val (.int (0 : Int32)), .unset] [(.ref ca)])) (fun _ k => XS.aloadN X0.here hx rfl (hb hby own_d5_2_10) rfl rfl k) ?_
  refine own_go (T' := s₁) (g' := (mkF m 12 #[.val (.ref ca), .val (.int (0 : Int32)), .val (.ref ba), .val (.int (0 : Int32)), .val (.int (2 : Int32)), .val (.int (0 : Int32)), .unset] [(.int (0 : Int32)), (.ref ca)])) (fun _ k => XS.iloadN X0.here hx rfl (hb hby own_d5_2_11) rfl k) ?_
  obtain ⟨c_1, Ar_1, q_1, S_1, N_1, H_1, G_1⟩ := id V_ca
  have hin_1 : ¬ ((0 : Int32) < 0 ∨ c_1.slots.size ≤ ((0 : Int32)).toNatClampNeg) := inb_of S_1 ⟨by decide, by decide⟩
  have hat_1 : c_1.slots[((0 : Int32)).toNatClampNeg]? = some (.int x) := H_1.at hin_1 rfl
  refine own_go (T' := s₁) (g' := (mkF m 13 #[.val (.ref ca), .val (.int (0 : Int32)), .val (.ref ba), .val (.int (0 : Int32)), .val (.int (2 : Int32)), .val (.int (0 : Int32)), .unset] [(.int x)])) (fun _ k => X0.caload hx (j := (0 : Int32)) (v := (.int x)) (by rw [e0]; exact Ar_1.1) (State.isArrayOf_alike hZ.alike Ar_1.2.1) Ar_1.2.2 hin_1 hat_1 (g := (mkF m 12 #[.val (.ref ca), .val (.int (0 : Int32)), .val (.ref ba), .val (.int (0 : Int32)), .val (.int (2 : Int32)), .val (.int (0 : Int32)), .unset] [(.int (0 : Int32)), (.ref ca)])) rfl rfl (hb hby own_d5_2_12) _ k) ?_
  refine own_go (T' := s₁) (g' := (mkF m 15 #[.val (.ref ca), .val (.int (0 : Int32)), .val (.ref ba), .val (.int (0 : Int32)), .val (.int (2 : Int32)), .val (.int (0 : Int32)), .val (.int x)] [])) (fun _ k => XS.istore X0.here hx rfl (hb hby own_d5_2_13) rfl (l' := #[.val (.ref ca), .val (.int (0 : Int32)), .val (.ref ba), .val (.int (0 : Int32)), .val (.int (2 : Int32)), .val (.int (0 : Int32)), .val (.int x)]) rfl k) ?_
  refine own_go (T' := s₁) (g' := (mkF m 17 #[.val (.ref ca), .val (.int (0 : Int32)), .val (.ref ba), .val (.int (0 : Int32)), .val (.int (2 : Int32)), .val (.int (0 : Int32)), .val (.int x)] [(.int x)])) (fun _ k => XS.iload X0.here hx rfl (hb hby own_d5_2_15) rfl k) ?_
  refine own_go (T' := s₁) (g' := (mkF m 20 #[.val (.ref ca), .val (.int (0 : Int32)), .val (.ref ba), .val (.int (0 : Int32)), .val (.int (2 : Int32)), .val (.int (0 : Int32)), .val (.int x)] [(.int (255 : Int32)), (.int x)])) (fun _ k => XS.sipush X0.here hx rfl (hb hby own_d5_2_17) k) ?_
  refine own_go (T' := s₁) (g' := (mkF m 26 #[.val (.ref ca), .val (.int (0 : Int32)), .val (.ref ba), .val (.int (0 : Int32)), .val (.int (2 : Int32)), .val (.int (0 : Int32)), .val (.int x)] [])) (fun _ k => XS.icmpYes X0.here hx rfl (pc0 := 20) (pc' := 26) rfl (hb hby own_d5_2_20) rfl (flt hxl).2.2.2 (by decide) (by decide) k) ?_
  refine own_go (T' := s₁) (g' := (mkF m 27 #[.val (.ref ca), .val (.int (0 : Int32)), .val (.ref ba), .val (.int (0 : Int32)), .val (.int (2 : Int32)), .val (.int (0 : Int32)), .val (.int x)] [(.ref ba)])) (fun _ k => XS.aloadN X0.here hx rfl (hb hby own_d5_2_26) rfl rfl k) ?_
  refine own_go (T' := s₁) (g' := (mkF m 28 #[.val (.ref ca), .val (.int (0 : Int32)), .val (.ref ba), .val (.int (0 : Int32)), .val (.int (2 : Int32)), .val (.int (0 : Int32)), .val (.int x)] [(.int (0 : Int32)), (.ref ba)])) (fun _ k => XS.iloadN X0.here hx rfl (hb hby own_d5_2_27) rfl k) ?_
  refine own_go (T' := s₁) (g' := (mkF m 30 #[.val (.ref ca), .val (.int (0 : Int32)), .val (.ref ba), .val (.int (0 : Int32)), .val (.int (2 : Int32)), .val (.int (0 : Int32)), .val (.int x)] [(.int x), (.int (0 : Int32)), (.ref ba)])) (fun _ k => XS.iload X0.here hx rfl (hb hby own_d5_2_28) rfl k) ?_
  refine own_go (T' := s₁) (g' := (mkF m 31 #[.val (.ref ca), .val (.int (0 : Int32)), .val (.ref ba), .val (.int (0 : Int32)), .val (.int (2 : Int32)), .val (.int (0 : Int32)), .val (.int x)] [(.int (x.toInt8.toInt32)), (.int (0 : Int32)), (.ref ba)])) (fun _ k => XS.i2b X0.here hx rfl (hb hby own_d5_2_30) rfl k) ?_
  obtain ⟨c_2, Ar_2, q_2, S_2, N_2, H_2, G_2⟩ := id V_ba
  have hin_2 : ¬ ((0 : Int32) < 0 ∨ c_2.slots.size ≤ ((0 : Int32)).toNatClampNeg) := inb_of S_2 ⟨by decide, by decide⟩
  obtain ⟨T2, h2, X2, e2, W2, st2⟩ := stB X0 hx hZ e0 Ar_2 (j := (0 : Int32)) hin_2 (g := (mkF m 31 #[.val (.ref ca), .val (.int (0 : Int32)), .val (.ref ba), .val (.int (0 : Int32)), .val (.int (2 : Int32)), .val (.int (0 : Int32)), .val (.int x)] [(.int (x.toInt8.toInt32)), (.int (0 : Int32)), (.ref ba)])) rfl rfl (hb hby own_d5_2_31)
  have V_ca := V_ca.other W2 ne_ca_ba
  have Zs := Nat.le_trans Zs (Keep.of_wr W2).1
  have V_ba := Arv.set Ar_2 q_2 S_2 N_2 H_2 G_2 (fits_nar_byte _) W2 0 rfl (Nat.le_of_ble_eq_true rfl)
  have KP := KP.wr W2 (Or.inl (by simp))
  have NF := Fr.snoc X2 NF g_ba
  refine own_go (T' := T2) (g' := (mkF m 32 #[.val (.ref ca), .val (.int (0 : Int32)), .val (.ref ba), .val (.int (0 : Int32)), .val (.int (2 : Int32)), .val (.int (0 : Int32)), .val (.int x)] [])) (fun _ k => st2 _ k) ?_
  refine own_go (T' := T2) (g' := (mkF m 35 #[.val (.ref ca), .val (.int (1 : Int32)), .val (.ref ba), .val (.int (0 : Int32)), .val (.int (2 : Int32)), .val (.int (0 : Int32)), .val (.int x)] [])) (fun _ k => XS.iinc X2.here hx rfl (hb hby own_d5_2_32) rfl (l' := #[.val (.ref ca), .val (.int (1 : Int32)), .val (.ref ba), .val (.int (0 : Int32)), .val (.int (2 : Int32)), .val (.int (0 : Int32)), .val (.int x)]) rfl k) ?_
  refine own_go (T' := T2) (g' := (mkF m 38 #[.val (.ref ca), .val (.int (1 : Int32)), .val (.ref ba), .val (.int (1 : Int32)), .val (.int (2 : Int32)), .val (.int (0 : Int32)), .val (.int x)] [])) (fun _ k => XS.iinc X2.here hx rfl (hb hby own_d5_2_35) rfl (l' := #[.val (.ref ca), .val (.int (1 : Int32)), .val (.ref ba), .val (.int (1 : Int32)), .val (.int (2 : Int32)), .val (.int (0 : Int32)), .val (.int x)]) rfl k) ?_
  refine own_go (T' := T2) (g' := (mkF m 41 #[.val (.ref ca), .val (.int (1 : Int32)), .val (.ref ba), .val (.int (1 : Int32)), .val (.int (2 : Int32)), .val (.int (1 : Int32)), .val (.int x)] [])) (fun _ k => XS.iinc X2.here hx rfl (hb hby own_d5_2_38) rfl (l' := #[.val (.ref ca), .val (.int (1 : Int32)), .val (.ref ba), .val (.int (1 : Int32)), .val (.int (2 : Int32)), .val (.int (1 : Int32)), .val (.int x)]) rfl k) ?_
  refine own_go (T' := T2) (g' := (mkF m 3 #[.val (.ref ca), .val (.int (1 : Int32)), .val (.ref ba), .val (.int (1 : Int32)), .val (.int (2 : Int32)), .val (.int (1 : Int32)), .val (.int x)] [])) (fun _ k => XS.goto X2.here hx rfl (pc0 := 41) (pc' := 3) rfl (hb hby own_d5_2_41) (by decide) (by decide) k) ?_
  refine own_go (T' := T2) (g' := (mkF m 5 #[.val (.ref ca), .val (.int (1 : Int32)), .val (.ref ba), .val (.int (1 : Int32)), .val (.int (2 : Int32)), .val (.int (1 : Int32)), .val (.int x)] [(.int (1 : Int32))])) (fun _ k => XS.iload X2.here hx rfl (hb hby own_d5_2_3) rfl k) ?_
  refine own_go (T' := T2) (g' := (mkF m 7 #[.val (.ref ca), .val (.int (1 : Int32)), .val (.ref ba), .val (.int (1 : Int32)), .val (.int (2 : Int32)), .val (.int (1 : Int32)), .val (.int x)] [(.int (2 : Int32)), (.int (1 : Int32))])) (fun _ k => XS.iload X2.here hx rfl (hb hby own_d5_2_5) rfl k) ?_
  refine own_go (T' := T2) (g' := (mkF m 10 #[.val (.ref ca), .val (.int (1 : Int32)), .val (.ref ba), .val (.int (1 : Int32)), .val (.int (2 : Int32)), .val (.int (1 : Int32)), .val (.int x)] [])) (fun _ k => XS.icmpNo X2.here hx rfl (hb hby own_d5_2_7) rfl (by decide) k) ?_
  refine own_go (T' := T2) (g' := (mkF m 11 #[.val (.ref ca), .val (.int (1 : Int32)), .val (.ref ba), .val (.int (1 : Int32)), .val (.int (2 : Int32)), .val (.int (1 : Int32)), .val (.int x)] [(.ref ca)])) (fun _ k => XS.aloadN X2.here hx rfl (hb hby own_d5_2_10) rfl rfl k) ?_
  refine own_go (T' := T2) (g' := (mkF m 12 #[.val (.ref ca), .val (.int (1 : Int32)), .val (.ref ba), .val (.int (1 : Int32)), .val (.int (2 : Int32)), .val (.int (1 : Int32)), .val (.int x)] [(.int (1 : Int32)), (.ref ca)])) (fun _ k => XS.iloadN X2.here hx rfl (hb hby own_d5_2_11) rfl k) ?_
  obtain ⟨c_3, Ar_3, q_3, S_3, N_3, H_3, G_3⟩ := id V_ca
  have hin_3 : ¬ ((1 : Int32) < 0 ∨ c_3.slots.size ≤ ((1 : Int32)).toNatClampNeg) := inb_of S_3 ⟨by decide, by decide⟩
  have hat_3 : c_3.slots[((1 : Int32)).toNatClampNeg]? = some (.int y) := H_3.at hin_3 rfl
  refine own_go (T' := T2) (g' := (mkF m 13 #[.val (.ref ca), .val (.int (1 : Int32)), .val (.ref ba), .val (.int (1 : Int32)), .val (.int (2 : Int32)), .val (.int (1 : Int32)), .val (.int x)] [(.int y)])) (fun _ k => X2.caload hx (j := (1 : Int32)) (v := (.int y)) (by rw [e2]; exact Ar_3.1) (State.isArrayOf_alike hZ.alike Ar_3.2.1) Ar_3.2.2 hin_3 hat_3 (g := (mkF m 12 #[.val (.ref ca), .val (.int (1 : Int32)), .val (.ref ba), .val (.int (1 : Int32)), .val (.int (2 : Int32)), .val (.int (1 : Int32)), .val (.int x)] [(.int (1 : Int32)), (.ref ca)])) rfl rfl (hb hby own_d5_2_12) _ k) ?_
  refine own_go (T' := T2) (g' := (mkF m 15 #[.val (.ref ca), .val (.int (1 : Int32)), .val (.ref ba), .val (.int (1 : Int32)), .val (.int (2 : Int32)), .val (.int (1 : Int32)), .val (.int y)] [])) (fun _ k => XS.istore X2.here hx rfl (hb hby own_d5_2_13) rfl (l' := #[.val (.ref ca), .val (.int (1 : Int32)), .val (.ref ba), .val (.int (1 : Int32)), .val (.int (2 : Int32)), .val (.int (1 : Int32)), .val (.int y)]) rfl k) ?_
  refine own_go (T' := T2) (g' := (mkF m 17 #[.val (.ref ca), .val (.int (1 : Int32)), .val (.ref ba), .val (.int (1 : Int32)), .val (.int (2 : Int32)), .val (.int (1 : Int32)), .val (.int y)] [(.int y)])) (fun _ k => XS.iload X2.here hx rfl (hb hby own_d5_2_15) rfl k) ?_
  refine own_go (T' := T2) (g' := (mkF m 20 #[.val (.ref ca), .val (.int (1 : Int32)), .val (.ref ba), .val (.int (1 : Int32)), .val (.int (2 : Int32)), .val (.int (1 : Int32)), .val (.int y)] [(.int (255 : Int32)), (.int y)])) (fun _ k => XS.sipush X2.here hx rfl (hb hby own_d5_2_17) k) ?_
  refine own_go (T' := T2) (g' := (mkF m 26 #[.val (.ref ca), .val (.int (1 : Int32)), .val (.ref ba), .val (.int (1 : Int32)), .val (.int (2 : Int32)), .val (.int (1 : Int32)), .val (.int y)] [])) (fun _ k => XS.icmpYes X2.here hx rfl (pc0 := 20) (pc' := 26) rfl (hb hby own_d5_2_20) rfl (flt hyl).2.2.2 (by decide) (by decide) k) ?_
  refine own_go (T' := T2) (g' := (mkF m 27 #[.val (.ref ca), .val (.int (1 : Int32)), .val (.ref ba), .val (.int (1 : Int32)), .val (.int (2 : Int32)), .val (.int (1 : Int32)), .val (.int y)] [(.ref ba)])) (fun _ k => XS.aloadN X2.here hx rfl (hb hby own_d5_2_26) rfl rfl k) ?_
  refine own_go (T' := T2) (g' := (mkF m 28 #[.val (.ref ca), .val (.int (1 : Int32)), .val (.ref ba), .val (.int (1 : Int32)), .val (.int (2 : Int32)), .val (.int (1 : Int32)), .val (.int y)] [(.int (1 : Int32)), (.ref ba)])) (fun _ k => XS.iloadN X2.here hx rfl (hb hby own_d5_2_27) rfl k) ?_
  refine own_go (T' := T2) (g' := (mkF m 30 #[.val (.ref ca), .val (.int (1 : Int32)), .val (.ref ba), .val (.int (1 : Int32)), .val (.int (2 : Int32)), .val (.int (1 : Int32)), .val (.int y)] [(.int y), (.int (1 : Int32)), (.ref ba)])) (fun _ k => XS.iload X2.here hx rfl (hb hby own_d5_2_28) rfl k) ?_
  refine own_go (T' := T2) (g' := (mkF m 31 #[.val (.ref ca), .val (.int (1 : Int32)), .val (.ref ba), .val (.int (1 : Int32)), .val (.int (2 : Int32)), .val (.int (1 : Int32)), .val (.int y)] [(.int (y.toInt8.toInt32)), (.int (1 : Int32)), (.ref ba)])) (fun _ k => XS.i2b X2.here hx rfl (hb hby own_d5_2_30) rfl k) ?_
  obtain ⟨c_4, Ar_4, q_4, S_4, N_4, H_4, G_4⟩ := id V_ba
  have hin_4 : ¬ ((1 : Int32) < 0 ∨ c_4.slots.size ≤ ((1 : Int32)).toNatClampNeg) := inb_of S_4 ⟨by decide, by decide⟩
  obtain ⟨T4, h4, X4, e4, W4, st4⟩ := stB X2 hx hZ e2 Ar_4 (j := (1 : Int32)) hin_4 (g := (mkF m 31 #[.val (.ref ca), .val (.int (1 : Int32)), .val (.ref ba), .val (.int (1 : Int32)), .val (.int (2 : Int32)), .val (.int (1 : Int32)), .val (.int y)] [(.int (y.toInt8.toInt32)), (.int (1 : Int32)), (.ref ba)])) rfl rfl (hb hby own_d5_2_31)
  have V_ca := V_ca.other W4 ne_ca_ba
  have Zs := Nat.le_trans Zs (Keep.of_wr W4).1
  have V_ba := Arv.set Ar_4 q_4 S_4 N_4 H_4 G_4 (fits_nar_byte _) W4 1 rfl (Nat.le_of_ble_eq_true rfl)
  have KP := KP.wr W4 (Or.inl (by simp))
  have NF := Fr.snoc X4 NF g_ba
  refine own_go (T' := T4) (g' := (mkF m 32 #[.val (.ref ca), .val (.int (1 : Int32)), .val (.ref ba), .val (.int (1 : Int32)), .val (.int (2 : Int32)), .val (.int (1 : Int32)), .val (.int y)] [])) (fun _ k => st4 _ k) ?_
  refine own_go (T' := T4) (g' := (mkF m 35 #[.val (.ref ca), .val (.int (2 : Int32)), .val (.ref ba), .val (.int (1 : Int32)), .val (.int (2 : Int32)), .val (.int (1 : Int32)), .val (.int y)] [])) (fun _ k => XS.iinc X4.here hx rfl (hb hby own_d5_2_32) rfl (l' := #[.val (.ref ca), .val (.int (2 : Int32)), .val (.ref ba), .val (.int (1 : Int32)), .val (.int (2 : Int32)), .val (.int (1 : Int32)), .val (.int y)]) rfl k) ?_
  refine own_go (T' := T4) (g' := (mkF m 38 #[.val (.ref ca), .val (.int (2 : Int32)), .val (.ref ba), .val (.int (2 : Int32)), .val (.int (2 : Int32)), .val (.int (1 : Int32)), .val (.int y)] [])) (fun _ k => XS.iinc X4.here hx rfl (hb hby own_d5_2_35) rfl (l' := #[.val (.ref ca), .val (.int (2 : Int32)), .val (.ref ba), .val (.int (2 : Int32)), .val (.int (2 : Int32)), .val (.int (1 : Int32)), .val (.int y)]) rfl k) ?_
  refine own_go (T' := T4) (g' := (mkF m 41 #[.val (.ref ca), .val (.int (2 : Int32)), .val (.ref ba), .val (.int (2 : Int32)), .val (.int (2 : Int32)), .val (.int (2 : Int32)), .val (.int y)] [])) (fun _ k => XS.iinc X4.here hx rfl (hb hby own_d5_2_38) rfl (l' := #[.val (.ref ca), .val (.int (2 : Int32)), .val (.ref ba), .val (.int (2 : Int32)), .val (.int (2 : Int32)), .val (.int (2 : Int32)), .val (.int y)]) rfl k) ?_
  refine own_go (T' := T4) (g' := (mkF m 3 #[.val (.ref ca), .val (.int (2 : Int32)), .val (.ref ba), .val (.int (2 : Int32)), .val (.int (2 : Int32)), .val (.int (2 : Int32)), .val (.int y)] [])) (fun _ k => XS.goto X4.here hx rfl (pc0 := 41) (pc' := 3) rfl (hb hby own_d5_2_41) (by decide) (by decide) k) ?_
  refine own_go (T' := T4) (g' := (mkF m 5 #[.val (.ref ca), .val (.int (2 : Int32)), .val (.ref ba), .val (.int (2 : Int32)), .val (.int (2 : Int32)), .val (.int (2 : Int32)), .val (.int y)] [(.int (2 : Int32))])) (fun _ k => XS.iload X4.here hx rfl (hb hby own_d5_2_3) rfl k) ?_
  refine own_go (T' := T4) (g' := (mkF m 7 #[.val (.ref ca), .val (.int (2 : Int32)), .val (.ref ba), .val (.int (2 : Int32)), .val (.int (2 : Int32)), .val (.int (2 : Int32)), .val (.int y)] [(.int (2 : Int32)), (.int (2 : Int32))])) (fun _ k => XS.iload X4.here hx rfl (hb hby own_d5_2_5) rfl k) ?_
  refine own_go (T' := T4) (g' := (mkF m 44 #[.val (.ref ca), .val (.int (2 : Int32)), .val (.ref ba), .val (.int (2 : Int32)), .val (.int (2 : Int32)), .val (.int (2 : Int32)), .val (.int y)] [])) (fun _ k => XS.icmpYes X4.here hx rfl (pc0 := 7) (pc' := 44) rfl (hb hby own_d5_2_7) rfl (by decide) (by decide) (by decide) k) ?_
  refine own_go (T' := T4) (g' := (mkF m 46 #[.val (.ref ca), .val (.int (2 : Int32)), .val (.ref ba), .val (.int (2 : Int32)), .val (.int (2 : Int32)), .val (.int (2 : Int32)), .val (.int y)] [(.int (2 : Int32))])) (fun _ k => XS.iload X4.here hx rfl (hb hby own_d5_2_44) rfl k) ?_
  refine own_ret X4 Bd.notSynchronized (some (.int (2 : Int32))) (fun h => by rw [Bd.returns] at h; cases h) (fun fs hr => retI X4 hx Bd.returns (hb hby own_d5_2_46) hr) ?_ (by decide) (by decide)
  show (own_Q5_2 Z ca ba kc kb x y h0 n0) (some (.int (2 : Int32))) T4.heap _
  rw [e4]
  exact ⟨rfl, NF, KP, V_ba⟩
theorem own_d4_2_0 : decode jdk_52_method_16_code 0 = .ok (.iload_n 2, 1) := by decide +kernel
theorem own_d4_2_1 : decode jdk_52_method_16_code 1 = .ok (.newarray .byte, 2) := by decide +kernel
theorem own_d4_2_3 : decode jdk_52_method_16_code 3 = .ok (.astore_n 3, 1) := by decide +kernel
theorem own_d4_2_4 : decode jdk_52_method_16_code 4 = .ok (.aload_n 0, 1) := by decide +kernel
theorem own_d4_2_5 : decode jdk_52_method_16_code 5 = .ok (.iload_n 1, 1) := by decide +kernel
theorem own_d4_2_6 : decode jdk_52_method_16_code 6 = .ok (.aload_n 3, 1) := by decide +kernel
theorem own_d4_2_7 : decode jdk_52_method_16_code 7 = .ok (.iconst 0, 1) := by decide +kernel
theorem own_d4_2_8 : decode jdk_52_method_16_code 8 = .ok (.iload_n 2, 1) := by decide +kernel
theorem own_d4_2_9 : decode jdk_52_method_16_code 9 = .ok (.invokestatic 115, 3) := by decide +kernel
theorem own_d4_2_12 : decode jdk_52_method_16_code 12 = .ok (.istore 4, 2) := by decide +kernel
theorem own_d4_2_14 : decode jdk_52_method_16_code 14 = .ok (.iload 4, 2) := by decide +kernel
theorem own_d4_2_16 : decode jdk_52_method_16_code 16 = .ok (.iload_n 2, 1) := by decide +kernel
theorem own_d4_2_17 : decode jdk_52_method_16_code 17 = .ok (.if_icmp .eq 40, 3) := by decide +kernel
theorem own_d4_2_57 : decode jdk_52_method_16_code 57 = .ok (.aload_n 3, 1) := by decide +kernel
theorem own_d4_2_58 : decode jdk_52_method_16_code 58 = .ok (.areturn, 1) := by decide +kernel
theorem own_pn4_2 : plainName "java/lang/StringUTF16" = true := by first | (simp [plainName, overriddenIn]; done) | decide +kernel
theorem own_pd4_2_0 : parseMethodDescriptor "([CI[BII)I" = some ⟨[(.array .char), .int, (.array .byte), .int, .int], some .int⟩ := by decide +kernel
theorem own_ef4_2 (m : MethodId) (ca : Addr) : entryFrame m #[(.ref ca), (.int (0 : Int32)), (.int (2 : Int32))] 6 = mkF m 0 #[.val (.ref ca), .val (.int (0 : Int32)), .val (.int (2 : Int32)), .unset, .unset, .unset] [] := by first | (simp [entryFrame, mkF, argsToLocals, Value.category]; done) | rfl
def own_Q4_2 (Z : State) (ca : Addr) (kc : ClassId) (x : Int32) (y : Int32) (h0 : Heap) (n0 : Nat) (v : Option Value) (h : Heap) (L : List Loc) : Prop := Fr n0 L ∧ Keep h0 h [] ∧ (∃ (ba : Addr) (kb : ClassId), v = some (.ref ba) ∧ h0.size ≤ ba ∧ n0 ≤ ba ∧ Arv Z h ba kb .byte (2 : Int32) [(.int (x.toInt8.toInt32.toInt8.toInt32)), (.int (y.toInt8.toInt32.toInt8.toInt32))] (.int (0 : Int32)))
set_option maxRecDepth 65536 in
set_option maxHeartbeats 40000000 in
theorem own_rm4_2 (l : Launch) (Z : State) (a0 : Array Value) (hw : ∀ d ∈ tables_1, d.before a0 Z = true) (ws : List Jvm.Cond) (ca : Addr) (kc : ClassId) (x : Int32) (y : Int32) (h0 : Heap) (n0 : Nat) (Zs : n0 ≤ h0.size) (V_ca : Arv Z h0 ca kc .char (2 : Int32) [(.int x), (.int y)] (.int (0 : Int32))) (hxl : ¬ ((255 : Int32) < x)) (hyl : ¬ ((255 : Int32) < y)) :
    MetFree l (⟨"java/lang/StringUTF16", "compress", "([CII)[B"⟩ : MethodName) (head1 (Jvm.Cond.code (⟨"java/lang/StringUTF16", "compress", "([CII)[B"⟩ : MethodName) jdk_52_method_16_code 6 (some (.array .byte)) :: ws) ({ frames := 1, cells := 1, slots := 2, locals := 18 } : Room)) (fun aA_ U => aA_ = #[(.ref ca), (.int (0 : Int32)), (.int (2 : Int32))] ∧ Z.Warmed39 U.vm ∧ U.heap = h0) (fun _ _ _ _ _ => True) (fun _ U o U' => ∃ v L, o = .returned v ∧ own_Q4_2 Z ca kc x y h0 n0 v U'.heap L ∧ FrameEnd U o U' L ({ frames := 1, cells := 1, slots := 2, locals := 18 } : Room).cells ({ frames := 1, cells := 1, slots := 2, locals := 18 } : Room).slots) := by
  refine MetFree.of_bodySF (plainFor_of_name own_pn4_2) hisR ?_
  intro p e s m args below meth c s₁ Bd hml0 hP hK
  obtain ⟨rfl, hZ, hh⟩ := hP
  have hx := Bd.exec
  have hby := Bd.bytes
  have hml : c.maxLocals = 6 := hml0
  have hown : s.vm.findClass "java/lang/StringUTF16" = some m.cls := findClass_of_methodNamed Bd.named
  have hnm := (name_of_methodNamed Bd.named Bd.method).1
  have X0 : Stand p l e ({ frames := 1, cells := 1, slots := 2, locals := 18 } : Room) s m #[(.ref ca), (.int (0 : Int32)), (.int (2 : Int32))] below meth c s₁ [] 0 0 := Stand.of_body Bd
  have e0 : s₁.heap = h0 := by rw [← hh, Bd.state]; rfl
  have NF := Fr.nil n0
  rw [own_ef4_2 m ca]
  show own_Dn p e below s (own_Q4_2 Z ca kc x y h0 n0) 1 2 s₁ (mkF m 0 #[.val (.ref ca), .val (.int (0 : Int32)), .val (.int (2 : Int32)), .unset, .unset, .unset] [])
  have KP := Keep.refl h0 []
  refine own_go (T' := s₁) (g' := (mkF m 1 #[.val (.ref ca), .val (.int (0 : Int32)), .val (.int (2 : Int32)), .unset, .unset, .unset] [(.int (2 : Int32))])) (fun _ k => XS.iloadN X0.here hx rfl (hb hby own_d4_2_0) rfl k) ?_
  obtain ⟨T1, h1, k1, X1, e1, E1, A1, st1⟩ := newP X0 hx hZ (hw _ (List.mem_of_getElem? (i := 23) rfl)) e0 (g := (mkF m 1 #[.val (.ref ca), .val (.int (0 : Int32)), .val (.int (2 : Int32)), .unset, .unset, .unset] [(.int (2 : Int32))])) rfl (hb hby own_d4_2_1) rfl (by decide) (cap := 2) (by decide) (by decide) (by decide) (by decide)
  obtain ⟨b1, g1⟩ : ∃ z, z = h0.size := ⟨_, rfl⟩
  rw [← g1] at A1 st1
  have ne_ca_b1 : ca ≠ b1 := Nat.ne_of_lt (Nat.lt_of_lt_of_le V_ca.lt (Nat.le_of_eq g1.symm))
  have g_b1 : n0 ≤ b1 := Nat.le_trans Zs (Nat.le_of_eq g1.symm)
  have sz_b1 : h0.size ≤ b1 := Nat.le_trans KP.1 (Nat.le_of_eq g1.symm)
  have V_ca := V_ca.ext E1
  have KP := KP.ext E1
  have Zs := Nat.le_trans Zs E1.1
  have V_b1 : Arv Z h1 b1 k1 .byte (2 : Int32) [(.int (0 : Int32)), (.int (0 : Int32))] (.int (0 : Int32)) := (Arv.new A1 (by decide)).pad (pad_rep [] (.int (0 : Int32)) 2)
  refine own_go (T' := T1) (g' := (mkF m 3 #[.val (.ref ca), .val (.int (0 : Int32)), .val (.int (2 : Int32)), .unset, .unset, .unset] [(.ref b1)])) (fun _ k => st1 _ k) ?_
  refine own_go (T' := T1) (g' := (mkF m 4 #[.val (.ref ca), .val (.int (0 : Int32)), .val (.int (2 : Int32)), .val (.ref b1), .unset, .unset] [])) (fun _ k => XS.astoreN X1.here hx rfl (hb hby own_d4_2_3) rfl rfl (l' := #[.val (.ref ca), .val (.int (0 : Int32)), .val (.int (2 : Int32)), .val (.ref b1), .unset, .unset]) rfl k) ?_
  refine own_go (T' := T1) (g' := (mkF m 5 #[.val (.ref ca), .val (.int (0 : Int32)), .val (.int (2 : Int32)), .val (.ref b1), .unset, .unset] [(.ref ca)])) (fun _ k => XS.aloadN X1.here hx rfl (hb hby own_d4_2_4) rfl rfl k) ?_
  refine own_go (T' := T1) (g' := (mkF m 6 #[.val (.ref ca), .val (.int (0 : Int32)), .val (.int (2 : Int32)), .val (.ref b1), .unset, .unset] [(.int (0 : Int32)), (.ref ca)])) (fun _ k => XS.iloadN X1.here hx rfl (hb hby own_d4_2_5) rfl k) ?_
  refine own_go (T' := T1) (g' := (mkF m 7 #[.val (.ref ca), .val (.int (0 : Int32)), .val (.int (2 : Int32)), .val (.ref b1), .unset, .unset] [(.ref b1), (.int (0 : Int32)), (.ref ca)])) (fun _ k => XS.aloadN X1.here hx rfl (hb hby own_d4_2_6) rfl rfl k) ?_
  refine own_go (T' := T1) (g' := (mkF m 8 #[.val (.ref ca), .val (.int (0 : Int32)), .val (.int (2 : Int32)), .val (.ref b1), .unset, .unset] [(.int (0 : Int32)), (.ref b1), (.int (0 : Int32)), (.ref ca)])) (fun _ k => XS.iconst X1.here hx rfl (hb hby own_d4_2_7) k) ?_
  refine own_go (T' := T1) (g' := (mkF m 9 #[.val (.ref ca), .val (.int (0 : Int32)), .val (.int (2 : Int32)), .val (.ref b1), .unset, .unset] [(.int (2 : Int32)), (.int (0 : Int32)), (.ref b1), (.int (0 : Int32)), (.ref ca)])) (fun _ k => XS.iloadN X1.here hx rfl (hb hby own_d4_2_8) rfl k) ?_
  obtain ⟨_, _, ⟨T2, L2, k2, n2⟩, -, X2, ⟨Lc2, hQ2, l2, y2, z2⟩, st2⟩ := Jvm.LawKit.callS X1 hx (y := (⟨"java/lang/StringUTF16", "compress", "([CI[BII)I"⟩ : MethodName)) hown (mvT hZ (hw _ (List.mem_of_getElem? (i := 24) rfl))) (mvT hZ (hw _ (List.mem_of_getElem? (i := 25) rfl))) (mvT hZ (hw _ (List.mem_of_getElem? (i := 21) rfl))) (mvT hZ (hw _ (List.mem_of_getElem? (i := 26) rfl))) (by decide) (backOf (W := 0) (own_rm5_2 l Z a0 hw [] ca b1 kc k1 x y h1 n0 Zs V_ca V_b1 g_b1 ne_ca_b1 hxl hyl) hZ (hw _ (List.mem_of_getElem? (i := 26) rfl)) (hw _ (List.mem_of_getElem? (i := 21) rfl)) (by decide) (by decide)) (g := (mkF m 9 #[.val (.ref ca), .val (.int (0 : Int32)), .val (.int (2 : Int32)), .val (.ref b1), .unset, .unset] [(.int (2 : Int32)), (.int (0 : Int32)), (.ref b1), (.int (0 : Int32)), (.ref ca)])) rfl (by rw [hml]; rfl) (argsL := [(.ref ca), (.int (0 : Int32)), (.ref b1), (.int (0 : Int32)), (.int (2 : Int32))]) (rest := []) (lenOf own_pd4_2_0 rfl) rfl (by show 2 * 0 + _ ≤ _; exact Nat.le_of_eq rfl) (hb hby own_d4_2_9) (fun _ _ => ⟨rfl, e1, (by decide : 1 + 0 ≤ _), (by decide : 2 + 0 ≤ _)⟩)
  dsimp only [Pt.U, Pt.locs, Pt.cells, Pt.slots] at X2 l2 y2 z2 st2 hQ2
  subst l2 y2 z2
  obtain ⟨rfl, NQ2, K2, V_b1⟩ := hQ2
  have NF := Fr.app NF NQ2
  have V_ca := V_ca.keep K2 (ninS ne_ca_b1 nin0)
  have Zs := Nat.le_trans Zs K2.1
  have KP := KP.trans K2 ((allS (Or.inr sz_b1) all0))
  refine own_go (T' := T2) (g' := (mkF m 12 #[.val (.ref ca), .val (.int (0 : Int32)), .val (.int (2 : Int32)), .val (.ref b1), .unset, .unset] [(.int (2 : Int32))])) (fun _ k => st2 _ k) ?_
  refine own_go (T' := T2) (g' := (mkF m 14 #[.val (.ref ca), .val (.int (0 : Int32)), .val (.int (2 : Int32)), .val (.ref b1), .val (.int (2 : Int32)), .unset] [])) (fun _ k => XS.istore X2.here hx rfl (hb hby own_d4_2_12) rfl (l' := #[.val (.ref ca), .val (.int (0 : Int32)), .val (.int (2 : Int32)), .val (.ref b1), .val (.int (2 : Int32)), .unset]) rfl k) ?_
  refine own_go (T' := T2) (g' := (mkF m 16 #[.val (.ref ca), .val (.int (0 : Int32)), .val (.int (2 : Int32)), .val (.ref b1), .val (.int (2 : Int32)), .unset] [(.int (2 : Int32))])) (fun _ k => XS.iload X2.here hx rfl (hb hby own_d4_2_14) rfl k) ?_
  refine own_go (T' := T2) (g' := (mkF m 17 #[.val (.ref ca), .val (.int (0 : Int32)), .val (.int (2 : Int32)), .val (.ref b1), .val (.int (2 : Int32)), .unset] [(.int (2 : Int32)), (.int (2 : Int32))])) (fun _ k => XS.iloadN X2.here hx rfl (hb hby own_d4_2_16) rfl k) ?_
  refine own_go (T' := T2) (g' := (mkF m 57 #[.val (.ref ca), .val (.int (0 : Int32)), .val (.int (2 : Int32)), .val (.ref b1), .val (.int (2 : Int32)), .unset] [])) (fun _ k => XS.icmpYes X2.here hx rfl (pc0 := 17) (pc' := 57) rfl (hb hby own_d4_2_17) rfl (by decide) (by decide) (by decide) k) ?_
  refine own_go (T' := T2) (g' := (mkF m 58 #[.val (.ref ca), .val (.int (0 : Int32)), .val (.int (2 : Int32)), .val (.ref b1), .val (.int (2 : Int32)), .unset] [(.ref b1)])) (fun _ k => XS.aloadN X2.here hx rfl (hb hby own_d4_2_57) rfl rfl k) ?_
  refine own_ret X2 Bd.notSynchronized (some (.ref b1)) (fun h => by rw [Bd.returns] at h; cases h) (fun fs hr => retOut X2 hx (t := (.array .byte)) Bd.returns rfl (Or.inr (Or.inr (Or.inr (Or.inr ⟨rfl, rfl, rfl⟩)))) (hb hby own_d4_2_58) hr) ?_ (by decide) (by decide)
  show (own_Q4_2 Z ca kc x y h0 n0) (some (.ref b1)) T2.heap _
  exact ⟨NF, KP, b1, k1, rfl, sz_b1, g_b1, V_b1⟩
theorem own_d6_2_0 : decode jdk_52_method_15_code 0 = .ok (.iload_n 1, 1) := by decide +kernel
theorem own_d6_2_1 : decode jdk_52_method_15_code 1 = .ok (.aload_n 0, 1) := by decide +kernel
theorem own_d6_2_2 : decode jdk_52_method_15_code 2 = .ok (.arraylength, 1) := by decide +kernel
theorem own_d6_2_3 : decode jdk_52_method_15_code 3 = .ok (.isub, 1) := by decide +kernel
theorem own_d6_2_4 : decode jdk_52_method_15_code 4 = .ok (.bipush 31, 2) := by decide +kernel
theorem own_d6_2_6 : decode jdk_52_method_15_code 6 = .ok (.iushr, 1) := by decide +kernel
theorem own_d6_2_7 : decode jdk_52_method_15_code 7 = .ok (.i2b, 1) := by decide +kernel
theorem own_d6_2_8 : decode jdk_52_method_15_code 8 = .ok (.ireturn, 1) := by decide +kernel
theorem own_pn6_2 : plainName "java/lang/StringUTF16" = true := by first | (simp [plainName, overriddenIn]; done) | decide +kernel
theorem own_ef6_2 (m : MethodId) (ba : Addr) : entryFrame m #[(.ref ba), (.int (2 : Int32))] 2 = mkF m 0 #[.val (.ref ba), .val (.int (2 : Int32))] [] := by first | (simp [entryFrame, mkF, argsToLocals, Value.category]; done) | rfl
def own_Q6_2 (Z : State) (ba : Addr) (kb : ClassId) (x : Int32) (y : Int32) (h0 : Heap) (n0 : Nat) (v : Option Value) (h : Heap) (L : List Loc) : Prop := v = some (.int (0 : Int32)) ∧ Fr n0 L ∧ h = h0
set_option maxRecDepth 65536 in
set_option maxHeartbeats 40000000 in
theorem own_rm6_2 (l : Launch) (Z : State) (a0 : Array Value) (hw : ∀ d ∈ tables_1, d.before a0 Z = true) (ws : List Jvm.Cond) (ba : Addr) (kb : ClassId) (x : Int32) (y : Int32) (h0 : Heap) (n0 : Nat) (Zs : n0 ≤ h0.size) (V_ba : Arv Z h0 ba kb .byte (2 : Int32) [(.int x), (.int y)] (.int (0 : Int32))) :
    MetFree l (⟨"java/lang/StringUTF16", "coderFromArrayLen", "([BI)B"⟩ : MethodName) (head1 (Jvm.Cond.code (⟨"java/lang/StringUTF16", "coderFromArrayLen", "([BI)B"⟩ : MethodName) jdk_52_method_15_code 2 (some .byte) :: ws) ({ frames := 0, cells := 0, slots := 0, locals := 0 } : Room)) (fun aA_ U => aA_ = #[(.ref ba), (.int (2 : Int32))] ∧ Z.Warmed39 U.vm ∧ U.heap = h0) (fun _ _ _ _ _ => True) (fun _ U o U' => ∃ v L, o = .returned v ∧ own_Q6_2 Z ba kb x y h0 n0 v U'.heap L ∧ FrameEnd U o U' L ({ frames := 0, cells := 0, slots := 0, locals := 0 } : Room).cells ({ frames := 0, cells := 0, slots := 0, locals := 0 } : Room).slots) := by
  refine MetFree.of_bodySF (plainFor_of_name own_pn6_2) hisR ?_
  intro p e s m args below meth c s₁ Bd hml0 hP hK
  obtain ⟨rfl, hZ, hh⟩ := hP
  have hx := Bd.exec
  have hby := Bd.bytes
  have hml : c.maxLocals = 2 := hml0
  have hown : s.vm.findClass "java/lang/StringUTF16" = some m.cls := findClass_of_methodNamed Bd.named
  have hnm := (name_of_methodNamed Bd.named Bd.method).1
  have X0 : Stand p l e ({ frames := 0, cells := 0, slots := 0, locals := 0 } : Room) s m #[(.ref ba), (.int (2 : Int32))] below meth c s₁ [] 0 0 := Stand.of_body Bd
  have e0 : s₁.heap = h0 := by rw [← hh, Bd.state]; rfl
  have NF := Fr.nil n0
  rw [own_ef6_2 m ba]
  show own_Dn p e below s (own_Q6_2 Z ba kb x y h0 n0) 0 0 s₁ (mkF m 0 #[.val (.ref ba), .val (.int (2 : Int32))] [])
  refine own_go (T' := s₁) (g' := (mkF m 1 #[.val (.ref ba), .val (.int (2 : Int32))] [(.int (2 : Int32))])) (fun _ k => XS.iloadN X0.here hx rfl (hb hby own_d6_2_0) rfl k) ?_
  refine own_go (T' := s₁) (g' := (mkF m 2 #[.val (.ref ba), .val (.int (2 : Int32))] [(.ref ba), (.int (2 : Int32))])) (fun _ k => XS.aloadN X0.here hx rfl (hb hby own_d6_2_1) rfl rfl k) ?_
  obtain ⟨c_1, Ar_1, q_1, S_1, N_1, H_1, G_1⟩ := id V_ba
  refine own_go (T' := s₁) (g' := (mkF m 3 #[.val (.ref ba), .val (.int (2 : Int32))] [(.int (2 : Int32)), (.int (2 : Int32))])) (fun _ k => X0.arraylength hx (by rw [e0]; exact Ar_1.1) (State.isArrayOf_alike hZ.alike Ar_1.2.1) (g := (mkF m 2 #[.val (.ref ba), .val (.int (2 : Int32))] [(.ref ba), (.int (2 : Int32))])) rfl rfl (hb hby own_d6_2_2) _ (by rw [len_of S_1 N_1]; exact k)) ?_
  refine own_go (T' := s₁) (g' := (mkF m 4 #[.val (.ref ba), .val (.int (2 : Int32))] [(.int (0 : Int32))])) (fun _ k => XS.isub X0.here hx rfl (hb hby own_d6_2_3) rfl k) ?_
  refine own_go (T' := s₁) (g' := (mkF m 6 #[.val (.ref ba), .val (.int (2 : Int32))] [(.int (31 : Int32)), (.int (0 : Int32))])) (fun _ k => XS.bipush X0.here hx rfl (hb hby own_d6_2_4) k) ?_
  refine own_go (T' := s₁) (g' := (mkF m 7 #[.val (.ref ba), .val (.int (2 : Int32))] [(.int (((0 : Int32).toUInt32 >>> ((31 : Int32) &&& 31).toUInt32).toInt32))])) (fun _ k => XS.iushr X0.here hx rfl (hb hby own_d6_2_6) rfl k) ?_
  refine own_go (T' := s₁) (g' := (mkF m 8 #[.val (.ref ba), .val (.int (2 : Int32))] [(.int ((((0 : Int32).toUInt32 >>> ((31 : Int32) &&& 31).toUInt32).toInt32).toInt8.toInt32))])) (fun _ k => XS.i2b X0.here hx rfl (hb hby own_d6_2_7) rfl k) ?_
  refine own_ret X0 Bd.notSynchronized (some (.int (nar .byte ((((0 : Int32).toUInt32 >>> ((31 : Int32) &&& 31).toUInt32).toInt32).toInt8.toInt32)))) (fun h => by rw [Bd.returns] at h; cases h) (fun fs hr => retN X0 hx (t := .byte) Bd.returns (by simp) (hb hby own_d6_2_8) hr) ?_ (by decide) (by decide)
  show (own_Q6_2 Z ba kb x y h0 n0) (some (.int (nar .byte ((((0 : Int32).toUInt32 >>> ((31 : Int32) &&& 31).toUInt32).toInt32).toInt8.toInt32)))) s₁.heap _
  rw [e0]
  exact ⟨congrArg (fun z => some (Value.int z)) (by decide), NF, rfl⟩
theorem own_d3_2_0 : decode jdk_42_method_149_code 0 = .ok (.aload_n 0, 1) := by decide +kernel
theorem own_d3_2_1 : decode jdk_42_method_149_code 1 = .ok (.invokespecial 1, 3) := by decide +kernel
theorem own_d3_2_4 : decode jdk_42_method_149_code 4 = .ok (.iload_n 3, 1) := by decide +kernel
theorem own_d3_2_5 : decode jdk_42_method_149_code 5 = .ok (.ifCond .ne 22, 3) := by decide +kernel
theorem own_d3_2_27 : decode jdk_42_method_149_code 27 = .ok (.getstatic 38, 3) := by decide +kernel
theorem own_d3_2_30 : decode jdk_42_method_149_code 30 = .ok (.ifCond .eq 28, 3) := by decide +kernel
theorem own_d3_2_33 : decode jdk_42_method_149_code 33 = .ok (.aload_n 1, 1) := by decide +kernel
theorem own_d3_2_34 : decode jdk_42_method_149_code 34 = .ok (.iload_n 2, 1) := by decide +kernel
theorem own_d3_2_35 : decode jdk_42_method_149_code 35 = .ok (.iload_n 3, 1) := by decide +kernel
theorem own_d3_2_36 : decode jdk_42_method_149_code 36 = .ok (.invokestatic 177, 3) := by decide +kernel
theorem own_d3_2_39 : decode jdk_42_method_149_code 39 = .ok (.astore 5, 2) := by decide +kernel
theorem own_d3_2_41 : decode jdk_42_method_149_code 41 = .ok (.aload_n 0, 1) := by decide +kernel
theorem own_d3_2_42 : decode jdk_42_method_149_code 42 = .ok (.aload 5, 2) := by decide +kernel
theorem own_d3_2_44 : decode jdk_42_method_149_code 44 = .ok (.iload_n 3, 1) := by decide +kernel
theorem own_d3_2_45 : decode jdk_42_method_149_code 45 = .ok (.invokestatic 47, 3) := by decide +kernel
theorem own_d3_2_48 : decode jdk_42_method_149_code 48 = .ok (.putfield 15, 3) := by decide +kernel
theorem own_d3_2_51 : decode jdk_42_method_149_code 51 = .ok (.aload_n 0, 1) := by decide +kernel
theorem own_d3_2_52 : decode jdk_42_method_149_code 52 = .ok (.aload 5, 2) := by decide +kernel
theorem own_d3_2_54 : decode jdk_42_method_149_code 54 = .ok (.putfield 9, 3) := by decide +kernel
theorem own_d3_2_57 : decode jdk_42_method_149_code 57 = .ok (.return_, 1) := by decide +kernel
theorem own_pn3_2 : plainName "java/lang/String" = true := by first | (simp [plainName, overriddenIn]; done) | decide +kernel
theorem own_pd3_2_0 : parseMethodDescriptor "([CII)[B" = some ⟨[(.array .char), .int, .int], some (.array .byte)⟩ := by decide +kernel
theorem own_pd3_2_1 : parseMethodDescriptor "([BI)B" = some ⟨[(.array .byte), .int], some .byte⟩ := by decide +kernel
theorem own_ef3_2 (m : MethodId) (a : Addr) (ca : Addr) : entryFrame m #[(.ref a), (.ref ca), (.int (0 : Int32)), (.int (2 : Int32)), .null] 6 = mkF m 0 #[.val (.ref a), .val (.ref ca), .val (.int (0 : Int32)), .val (.int (2 : Int32)), .val .null, .unset] [] := by first | (simp [entryFrame, mkF, argsToLocals, Value.category]; done) | rfl
def own_Q3_2 (Z : State) (a : Addr) (ca : Addr) (kc : ClassId) (cs : Int32) (x : Int32) (y : Int32) (h0 : Heap) (n0 : Nat) (v : Option Value) (h : Heap) (L : List Loc) : Prop := v = none ∧ Fr n0 L ∧ Keep h0 h [a] ∧ Exa Z h a "java/lang/String" ∧ (∃ (ba : Addr) (kb : ClassId), h0.size ≤ ba ∧ n0 ≤ ba ∧ Arv Z h ba kb .byte (2 : Int32) [(.int (x.toInt8.toInt32.toInt8.toInt32)), (.int (y.toInt8.toInt32.toInt8.toInt32))] (.int (0 : Int32)) ∧ Fld Z h a "java/lang/String" "value" "[B" (.ref ba) ∧ Fld Z h a "java/lang/String" "coder" "B" (.int (0 : Int32)))
set_option maxRecDepth 65536 in
set_option maxHeartbeats 40000000 in
theorem own_rm3_2 (l : Launch) (Z : State) (a0 : Array Value) (hw : ∀ d ∈ tables_1, d.before a0 Z = true) (ws : List Jvm.Cond) (a : Addr) (ca : Addr) (kc : ClassId) (cs : Int32) (x : Int32) (y : Int32) (h0 : Heap) (n0 : Nat) (Zs : n0 ≤ h0.size) (F_a_value : Fld Z h0 a "java/lang/String" "value" "[B" .null) (F_a_coder : Fld Z h0 a "java/lang/String" "coder" "B" (.int (0 : Int32))) (E_a : Exa Z h0 a "java/lang/String") (g_a : n0 ≤ a) (V_ca : Arv Z h0 ca kc .char (2 : Int32) [(.int x), (.int y)] (.int (0 : Int32))) (ne_a_ca : a ≠ ca) (OL : Old Z n0 h0) (S_cs : Sta Z Z.heap "java/lang/String" "COMPACT_STRINGS" "Z" (.int cs)) (hcs : ¬ (cs = (0 : Int32))) (hxl : ¬ ((255 : Int32) < x)) (hyl : ¬ ((255 : Int32) < y)) :
    MetFree l (⟨"java/lang/String", "<init>", "([CIILjava/lang/Void;)V"⟩ : MethodName) (head1 (Jvm.Cond.code (⟨"java/lang/String", "<init>", "([CIILjava/lang/Void;)V"⟩ : MethodName) jdk_42_method_149_code 6 none :: ws) ({ frames := 2, cells := 1, slots := 2, locals := 35 } : Room)) (fun aA_ U => aA_ = #[(.ref a), (.ref ca), (.int (0 : Int32)), (.int (2 : Int32)), .null] ∧ Z.Warmed39 U.vm ∧ U.heap = h0) (fun _ _ _ _ _ => True) (fun _ U o U' => ∃ v L, o = .returned v ∧ own_Q3_2 Z a ca kc cs x y h0 n0 v U'.heap L ∧ FrameEnd U o U' L ({ frames := 2, cells := 1, slots := 2, locals := 35 } : Room).cells ({ frames := 2, cells := 1, slots := 2, locals := 35 } : Room).slots) := by
  refine MetFree.of_bodySF (plainFor_of_name own_pn3_2) hisR ?_
  intro p e s m args below meth c s₁ Bd hml0 hP hK
  obtain ⟨rfl, hZ, hh⟩ := hP
  have hx := Bd.exec
  have hby := Bd.bytes
  have hml : c.maxLocals = 6 := hml0
  have hown : s.vm.findClass "java/lang/String" = some m.cls := findClass_of_methodNamed Bd.named
  have hnm := (name_of_methodNamed Bd.named Bd.method).1
  have X0 : Stand p l e ({ frames := 2, cells := 1, slots := 2, locals := 35 } : Room) s m #[(.ref a), (.ref ca), (.int (0 : Int32)), (.int (2 : Int32)), .null] below meth c s₁ [] 0 0 := Stand.of_body Bd
  have e0 : s₁.heap = h0 := by rw [← hh, Bd.state]; rfl
  have NF := Fr.nil n0
  rw [own_ef3_2 m a ca]
  show own_Dn p e below s (own_Q3_2 Z a ca kc cs x y h0 n0) 1 2 s₁ (mkF m 0 #[.val (.ref a), .val (.ref ca), .val (.int (0 : Int32)), .val (.int (2 : Int32)), .val .null, .unset] [])
  have KP := Keep.refl h0 [a]
  refine own_go (T' := s₁) (g' := (mkF m 1 #[.val (.ref a), .val (.ref ca), .val (.int (0 : Int32)), .val (.int (2 : Int32)), .val .null, .unset] [(.ref a)])) (fun _ k => XS.aloadN X0.here hx rfl (hb hby own_d3_2_0) rfl rfl k) ?_
  obtain ⟨T1, X1, e1, st1⟩ := initO X0 hx hZ hown (hw _ (List.mem_of_getElem? (i := 15) rfl)) (hw _ (List.mem_of_getElem? (i := 16) rfl)) (hw _ (List.mem_of_getElem? (i := 17) rfl)) e0 (g := (mkF m 1 #[.val (.ref a), .val (.ref ca), .val (.int (0 : Int32)), .val (.int (2 : Int32)), .val .null, .unset] [(.ref a)])) rfl (by rw [hml]; rfl) rfl (hb hby own_d3_2_1) (by decide) (W := 0) (by show 2 * 0 + _ ≤ _; exact Nat.le_of_eq rfl) (by decide)
  refine own_go (T' := T1) (g' := (mkF m 4 #[.val (.ref a), .val (.ref ca), .val (.int (0 : Int32)), .val (.int (2 : Int32)), .val .null, .unset] [])) (fun _ k => st1 _ k) ?_
  refine own_go (T' := T1) (g' := (mkF m 5 #[.val (.ref a), .val (.ref ca), .val (.int (0 : Int32)), .val (.int (2 : Int32)), .val .null, .unset] [(.int (2 : Int32))])) (fun _ k => XS.iloadN X1.here hx rfl (hb hby own_d3_2_4) rfl k) ?_
  refine own_go (T' := T1) (g' := (mkF m 27 #[.val (.ref a), .val (.ref ca), .val (.int (0 : Int32)), .val (.int (2 : Int32)), .val .null, .unset] [])) (fun _ k => XS.ifYes X1.here hx rfl (pc0 := 5) (pc' := 27) rfl (hb hby own_d3_2_5) rfl (by decide) (by decide) (by decide) k) ?_
  obtain ⟨T2, X2, e2, st2⟩ := getS2 X1 hx hZ hown (host := "") (Or.inl (hw _ (List.mem_of_getElem? (i := 18) rfl))) Via.refl e1 (S_cs.ext OL.2) (g := (mkF m 27 #[.val (.ref a), .val (.ref ca), .val (.int (0 : Int32)), .val (.int (2 : Int32)), .val .null, .unset] [])) rfl (hb hby own_d3_2_27)
  refine own_go (T' := T2) (g' := (mkF m 30 #[.val (.ref a), .val (.ref ca), .val (.int (0 : Int32)), .val (.int (2 : Int32)), .val .null, .unset] [(.int cs)])) (fun _ k => st2 _ k) ?_
  refine own_go (T' := T2) (g' := (mkF m 33 #[.val (.ref a), .val (.ref ca), .val (.int (0 : Int32)), .val (.int (2 : Int32)), .val .null, .unset] [])) (fun _ k => XS.ifNo X2.here hx rfl (hb hby own_d3_2_30) rfl ((if0 _ _).trans (feq hcs).1) k) ?_
  refine own_go (T' := T2) (g' := (mkF m 34 #[.val (.ref a), .val (.ref ca), .val (.int (0 : Int32)), .val (.int (2 : Int32)), .val .null, .unset] [(.ref ca)])) (fun _ k => XS.aloadN X2.here hx rfl (hb hby own_d3_2_33) rfl rfl k) ?_
  refine own_go (T' := T2) (g' := (mkF m 35 #[.val (.ref a), .val (.ref ca), .val (.int (0 : Int32)), .val (.int (2 : Int32)), .val .null, .unset] [(.int (0 : Int32)), (.ref ca)])) (fun _ k => XS.iloadN X2.here hx rfl (hb hby own_d3_2_34) rfl k) ?_
  refine own_go (T' := T2) (g' := (mkF m 36 #[.val (.ref a), .val (.ref ca), .val (.int (0 : Int32)), .val (.int (2 : Int32)), .val .null, .unset] [(.int (2 : Int32)), (.int (0 : Int32)), (.ref ca)])) (fun _ k => XS.iloadN X2.here hx rfl (hb hby own_d3_2_35) rfl k) ?_
  have lt_a := E_a.lt
  have lt_ca := V_ca.lt
  have KPo := KP
  obtain ⟨_, _, ⟨T3, L3, k3, n3⟩, -, X3, ⟨Lc3, hQ3, l3, y3, z3⟩, st3⟩ := Jvm.LawKit.callS X2 hx (y := (⟨"java/lang/StringUTF16", "compress", "([CII)[B"⟩ : MethodName)) hown (mvT hZ (hw _ (List.mem_of_getElem? (i := 19) rfl))) (mvT hZ (hw _ (List.mem_of_getElem? (i := 20) rfl))) (mvT hZ (hw _ (List.mem_of_getElem? (i := 21) rfl))) (mvT hZ (hw _ (List.mem_of_getElem? (i := 22) rfl))) (by decide) (backOf (W := 0) (own_rm4_2 l Z a0 hw [] ca kc x y h0 n0 Zs V_ca hxl hyl) hZ (hw _ (List.mem_of_getElem? (i := 22) rfl)) (hw _ (List.mem_of_getElem? (i := 21) rfl)) (by decide) (by decide)) (g := (mkF m 36 #[.val (.ref a), .val (.ref ca), .val (.int (0 : Int32)), .val (.int (2 : Int32)), .val .null, .unset] [(.int (2 : Int32)), (.int (0 : Int32)), (.ref ca)])) rfl (by rw [hml]; rfl) (argsL := [(.ref ca), (.int (0 : Int32)), (.int (2 : Int32))]) (rest := []) (lenOf own_pd3_2_0 rfl) rfl (by show 2 * 0 + _ ≤ _; exact Nat.le_of_eq rfl) (hb hby own_d3_2_36) (fun _ _ => ⟨rfl, e2, (by decide : 0 + 1 ≤ _), (by decide : 0 + 2 ≤ _)⟩)
  dsimp only [Pt.U, Pt.locs, Pt.cells, Pt.slots] at X3 l3 y3 z3 st3 hQ3
  subst l3 y3 z3
  obtain ⟨NQ3, K3, ba3, kb3, rfl, ge_ba3, g_ba3, V_ba3⟩ := hQ3
  have NF := Fr.app NF NQ3
  have E_a := E_a.keep K3
  have F_a_value := F_a_value.keep K3 nin0
  have F_a_coder := F_a_coder.keep K3 nin0
  have V_ca := V_ca.keep K3 nin0
  have OL := OL.keep K3 all0
  have Zs := Nat.le_trans Zs K3.1
  have KP := KP.trans K3 (all0)
  have ne_a_ba3 : a ≠ ba3 := Nat.ne_of_lt (Nat.lt_of_lt_of_le lt_a ge_ba3)
  have ne_ca_ba3 : ca ≠ ba3 := Nat.ne_of_lt (Nat.lt_of_lt_of_le lt_ca ge_ba3)
  have sz_ba3 : h0.size ≤ ba3 := Nat.le_trans KPo.1 ge_ba3
  refine own_go (T' := T3) (g' := (mkF m 39 #[.val (.ref a), .val (.ref ca), .val (.int (0 : Int32)), .val (.int (2 : Int32)), .val .null, .unset] [(.ref ba3)])) (fun _ k => st3 _ k) ?_
  refine own_go (T' := T3) (g' := (mkF m 41 #[.val (.ref a), .val (.ref ca), .val (.int (0 : Int32)), .val (.int (2 : Int32)), .val .null, .val (.ref ba3)] [])) (fun _ k => XS.astore X3.here hx rfl (hb hby own_d3_2_39) rfl rfl (l' := #[.val (.ref a), .val (.ref ca), .val (.int (0 : Int32)), .val (.int (2 : Int32)), .val .null, .val (.ref ba3)]) rfl k) ?_
  refine own_go (T' := T3) (g' := (mkF m 42 #[.val (.ref a), .val (.ref ca), .val (.int (0 : Int32)), .val (.int (2 : Int32)), .val .null, .val (.ref ba3)] [(.ref a)])) (fun _ k => XS.aloadN X3.here hx rfl (hb hby own_d3_2_41) rfl rfl k) ?_
  refine own_go (T' := T3) (g' := (mkF m 44 #[.val (.ref a), .val (.ref ca), .val (.int (0 : Int32)), .val (.int (2 : Int32)), .val .null, .val (.ref ba3)] [(.ref ba3), (.ref a)])) (fun _ k => XS.aload X3.here hx rfl (hb hby own_d3_2_42) rfl rfl k) ?_
  refine own_go (T' := T3) (g' := (mkF m 45 #[.val (.ref a), .val (.ref ca), .val (.int (0 : Int32)), .val (.int (2 : Int32)), .val .null, .val (.ref ba3)] [(.int (2 : Int32)), (.ref ba3), (.ref a)])) (fun _ k => XS.iloadN X3.here hx rfl (hb hby own_d3_2_44) rfl k) ?_
  obtain ⟨_, _, ⟨T4, L4, k4, n4⟩, -, X4, ⟨Lc4, hQ4, l4, y4, z4⟩, st4⟩ := Jvm.LawKit.callS X3 hx (y := (⟨"java/lang/StringUTF16", "coderFromArrayLen", "([BI)B"⟩ : MethodName)) hown (mvT hZ (hw _ (List.mem_of_getElem? (i := 27) rfl))) (mvT hZ (hw _ (List.mem_of_getElem? (i := 28) rfl))) (mvT hZ (hw _ (List.mem_of_getElem? (i := 21) rfl))) (mvT hZ (hw _ (List.mem_of_getElem? (i := 29) rfl))) (by decide) (backOf (W := 1) (own_rm6_2 l Z a0 hw [] ba3 kb3 _ _ T3.heap n0 Zs V_ba3) hZ (hw _ (List.mem_of_getElem? (i := 29) rfl)) (hw _ (List.mem_of_getElem? (i := 21) rfl)) (by decide) (by decide)) (g := (mkF m 45 #[.val (.ref a), .val (.ref ca), .val (.int (0 : Int32)), .val (.int (2 : Int32)), .val .null, .val (.ref ba3)] [(.int (2 : Int32)), (.ref ba3), (.ref a)])) rfl (by rw [hml]; rfl) (argsL := [(.ref ba3), (.int (2 : Int32))]) (rest := [(.ref a)]) (lenOf own_pd3_2_1 rfl) rfl (by show 2 * 0 + _ ≤ _; exact Nat.le_of_eq rfl) (hb hby own_d3_2_45) (fun _ _ => ⟨rfl, rfl, (by decide : 1 + 0 ≤ _), (by decide : 2 + 0 ≤ _)⟩)
  dsimp only [Pt.U, Pt.locs, Pt.cells, Pt.slots] at X4 l4 y4 z4 st4 hQ4
  subst l4 y4 z4
  obtain ⟨rfl, NQ4, eq4⟩ := hQ4
  have NF := Fr.app NF NQ4
  refine own_go (T' := T4) (g' := (mkF m 48 #[.val (.ref a), .val (.ref ca), .val (.int (0 : Int32)), .val (.int (2 : Int32)), .val .null, .val (.ref ba3)] [(.int (0 : Int32)), (.ref a)])) (fun _ k => st4 _ k) ?_
  obtain ⟨T5, h5, X5, e5, W5, st5⟩ := putFN X4 hx hZ hown (hw _ (List.mem_of_getElem? (i := 30) rfl)) Via.refl eq4 F_a_coder E_a (Or.inr ⟨(hw _ (List.mem_of_getElem? (i := 31) rfl)), rfl, hnm⟩) (hw _ (List.mem_of_getElem? (i := 5) rfl)) (ty := .byte) (v' := (.int (0 : Int32))) (by decide) rfl (by decide) (g := (mkF m 48 #[.val (.ref a), .val (.ref ca), .val (.int (0 : Int32)), .val (.int (2 : Int32)), .val .null, .val (.ref ba3)] [(.int (0 : Int32)), (.ref a)])) rfl rfl (hb hby own_d3_2_48)
  have E_a := E_a.wr W5
  have F_a_value := F_a_value.other W5 (Or.inr (slot_ne (Or.inr (hw _ (List.mem_of_getElem? (i := 33) rfl))) (Or.inr (hw _ (List.mem_of_getElem? (i := 31) rfl))) (by decide) (t := (.array .byte)) (t' := .byte) (by decide) (by decide)))
  have V_ca := V_ca.other W5 (Ne.symm ne_a_ca)
  have OL := OL.wr W5 g_a
  have V_ba3 := V_ba3.other W5 (Ne.symm ne_a_ba3)
  have Zs := Nat.le_trans Zs (Keep.of_wr W5).1
  have F_a_coder := F_a_coder.same W5
  have KP := KP.wr W5 (Or.inl (by simp))
  have NF := Fr.snoc X5 NF g_a
  refine own_go (T' := T5) (g' := (mkF m 51 #[.val (.ref a), .val (.ref ca), .val (.int (0 : Int32)), .val (.int (2 : Int32)), .val .null, .val (.ref ba3)] [])) (fun _ k => st5 _ k) ?_
  refine own_go (T' := T5) (g' := (mkF m 52 #[.val (.ref a), .val (.ref ca), .val (.int (0 : Int32)), .val (.int (2 : Int32)), .val .null, .val (.ref ba3)] [(.ref a)])) (fun _ k => XS.aloadN X5.here hx rfl (hb hby own_d3_2_51) rfl rfl k) ?_
  refine own_go (T' := T5) (g' := (mkF m 54 #[.val (.ref a), .val (.ref ca), .val (.int (0 : Int32)), .val (.int (2 : Int32)), .val .null, .val (.ref ba3)] [(.ref ba3), (.ref a)])) (fun _ k => XS.aload X5.here hx rfl (hb hby own_d3_2_52) rfl rfl k) ?_
  obtain ⟨T6, h6, X6, e6, W6, st6⟩ := putF X5 hx hZ hown (host := "") (Or.inl (hw _ (List.mem_of_getElem? (i := 32) rfl))) Via.refl e5 F_a_value E_a (Or.inr ⟨(hw _ (List.mem_of_getElem? (i := 33) rfl)), rfl, hnm⟩) (hw _ (List.mem_of_getElem? (i := 5) rfl)) (ty := (.array .byte)) (by decide) rfl rfl (g := (mkF m 54 #[.val (.ref a), .val (.ref ca), .val (.int (0 : Int32)), .val (.int (2 : Int32)), .val .null, .val (.ref ba3)] [(.ref ba3), (.ref a)])) rfl rfl (hb hby own_d3_2_54)
  have E_a := E_a.wr W6
  have V_ca := V_ca.other W6 (Ne.symm ne_a_ca)
  have OL := OL.wr W6 g_a
  have V_ba3 := V_ba3.other W6 (Ne.symm ne_a_ba3)
  have F_a_coder := F_a_coder.other W6 (Or.inr (slot_ne (Or.inr (hw _ (List.mem_of_getElem? (i := 31) rfl))) (Or.inr (hw _ (List.mem_of_getElem? (i := 33) rfl))) (by decide) (t := .byte) (t' := (.array .byte)) (by decide) (by decide)))
  have Zs := Nat.le_trans Zs (Keep.of_wr W6).1
  have F_a_value := F_a_value.same W6
  have KP := KP.wr W6 (Or.inl (by simp))
  have NF := Fr.snoc X6 NF g_a
  refine own_go (T' := T6) (g' := (mkF m 57 #[.val (.ref a), .val (.ref ca), .val (.int (0 : Int32)), .val (.int (2 : Int32)), .val .null, .val (.ref ba3)] [])) (fun _ k => st6 _ k) ?_
  refine own_ret X6 Bd.notSynchronized none (fun _ => rfl) (fun fs hr => X6.returnOut hx Bd.returns (hb hby own_d3_2_57) hr) ?_ (by decide) (by decide)
  show (own_Q3_2 Z a ca kc cs x y h0 n0) none T6.heap _
  rw [e6]
  exact ⟨rfl, NF, KP, E_a, ba3, kb3, sz_ba3, g_ba3, V_ba3, F_a_value, F_a_coder⟩
theorem own_d2_2_0 : decode jdk_42_method_3_code 0 = .ok (.aload_n 0, 1) := by decide +kernel
theorem own_d2_2_1 : decode jdk_42_method_3_code 1 = .ok (.aload_n 1, 1) := by decide +kernel
theorem own_d2_2_2 : decode jdk_42_method_3_code 2 = .ok (.iconst 0, 1) := by decide +kernel
theorem own_d2_2_3 : decode jdk_42_method_3_code 3 = .ok (.aload_n 1, 1) := by decide +kernel
theorem own_d2_2_4 : decode jdk_42_method_3_code 4 = .ok (.arraylength, 1) := by decide +kernel
theorem own_d2_2_5 : decode jdk_42_method_3_code 5 = .ok (.aconst_null, 1) := by decide +kernel
theorem own_d2_2_6 : decode jdk_42_method_3_code 6 = .ok (.invokespecial 27, 3) := by decide +kernel
theorem own_d2_2_9 : decode jdk_42_method_3_code 9 = .ok (.return_, 1) := by decide +kernel
theorem own_pn2_2 : plainName "java/lang/String" = true := by first | (simp [plainName, overriddenIn]; done) | decide +kernel
theorem own_pd2_2_0 : parseMethodDescriptor "([CIILjava/lang/Void;)V" = some ⟨[(.array .char), .int, .int, (.object "java/lang/Void")], none⟩ := by decide +kernel
theorem own_ef2_2 (m : MethodId) (a : Addr) (ca : Addr) : entryFrame m #[(.ref a), (.ref ca)] 2 = mkF m 0 #[.val (.ref a), .val (.ref ca)] [] := by first | (simp [entryFrame, mkF, argsToLocals, Value.category]; done) | rfl
def own_Q2_2 (Z : State) (a : Addr) (ca : Addr) (kc : ClassId) (cs : Int32) (x : Int32) (y : Int32) (h0 : Heap) (n0 : Nat) (v : Option Value) (h : Heap) (L : List Loc) : Prop := v = none ∧ Fr n0 L ∧ Keep h0 h [a] ∧ Exa Z h a "java/lang/String" ∧ (∃ (ba : Addr) (kb : ClassId), h0.size ≤ ba ∧ n0 ≤ ba ∧ Arv Z h ba kb .byte (2 : Int32) [(.int (x.toInt8.toInt32.toInt8.toInt32)), (.int (y.toInt8.toInt32.toInt8.toInt32))] (.int (0 : Int32)) ∧ Fld Z h a "java/lang/String" "value" "[B" (.ref ba) ∧ Fld Z h a "java/lang/String" "coder" "B" (.int (0 : Int32)))
set_option maxRecDepth 65536 in
set_option maxHeartbeats 40000000 in
theorem own_rm2_2 (l : Launch) (Z : State) (a0 : Array Value) (hw : ∀ d ∈ tables_1, d.before a0 Z = true) (ws : List Jvm.Cond) (a : Addr) (ca : Addr) (kc : ClassId) (cs : Int32) (x : Int32) (y : Int32) (h0 : Heap) (n0 : Nat) (Zs : n0 ≤ h0.size) (F_a_value : Fld Z h0 a "java/lang/String" "value" "[B" .null) (F_a_coder : Fld Z h0 a "java/lang/String" "coder" "B" (.int (0 : Int32))) (E_a : Exa Z h0 a "java/lang/String") (g_a : n0 ≤ a) (V_ca : Arv Z h0 ca kc .char (2 : Int32) [(.int x), (.int y)] (.int (0 : Int32))) (ne_a_ca : a ≠ ca) (OL : Old Z n0 h0) (S_cs : Sta Z Z.heap "java/lang/String" "COMPACT_STRINGS" "Z" (.int cs)) (hcs : ¬ (cs = (0 : Int32))) (hxl : ¬ ((255 : Int32) < x)) (hyl : ¬ ((255 : Int32) < y)) :
    MetFree l (⟨"java/lang/String", "<init>", "([C)V"⟩ : MethodName) (head1 (Jvm.Cond.code (⟨"java/lang/String", "<init>", "([C)V"⟩ : MethodName) jdk_42_method_3_code 2 none :: ws) ({ frames := 3, cells := 1, slots := 2, locals := 52 } : Room)) (fun aA_ U => aA_ = #[(.ref a), (.ref ca)] ∧ Z.Warmed39 U.vm ∧ U.heap = h0) (fun _ _ _ _ _ => True) (fun _ U o U' => ∃ v L, o = .returned v ∧ own_Q2_2 Z a ca kc cs x y h0 n0 v U'.heap L ∧ FrameEnd U o U' L ({ frames := 3, cells := 1, slots := 2, locals := 52 } : Room).cells ({ frames := 3, cells := 1, slots := 2, locals := 52 } : Room).slots) := by
  refine MetFree.of_bodySF (plainFor_of_name own_pn2_2) hisR ?_
  intro p e s m args below meth c s₁ Bd hml0 hP hK
  obtain ⟨rfl, hZ, hh⟩ := hP
  have hx := Bd.exec
  have hby := Bd.bytes
  have hml : c.maxLocals = 2 := hml0
  have hown : s.vm.findClass "java/lang/String" = some m.cls := findClass_of_methodNamed Bd.named
  have hnm := (name_of_methodNamed Bd.named Bd.method).1
  have X0 : Stand p l e ({ frames := 3, cells := 1, slots := 2, locals := 52 } : Room) s m #[(.ref a), (.ref ca)] below meth c s₁ [] 0 0 := Stand.of_body Bd
  have e0 : s₁.heap = h0 := by rw [← hh, Bd.state]; rfl
  have NF := Fr.nil n0
  rw [own_ef2_2 m a ca]
  show own_Dn p e below s (own_Q2_2 Z a ca kc cs x y h0 n0) 1 2 s₁ (mkF m 0 #[.val (.ref a), .val (.ref ca)] [])
  have KP := Keep.refl h0 [a]
  refine own_go (T' := s₁) (g' := (mkF m 1 #[.val (.ref a), .val (.ref ca)] [(.ref a)])) (fun _ k => XS.aloadN X0.here hx rfl (hb hby own_d2_2_0) rfl rfl k) ?_
  refine own_go (T' := s₁) (g' := (mkF m 2 #[.val (.ref a), .val (.ref ca)] [(.ref ca), (.ref a)])) (fun _ k => XS.aloadN X0.here hx rfl (hb hby own_d2_2_1) rfl rfl k) ?_
  refine own_go (T' := s₁) (g' := (mkF m 3 #[.val (.ref a), .val (.ref ca)] [(.int (0 : Int32)), (.ref ca), (.ref a)])) (fun _ k => XS.iconst X0.here hx rfl (hb hby own_d2_2_2) k) ?_
  refine own_go (T' := s₁) (g' := (mkF m 4 #[.val (.ref a), .val (.ref ca)] [(.ref ca), (.int (0 : Int32)), (.ref ca), (.ref a)])) (fun _ k => XS.aloadN X0.here hx rfl (hb hby own_d2_2_3) rfl rfl k) ?_
  obtain ⟨c_1, Ar_1, q_1, S_1, N_1, H_1, G_1⟩ := id V_ca
  refine own_go (T' := s₁) (g' := (mkF m 5 #[.val (.ref a), .val (.ref ca)] [(.int (2 : Int32)), (.int (0 : Int32)), (.ref ca), (.ref a)])) (fun _ k => X0.arraylength hx (by rw [e0]; exact Ar_1.1) (State.isArrayOf_alike hZ.alike Ar_1.2.1) (g := (mkF m 4 #[.val (.ref a), .val (.ref ca)] [(.ref ca), (.int (0 : Int32)), (.ref ca), (.ref a)])) rfl rfl (hb hby own_d2_2_4) _ (by rw [len_of S_1 N_1]; exact k)) ?_
  refine own_go (T' := s₁) (g' := (mkF m 6 #[.val (.ref a), .val (.ref ca)] [.null, (.int (2 : Int32)), (.int (0 : Int32)), (.ref ca), (.ref a)])) (fun _ k => XS.aconstNull X0.here hx rfl (hb hby own_d2_2_5) k) ?_
  have lt_a := E_a.lt
  have lt_ca := V_ca.lt
  have KPo := KP
  obtain ⟨_, _, ⟨T2, L2, k2, n2⟩, -, X2, ⟨Lc2, hQ2, l2, y2, z2⟩, st2⟩ := X0.specialBack hx (y := (⟨"java/lang/String", "<init>", "([CIILjava/lang/Void;)V"⟩ : MethodName)) rfl hown (mvT hZ (hw _ (List.mem_of_getElem? (i := 11) rfl))) (mvT hZ (hw _ (List.mem_of_getElem? (i := 12) rfl))) (mvT hZ (hw _ (List.mem_of_getElem? (i := 14) rfl))) (by decide) (backOf (W := 0) (own_rm3_2 l Z a0 hw [] a ca kc cs x y h0 n0 Zs F_a_value F_a_coder E_a g_a V_ca ne_a_ca OL S_cs hcs hxl hyl) hZ (hw _ (List.mem_of_getElem? (i := 14) rfl)) (hw _ (List.mem_of_getElem? (i := 6) rfl)) (by decide) (by decide)) (g := (mkF m 6 #[.val (.ref a), .val (.ref ca)] [.null, (.int (2 : Int32)), (.int (0 : Int32)), (.ref ca), (.ref a)])) rfl (by rw [hml]; rfl) (Steps.refl _) (a := a) (argsL := [(.ref ca), (.int (0 : Int32)), (.int (2 : Int32)), .null]) (rest := []) (lenOf own_pd2_2_0 rfl) rfl (by show 2 * 0 + _ ≤ _; exact Nat.le_of_eq rfl) (hb hby own_d2_2_6) (fun _ _ => ⟨rfl, e0, (by decide : 0 + 1 ≤ _), (by decide : 0 + 2 ≤ _)⟩)
  dsimp only [Pt.U, Pt.locs, Pt.cells, Pt.slots] at X2 l2 y2 z2 st2 hQ2
  subst l2 y2 z2
  obtain ⟨rfl, NQ2, K2, E_a, ba2, kb2, ge_ba2, g_ba2, V_ba2, F_a_value, F_a_coder⟩ := hQ2
  have NF := Fr.app NF NQ2
  have V_ca := V_ca.keep K2 (ninS (Ne.symm ne_a_ca) nin0)
  have OL := OL.keep K2 (allS g_a all0)
  have Zs := Nat.le_trans Zs K2.1
  have KP := KP.trans K2 ((allS (Or.inl (by simp)) all0))
  have ne_a_ba2 : a ≠ ba2 := Nat.ne_of_lt (Nat.lt_of_lt_of_le lt_a ge_ba2)
  have ne_ca_ba2 : ca ≠ ba2 := Nat.ne_of_lt (Nat.lt_of_lt_of_le lt_ca ge_ba2)
  have sz_ba2 : h0.size ≤ ba2 := Nat.le_trans KPo.1 ge_ba2
  refine own_go (T' := T2) (g' := (mkF m 9 #[.val (.ref a), .val (.ref ca)] [])) (fun _ k => st2.trans k) ?_
  refine own_ret X2 Bd.notSynchronized none (fun _ => rfl) (fun fs hr => X2.returnOut hx Bd.returns (hb hby own_d2_2_9) hr) ?_ (by decide) (by decide)
  show (own_Q2_2 Z a ca kc cs x y h0 n0) none T2.heap _
  exact ⟨rfl, NF, KP, E_a, ba2, kb2, sz_ba2, g_ba2, V_ba2, F_a_value, F_a_coder⟩
theorem own_d10_0 : decode method_2_code 0 = .ok (.iload_n 0, 1) := by decide +kernel
theorem own_d10_1 : decode method_2_code 1 = .ok (.iconst 1, 1) := by decide +kernel
theorem own_d10_2 : decode method_2_code 2 = .ok (.if_icmp .ne 18, 3) := by decide +kernel
theorem own_d10_5 : decode method_2_code 5 = .ok (.new 7, 3) := by decide +kernel
theorem own_d10_8 : decode method_2_code 8 = .ok (.dup, 1) := by decide +kernel
theorem own_d10_9 : decode method_2_code 9 = .ok (.iconst 1, 1) := by decide +kernel
theorem own_d10_10 : decode method_2_code 10 = .ok (.newarray .char, 2) := by decide +kernel
theorem own_d10_12 : decode method_2_code 12 = .ok (.dup, 1) := by decide +kernel
theorem own_d10_13 : decode method_2_code 13 = .ok (.iconst 0, 1) := by decide +kernel
theorem own_d10_14 : decode method_2_code 14 = .ok (.iload_n 1, 1) := by decide +kernel
theorem own_d10_15 : decode method_2_code 15 = .ok (.castore, 1) := by decide +kernel
theorem own_d10_16 : decode method_2_code 16 = .ok (.invokespecial 9, 3) := by decide +kernel
theorem own_d10_19 : decode method_2_code 19 = .ok (.areturn, 1) := by decide +kernel
theorem own_d10_20 : decode method_2_code 20 = .ok (.new 7, 3) := by decide +kernel
theorem own_d10_23 : decode method_2_code 23 = .ok (.dup, 1) := by decide +kernel
theorem own_d10_24 : decode method_2_code 24 = .ok (.iconst 2, 1) := by decide +kernel
theorem own_d10_25 : decode method_2_code 25 = .ok (.newarray .char, 2) := by decide +kernel
theorem own_d10_27 : decode method_2_code 27 = .ok (.dup, 1) := by decide +kernel
theorem own_d10_28 : decode method_2_code 28 = .ok (.iconst 0, 1) := by decide +kernel
theorem own_d10_29 : decode method_2_code 29 = .ok (.iload_n 1, 1) := by decide +kernel
theorem own_d10_30 : decode method_2_code 30 = .ok (.castore, 1) := by decide +kernel
theorem own_d10_31 : decode method_2_code 31 = .ok (.dup, 1) := by decide +kernel
theorem own_d10_32 : decode method_2_code 32 = .ok (.iconst 1, 1) := by decide +kernel
theorem own_d10_33 : decode method_2_code 33 = .ok (.iload_n 2, 1) := by decide +kernel
theorem own_d10_34 : decode method_2_code 34 = .ok (.castore, 1) := by decide +kernel
theorem own_d10_35 : decode method_2_code 35 = .ok (.invokespecial 9, 3) := by decide +kernel
theorem own_d10_38 : decode method_2_code 38 = .ok (.areturn, 1) := by decide +kernel
theorem own_pn10 : plainName "com/example/gentle_rebalance/gentlerebalance/engine/TopicPartitionEqualsPinLaw" = true := by first | (simp [plainName, overriddenIn]; done) | decide +kernel
theorem own_pd10_0 : parseMethodDescriptor "([C)V" = some ⟨[(.array .char)], none⟩ := by decide +kernel
theorem own_ef10 (m : MethodId) (nn : Int32) (c0 : Int32) (d0 : Int32) : entryFrame m #[(.int nn), (.int c0), (.int d0)] 3 = mkF m 0 #[.val (.int nn), .val (.int c0), .val (.int d0)] [] := by first | (simp [entryFrame, mkF, argsToLocals, Value.category]; done) | rfl
def own_Q10 (Z : State) (nn : Int32) (c0 : Int32) (d0 : Int32) (cs : Int32) (h0 : Heap) (n0 : Nat) (v : Option Value) (h : Heap) (L : List Loc) : Prop := Fr n0 L ∧ Keep h0 h [] ∧ (∃ (ts tv : Addr) (kt : ClassId), v = some (.ref ts) ∧ h0.size ≤ ts ∧ n0 ≤ ts ∧ h0.size ≤ tv ∧ n0 ≤ tv ∧ Exa Z h ts "java/lang/String" ∧ Arv Z h tv kt .byte nn [(.int (own_by c0)), (.int (own_by d0))] (.int (0 : Int32)) ∧ Fld Z h ts "java/lang/String" "value" "[B" (.ref tv) ∧ Fld Z h ts "java/lang/String" "coder" "B" (.int (0 : Int32)))
set_option maxRecDepth 65536 in
set_option maxHeartbeats 40000000 in
theorem own_rm10 (l : Launch) (Z : State) (a0 : Array Value) (hw : ∀ d ∈ tables_1, d.before a0 Z = true) (ws : List Jvm.Cond) (nn : Int32) (c0 : Int32) (d0 : Int32) (cs : Int32) (h0 : Heap) (n0 : Nat) (Zs : n0 ≤ h0.size) (OL : Old Z n0 h0) (S_cs : Sta Z Z.heap "java/lang/String" "COMPACT_STRINGS" "Z" (.int cs)) (hcs : ¬ (cs = (0 : Int32))) (hn : nn.toInt = 1 ∨ nn.toInt = 2) (hc0 : 0 ≤ c0.toInt ∧ c0.toInt ≤ 255) (hc1 : 0 ≤ d0.toInt ∧ d0.toInt ≤ 255) :
    MetFree l (⟨"com/example/gentle_rebalance/gentlerebalance/engine/TopicPartitionEqualsPinLaw", "makeTopic", "(ICC)Ljava/lang/String;"⟩ : MethodName) (head1 (Jvm.Cond.code (⟨"com/example/gentle_rebalance/gentlerebalance/engine/TopicPartitionEqualsPinLaw", "makeTopic", "(ICC)Ljava/lang/String;"⟩ : MethodName) method_2_code 3 (some (.object "java/lang/String")) :: ws) ({ frames := 4, cells := 3, slots := 8, locals := 66 } : Room)) (fun aA_ U => aA_ = #[(.int nn), (.int c0), (.int d0)] ∧ Z.Warmed39 U.vm ∧ U.heap = h0) (fun _ _ _ _ _ => True) (fun _ U o U' => ∃ v L, o = .returned v ∧ own_Q10 Z nn c0 d0 cs h0 n0 v U'.heap L ∧ FrameEnd U o U' L ({ frames := 4, cells := 3, slots := 8, locals := 66 } : Room).cells ({ frames := 4, cells := 3, slots := 8, locals := 66 } : Room).slots) := by
  refine MetFree.of_bodySF (plainFor_of_name own_pn10) hisR ?_
  intro p e s m args below meth c s₁ Bd hml0 hP hK
  obtain ⟨rfl, hZ, hh⟩ := hP
  have hx := Bd.exec
  have hby := Bd.bytes
  have hml : c.maxLocals = 3 := hml0
  have hown : s.vm.findClass "com/example/gentle_rebalance/gentlerebalance/engine/TopicPartitionEqualsPinLaw" = some m.cls := findClass_of_methodNamed Bd.named
  have hnm := (name_of_methodNamed Bd.named Bd.method).1
  have X0 : Stand p l e ({ frames := 4, cells := 3, slots := 8, locals := 66 } : Room) s m #[(.int nn), (.int c0), (.int d0)] below meth c s₁ [] 0 0 := Stand.of_body Bd
  have e0 : s₁.heap = h0 := by rw [← hh, Bd.state]; rfl
  have NF := Fr.nil n0
  rw [own_ef10 m nn c0 d0]
  show own_Dn p e below s (own_Q10 Z nn c0 d0 cs h0 n0) 3 8 s₁ (mkF m 0 #[.val (.int nn), .val (.int c0), .val (.int d0)] [])
  have KP := Keep.refl h0 []
  refine own_go (T' := s₁) (g' := (mkF m 1 #[.val (.int nn), .val (.int c0), .val (.int d0)] [(.int nn)])) (fun _ k => XS.iloadN X0.here hx rfl (hb hby own_d10_0) rfl k) ?_
  refine own_go (T' := s₁) (g' := (mkF m 2 #[.val (.int nn), .val (.int c0), .val (.int d0)] [(.int (1 : Int32)), (.int nn)])) (fun _ k => XS.iconst X0.here hx rfl (hb hby own_d10_1) k) ?_
  by_cases c1 : nn = (1 : Int32)
  · refine own_go (T' := s₁) (g' := (mkF m 5 #[.val (.int nn), .val (.int c0), .val (.int d0)] [])) (fun _ k => XS.icmpNo X0.here hx rfl (hb hby own_d10_2) rfl (teq c1).2 k) ?_
    obtain ⟨T2, h2, X2, e2, E2, A2, D2, -, st2⟩ := newO X0 hx hZ hown (hw _ (List.mem_of_getElem? (i := 4) rfl)) (hw _ (List.mem_of_getElem? (i := 5) rfl)) (hw _ (List.mem_of_getElem? (i := 6) rfl)) e0 (g := (mkF m 5 #[.val (.int nn), .val (.int c0), .val (.int d0)] [])) rfl (hb hby own_d10_5) (by decide) (by decide)
    obtain ⟨b2, g2⟩ : ∃ z, z = h0.size := ⟨_, rfl⟩
    rw [← g2] at A2 D2 st2
    have g_b2 : n0 ≤ b2 := Nat.le_trans Zs (Nat.le_of_eq g2.symm)
    have sz_b2 : h0.size ≤ b2 := Nat.le_trans KP.1 (Nat.le_of_eq g2.symm)
    have OL := OL.ext E2
    have KP := KP.ext E2
    have Zs := Nat.le_trans Zs E2.1
    have E_b2 := A2
    have F_b2_coder : Fld Z h2 b2 "java/lang/String" "coder" "B" (.int (0 : Int32)) := D2 (Or.inr (hw _ (List.mem_of_getElem? (i := 31) rfl))) (ty := .byte) (by decide)
    have F_b2_value : Fld Z h2 b2 "java/lang/String" "value" "[B" .null := D2 (Or.inr (hw _ (List.mem_of_getElem? (i := 33) rfl))) (ty := (.array .byte)) (by decide)
    refine own_go (T' := T2) (g' := (mkF m 8 #[.val (.int nn), .val (.int c0), .val (.int d0)] [(.ref b2)])) (fun _ k => st2 _ k) ?_
    refine own_go (T' := T2) (g' := (mkF m 9 #[.val (.int nn), .val (.int c0), .val (.int d0)] [(.ref b2), (.ref b2)])) (fun _ k => XS.dup X2.here hx rfl (hb hby own_d10_8) rfl rfl k) ?_
    refine own_go (T' := T2) (g' := (mkF m 10 #[.val (.int nn), .val (.int c0), .val (.int d0)] [(.int (1 : Int32)), (.ref b2), (.ref b2)])) (fun _ k => XS.iconst X2.here hx rfl (hb hby own_d10_9) k) ?_
    obtain ⟨T3, h3, k3, X3, e3, E3, A3, st3⟩ := newP X2 hx hZ (hw _ (List.mem_of_getElem? (i := 7) rfl)) e2 (g := (mkF m 10 #[.val (.int nn), .val (.int c0), .val (.int d0)] [(.int (1 : Int32)), (.ref b2), (.ref b2)])) rfl (hb hby own_d10_10) rfl (by decide) (cap := 1) (by decide) (by decide) (by decide) (by decide)
    obtain ⟨b3, g3⟩ : ∃ z, z = h2.size := ⟨_, rfl⟩
    rw [← g3] at A3 st3
    have ne_b2_b3 : b2 ≠ b3 := Nat.ne_of_lt (Nat.lt_of_lt_of_le E_b2.lt (Nat.le_of_eq g3.symm))
    have g_b3 : n0 ≤ b3 := Nat.le_trans Zs (Nat.le_of_eq g3.symm)
    have sz_b3 : h0.size ≤ b3 := Nat.le_trans KP.1 (Nat.le_of_eq g3.symm)
    have OL := OL.ext E3
    have E_b2 := E_b2.ext E3
    have F_b2_coder := F_b2_coder.ext E3
    have F_b2_value := F_b2_value.ext E3
    have KP := KP.ext E3
    have Zs := Nat.le_trans Zs E3.1
    have V_b3 : Arv Z h3 b3 k3 .char (1 : Int32) [(.int (0 : Int32))] (.int (0 : Int32)) := (Arv.new A3 (by decide)).pad (pad_rep [] (.int (0 : Int32)) 1)
    refine own_go (T' := T3) (g' := (mkF m 12 #[.val (.int nn), .val (.int c0), .val (.int d0)] [(.ref b3), (.ref b2), (.ref b2)])) (fun _ k => st3 _ k) ?_
    refine own_go (T' := T3) (g' := (mkF m 13 #[.val (.int nn), .val (.int c0), .val (.int d0)] [(.ref b3), (.ref b3), (.ref b2), (.ref b2)])) (fun _ k => XS.dup X3.here hx rfl (hb hby own_d10_12) rfl rfl k) ?_
    refine own_go (T' := T3) (g' := (mkF m 14 #[.val (.int nn), .val (.int c0), .val (.int d0)] [(.int (0 : Int32)), (.ref b3), (.ref b3), (.ref b2), (.ref b2)])) (fun _ k => XS.iconst X3.here hx rfl (hb hby own_d10_13) k) ?_
    refine own_go (T' := T3) (g' := (mkF m 15 #[.val (.int nn), .val (.int c0), .val (.int d0)] [(.int c0), (.int (0 : Int32)), (.ref b3), (.ref b3), (.ref b2), (.ref b2)])) (fun _ k => XS.iloadN X3.here hx rfl (hb hby own_d10_14) rfl k) ?_
    obtain ⟨c_4, Ar_4, q_4, S_4, N_4, H_4, G_4⟩ := id V_b3
    have hin_4 : ¬ ((0 : Int32) < 0 ∨ c_4.slots.size ≤ ((0 : Int32)).toNatClampNeg) := inb_of S_4 ⟨by decide, by decide⟩
    obtain ⟨T4, h4, X4, e4, W4, st4⟩ := stC X3 hx hZ e3 Ar_4 (j := (0 : Int32)) hin_4 (g := (mkF m 15 #[.val (.int nn), .val (.int c0), .val (.int d0)] [(.int c0), (.int (0 : Int32)), (.ref b3), (.ref b3), (.ref b2), (.ref b2)])) rfl rfl (hb hby own_d10_15)
    have OL := OL.wr W4 g_b3
    have E_b2 := E_b2.wr W4
    have F_b2_coder := F_b2_coder.other W4 (Or.inl ne_b2_b3)
    have F_b2_value := F_b2_value.other W4 (Or.inl ne_b2_b3)
    have Zs := Nat.le_trans Zs (Keep.of_wr W4).1
    have V_b3 := Arv.set Ar_4 q_4 S_4 N_4 H_4 G_4 (fits_nar_char _) W4 0 rfl (Nat.le_of_ble_eq_true rfl)
    have KP := KP.wr W4 (Or.inr sz_b3)
    have NF := Fr.snoc X4 NF g_b3
    refine own_go (T' := T4) (g' := (mkF m 16 #[.val (.int nn), .val (.int c0), .val (.int d0)] [(.ref b3), (.ref b2), (.ref b2)])) (fun _ k => st4 _ k) ?_
    have lt_b2 := E_b2.lt
    have lt_b3 := V_b3.lt
    have KPo := KP
    obtain ⟨_, _, ⟨T5, L5, k5, n5⟩, -, X5, ⟨Lc5, hQ5, l5, y5, z5⟩, st5⟩ := X4.specialBack hx (y := (⟨"java/lang/String", "<init>", "([C)V"⟩ : MethodName)) rfl hown (mvT hZ (hw _ (List.mem_of_getElem? (i := 8) rfl))) (mvT hZ (hw _ (List.mem_of_getElem? (i := 9) rfl))) (mvT hZ (hw _ (List.mem_of_getElem? (i := 10) rfl))) (by decide) (backOf (W := 1) (own_rm2_1 l Z a0 hw [] b2 b3 k3 cs (nar .char c0) h4 n0 Zs F_b2_value F_b2_coder E_b2 g_b2 V_b3 ne_b2_b3 OL S_cs hcs (own_ncl hc0)) hZ (hw _ (List.mem_of_getElem? (i := 10) rfl)) (hw _ (List.mem_of_getElem? (i := 6) rfl)) (by decide) (by decide)) (g := (mkF m 16 #[.val (.int nn), .val (.int c0), .val (.int d0)] [(.ref b3), (.ref b2), (.ref b2)])) rfl (by rw [hml]; rfl) (Steps.refl _) (a := b2) (argsL := [(.ref b3)]) (rest := [(.ref b2)]) (lenOf own_pd10_0 rfl) rfl (by show 2 * 0 + _ ≤ _; exact Nat.le_of_eq rfl) (hb hby own_d10_16) (fun _ _ => ⟨rfl, e4, (by decide : 2 + 1 ≤ _), (by decide : 5 + 1 ≤ _)⟩)
    dsimp only [Pt.U, Pt.locs, Pt.cells, Pt.slots] at X5 l5 y5 z5 st5 hQ5
    subst l5 y5 z5
    obtain ⟨rfl, NQ5, K5, E_b2, ba5, kb5, ge_ba5, g_ba5, V_ba5, F_b2_value, F_b2_coder⟩ := hQ5
    have NF := Fr.app NF NQ5
    have OL := OL.keep K5 (allS g_b2 all0)
    have V_b3 := V_b3.keep K5 (ninS (Ne.symm ne_b2_b3) nin0)
    have Zs := Nat.le_trans Zs K5.1
    have KP := KP.trans K5 ((allS (Or.inr sz_b2) all0))
    have ne_b2_ba5 : b2 ≠ ba5 := Nat.ne_of_lt (Nat.lt_of_lt_of_le lt_b2 ge_ba5)
    have ne_b3_ba5 : b3 ≠ ba5 := Nat.ne_of_lt (Nat.lt_of_lt_of_le lt_b3 ge_ba5)
    have sz_ba5 : h0.size ≤ ba5 := Nat.le_trans KPo.1 ge_ba5
    refine own_go (T' := T5) (g' := (mkF m 19 #[.val (.int nn), .val (.int c0), .val (.int d0)] [(.ref b2)])) (fun _ k => st5.trans k) ?_
    refine own_ret X5 Bd.notSynchronized (some (.ref b2)) (fun h => by rw [Bd.returns] at h; cases h) (fun fs hr => retOut X5 hx (t := (.object "java/lang/String")) Bd.returns rfl (Or.inr (Or.inr (Or.inr (Or.inr ⟨rfl, rfl, rfl⟩)))) (hb hby own_d10_19) hr) ?_ (by decide) (by decide)
    show (own_Q10 Z nn c0 d0 cs h0 n0) (some (.ref b2)) T5.heap _
    exact ⟨NF, KP, b2, ba5, _, rfl, sz_b2, g_b2, sz_ba5, g_ba5, E_b2, (own_one c1 V_ba5), F_b2_value, F_b2_coder⟩
  · refine own_go (T' := s₁) (g' := (mkF m 20 #[.val (.int nn), .val (.int c0), .val (.int d0)] [])) (fun _ k => XS.icmpYes X0.here hx rfl (pc0 := 2) (pc' := 20) rfl (hb hby own_d10_2) rfl (feq c1).2 (by decide) (by decide) k) ?_
    obtain ⟨T6, h6, X6, e6, E6, A6, D6, -, st6⟩ := newO X0 hx hZ hown (hw _ (List.mem_of_getElem? (i := 4) rfl)) (hw _ (List.mem_of_getElem? (i := 5) rfl)) (hw _ (List.mem_of_getElem? (i := 6) rfl)) e0 (g := (mkF m 20 #[.val (.int nn), .val (.int c0), .val (.int d0)] [])) rfl (hb hby own_d10_20) (by decide) (by decide)
    obtain ⟨b6, g6⟩ : ∃ z, z = h0.size := ⟨_, rfl⟩
    rw [← g6] at A6 D6 st6
    have g_b6 : n0 ≤ b6 := Nat.le_trans Zs (Nat.le_of_eq g6.symm)
    have sz_b6 : h0.size ≤ b6 := Nat.le_trans KP.1 (Nat.le_of_eq g6.symm)
    have OL := OL.ext E6
    have KP := KP.ext E6
    have Zs := Nat.le_trans Zs E6.1
    have E_b6 := A6
    have F_b6_coder : Fld Z h6 b6 "java/lang/String" "coder" "B" (.int (0 : Int32)) := D6 (Or.inr (hw _ (List.mem_of_getElem? (i := 31) rfl))) (ty := .byte) (by decide)
    have F_b6_value : Fld Z h6 b6 "java/lang/String" "value" "[B" .null := D6 (Or.inr (hw _ (List.mem_of_getElem? (i := 33) rfl))) (ty := (.array .byte)) (by decide)
    refine own_go (T' := T6) (g' := (mkF m 23 #[.val (.int nn), .val (.int c0), .val (.int d0)] [(.ref b6)])) (fun _ k => st6 _ k) ?_
    refine own_go (T' := T6) (g' := (mkF m 24 #[.val (.int nn), .val (.int c0), .val (.int d0)] [(.ref b6), (.ref b6)])) (fun _ k => XS.dup X6.here hx rfl (hb hby own_d10_23) rfl rfl k) ?_
    refine own_go (T' := T6) (g' := (mkF m 25 #[.val (.int nn), .val (.int c0), .val (.int d0)] [(.int (2 : Int32)), (.ref b6), (.ref b6)])) (fun _ k => XS.iconst X6.here hx rfl (hb hby own_d10_24) k) ?_
    obtain ⟨T7, h7, k7, X7, e7, E7, A7, st7⟩ := newP X6 hx hZ (hw _ (List.mem_of_getElem? (i := 7) rfl)) e6 (g := (mkF m 25 #[.val (.int nn), .val (.int c0), .val (.int d0)] [(.int (2 : Int32)), (.ref b6), (.ref b6)])) rfl (hb hby own_d10_25) rfl (by decide) (cap := 2) (by decide) (by decide) (by decide) (by decide)
    obtain ⟨b7, g7⟩ : ∃ z, z = h6.size := ⟨_, rfl⟩
    rw [← g7] at A7 st7
    have ne_b6_b7 : b6 ≠ b7 := Nat.ne_of_lt (Nat.lt_of_lt_of_le E_b6.lt (Nat.le_of_eq g7.symm))
    have g_b7 : n0 ≤ b7 := Nat.le_trans Zs (Nat.le_of_eq g7.symm)
    have sz_b7 : h0.size ≤ b7 := Nat.le_trans KP.1 (Nat.le_of_eq g7.symm)
    have OL := OL.ext E7
    have E_b6 := E_b6.ext E7
    have F_b6_coder := F_b6_coder.ext E7
    have F_b6_value := F_b6_value.ext E7
    have KP := KP.ext E7
    have Zs := Nat.le_trans Zs E7.1
    have V_b7 : Arv Z h7 b7 k7 .char (2 : Int32) [(.int (0 : Int32)), (.int (0 : Int32))] (.int (0 : Int32)) := (Arv.new A7 (by decide)).pad (pad_rep [] (.int (0 : Int32)) 2)
    refine own_go (T' := T7) (g' := (mkF m 27 #[.val (.int nn), .val (.int c0), .val (.int d0)] [(.ref b7), (.ref b6), (.ref b6)])) (fun _ k => st7 _ k) ?_
    refine own_go (T' := T7) (g' := (mkF m 28 #[.val (.int nn), .val (.int c0), .val (.int d0)] [(.ref b7), (.ref b7), (.ref b6), (.ref b6)])) (fun _ k => XS.dup X7.here hx rfl (hb hby own_d10_27) rfl rfl k) ?_
    refine own_go (T' := T7) (g' := (mkF m 29 #[.val (.int nn), .val (.int c0), .val (.int d0)] [(.int (0 : Int32)), (.ref b7), (.ref b7), (.ref b6), (.ref b6)])) (fun _ k => XS.iconst X7.here hx rfl (hb hby own_d10_28) k) ?_
    refine own_go (T' := T7) (g' := (mkF m 30 #[.val (.int nn), .val (.int c0), .val (.int d0)] [(.int c0), (.int (0 : Int32)), (.ref b7), (.ref b7), (.ref b6), (.ref b6)])) (fun _ k => XS.iloadN X7.here hx rfl (hb hby own_d10_29) rfl k) ?_
    obtain ⟨c_8, Ar_8, q_8, S_8, N_8, H_8, G_8⟩ := id V_b7
    have hin_8 : ¬ ((0 : Int32) < 0 ∨ c_8.slots.size ≤ ((0 : Int32)).toNatClampNeg) := inb_of S_8 ⟨by decide, by decide⟩
    obtain ⟨T8, h8, X8, e8, W8, st8⟩ := stC X7 hx hZ e7 Ar_8 (j := (0 : Int32)) hin_8 (g := (mkF m 30 #[.val (.int nn), .val (.int c0), .val (.int d0)] [(.int c0), (.int (0 : Int32)), (.ref b7), (.ref b7), (.ref b6), (.ref b6)])) rfl rfl (hb hby own_d10_30)
    have OL := OL.wr W8 g_b7
    have E_b6 := E_b6.wr W8
    have F_b6_coder := F_b6_coder.other W8 (Or.inl ne_b6_b7)
    have F_b6_value := F_b6_value.other W8 (Or.inl ne_b6_b7)
    have Zs := Nat.le_trans Zs (Keep.of_wr W8).1
    have V_b7 := Arv.set Ar_8 q_8 S_8 N_8 H_8 G_8 (fits_nar_char _) W8 0 rfl (Nat.le_of_ble_eq_true rfl)
    have KP := KP.wr W8 (Or.inr sz_b7)
    have NF := Fr.snoc X8 NF g_b7
    refine own_go (T' := T8) (g' := (mkF m 31 #[.val (.int nn), .val (.int c0), .val (.int d0)] [(.ref b7), (.ref b6), (.ref b6)])) (fun _ k => st8 _ k) ?_
    refine own_go (T' := T8) (g' := (mkF m 32 #[.val (.int nn), .val (.int c0), .val (.int d0)] [(.ref b7), (.ref b7), (.ref b6), (.ref b6)])) (fun _ k => XS.dup X8.here hx rfl (hb hby own_d10_31) rfl rfl k) ?_
    refine own_go (T' := T8) (g' := (mkF m 33 #[.val (.int nn), .val (.int c0), .val (.int d0)] [(.int (1 : Int32)), (.ref b7), (.ref b7), (.ref b6), (.ref b6)])) (fun _ k => XS.iconst X8.here hx rfl (hb hby own_d10_32) k) ?_
    refine own_go (T' := T8) (g' := (mkF m 34 #[.val (.int nn), .val (.int c0), .val (.int d0)] [(.int d0), (.int (1 : Int32)), (.ref b7), (.ref b7), (.ref b6), (.ref b6)])) (fun _ k => XS.iloadN X8.here hx rfl (hb hby own_d10_33) rfl k) ?_
    obtain ⟨c_9, Ar_9, q_9, S_9, N_9, H_9, G_9⟩ := id V_b7
    have hin_9 : ¬ ((1 : Int32) < 0 ∨ c_9.slots.size ≤ ((1 : Int32)).toNatClampNeg) := inb_of S_9 ⟨by decide, by decide⟩
    obtain ⟨T9, h9, X9, e9, W9, st9⟩ := stC X8 hx hZ e8 Ar_9 (j := (1 : Int32)) hin_9 (g := (mkF m 34 #[.val (.int nn), .val (.int c0), .val (.int d0)] [(.int d0), (.int (1 : Int32)), (.ref b7), (.ref b7), (.ref b6), (.ref b6)])) rfl rfl (hb hby own_d10_34)
    have OL := OL.wr W9 g_b7
    have E_b6 := E_b6.wr W9
    have F_b6_coder := F_b6_coder.other W9 (Or.inl ne_b6_b7)
    have F_b6_value := F_b6_value.other W9 (Or.inl ne_b6_b7)
    have Zs := Nat.le_trans Zs (Keep.of_wr W9).1
    have V_b7 := Arv.set Ar_9 q_9 S_9 N_9 H_9 G_9 (fits_nar_char _) W9 1 rfl (Nat.le_of_ble_eq_true rfl)
    have KP := KP.wr W9 (Or.inr sz_b7)
    have NF := Fr.snoc X9 NF g_b7
    refine own_go (T' := T9) (g' := (mkF m 35 #[.val (.int nn), .val (.int c0), .val (.int d0)] [(.ref b7), (.ref b6), (.ref b6)])) (fun _ k => st9 _ k) ?_
    have lt_b6 := E_b6.lt
    have lt_b7 := V_b7.lt
    have KPo := KP
    obtain ⟨_, _, ⟨T10, L10, k10, n10⟩, -, X10, ⟨Lc10, hQ10, l10, y10, z10⟩, st10⟩ := X9.specialBack hx (y := (⟨"java/lang/String", "<init>", "([C)V"⟩ : MethodName)) rfl hown (mvT hZ (hw _ (List.mem_of_getElem? (i := 8) rfl))) (mvT hZ (hw _ (List.mem_of_getElem? (i := 9) rfl))) (mvT hZ (hw _ (List.mem_of_getElem? (i := 10) rfl))) (by decide) (backOf (W := 1) (own_rm2_2 l Z a0 hw [] b6 b7 k7 cs (nar .char c0) (nar .char d0) h9 n0 Zs F_b6_value F_b6_coder E_b6 g_b6 V_b7 ne_b6_b7 OL S_cs hcs (own_ncl hc0) (own_ncl hc1)) hZ (hw _ (List.mem_of_getElem? (i := 10) rfl)) (hw _ (List.mem_of_getElem? (i := 6) rfl)) (by decide) (by decide)) (g := (mkF m 35 #[.val (.int nn), .val (.int c0), .val (.int d0)] [(.ref b7), (.ref b6), (.ref b6)])) rfl (by rw [hml]; rfl) (Steps.refl _) (a := b6) (argsL := [(.ref b7)]) (rest := [(.ref b6)]) (lenOf own_pd10_0 rfl) rfl (by show 2 * 0 + _ ≤ _; exact Nat.le_of_eq rfl) (hb hby own_d10_35) (fun _ _ => ⟨rfl, e9, (by decide : 2 + 1 ≤ _), (by decide : 6 + 2 ≤ _)⟩)
    dsimp only [Pt.U, Pt.locs, Pt.cells, Pt.slots] at X10 l10 y10 z10 st10 hQ10
    subst l10 y10 z10
    obtain ⟨rfl, NQ10, K10, E_b6, ba10, kb10, ge_ba10, g_ba10, V_ba10, F_b6_value, F_b6_coder⟩ := hQ10
    have NF := Fr.app NF NQ10
    have OL := OL.keep K10 (allS g_b6 all0)
    have V_b7 := V_b7.keep K10 (ninS (Ne.symm ne_b6_b7) nin0)
    have Zs := Nat.le_trans Zs K10.1
    have KP := KP.trans K10 ((allS (Or.inr sz_b6) all0))
    have ne_b6_ba10 : b6 ≠ ba10 := Nat.ne_of_lt (Nat.lt_of_lt_of_le lt_b6 ge_ba10)
    have ne_b7_ba10 : b7 ≠ ba10 := Nat.ne_of_lt (Nat.lt_of_lt_of_le lt_b7 ge_ba10)
    have sz_ba10 : h0.size ≤ ba10 := Nat.le_trans KPo.1 ge_ba10
    refine own_go (T' := T10) (g' := (mkF m 38 #[.val (.int nn), .val (.int c0), .val (.int d0)] [(.ref b6)])) (fun _ k => st10.trans k) ?_
    refine own_ret X10 Bd.notSynchronized (some (.ref b6)) (fun h => by rw [Bd.returns] at h; cases h) (fun fs hr => retOut X10 hx (t := (.object "java/lang/String")) Bd.returns rfl (Or.inr (Or.inr (Or.inr (Or.inr ⟨rfl, rfl, rfl⟩)))) (hb hby own_d10_38) hr) ?_ (by decide) (by decide)
    show (own_Q10 Z nn c0 d0 cs h0 n0) (some (.ref b6)) T10.heap _
    exact ⟨NF, KP, b6, ba10, _, rfl, sz_b6, g_b6, sz_ba10, g_ba10, E_b6, (own_two hn c1 V_ba10), F_b6_value, F_b6_coder⟩
theorem own_d11_0 : decode jdk_31_method_11_code 0 = .ok (.aload_n 0, 1) := by decide +kernel
theorem own_d11_1 : decode jdk_31_method_11_code 1 = .ok (.ifnonnull 12, 3) := by decide +kernel
theorem own_d11_13 : decode jdk_31_method_11_code 13 = .ok (.aload_n 0, 1) := by decide +kernel
theorem own_d11_14 : decode jdk_31_method_11_code 14 = .ok (.areturn, 1) := by decide +kernel
theorem own_pn11 : plainName "java/util/Objects" = true := by first | (simp [plainName, overriddenIn]; done) | decide +kernel
theorem own_ef11 (m : MethodId) (a : Addr) (b : Addr) : entryFrame m #[(.ref a), (.ref b)] 2 = mkF m 0 #[.val (.ref a), .val (.ref b)] [] := by first | (simp [entryFrame, mkF, argsToLocals, Value.category]; done) | rfl
def own_Q11 (Z : State) (a : Addr) (b : Addr) (h0 : Heap) (n0 : Nat) (v : Option Value) (h : Heap) (L : List Loc) : Prop := v = some (.ref a) ∧ Fr n0 L ∧ h = h0
set_option maxRecDepth 65536 in
set_option maxHeartbeats 40000000 in
theorem own_rm11 (l : Launch) (Z : State) (a0 : Array Value) (hw : ∀ d ∈ tables_1, d.before a0 Z = true) (ws : List Jvm.Cond) (a : Addr) (b : Addr) (h0 : Heap) (n0 : Nat) (Zs : n0 ≤ h0.size)  :
    MetFree l (⟨"java/util/Objects", "requireNonNull", "(Ljava/lang/Object;Ljava/lang/String;)Ljava/lang/Object;"⟩ : MethodName) (head1 (Jvm.Cond.code (⟨"java/util/Objects", "requireNonNull", "(Ljava/lang/Object;Ljava/lang/String;)Ljava/lang/Object;"⟩ : MethodName) jdk_31_method_11_code 2 (some (.object "java/lang/Object")) :: ws) ({ frames := 0, cells := 0, slots := 0, locals := 0 } : Room)) (fun aA_ U => aA_ = #[(.ref a), (.ref b)] ∧ Z.Warmed39 U.vm ∧ U.heap = h0) (fun _ _ _ _ _ => True) (fun _ U o U' => ∃ v L, o = .returned v ∧ own_Q11 Z a b h0 n0 v U'.heap L ∧ FrameEnd U o U' L ({ frames := 0, cells := 0, slots := 0, locals := 0 } : Room).cells ({ frames := 0, cells := 0, slots := 0, locals := 0 } : Room).slots) := by
  refine MetFree.of_bodySF (plainFor_of_name own_pn11) hisR ?_
  intro p e s m args below meth c s₁ Bd hml0 hP hK
  obtain ⟨rfl, hZ, hh⟩ := hP
  have hx := Bd.exec
  have hby := Bd.bytes
  have hml : c.maxLocals = 2 := hml0
  have hown : s.vm.findClass "java/util/Objects" = some m.cls := findClass_of_methodNamed Bd.named
  have hnm := (name_of_methodNamed Bd.named Bd.method).1
  have X0 : Stand p l e ({ frames := 0, cells := 0, slots := 0, locals := 0 } : Room) s m #[(.ref a), (.ref b)] below meth c s₁ [] 0 0 := Stand.of_body Bd
  have e0 : s₁.heap = h0 := by rw [← hh, Bd.state]; rfl
  have NF := Fr.nil n0
  rw [own_ef11 m a b]
  show own_Dn p e below s (own_Q11 Z a b h0 n0) 0 0 s₁ (mkF m 0 #[.val (.ref a), .val (.ref b)] [])
  refine own_go (T' := s₁) (g' := (mkF m 1 #[.val (.ref a), .val (.ref b)] [(.ref a)])) (fun _ k => XS.aloadN X0.here hx rfl (hb hby own_d11_0) rfl rfl k) ?_
  refine own_go (T' := s₁) (g' := (mkF m 13 #[.val (.ref a), .val (.ref b)] [])) (fun _ k => XS.ifnonnullYes X0.here hx rfl (pc0 := 1) (pc' := 13) rfl (hb hby own_d11_1) rfl (by decide) (by decide) k) ?_
  refine own_go (T' := s₁) (g' := (mkF m 14 #[.val (.ref a), .val (.ref b)] [(.ref a)])) (fun _ k => XS.aloadN X0.here hx rfl (hb hby own_d11_13) rfl rfl k) ?_
  refine own_ret X0 Bd.notSynchronized (some (.ref a)) (fun h => by rw [Bd.returns] at h; cases h) (fun fs hr => retOut X0 hx (t := (.object "java/lang/Object")) Bd.returns rfl (Or.inr (Or.inr (Or.inr (Or.inr ⟨rfl, rfl, rfl⟩)))) (hb hby own_d11_14) hr) ?_ (by decide) (by decide)
  show (own_Q11 Z a b h0 n0) (some (.ref a)) s₁.heap _
  rw [e0]
  exact ⟨rfl, NF, rfl⟩
theorem own_d12_0 : decode jdk_42_method_55_code 0 = .ok (.aload_n 0, 1) := by decide +kernel
theorem own_d12_1 : decode jdk_42_method_55_code 1 = .ok (.getfield 9, 3) := by decide +kernel
theorem own_d12_4 : decode jdk_42_method_55_code 4 = .ok (.arraylength, 1) := by decide +kernel
theorem own_d12_5 : decode jdk_42_method_55_code 5 = .ok (.ifCond .ne 7, 3) := by decide +kernel
theorem own_d12_12 : decode jdk_42_method_55_code 12 = .ok (.iconst 0, 1) := by decide +kernel
theorem own_d12_13 : decode jdk_42_method_55_code 13 = .ok (.ireturn, 1) := by decide +kernel
theorem own_pn12 : plainName "java/lang/String" = true := by first | (simp [plainName, overriddenIn]; done) | decide +kernel
theorem own_ef12 (m : MethodId) (a : Addr) : entryFrame m #[(.ref a)] 1 = mkF m 0 #[.val (.ref a)] [] := by first | (simp [entryFrame, mkF, argsToLocals, Value.category]; done) | rfl
def own_Q12 (Z : State) (a : Addr) (va : Addr) (kv : ClassId) (nn : Int32) (x : Int32) (y : Int32) (h0 : Heap) (n0 : Nat) (v : Option Value) (h : Heap) (L : List Loc) : Prop := v = some (.int (0 : Int32)) ∧ Fr n0 L ∧ h = h0
set_option maxRecDepth 65536 in
set_option maxHeartbeats 40000000 in
theorem own_rm12 (l : Launch) (Z : State) (a0 : Array Value) (hw : ∀ d ∈ tables_1, d.before a0 Z = true) (ws : List Jvm.Cond) (a : Addr) (va : Addr) (kv : ClassId) (nn : Int32) (x : Int32) (y : Int32) (h0 : Heap) (n0 : Nat) (Zs : n0 ≤ h0.size) (F_a_value : Fld Z h0 a "java/lang/String" "value" "[B" (.ref va)) (V_va : Arv Z h0 va kv .byte nn [(.int x), (.int y)] (.int (0 : Int32))) (hn : ¬ (nn = (0 : Int32))) :
    MetFree l (⟨"java/lang/String", "isEmpty", "()Z"⟩ : MethodName) (head1 (Jvm.Cond.code (⟨"java/lang/String", "isEmpty", "()Z"⟩ : MethodName) jdk_42_method_55_code 1 (some .boolean) :: ws) ({ frames := 0, cells := 0, slots := 0, locals := 0 } : Room)) (fun aA_ U => aA_ = #[(.ref a)] ∧ Z.Warmed39 U.vm ∧ U.heap = h0) (fun _ _ _ _ _ => True) (fun _ U o U' => ∃ v L, o = .returned v ∧ own_Q12 Z a va kv nn x y h0 n0 v U'.heap L ∧ FrameEnd U o U' L ({ frames := 0, cells := 0, slots := 0, locals := 0 } : Room).cells ({ frames := 0, cells := 0, slots := 0, locals := 0 } : Room).slots) := by
  refine MetFree.of_bodySF (plainFor_of_name own_pn12) hisR ?_
  intro p e s m args below meth c s₁ Bd hml0 hP hK
  obtain ⟨rfl, hZ, hh⟩ := hP
  have hx := Bd.exec
  have hby := Bd.bytes
  have hml : c.maxLocals = 1 := hml0
  have hown : s.vm.findClass "java/lang/String" = some m.cls := findClass_of_methodNamed Bd.named
  have hnm := (name_of_methodNamed Bd.named Bd.method).1
  have X0 : Stand p l e ({ frames := 0, cells := 0, slots := 0, locals := 0 } : Room) s m #[(.ref a)] below meth c s₁ [] 0 0 := Stand.of_body Bd
  have e0 : s₁.heap = h0 := by rw [← hh, Bd.state]; rfl
  have NF := Fr.nil n0
  rw [own_ef12 m a]
  show own_Dn p e below s (own_Q12 Z a va kv nn x y h0 n0) 0 0 s₁ (mkF m 0 #[.val (.ref a)] [])
  refine own_go (T' := s₁) (g' := (mkF m 1 #[.val (.ref a)] [(.ref a)])) (fun _ k => XS.aloadN X0.here hx rfl (hb hby own_d12_0) rfl rfl k) ?_
  obtain ⟨T1, X1, e1, st1⟩ := getF X0 hx hZ hown (host := "") (Or.inl (hw _ (List.mem_of_getElem? (i := 32) rfl))) Via.refl e0 F_a_value (g := (mkF m 1 #[.val (.ref a)] [(.ref a)])) rfl rfl (hb hby own_d12_1)
  refine own_go (T' := T1) (g' := (mkF m 4 #[.val (.ref a)] [(.ref va)])) (fun _ k => st1 _ k) ?_
  obtain ⟨c_2, Ar_2, q_2, S_2, N_2, H_2, G_2⟩ := id V_va
  refine own_go (T' := T1) (g' := (mkF m 5 #[.val (.ref a)] [(.int nn)])) (fun _ k => X1.arraylength hx (by rw [e1]; exact Ar_2.1) (State.isArrayOf_alike hZ.alike Ar_2.2.1) (g := (mkF m 4 #[.val (.ref a)] [(.ref va)])) rfl rfl (hb hby own_d12_4) _ (by rw [len_of S_2 N_2]; exact k)) ?_
  refine own_go (T' := T1) (g' := (mkF m 12 #[.val (.ref a)] [])) (fun _ k => XS.ifYes X1.here hx rfl (pc0 := 5) (pc' := 12) rfl (hb hby own_d12_5) rfl ((if0 _ _).trans (feq hn).2) (by decide) (by decide) k) ?_
  refine own_go (T' := T1) (g' := (mkF m 13 #[.val (.ref a)] [(.int (0 : Int32))])) (fun _ k => XS.iconst X1.here hx rfl (hb hby own_d12_12) k) ?_
  refine own_ret X1 Bd.notSynchronized (some (.int (0 : Int32))) (fun h => by rw [Bd.returns] at h; cases h) (fun fs hr => retN X1 hx (t := .boolean) Bd.returns (by simp) (hb hby own_d12_13) hr) ?_ (by decide) (by decide)
  show (own_Q12 Z a va kv nn x y h0 n0) (some (.int (0 : Int32))) T1.heap _
  rw [e1]
  exact ⟨rfl, NF, rfl⟩
theorem own_strAtoms (Z : State) (a0 : Array Value) (hw : ∀ d ∈ tables_1, d.before a0 Z = true) : ∀ d ∈ Bundle.stringAtoms, d.before a0 Z = true := by
  intro d hd
  simp only [Bundle.stringAtoms, List.mem_cons, List.not_mem_nil, or_false] at hd
  rcases hd with rfl | rfl | rfl | rfl | rfl | rfl | rfl
  · exact (hw _ (List.mem_of_getElem? (i := 6) rfl))
  · exact (hw _ (List.mem_of_getElem? (i := 5) rfl))
  · exact (hw _ (List.mem_of_getElem? (i := 23) rfl))
  · exact (hw _ (List.mem_of_getElem? (i := 33) rfl))
  · exact (hw _ (List.mem_of_getElem? (i := 31) rfl))
  · exact (hw _ (List.mem_of_getElem? (i := 43) rfl))
  · exact (hw _ (List.mem_of_getElem? (i := 44) rfl))
theorem own_d20_0 : decode prog_35_method_1_code 0 = .ok (.aload_n 0, 1) := by decide +kernel
theorem own_d20_1 : decode prog_35_method_1_code 1 = .ok (.invokespecial 1, 3) := by decide +kernel
theorem own_d20_4 : decode prog_35_method_1_code 4 = .ok (.aload_n 1, 1) := by decide +kernel
theorem own_d20_5 : decode prog_35_method_1_code 5 = .ok (.ldc 7, 2) := by decide +kernel
theorem own_d20_7 : decode prog_35_method_1_code 7 = .ok (.invokestatic 9, 3) := by decide +kernel
theorem own_d20_10 : decode prog_35_method_1_code 10 = .ok (.pop, 1) := by decide +kernel
theorem own_d20_11 : decode prog_35_method_1_code 11 = .ok (.aload_n 1, 1) := by decide +kernel
theorem own_d20_12 : decode prog_35_method_1_code 12 = .ok (.invokevirtual 15, 3) := by decide +kernel
theorem own_d20_15 : decode prog_35_method_1_code 15 = .ok (.ifCond .eq 13, 3) := by decide +kernel
theorem own_d20_28 : decode prog_35_method_1_code 28 = .ok (.iload_n 2, 1) := by decide +kernel
theorem own_d20_29 : decode prog_35_method_1_code 29 = .ok (.ifCond .ge 17, 3) := by decide +kernel
theorem own_d20_46 : decode prog_35_method_1_code 46 = .ok (.aload_n 0, 1) := by decide +kernel
theorem own_d20_47 : decode prog_35_method_1_code 47 = .ok (.aload_n 1, 1) := by decide +kernel
theorem own_d20_48 : decode prog_35_method_1_code 48 = .ok (.putfield 32, 3) := by decide +kernel
theorem own_d20_51 : decode prog_35_method_1_code 51 = .ok (.aload_n 0, 1) := by decide +kernel
theorem own_d20_52 : decode prog_35_method_1_code 52 = .ok (.iload_n 2, 1) := by decide +kernel
theorem own_d20_53 : decode prog_35_method_1_code 53 = .ok (.putfield 37, 3) := by decide +kernel
theorem own_d20_56 : decode prog_35_method_1_code 56 = .ok (.return_, 1) := by decide +kernel
theorem own_pn20 : plainName "com/example/gentle_rebalance/gentlerebalance/engine/TopicPartition" = true := by first | (simp [plainName, overriddenIn]; done) | decide +kernel
theorem own_pd20_0 : parseMethodDescriptor "(Ljava/lang/Object;Ljava/lang/String;)Ljava/lang/Object;" = some ⟨[(.object "java/lang/Object"), (.object "java/lang/String")], some (.object "java/lang/Object")⟩ := by decide +kernel
theorem own_pd20_1 : parseMethodDescriptor "()Z" = some ⟨[], some .boolean⟩ := by decide +kernel
theorem own_ef20 (m : MethodId) (a : Addr) (t : Addr) (u : Int32) : entryFrame m #[(.ref a), (.ref t), (.int u)] 3 = mkF m 0 #[.val (.ref a), .val (.ref t), .val (.int u)] [] := by first | (simp [entryFrame, mkF, argsToLocals, Value.category]; done) | rfl
def own_Q20 (Z : State) (a : Addr) (t : Addr) (u : Int32) (va : Addr) (kv : ClassId) (nn : Int32) (x : Int32) (y : Int32) (h0 : Heap) (n0 : Nat) (v : Option Value) (h : Heap) (L : List Loc) : Prop := v = none ∧ Fr n0 L ∧ Keep h0 h [a] ∧ Exa Z h a "com/example/gentle_rebalance/gentlerebalance/engine/TopicPartition" ∧ Fld Z h a "com/example/gentle_rebalance/gentlerebalance/engine/TopicPartition" "topic" "Ljava/lang/String;" (.ref t) ∧ Fld Z h a "com/example/gentle_rebalance/gentlerebalance/engine/TopicPartition" "partition" "I" (.int u)
set_option maxRecDepth 65536 in
set_option maxHeartbeats 40000000 in
theorem own_rm20 (l : Launch) (Z : State) (a0 : Array Value) (hw : ∀ d ∈ tables_1, d.before a0 Z = true) (ws : List Jvm.Cond) (a : Addr) (t : Addr) (u : Int32) (va : Addr) (kv : ClassId) (nn : Int32) (x : Int32) (y : Int32) (h0 : Heap) (n0 : Nat) (Zs : n0 ≤ h0.size) (F_a_topic : Fld Z h0 a "com/example/gentle_rebalance/gentlerebalance/engine/TopicPartition" "topic" "Ljava/lang/String;" .null) (F_a_partition : Fld Z h0 a "com/example/gentle_rebalance/gentlerebalance/engine/TopicPartition" "partition" "I" (.int (0 : Int32))) (E_a : Exa Z h0 a "com/example/gentle_rebalance/gentlerebalance/engine/TopicPartition") (g_a : n0 ≤ a) (ne_a_t : a ≠ t) (ne_a_va : a ≠ va) (E_t : Exa Z h0 t "java/lang/String") (F_t_value : Fld Z h0 t "java/lang/String" "value" "[B" (.ref va)) (V_va : Arv Z h0 va kv .byte nn [(.int x), (.int y)] (.int (0 : Int32))) (hn : ¬ (nn = (0 : Int32))) (hu : ¬ (u < (0 : Int32))) :
    MetFree l (⟨"com/example/gentle_rebalance/gentlerebalance/engine/TopicPartition", "<init>", "(Ljava/lang/String;I)V"⟩ : MethodName) (head1 (Jvm.Cond.code (⟨"com/example/gentle_rebalance/gentlerebalance/engine/TopicPartition", "<init>", "(Ljava/lang/String;I)V"⟩ : MethodName) prog_35_method_1_code 3 none :: ws) ({ frames := 1, cells := 2, slots := 24, locals := 13 } : Room)) (fun aA_ U => aA_ = #[(.ref a), (.ref t), (.int u)] ∧ Z.Warmed39 U.vm ∧ U.heap = h0) (fun _ _ _ _ _ => True) (fun _ U o U' => ∃ v L, o = .returned v ∧ own_Q20 Z a t u va kv nn x y h0 n0 v U'.heap L ∧ ReturnedEndW U o U' L ({ frames := 1, cells := 2, slots := 24, locals := 13 } : Room).cells ({ frames := 1, cells := 2, slots := 24, locals := 13 } : Room).slots) := by
  refine MetFree.of_bodySF (plainFor_of_name own_pn20) hisR ?_
  intro p e s m args below meth c s₁ Bd hml0 hP hK
  obtain ⟨rfl, hZ, hh⟩ := hP
  have hx := Bd.exec
  have hby := Bd.bytes
  have hml : c.maxLocals = 3 := hml0
  have hown : s.vm.findClass "com/example/gentle_rebalance/gentlerebalance/engine/TopicPartition" = some m.cls := findClass_of_methodNamed Bd.named
  have hnm := (name_of_methodNamed Bd.named Bd.method).1
  have X0 : Stand p l e ({ frames := 1, cells := 2, slots := 24, locals := 13 } : Room) s m #[(.ref a), (.ref t), (.int u)] below meth c s₁ [] 0 0 := Stand.of_body Bd
  have e0 : s₁.heap = h0 := by rw [← hh, Bd.state]; rfl
  have NF := Fr.nil n0
  rw [own_ef20 m a t u]
  show own_DnW p e below s (own_Q20 Z a t u va kv nn x y h0 n0) 2 24 s₁ (mkF m 0 #[.val (.ref a), .val (.ref t), .val (.int u)] [])
  have KP := Keep.refl h0 [a]
  have hSi : s.Since s.vm 0 := (State.WarmedH.refl s).since 0
  have hKi : 0 ≤ h0.size := Nat.zero_le _
  refine own_goW (T' := s₁) (g' := (mkF m 1 #[.val (.ref a), .val (.ref t), .val (.int u)] [(.ref a)])) (fun _ k => XS.aloadN X0.here hx rfl (hb hby own_d20_0) rfl rfl k) ?_
  obtain ⟨T1, X1, e1, st1⟩ := initO X0 hx hZ hown (hw _ (List.mem_of_getElem? (i := 41) rfl)) (hw _ (List.mem_of_getElem? (i := 16) rfl)) (hw _ (List.mem_of_getElem? (i := 17) rfl)) e0 (g := (mkF m 1 #[.val (.ref a), .val (.ref t), .val (.int u)] [(.ref a)])) rfl (by rw [hml]; rfl) rfl (hb hby own_d20_1) (by decide) (W := 0) (by show 2 * 0 + _ ≤ _; exact Nat.le_of_eq rfl) (by decide)
  refine own_goW (T' := T1) (g' := (mkF m 4 #[.val (.ref a), .val (.ref t), .val (.int u)] [])) (fun _ k => st1 _ k) ?_
  refine own_goW (T' := T1) (g' := (mkF m 5 #[.val (.ref a), .val (.ref t), .val (.int u)] [(.ref t)])) (fun _ k => XS.aloadN X1.here hx rfl (hb hby own_d20_4) rfl rfl k) ?_
  obtain ⟨b2, T2, h2, k2, X2, e2, E2, hSi, hKj2, hZ, hown, st2⟩ := ldcS (s := s) (vm0 := s.vm) X1 hx hZ hown (hw _ (List.mem_of_getElem? (i := 42) rfl)) (own_strAtoms Z a0 hw) e1 hSi hKi (g := (mkF m 5 #[.val (.ref a), .val (.ref t), .val (.int u)] [(.ref t)])) rfl (hb hby own_d20_5) (n := 20) (by decide) (by decide) (by decide) (by decide)
  have E_a := E_a.ext E2
  have F_a_topic := F_a_topic.ext E2
  have F_a_partition := F_a_partition.ext E2
  have E_t := E_t.ext E2
  have F_t_value := F_t_value.ext E2
  have V_va := V_va.ext E2
  have KP := KP.ext E2
  have hKi := Nat.le_trans hKi E2.1
  have Zs := Nat.le_trans Zs E2.1
  have hKi : k2 ≤ h2.size := hKj2
  refine own_goW (T' := T2) (g' := (mkF m 7 #[.val (.ref a), .val (.ref t), .val (.int u)] [(.ref b2), (.ref t)])) (fun _ k => st2 _ k) ?_
  obtain ⟨_, _, ⟨T3, L3, k3, n3⟩, -, X3, ⟨Lc3, hQ3, l3, y3, z3⟩, st3⟩ := Jvm.LawKit.callS X2 hx (y := (⟨"java/util/Objects", "requireNonNull", "(Ljava/lang/Object;Ljava/lang/String;)Ljava/lang/Object;"⟩ : MethodName)) hown (mvT hZ (hw _ (List.mem_of_getElem? (i := 45) rfl))) (mvT hZ (hw _ (List.mem_of_getElem? (i := 46) rfl))) (mvT hZ (hw _ (List.mem_of_getElem? (i := 47) rfl))) (mvT hZ (hw _ (List.mem_of_getElem? (i := 48) rfl))) (by decide) (backOf (W := 0) (own_rm11 l Z a0 hw [] t b2 h2 n0 Zs) hZ (hw _ (List.mem_of_getElem? (i := 48) rfl)) (hw _ (List.mem_of_getElem? (i := 47) rfl)) (by decide) (by decide)) (g := (mkF m 7 #[.val (.ref a), .val (.ref t), .val (.int u)] [(.ref b2), (.ref t)])) rfl (by rw [hml]; rfl) (argsL := [(.ref t), (.ref b2)]) (rest := []) (lenOf own_pd20_0 rfl) rfl (by show 2 * 0 + _ ≤ _; exact Nat.le_of_eq rfl) (hb hby own_d20_7) (fun _ _ => ⟨rfl, e2, (by decide : 2 + 0 ≤ _), (by decide : 24 + 0 ≤ _)⟩)
  dsimp only [Pt.U, Pt.locs, Pt.cells, Pt.slots] at X3 l3 y3 z3 st3 hQ3
  subst l3 y3 z3
  obtain ⟨rfl, NQ3, eq3⟩ := hQ3
  have NF := Fr.app NF NQ3
  refine own_goW (T' := T3) (g' := (mkF m 10 #[.val (.ref a), .val (.ref t), .val (.int u)] [(.ref t)])) (fun _ k => st3 _ k) ?_
  refine own_goW (T' := T3) (g' := (mkF m 11 #[.val (.ref a), .val (.ref t), .val (.int u)] [])) (fun _ k => XS.pop X3.here hx rfl (hb hby own_d20_10) rfl rfl k) ?_
  refine own_goW (T' := T3) (g' := (mkF m 12 #[.val (.ref a), .val (.ref t), .val (.int u)] [(.ref t)])) (fun _ k => XS.aloadN X3.here hx rfl (hb hby own_d20_11) rfl rfl k) ?_
  obtain ⟨cq4, kq4, q4a, q4b, q4c⟩ := isOf hZ eq3 E_t
  obtain ⟨_, _, ⟨T4, L4, k4, n4⟩, -, X4, ⟨Lc4, hQ4, l4, y4, z4⟩, st4⟩ := X3.virtualBack hx (y := (⟨"java/lang/String", "isEmpty", "()Z"⟩ : MethodName)) (z := (⟨"java/lang/String", "isEmpty", "()Z"⟩ : MethodName)) hown (mvT hZ (hw _ (List.mem_of_getElem? (i := 49) rfl))) (mvT hZ (hw _ (List.mem_of_getElem? (i := 50) rfl))) (notFace_of_selects (args := #[]) (mvT hZ (hw _ (List.mem_of_getElem? (i := 52) rfl)))) (mvT hZ (hw _ (List.mem_of_getElem? (i := 52) rfl))) (mvT hZ (hw _ (List.mem_of_getElem? (i := 51) rfl))) (by decide) (backOf (W := 0) (own_rm12 l Z a0 hw [] t va kv nn x y h2 n0 Zs F_t_value V_va hn) hZ (hw _ (List.mem_of_getElem? (i := 53) rfl)) (hw _ (List.mem_of_getElem? (i := 6) rfl)) (by decide) (by decide)) q4a q4c (g := (mkF m 12 #[.val (.ref a), .val (.ref t), .val (.int u)] [(.ref t)])) rfl (by rw [hml]; rfl) (Steps.refl _) (argsL := []) (rest := []) (lenOf own_pd20_1 rfl) rfl (by show 2 * 0 + _ ≤ _; exact Nat.le_of_eq rfl) (hb hby own_d20_12) (fun _ _ => ⟨rfl, eq3, (by decide : 2 + 0 ≤ _), (by decide : 24 + 0 ≤ _)⟩)
  dsimp only [Pt.U, Pt.locs, Pt.cells, Pt.slots] at X4 l4 y4 z4 st4 hQ4
  subst l4 y4 z4
  obtain ⟨rfl, NQ4, eq4⟩ := hQ4
  have NF := Fr.app NF NQ4
  refine own_goW (T' := T4) (g' := (mkF m 15 #[.val (.ref a), .val (.ref t), .val (.int u)] [(.int (0 : Int32))])) (fun _ k => st4.trans k) ?_
  refine own_goW (T' := T4) (g' := (mkF m 28 #[.val (.ref a), .val (.ref t), .val (.int u)] [])) (fun _ k => XS.ifYes X4.here hx rfl (pc0 := 15) (pc' := 28) rfl (hb hby own_d20_15) rfl (by decide) (by decide) (by decide) k) ?_
  refine own_goW (T' := T4) (g' := (mkF m 29 #[.val (.ref a), .val (.ref t), .val (.int u)] [(.int u)])) (fun _ k => XS.iloadN X4.here hx rfl (hb hby own_d20_28) rfl k) ?_
  refine own_goW (T' := T4) (g' := (mkF m 46 #[.val (.ref a), .val (.ref t), .val (.int u)] [])) (fun _ k => XS.ifYes X4.here hx rfl (pc0 := 29) (pc' := 46) rfl (hb hby own_d20_29) rfl ((if0 _ _).trans (flt hu).2.1) (by decide) (by decide) k) ?_
  refine own_goW (T' := T4) (g' := (mkF m 47 #[.val (.ref a), .val (.ref t), .val (.int u)] [(.ref a)])) (fun _ k => XS.aloadN X4.here hx rfl (hb hby own_d20_46) rfl rfl k) ?_
  refine own_goW (T' := T4) (g' := (mkF m 48 #[.val (.ref a), .val (.ref t), .val (.int u)] [(.ref t), (.ref a)])) (fun _ k => XS.aloadN X4.here hx rfl (hb hby own_d20_47) rfl rfl k) ?_
  obtain ⟨T5, h5, X5, e5, W5, st5⟩ := putF X4 hx hZ hown (host := "") (Or.inl (hw _ (List.mem_of_getElem? (i := 54) rfl))) Via.refl eq4 F_a_topic E_a (Or.inr ⟨(hw _ (List.mem_of_getElem? (i := 55) rfl)), rfl, hnm⟩) (hw _ (List.mem_of_getElem? (i := 36) rfl)) (ty := (.object "java/lang/String")) (by decide) rfl rfl (g := (mkF m 48 #[.val (.ref a), .val (.ref t), .val (.int u)] [(.ref t), (.ref a)])) rfl rfl (hb hby own_d20_48)
  have E_a := E_a.wr W5
  have F_a_partition := F_a_partition.other W5 (Or.inr (slot_ne (Or.inr (hw _ (List.mem_of_getElem? (i := 57) rfl))) (Or.inr (hw _ (List.mem_of_getElem? (i := 55) rfl))) (by decide) (t := .int) (t' := (.object "java/lang/String")) (by decide) (by decide)))
  have E_t := E_t.wr W5
  have F_t_value := F_t_value.other W5 (Or.inl (Ne.symm ne_a_t))
  have V_va := V_va.other W5 (Ne.symm ne_a_va)
  have hKi := Nat.le_trans hKi (Keep.of_wr W5).1
  have Zs := Nat.le_trans Zs (Keep.of_wr W5).1
  have F_a_topic := F_a_topic.same W5
  have KP := KP.wr W5 (Or.inl (by simp))
  have NF := Fr.snoc X5 NF g_a
  refine own_goW (T' := T5) (g' := (mkF m 51 #[.val (.ref a), .val (.ref t), .val (.int u)] [])) (fun _ k => st5 _ k) ?_
  refine own_goW (T' := T5) (g' := (mkF m 52 #[.val (.ref a), .val (.ref t), .val (.int u)] [(.ref a)])) (fun _ k => XS.aloadN X5.here hx rfl (hb hby own_d20_51) rfl rfl k) ?_
  refine own_goW (T' := T5) (g' := (mkF m 53 #[.val (.ref a), .val (.ref t), .val (.int u)] [(.int u), (.ref a)])) (fun _ k => XS.iloadN X5.here hx rfl (hb hby own_d20_52) rfl k) ?_
  obtain ⟨T6, h6, X6, e6, W6, st6⟩ := putF X5 hx hZ hown (host := "") (Or.inl (hw _ (List.mem_of_getElem? (i := 56) rfl))) Via.refl e5 F_a_partition E_a (Or.inr ⟨(hw _ (List.mem_of_getElem? (i := 57) rfl)), rfl, hnm⟩) (hw _ (List.mem_of_getElem? (i := 36) rfl)) (ty := .int) (by decide) rfl rfl (g := (mkF m 53 #[.val (.ref a), .val (.ref t), .val (.int u)] [(.int u), (.ref a)])) rfl rfl (hb hby own_d20_53)
  have E_a := E_a.wr W6
  have E_t := E_t.wr W6
  have F_t_value := F_t_value.other W6 (Or.inl (Ne.symm ne_a_t))
  have V_va := V_va.other W6 (Ne.symm ne_a_va)
  have F_a_topic := F_a_topic.other W6 (Or.inr (slot_ne (Or.inr (hw _ (List.mem_of_getElem? (i := 55) rfl))) (Or.inr (hw _ (List.mem_of_getElem? (i := 57) rfl))) (by decide) (t := (.object "java/lang/String")) (t' := .int) (by decide) (by decide)))
  have hKi := Nat.le_trans hKi (Keep.of_wr W6).1
  have Zs := Nat.le_trans Zs (Keep.of_wr W6).1
  have F_a_partition := F_a_partition.same W6
  have KP := KP.wr W6 (Or.inl (by simp))
  have NF := Fr.snoc X6 NF g_a
  refine own_goW (T' := T6) (g' := (mkF m 56 #[.val (.ref a), .val (.ref t), .val (.int u)] [])) (fun _ k => st6 _ k) ?_
  refine own_retW (s := s) (vm₁ := T2.vm) X6 Bd.notSynchronized none (fun _ => rfl) (fun fs hr => X6.returnOut hx Bd.returns (hb hby own_d20_56) hr) ?_ (by decide) (by decide) hSi (by rw [e6]; exact hKi)
  show (own_Q20 Z a t u va kv nn x y h0 n0) none T6.heap _
  rw [e6]
  exact ⟨rfl, NF, KP, E_a, F_a_topic, F_a_partition⟩
theorem own_d13_0 : decode jdk_43_method_13_code 0 = .ok (.aload_n 0, 1) := by decide +kernel
theorem own_d13_1 : decode jdk_43_method_13_code 1 = .ok (.arraylength, 1) := by decide +kernel
theorem own_d13_2 : decode jdk_43_method_13_code 2 = .ok (.aload_n 1, 1) := by decide +kernel
theorem own_d13_3 : decode jdk_43_method_13_code 3 = .ok (.arraylength, 1) := by decide +kernel
theorem own_d13_4 : decode jdk_43_method_13_code 4 = .ok (.if_icmp .ne 30, 3) := by decide +kernel
theorem own_d13_7 : decode jdk_43_method_13_code 7 = .ok (.iconst 0, 1) := by decide +kernel
theorem own_d13_8 : decode jdk_43_method_13_code 8 = .ok (.istore_n 2, 1) := by decide +kernel
theorem own_d13_9 : decode jdk_43_method_13_code 9 = .ok (.iload_n 2, 1) := by decide +kernel
theorem own_d13_10 : decode jdk_43_method_13_code 10 = .ok (.aload_n 0, 1) := by decide +kernel
theorem own_d13_11 : decode jdk_43_method_13_code 11 = .ok (.arraylength, 1) := by decide +kernel
theorem own_d13_12 : decode jdk_43_method_13_code 12 = .ok (.if_icmp .ge 20, 3) := by decide +kernel
theorem own_d13_15 : decode jdk_43_method_13_code 15 = .ok (.aload_n 0, 1) := by decide +kernel
theorem own_d13_16 : decode jdk_43_method_13_code 16 = .ok (.iload_n 2, 1) := by decide +kernel
theorem own_d13_17 : decode jdk_43_method_13_code 17 = .ok (.baload, 1) := by decide +kernel
theorem own_d13_18 : decode jdk_43_method_13_code 18 = .ok (.aload_n 1, 1) := by decide +kernel
theorem own_d13_19 : decode jdk_43_method_13_code 19 = .ok (.iload_n 2, 1) := by decide +kernel
theorem own_d13_20 : decode jdk_43_method_13_code 20 = .ok (.baload, 1) := by decide +kernel
theorem own_d13_21 : decode jdk_43_method_13_code 21 = .ok (.if_icmp .eq 5, 3) := by decide +kernel
theorem own_d13_24 : decode jdk_43_method_13_code 24 = .ok (.iconst 0, 1) := by decide +kernel
theorem own_d13_25 : decode jdk_43_method_13_code 25 = .ok (.ireturn, 1) := by decide +kernel
theorem own_d13_26 : decode jdk_43_method_13_code 26 = .ok (.iinc 2 1, 3) := by decide +kernel
theorem own_d13_29 : decode jdk_43_method_13_code 29 = .ok (.goto (-20), 3) := by decide +kernel
theorem own_d13_32 : decode jdk_43_method_13_code 32 = .ok (.iconst 1, 1) := by decide +kernel
theorem own_d13_33 : decode jdk_43_method_13_code 33 = .ok (.ireturn, 1) := by decide +kernel
theorem own_d13_34 : decode jdk_43_method_13_code 34 = .ok (.iconst 0, 1) := by decide +kernel
theorem own_d13_35 : decode jdk_43_method_13_code 35 = .ok (.ireturn, 1) := by decide +kernel
theorem own_pn13 : plainName "java/lang/StringLatin1" = true := by first | (simp [plainName, overriddenIn]; done) | decide +kernel
theorem own_ef13 (m : MethodId) (va : Addr) (vb : Addr) : entryFrame m #[(.ref va), (.ref vb)] 3 = mkF m 0 #[.val (.ref va), .val (.ref vb), .unset] [] := by first | (simp [entryFrame, mkF, argsToLocals, Value.category]; done) | rfl
def own_Q13 (Z : State) (va : Addr) (vb : Addr) (ka : ClassId) (nn : Int32) (x : Int32) (y : Int32) (kb : ClassId) (mm : Int32) (xb : Int32) (yb : Int32) (h0 : Heap) (n0 : Nat) (v : Option Value) (h : Heap) (L : List Loc) : Prop := ∃ r : Int32, v = some (.int r) ∧ Fr n0 L ∧ h = h0 ∧ ((r = (1 : Int32) ∧ (nn = mm ∧ x = xb ∧ (nn = (1 : Int32) ∨ y = yb))) ∨ (r = (0 : Int32) ∧ ¬ (nn = mm ∧ x = xb ∧ (nn = (1 : Int32) ∨ y = yb))))
set_option maxRecDepth 65536 in
set_option maxHeartbeats 40000000 in
theorem own_rm13 (l : Launch) (Z : State) (a0 : Array Value) (hw : ∀ d ∈ tables_1, d.before a0 Z = true) (ws : List Jvm.Cond) (va : Addr) (vb : Addr) (ka : ClassId) (nn : Int32) (x : Int32) (y : Int32) (kb : ClassId) (mm : Int32) (xb : Int32) (yb : Int32) (h0 : Heap) (n0 : Nat) (Zs : n0 ≤ h0.size) (V_va : Arv Z h0 va ka .byte nn [(.int x), (.int y)] (.int (0 : Int32))) (V_vb : Arv Z h0 vb kb .byte mm [(.int xb), (.int yb)] (.int (0 : Int32))) (hn : nn.toInt = 1 ∨ nn.toInt = 2) (hm : mm.toInt = 1 ∨ mm.toInt = 2) :
    MetFree l (⟨"java/lang/StringLatin1", "equals", "([B[B)Z"⟩ : MethodName) (head1 (Jvm.Cond.code (⟨"java/lang/StringLatin1", "equals", "([B[B)Z"⟩ : MethodName) jdk_43_method_13_code 3 (some .boolean) :: ws) ({ frames := 0, cells := 0, slots := 0, locals := 0 } : Room)) (fun aA_ U => aA_ = #[(.ref va), (.ref vb)] ∧ Z.Warmed39 U.vm ∧ U.heap = h0) (fun _ _ _ _ _ => True) (fun _ U o U' => ∃ v L, o = .returned v ∧ own_Q13 Z va vb ka nn x y kb mm xb yb h0 n0 v U'.heap L ∧ FrameEnd U o U' L ({ frames := 0, cells := 0, slots := 0, locals := 0 } : Room).cells ({ frames := 0, cells := 0, slots := 0, locals := 0 } : Room).slots) := by
  refine MetFree.of_bodySF (plainFor_of_name own_pn13) hisR ?_
  intro p e s m args below meth c s₁ Bd hml0 hP hK
  obtain ⟨rfl, hZ, hh⟩ := hP
  have hx := Bd.exec
  have hby := Bd.bytes
  have hml : c.maxLocals = 3 := hml0
  have hown : s.vm.findClass "java/lang/StringLatin1" = some m.cls := findClass_of_methodNamed Bd.named
  have hnm := (name_of_methodNamed Bd.named Bd.method).1
  have X0 : Stand p l e ({ frames := 0, cells := 0, slots := 0, locals := 0 } : Room) s m #[(.ref va), (.ref vb)] below meth c s₁ [] 0 0 := Stand.of_body Bd
  have e0 : s₁.heap = h0 := by rw [← hh, Bd.state]; rfl
  have NF := Fr.nil n0
  rw [own_ef13 m va vb]
  show own_Dn p e below s (own_Q13 Z va vb ka nn x y kb mm xb yb h0 n0) 0 0 s₁ (mkF m 0 #[.val (.ref va), .val (.ref vb), .unset] [])
  have hp0 : (0 : Int32) < nn := by (try simp only [own_l0, own_l1, own_l2, own_l3, own_l4, own_l8, own_l31, own_l255, own_l2147483647, Int32.lt_iff_toInt_lt, ← Int32.toInt_inj, Int64.lt_iff_toInt_lt, ← Int64.toInt_inj, and_true, true_and, and_false, false_and, or_true, true_or, or_false, false_or, not_true_eq_false, not_false_eq_true, ne_eq, true_implies, false_implies, implies_true] at  ⊢) <;> omega
  have hp2 : ¬ ((2 : Int32) < nn) := by (try simp only [own_l0, own_l1, own_l2, own_l3, own_l4, own_l8, own_l31, own_l255, own_l2147483647, Int32.lt_iff_toInt_lt, ← Int32.toInt_inj, Int64.lt_iff_toInt_lt, ← Int64.toInt_inj, and_true, true_and, and_false, false_and, or_true, true_or, or_false, false_or, not_true_eq_false, not_false_eq_true, ne_eq, true_implies, false_implies, implies_true] at  ⊢) <;> omega
  refine own_go (T' := s₁) (g' := (mkF m 1 #[.val (.ref va), .val (.ref vb), .unset] [(.ref va)])) (fun _ k => XS.aloadN X0.here hx rfl (hb hby own_d13_0) rfl rfl k) ?_
  obtain ⟨c_1, Ar_1, q_1, S_1, N_1, H_1, G_1⟩ := id V_va
  refine own_go (T' := s₁) (g' := (mkF m 2 #[.val (.ref va), .val (.ref vb), .unset] [(.int nn)])) (fun _ k => X0.arraylength hx (by rw [e0]; exact Ar_1.1) (State.isArrayOf_alike hZ.alike Ar_1.2.1) (g := (mkF m 1 #[.val (.ref va), .val (.ref vb), .unset] [(.ref va)])) rfl rfl (hb hby own_d13_1) _ (by rw [len_of S_1 N_1]; exact k)) ?_
  refine own_go (T' := s₁) (g' := (mkF m 3 #[.val (.ref va), .val (.ref vb), .unset] [(.ref vb), (.int nn)])) (fun _ k => XS.aloadN X0.here hx rfl (hb hby own_d13_2) rfl rfl k) ?_
  obtain ⟨c_2, Ar_2, q_2, S_2, N_2, H_2, G_2⟩ := id V_vb
  refine own_go (T' := s₁) (g' := (mkF m 4 #[.val (.ref va), .val (.ref vb), .unset] [(.int mm), (.int nn)])) (fun _ k => X0.arraylength hx (by rw [e0]; exact Ar_2.1) (State.isArrayOf_alike hZ.alike Ar_2.2.1) (g := (mkF m 3 #[.val (.ref va), .val (.ref vb), .unset] [(.ref vb), (.int nn)])) rfl rfl (hb hby own_d13_3) _ (by rw [len_of S_2 N_2]; exact k)) ?_
  by_cases c3 : nn = mm
  · refine own_go (T' := s₁) (g' := (mkF m 7 #[.val (.ref va), .val (.ref vb), .unset] [])) (fun _ k => XS.icmpNo X0.here hx rfl (hb hby own_d13_4) rfl (teq c3).2 k) ?_
    refine own_go (T' := s₁) (g' := (mkF m 8 #[.val (.ref va), .val (.ref vb), .unset] [(.int (0 : Int32))])) (fun _ k => XS.iconst X0.here hx rfl (hb hby own_d13_7) k) ?_
    refine own_go (T' := s₁) (g' := (mkF m 9 #[.val (.ref va), .val (.ref vb), .val (.int (0 : Int32))] [])) (fun _ k => XS.istoreN X0.here hx rfl (hb hby own_d13_8) rfl (l' := #[.val (.ref va), .val (.ref vb), .val (.int (0 : Int32))]) rfl k) ?_
    refine own_go (T' := s₁) (g' := (mkF m 10 #[.val (.ref va), .val (.ref vb), .val (.int (0 : Int32))] [(.int (0 : Int32))])) (fun _ k => XS.iloadN X0.here hx rfl (hb hby own_d13_9) rfl k) ?_
    refine own_go (T' := s₁) (g' := (mkF m 11 #[.val (.ref va), .val (.ref vb), .val (.int (0 : Int32))] [(.ref va), (.int (0 : Int32))])) (fun _ k => XS.aloadN X0.here hx rfl (hb hby own_d13_10) rfl rfl k) ?_
    obtain ⟨c_4, Ar_4, q_4, S_4, N_4, H_4, G_4⟩ := id V_va
    refine own_go (T' := s₁) (g' := (mkF m 12 #[.val (.ref va), .val (.ref vb), .val (.int (0 : Int32))] [(.int nn), (.int (0 : Int32))])) (fun _ k => X0.arraylength hx (by rw [e0]; exact Ar_4.1) (State.isArrayOf_alike hZ.alike Ar_4.2.1) (g := (mkF m 11 #[.val (.ref va), .val (.ref vb), .val (.int (0 : Int32))] [(.ref va), (.int (0 : Int32))])) rfl rfl (hb hby own_d13_11) _ (by rw [len_of S_4 N_4]; exact k)) ?_
    refine own_go (T' := s₁) (g' := (mkF m 15 #[.val (.ref va), .val (.ref vb), .val (.int (0 : Int32))] [])) (fun _ k => XS.icmpNo X0.here hx rfl (hb hby own_d13_12) rfl (tlt hp0).2.1 k) ?_
    refine own_go (T' := s₁) (g' := (mkF m 16 #[.val (.ref va), .val (.ref vb), .val (.int (0 : Int32))] [(.ref va)])) (fun _ k => XS.aloadN X0.here hx rfl (hb hby own_d13_15) rfl rfl k) ?_
    refine own_go (T' := s₁) (g' := (mkF m 17 #[.val (.ref va), .val (.ref vb), .val (.int (0 : Int32))] [(.int (0 : Int32)), (.ref va)])) (fun _ k => XS.iloadN X0.here hx rfl (hb hby own_d13_16) rfl k) ?_
    obtain ⟨c_5, Ar_5, q_5, S_5, N_5, H_5, G_5⟩ := id V_va
    have hin_5 : ¬ ((0 : Int32) < 0 ∨ c_5.slots.size ≤ ((0 : Int32)).toNatClampNeg) := inb_of S_5 ⟨by decide, by (try simp only [own_l0, own_l1, own_l2, own_l3, own_l4, own_l8, own_l31, own_l255, own_l2147483647, Int32.lt_iff_toInt_lt, ← Int32.toInt_inj, Int64.lt_iff_toInt_lt, ← Int64.toInt_inj, and_true, true_and, and_false, false_and, or_true, true_or, or_false, false_or, not_true_eq_false, not_false_eq_true, ne_eq, true_implies, false_implies, implies_true] at hp0 c3 ⊢) <;> omega⟩
    have hat_5 : c_5.slots[((0 : Int32)).toNatClampNeg]? = some (.int x) := H_5.at hin_5 rfl
    refine own_go (T' := s₁) (g' := (mkF m 18 #[.val (.ref va), .val (.ref vb), .val (.int (0 : Int32))] [(.int x)])) (fun _ k => X0.baloadBytes hx (j := (0 : Int32)) (v := (.int x)) (by rw [e0]; exact Ar_5.1) (State.isArrayOf_alike hZ.alike Ar_5.2.1) Ar_5.2.2 hin_5 hat_5 (g := (mkF m 17 #[.val (.ref va), .val (.ref vb), .val (.int (0 : Int32))] [(.int (0 : Int32)), (.ref va)])) rfl rfl (hb hby own_d13_17) _ k) ?_
    refine own_go (T' := s₁) (g' := (mkF m 19 #[.val (.ref va), .val (.ref vb), .val (.int (0 : Int32))] [(.ref vb), (.int x)])) (fun _ k => XS.aloadN X0.here hx rfl (hb hby own_d13_18) rfl rfl k) ?_
    refine own_go (T' := s₁) (g' := (mkF m 20 #[.val (.ref va), .val (.ref vb), .val (.int (0 : Int32))] [(.int (0 : Int32)), (.ref vb), (.int x)])) (fun _ k => XS.iloadN X0.here hx rfl (hb hby own_d13_19) rfl k) ?_
    obtain ⟨c_6, Ar_6, q_6, S_6, N_6, H_6, G_6⟩ := id V_vb
    have hin_6 : ¬ ((0 : Int32) < 0 ∨ c_6.slots.size ≤ ((0 : Int32)).toNatClampNeg) := inb_of S_6 ⟨by decide, by (try simp only [own_l0, own_l1, own_l2, own_l3, own_l4, own_l8, own_l31, own_l255, own_l2147483647, Int32.lt_iff_toInt_lt, ← Int32.toInt_inj, Int64.lt_iff_toInt_lt, ← Int64.toInt_inj, and_true, true_and, and_false, false_and, or_true, true_or, or_false, false_or, not_true_eq_false, not_false_eq_true, ne_eq, true_implies, false_implies, implies_true] at hp0 c3 ⊢) <;> omega⟩
    have hat_6 : c_6.slots[((0 : Int32)).toNatClampNeg]? = some (.int xb) := H_6.at hin_6 rfl
    refine own_go (T' := s₁) (g' := (mkF m 21 #[.val (.ref va), .val (.ref vb), .val (.int (0 : Int32))] [(.int xb), (.int x)])) (fun _ k => X0.baloadBytes hx (j := (0 : Int32)) (v := (.int xb)) (by rw [e0]; exact Ar_6.1) (State.isArrayOf_alike hZ.alike Ar_6.2.1) Ar_6.2.2 hin_6 hat_6 (g := (mkF m 20 #[.val (.ref va), .val (.ref vb), .val (.int (0 : Int32))] [(.int (0 : Int32)), (.ref vb), (.int x)])) rfl rfl (hb hby own_d13_20) _ k) ?_
    by_cases c7 : x = xb
    · refine own_go (T' := s₁) (g' := (mkF m 26 #[.val (.ref va), .val (.ref vb), .val (.int (0 : Int32))] [])) (fun _ k => XS.icmpYes X0.here hx rfl (pc0 := 21) (pc' := 26) rfl (hb hby own_d13_21) rfl (teq c7).1 (by decide) (by decide) k) ?_
      refine own_go (T' := s₁) (g' := (mkF m 29 #[.val (.ref va), .val (.ref vb), .val (.int (1 : Int32))] [])) (fun _ k => XS.iinc X0.here hx rfl (hb hby own_d13_26) rfl (l' := #[.val (.ref va), .val (.ref vb), .val (.int (1 : Int32))]) rfl k) ?_
      refine own_go (T' := s₁) (g' := (mkF m 9 #[.val (.ref va), .val (.ref vb), .val (.int (1 : Int32))] [])) (fun _ k => XS.goto X0.here hx rfl (pc0 := 29) (pc' := 9) rfl (hb hby own_d13_29) (by decide) (by decide) k) ?_
      refine own_go (T' := s₁) (g' := (mkF m 10 #[.val (.ref va), .val (.ref vb), .val (.int (1 : Int32))] [(.int (1 : Int32))])) (fun _ k => XS.iloadN X0.here hx rfl (hb hby own_d13_9) rfl k) ?_
      refine own_go (T' := s₁) (g' := (mkF m 11 #[.val (.ref va), .val (.ref vb), .val (.int (1 : Int32))] [(.ref va), (.int (1 : Int32))])) (fun _ k => XS.aloadN X0.here hx rfl (hb hby own_d13_10) rfl rfl k) ?_
      obtain ⟨c_8, Ar_8, q_8, S_8, N_8, H_8, G_8⟩ := id V_va
      refine own_go (T' := s₁) (g' := (mkF m 12 #[.val (.ref va), .val (.ref vb), .val (.int (1 : Int32))] [(.int nn), (.int (1 : Int32))])) (fun _ k => X0.arraylength hx (by rw [e0]; exact Ar_8.1) (State.isArrayOf_alike hZ.alike Ar_8.2.1) (g := (mkF m 11 #[.val (.ref va), .val (.ref vb), .val (.int (1 : Int32))] [(.ref va), (.int (1 : Int32))])) rfl rfl (hb hby own_d13_11) _ (by rw [len_of S_8 N_8]; exact k)) ?_
      by_cases c9 : (1 : Int32) < nn
      · refine own_go (T' := s₁) (g' := (mkF m 15 #[.val (.ref va), .val (.ref vb), .val (.int (1 : Int32))] [])) (fun _ k => XS.icmpNo X0.here hx rfl (hb hby own_d13_12) rfl (tlt c9).2.1 k) ?_
        refine own_go (T' := s₁) (g' := (mkF m 16 #[.val (.ref va), .val (.ref vb), .val (.int (1 : Int32))] [(.ref va)])) (fun _ k => XS.aloadN X0.here hx rfl (hb hby own_d13_15) rfl rfl k) ?_
        refine own_go (T' := s₁) (g' := (mkF m 17 #[.val (.ref va), .val (.ref vb), .val (.int (1 : Int32))] [(.int (1 : Int32)), (.ref va)])) (fun _ k => XS.iloadN X0.here hx rfl (hb hby own_d13_16) rfl k) ?_
        obtain ⟨c_10, Ar_10, q_10, S_10, N_10, H_10, G_10⟩ := id V_va
        have hin_10 : ¬ ((1 : Int32) < 0 ∨ c_10.slots.size ≤ ((1 : Int32)).toNatClampNeg) := inb_of S_10 ⟨by decide, by (try simp only [own_l0, own_l1, own_l2, own_l3, own_l4, own_l8, own_l31, own_l255, own_l2147483647, Int32.lt_iff_toInt_lt, ← Int32.toInt_inj, Int64.lt_iff_toInt_lt, ← Int64.toInt_inj, and_true, true_and, and_false, false_and, or_true, true_or, or_false, false_or, not_true_eq_false, not_false_eq_true, ne_eq, true_implies, false_implies, implies_true] at hp0 c3 c7 c9 ⊢) <;> omega⟩
        have hat_10 : c_10.slots[((1 : Int32)).toNatClampNeg]? = some (.int y) := H_10.at hin_10 rfl
        refine own_go (T' := s₁) (g' := (mkF m 18 #[.val (.ref va), .val (.ref vb), .val (.int (1 : Int32))] [(.int y)])) (fun _ k => X0.baloadBytes hx (j := (1 : Int32)) (v := (.int y)) (by rw [e0]; exact Ar_10.1) (State.isArrayOf_alike hZ.alike Ar_10.2.1) Ar_10.2.2 hin_10 hat_10 (g := (mkF m 17 #[.val (.ref va), .val (.ref vb), .val (.int (1 : Int32))] [(.int (1 : Int32)), (.ref va)])) rfl rfl (hb hby own_d13_17) _ k) ?_
        refine own_go (T' := s₁) (g' := (mkF m 19 #[.val (.ref va), .val (.ref vb), .val (.int (1 : Int32))] [(.ref vb), (.int y)])) (fun _ k => XS.aloadN X0.here hx rfl (hb hby own_d13_18) rfl rfl k) ?_
        refine own_go (T' := s₁) (g' := (mkF m 20 #[.val (.ref va), .val (.ref vb), .val (.int (1 : Int32))] [(.int (1 : Int32)), (.ref vb), (.int y)])) (fun _ k => XS.iloadN X0.here hx rfl (hb hby own_d13_19) rfl k) ?_
        obtain ⟨c_11, Ar_11, q_11, S_11, N_11, H_11, G_11⟩ := id V_vb
        have hin_11 : ¬ ((1 : Int32) < 0 ∨ c_11.slots.size ≤ ((1 : Int32)).toNatClampNeg) := inb_of S_11 ⟨by decide, by (try simp only [own_l0, own_l1, own_l2, own_l3, own_l4, own_l8, own_l31, own_l255, own_l2147483647, Int32.lt_iff_toInt_lt, ← Int32.toInt_inj, Int64.lt_iff_toInt_lt, ← Int64.toInt_inj, and_true, true_and, and_false, false_and, or_true, true_or, or_false, false_or, not_true_eq_false, not_false_eq_true, ne_eq, true_implies, false_implies, implies_true] at hp0 c3 c7 c9 ⊢) <;> omega⟩
        have hat_11 : c_11.slots[((1 : Int32)).toNatClampNeg]? = some (.int yb) := H_11.at hin_11 rfl
        refine own_go (T' := s₁) (g' := (mkF m 21 #[.val (.ref va), .val (.ref vb), .val (.int (1 : Int32))] [(.int yb), (.int y)])) (fun _ k => X0.baloadBytes hx (j := (1 : Int32)) (v := (.int yb)) (by rw [e0]; exact Ar_11.1) (State.isArrayOf_alike hZ.alike Ar_11.2.1) Ar_11.2.2 hin_11 hat_11 (g := (mkF m 20 #[.val (.ref va), .val (.ref vb), .val (.int (1 : Int32))] [(.int (1 : Int32)), (.ref vb), (.int y)])) rfl rfl (hb hby own_d13_20) _ k) ?_
        by_cases c12 : y = yb
        · refine own_go (T' := s₁) (g' := (mkF m 26 #[.val (.ref va), .val (.ref vb), .val (.int (1 : Int32))] [])) (fun _ k => XS.icmpYes X0.here hx rfl (pc0 := 21) (pc' := 26) rfl (hb hby own_d13_21) rfl (teq c12).1 (by decide) (by decide) k) ?_
          refine own_go (T' := s₁) (g' := (mkF m 29 #[.val (.ref va), .val (.ref vb), .val (.int (2 : Int32))] [])) (fun _ k => XS.iinc X0.here hx rfl (hb hby own_d13_26) rfl (l' := #[.val (.ref va), .val (.ref vb), .val (.int (2 : Int32))]) rfl k) ?_
          refine own_go (T' := s₁) (g' := (mkF m 9 #[.val (.ref va), .val (.ref vb), .val (.int (2 : Int32))] [])) (fun _ k => XS.goto X0.here hx rfl (pc0 := 29) (pc' := 9) rfl (hb hby own_d13_29) (by decide) (by decide) k) ?_
          refine own_go (T' := s₁) (g' := (mkF m 10 #[.val (.ref va), .val (.ref vb), .val (.int (2 : Int32))] [(.int (2 : Int32))])) (fun _ k => XS.iloadN X0.here hx rfl (hb hby own_d13_9) rfl k) ?_
          refine own_go (T' := s₁) (g' := (mkF m 11 #[.val (.ref va), .val (.ref vb), .val (.int (2 : Int32))] [(.ref va), (.int (2 : Int32))])) (fun _ k => XS.aloadN X0.here hx rfl (hb hby own_d13_10) rfl rfl k) ?_
          obtain ⟨c_13, Ar_13, q_13, S_13, N_13, H_13, G_13⟩ := id V_va
          refine own_go (T' := s₁) (g' := (mkF m 12 #[.val (.ref va), .val (.ref vb), .val (.int (2 : Int32))] [(.int nn), (.int (2 : Int32))])) (fun _ k => X0.arraylength hx (by rw [e0]; exact Ar_13.1) (State.isArrayOf_alike hZ.alike Ar_13.2.1) (g := (mkF m 11 #[.val (.ref va), .val (.ref vb), .val (.int (2 : Int32))] [(.ref va), (.int (2 : Int32))])) rfl rfl (hb hby own_d13_11) _ (by rw [len_of S_13 N_13]; exact k)) ?_
          refine own_go (T' := s₁) (g' := (mkF m 32 #[.val (.ref va), .val (.ref vb), .val (.int (2 : Int32))] [])) (fun _ k => XS.icmpYes X0.here hx rfl (pc0 := 12) (pc' := 32) rfl (hb hby own_d13_12) rfl (flt hp2).2.1 (by decide) (by decide) k) ?_
          refine own_go (T' := s₁) (g' := (mkF m 33 #[.val (.ref va), .val (.ref vb), .val (.int (2 : Int32))] [(.int (1 : Int32))])) (fun _ k => XS.iconst X0.here hx rfl (hb hby own_d13_32) k) ?_
          refine own_ret X0 Bd.notSynchronized (some (.int (1 : Int32))) (fun h => by rw [Bd.returns] at h; cases h) (fun fs hr => retN X0 hx (t := .boolean) Bd.returns (by simp) (hb hby own_d13_33) hr) ?_ (by decide) (by decide)
          show (own_Q13 Z va vb ka nn x y kb mm xb yb h0 n0) (some (.int (1 : Int32))) s₁.heap _
          rw [e0]
          exact ⟨_, rfl, NF, rfl, by (try simp only [own_l0, own_l1, own_l2, own_l3, own_l4, own_l8, own_l31, own_l255, own_l2147483647, Int32.lt_iff_toInt_lt, ← Int32.toInt_inj, Int64.lt_iff_toInt_lt, ← Int64.toInt_inj, and_true, true_and, and_false, false_and, or_true, true_or, or_false, false_or, not_true_eq_false, not_false_eq_true, ne_eq, true_implies, false_implies, implies_true] at c3 c7 c9 c12 ⊢) <;> omega⟩
        · refine own_go (T' := s₁) (g' := (mkF m 24 #[.val (.ref va), .val (.ref vb), .val (.int (1 : Int32))] [])) (fun _ k => XS.icmpNo X0.here hx rfl (hb hby own_d13_21) rfl (feq c12).1 k) ?_
          refine own_go (T' := s₁) (g' := (mkF m 25 #[.val (.ref va), .val (.ref vb), .val (.int (1 : Int32))] [(.int (0 : Int32))])) (fun _ k => XS.iconst X0.here hx rfl (hb hby own_d13_24) k) ?_
          refine own_ret X0 Bd.notSynchronized (some (.int (0 : Int32))) (fun h => by rw [Bd.returns] at h; cases h) (fun fs hr => retN X0 hx (t := .boolean) Bd.returns (by simp) (hb hby own_d13_25) hr) ?_ (by decide) (by decide)
          show (own_Q13 Z va vb ka nn x y kb mm xb yb h0 n0) (some (.int (0 : Int32))) s₁.heap _
          rw [e0]
          exact ⟨_, rfl, NF, rfl, by (try simp only [own_l0, own_l1, own_l2, own_l3, own_l4, own_l8, own_l31, own_l255, own_l2147483647, Int32.lt_iff_toInt_lt, ← Int32.toInt_inj, Int64.lt_iff_toInt_lt, ← Int64.toInt_inj, and_true, true_and, and_false, false_and, or_true, true_or, or_false, false_or, not_true_eq_false, not_false_eq_true, ne_eq, true_implies, false_implies, implies_true] at c3 c7 c9 c12 ⊢) <;> omega⟩
      · refine own_go (T' := s₁) (g' := (mkF m 32 #[.val (.ref va), .val (.ref vb), .val (.int (1 : Int32))] [])) (fun _ k => XS.icmpYes X0.here hx rfl (pc0 := 12) (pc' := 32) rfl (hb hby own_d13_12) rfl (flt c9).2.1 (by decide) (by decide) k) ?_
        refine own_go (T' := s₁) (g' := (mkF m 33 #[.val (.ref va), .val (.ref vb), .val (.int (1 : Int32))] [(.int (1 : Int32))])) (fun _ k => XS.iconst X0.here hx rfl (hb hby own_d13_32) k) ?_
        refine own_ret X0 Bd.notSynchronized (some (.int (1 : Int32))) (fun h => by rw [Bd.returns] at h; cases h) (fun fs hr => retN X0 hx (t := .boolean) Bd.returns (by simp) (hb hby own_d13_33) hr) ?_ (by decide) (by decide)
        show (own_Q13 Z va vb ka nn x y kb mm xb yb h0 n0) (some (.int (1 : Int32))) s₁.heap _
        rw [e0]
        exact ⟨_, rfl, NF, rfl, by (try simp only [own_l0, own_l1, own_l2, own_l3, own_l4, own_l8, own_l31, own_l255, own_l2147483647, Int32.lt_iff_toInt_lt, ← Int32.toInt_inj, Int64.lt_iff_toInt_lt, ← Int64.toInt_inj, and_true, true_and, and_false, false_and, or_true, true_or, or_false, false_or, not_true_eq_false, not_false_eq_true, ne_eq, true_implies, false_implies, implies_true] at c3 c7 c9 ⊢) <;> omega⟩
    · refine own_go (T' := s₁) (g' := (mkF m 24 #[.val (.ref va), .val (.ref vb), .val (.int (0 : Int32))] [])) (fun _ k => XS.icmpNo X0.here hx rfl (hb hby own_d13_21) rfl (feq c7).1 k) ?_
      refine own_go (T' := s₁) (g' := (mkF m 25 #[.val (.ref va), .val (.ref vb), .val (.int (0 : Int32))] [(.int (0 : Int32))])) (fun _ k => XS.iconst X0.here hx rfl (hb hby own_d13_24) k) ?_
      refine own_ret X0 Bd.notSynchronized (some (.int (0 : Int32))) (fun h => by rw [Bd.returns] at h; cases h) (fun fs hr => retN X0 hx (t := .boolean) Bd.returns (by simp) (hb hby own_d13_25) hr) ?_ (by decide) (by decide)
      show (own_Q13 Z va vb ka nn x y kb mm xb yb h0 n0) (some (.int (0 : Int32))) s₁.heap _
      rw [e0]
      exact ⟨_, rfl, NF, rfl, by (try simp only [own_l0, own_l1, own_l2, own_l3, own_l4, own_l8, own_l31, own_l255, own_l2147483647, Int32.lt_iff_toInt_lt, ← Int32.toInt_inj, Int64.lt_iff_toInt_lt, ← Int64.toInt_inj, and_true, true_and, and_false, false_and, or_true, true_or, or_false, false_or, not_true_eq_false, not_false_eq_true, ne_eq, true_implies, false_implies, implies_true] at c3 c7 ⊢) <;> omega⟩
  · refine own_go (T' := s₁) (g' := (mkF m 34 #[.val (.ref va), .val (.ref vb), .unset] [])) (fun _ k => XS.icmpYes X0.here hx rfl (pc0 := 4) (pc' := 34) rfl (hb hby own_d13_4) rfl (feq c3).2 (by decide) (by decide) k) ?_
    refine own_go (T' := s₁) (g' := (mkF m 35 #[.val (.ref va), .val (.ref vb), .unset] [(.int (0 : Int32))])) (fun _ k => XS.iconst X0.here hx rfl (hb hby own_d13_34) k) ?_
    refine own_ret X0 Bd.notSynchronized (some (.int (0 : Int32))) (fun h => by rw [Bd.returns] at h; cases h) (fun fs hr => retN X0 hx (t := .boolean) Bd.returns (by simp) (hb hby own_d13_35) hr) ?_ (by decide) (by decide)
    show (own_Q13 Z va vb ka nn x y kb mm xb yb h0 n0) (some (.int (0 : Int32))) s₁.heap _
    rw [e0]
    exact ⟨_, rfl, NF, rfl, by (try simp only [own_l0, own_l1, own_l2, own_l3, own_l4, own_l8, own_l31, own_l255, own_l2147483647, Int32.lt_iff_toInt_lt, ← Int32.toInt_inj, Int64.lt_iff_toInt_lt, ← Int64.toInt_inj, and_true, true_and, and_false, false_and, or_true, true_or, or_false, false_or, not_true_eq_false, not_false_eq_true, ne_eq, true_implies, false_implies, implies_true] at c3 ⊢) <;> omega⟩
theorem own_d14_0 : decode jdk_42_method_66_code 0 = .ok (.aload_n 0, 1) := by decide +kernel
theorem own_d14_1 : decode jdk_42_method_66_code 1 = .ok (.aload_n 1, 1) := by decide +kernel
theorem own_d14_2 : decode jdk_42_method_66_code 2 = .ok (.if_acmp .ne 5, 3) := by decide +kernel
theorem own_d14_7 : decode jdk_42_method_66_code 7 = .ok (.aload_n 1, 1) := by decide +kernel
theorem own_d14_8 : decode jdk_42_method_66_code 8 = .ok (.instanceof 10, 3) := by decide +kernel
theorem own_d14_11 : decode jdk_42_method_66_code 11 = .ok (.ifCond .eq 43, 3) := by decide +kernel
theorem own_d14_14 : decode jdk_42_method_66_code 14 = .ok (.aload_n 1, 1) := by decide +kernel
theorem own_d14_15 : decode jdk_42_method_66_code 15 = .ok (.checkcast 10, 3) := by decide +kernel
theorem own_d14_18 : decode jdk_42_method_66_code 18 = .ok (.astore_n 2, 1) := by decide +kernel
theorem own_d14_19 : decode jdk_42_method_66_code 19 = .ok (.getstatic 38, 3) := by decide +kernel
theorem own_d14_22 : decode jdk_42_method_66_code 22 = .ok (.ifCond .eq 14, 3) := by decide +kernel
theorem own_d14_25 : decode jdk_42_method_66_code 25 = .ok (.aload_n 0, 1) := by decide +kernel
theorem own_d14_26 : decode jdk_42_method_66_code 26 = .ok (.getfield 15, 3) := by decide +kernel
theorem own_d14_29 : decode jdk_42_method_66_code 29 = .ok (.aload_n 2, 1) := by decide +kernel
theorem own_d14_30 : decode jdk_42_method_66_code 30 = .ok (.getfield 15, 3) := by decide +kernel
theorem own_d14_33 : decode jdk_42_method_66_code 33 = .ok (.if_icmp .ne 21, 3) := by decide +kernel
theorem own_d14_36 : decode jdk_42_method_66_code 36 = .ok (.aload_n 0, 1) := by decide +kernel
theorem own_d14_37 : decode jdk_42_method_66_code 37 = .ok (.getfield 9, 3) := by decide +kernel
theorem own_d14_40 : decode jdk_42_method_66_code 40 = .ok (.aload_n 2, 1) := by decide +kernel
theorem own_d14_41 : decode jdk_42_method_66_code 41 = .ok (.getfield 9, 3) := by decide +kernel
theorem own_d14_44 : decode jdk_42_method_66_code 44 = .ok (.invokestatic 541, 3) := by decide +kernel
theorem own_d14_47 : decode jdk_42_method_66_code 47 = .ok (.ifCond .eq 7, 3) := by decide +kernel
theorem own_d14_50 : decode jdk_42_method_66_code 50 = .ok (.iconst 1, 1) := by decide +kernel
theorem own_d14_51 : decode jdk_42_method_66_code 51 = .ok (.goto 4, 3) := by decide +kernel
theorem own_d14_54 : decode jdk_42_method_66_code 54 = .ok (.iconst 0, 1) := by decide +kernel
theorem own_d14_55 : decode jdk_42_method_66_code 55 = .ok (.ireturn, 1) := by decide +kernel
theorem own_pn14 : plainName "java/lang/String" = true := by first | (simp [plainName, overriddenIn]; done) | decide +kernel
theorem own_pd14_0 : parseMethodDescriptor "([B[B)Z" = some ⟨[(.array .byte), (.array .byte)], some .boolean⟩ := by decide +kernel
theorem own_ef14 (m : MethodId) (a : Addr) (b : Addr) : entryFrame m #[(.ref a), (.ref b)] 3 = mkF m 0 #[.val (.ref a), .val (.ref b), .unset] [] := by first | (simp [entryFrame, mkF, argsToLocals, Value.category]; done) | rfl
def own_Q14 (Z : State) (a : Addr) (b : Addr) (va : Addr) (ka : ClassId) (nn : Int32) (x : Int32) (y : Int32) (vb : Addr) (kb : ClassId) (mm : Int32) (xb : Int32) (yb : Int32) (cs : Int32) (h0 : Heap) (n0 : Nat) (v : Option Value) (h : Heap) (L : List Loc) : Prop := ∃ r : Int32, v = some (.int r) ∧ Fr n0 L ∧ h = h0 ∧ ((r = (1 : Int32) ∧ (nn = mm ∧ x = xb ∧ (nn = (1 : Int32) ∨ y = yb))) ∨ (r = (0 : Int32) ∧ ¬ (nn = mm ∧ x = xb ∧ (nn = (1 : Int32) ∨ y = yb))))
set_option maxRecDepth 65536 in
set_option maxHeartbeats 40000000 in
theorem own_rm14 (l : Launch) (Z : State) (a0 : Array Value) (hw : ∀ d ∈ tables_1, d.before a0 Z = true) (ws : List Jvm.Cond) (a : Addr) (b : Addr) (va : Addr) (ka : ClassId) (nn : Int32) (x : Int32) (y : Int32) (vb : Addr) (kb : ClassId) (mm : Int32) (xb : Int32) (yb : Int32) (cs : Int32) (h0 : Heap) (n0 : Nat) (Zs : n0 ≤ h0.size) (OL : Old Z n0 h0) (S_cs : Sta Z Z.heap "java/lang/String" "COMPACT_STRINGS" "Z" (.int cs)) (hcs : ¬ (cs = (0 : Int32))) (F_a_value : Fld Z h0 a "java/lang/String" "value" "[B" (.ref va)) (F_a_coder : Fld Z h0 a "java/lang/String" "coder" "B" (.int (0 : Int32))) (F_b_value : Fld Z h0 b "java/lang/String" "value" "[B" (.ref vb)) (F_b_coder : Fld Z h0 b "java/lang/String" "coder" "B" (.int (0 : Int32))) (E_b : Exa Z h0 b "java/lang/String") (ne_a_b : a ≠ b) (V_va : Arv Z h0 va ka .byte nn [(.int x), (.int y)] (.int (0 : Int32))) (V_vb : Arv Z h0 vb kb .byte mm [(.int xb), (.int yb)] (.int (0 : Int32))) (hn : nn.toInt = 1 ∨ nn.toInt = 2) (hm : mm.toInt = 1 ∨ mm.toInt = 2) :
    MetFree l (⟨"java/lang/String", "equals", "(Ljava/lang/Object;)Z"⟩ : MethodName) (head1 (Jvm.Cond.code (⟨"java/lang/String", "equals", "(Ljava/lang/Object;)Z"⟩ : MethodName) jdk_42_method_66_code 3 (some .boolean) :: ws) ({ frames := 1, cells := 0, slots := 0, locals := 14 } : Room)) (fun aA_ U => aA_ = #[(.ref a), (.ref b)] ∧ Z.Warmed39 U.vm ∧ U.heap = h0) (fun _ _ _ _ _ => True) (fun _ U o U' => ∃ v L, o = .returned v ∧ own_Q14 Z a b va ka nn x y vb kb mm xb yb cs h0 n0 v U'.heap L ∧ FrameEnd U o U' L ({ frames := 1, cells := 0, slots := 0, locals := 14 } : Room).cells ({ frames := 1, cells := 0, slots := 0, locals := 14 } : Room).slots) := by
  refine MetFree.of_bodySF (plainFor_of_name own_pn14) hisR ?_
  intro p e s m args below meth c s₁ Bd hml0 hP hK
  obtain ⟨rfl, hZ, hh⟩ := hP
  have hx := Bd.exec
  have hby := Bd.bytes
  have hml : c.maxLocals = 3 := hml0
  have hown : s.vm.findClass "java/lang/String" = some m.cls := findClass_of_methodNamed Bd.named
  have hnm := (name_of_methodNamed Bd.named Bd.method).1
  have X0 : Stand p l e ({ frames := 1, cells := 0, slots := 0, locals := 14 } : Room) s m #[(.ref a), (.ref b)] below meth c s₁ [] 0 0 := Stand.of_body Bd
  have e0 : s₁.heap = h0 := by rw [← hh, Bd.state]; rfl
  have NF := Fr.nil n0
  rw [own_ef14 m a b]
  show own_Dn p e below s (own_Q14 Z a b va ka nn x y vb kb mm xb yb cs h0 n0) 0 0 s₁ (mkF m 0 #[.val (.ref a), .val (.ref b), .unset] [])
  refine own_go (T' := s₁) (g' := (mkF m 1 #[.val (.ref a), .val (.ref b), .unset] [(.ref a)])) (fun _ k => XS.aloadN X0.here hx rfl (hb hby own_d14_0) rfl rfl k) ?_
  refine own_go (T' := s₁) (g' := (mkF m 2 #[.val (.ref a), .val (.ref b), .unset] [(.ref b), (.ref a)])) (fun _ k => XS.aloadN X0.here hx rfl (hb hby own_d14_1) rfl rfl k) ?_
  refine own_go (T' := s₁) (g' := (mkF m 7 #[.val (.ref a), .val (.ref b), .unset] [])) (fun _ k => Jvm.RoadKit.acmp (g := (mkF m 2 #[.val (.ref a), .val (.ref b), .unset] [(.ref b), (.ref a)])) X0 hx rfl rfl rfl (pc0 := 2) (pc' := 7) (same := false) rfl (hb hby own_d14_2) rfl (decide_eq_false fun q => ne_a_b (Value.ref.inj q)) (by decide) (by decide) k) ?_
  refine own_go (T' := s₁) (g' := (mkF m 8 #[.val (.ref a), .val (.ref b), .unset] [(.ref b)])) (fun _ k => XS.aloadN X0.here hx rfl (hb hby own_d14_7) rfl rfl k) ?_
  obtain ⟨T2, X2, e2, st2⟩ := instY X0 hx hZ hown (hw _ (List.mem_of_getElem? (i := 72) rfl)) e0 (Ins.self E_b) (g := (mkF m 8 #[.val (.ref a), .val (.ref b), .unset] [(.ref b)])) rfl rfl (hb hby own_d14_8)
  refine own_go (T' := T2) (g' := (mkF m 11 #[.val (.ref a), .val (.ref b), .unset] [(.int (1 : Int32))])) (fun _ k => st2 _ k) ?_
  refine own_go (T' := T2) (g' := (mkF m 14 #[.val (.ref a), .val (.ref b), .unset] [])) (fun _ k => XS.ifNo X2.here hx rfl (hb hby own_d14_11) rfl (by decide) k) ?_
  refine own_go (T' := T2) (g' := (mkF m 15 #[.val (.ref a), .val (.ref b), .unset] [(.ref b)])) (fun _ k => XS.aloadN X2.here hx rfl (hb hby own_d14_14) rfl rfl k) ?_
  obtain ⟨T3, X3, e3, st3⟩ := castY X2 hx hZ hown (hw _ (List.mem_of_getElem? (i := 72) rfl)) e2 (Ins.self E_b) (g := (mkF m 15 #[.val (.ref a), .val (.ref b), .unset] [(.ref b)])) rfl rfl (hb hby own_d14_15)
  refine own_go (T' := T3) (g' := (mkF m 18 #[.val (.ref a), .val (.ref b), .unset] [(.ref b)])) (fun _ k => st3 _ k) ?_
  refine own_go (T' := T3) (g' := (mkF m 19 #[.val (.ref a), .val (.ref b), .val (.ref b)] [])) (fun _ k => XS.astoreN X3.here hx rfl (hb hby own_d14_18) rfl rfl (l' := #[.val (.ref a), .val (.ref b), .val (.ref b)]) rfl k) ?_
  obtain ⟨T4, X4, e4, st4⟩ := getS2 X3 hx hZ hown (host := "") (Or.inl (hw _ (List.mem_of_getElem? (i := 18) rfl))) Via.refl e3 (S_cs.ext OL.2) (g := (mkF m 19 #[.val (.ref a), .val (.ref b), .val (.ref b)] [])) rfl (hb hby own_d14_19)
  refine own_go (T' := T4) (g' := (mkF m 22 #[.val (.ref a), .val (.ref b), .val (.ref b)] [(.int cs)])) (fun _ k => st4 _ k) ?_
  refine own_go (T' := T4) (g' := (mkF m 25 #[.val (.ref a), .val (.ref b), .val (.ref b)] [])) (fun _ k => XS.ifNo X4.here hx rfl (hb hby own_d14_22) rfl ((if0 _ _).trans (feq hcs).1) k) ?_
  refine own_go (T' := T4) (g' := (mkF m 26 #[.val (.ref a), .val (.ref b), .val (.ref b)] [(.ref a)])) (fun _ k => XS.aloadN X4.here hx rfl (hb hby own_d14_25) rfl rfl k) ?_
  obtain ⟨T5, X5, e5, st5⟩ := getF X4 hx hZ hown (host := "") (Or.inl (hw _ (List.mem_of_getElem? (i := 30) rfl))) Via.refl e4 F_a_coder (g := (mkF m 26 #[.val (.ref a), .val (.ref b), .val (.ref b)] [(.ref a)])) rfl rfl (hb hby own_d14_26)
  refine own_go (T' := T5) (g' := (mkF m 29 #[.val (.ref a), .val (.ref b), .val (.ref b)] [(.int (0 : Int32))])) (fun _ k => st5 _ k) ?_
  refine own_go (T' := T5) (g' := (mkF m 30 #[.val (.ref a), .val (.ref b), .val (.ref b)] [(.ref b), (.int (0 : Int32))])) (fun _ k => XS.aloadN X5.here hx rfl (hb hby own_d14_29) rfl rfl k) ?_
  obtain ⟨T6, X6, e6, st6⟩ := getF X5 hx hZ hown (host := "") (Or.inl (hw _ (List.mem_of_getElem? (i := 30) rfl))) Via.refl e5 F_b_coder (g := (mkF m 30 #[.val (.ref a), .val (.ref b), .val (.ref b)] [(.ref b), (.int (0 : Int32))])) rfl rfl (hb hby own_d14_30)
  refine own_go (T' := T6) (g' := (mkF m 33 #[.val (.ref a), .val (.ref b), .val (.ref b)] [(.int (0 : Int32)), (.int (0 : Int32))])) (fun _ k => st6 _ k) ?_
  refine own_go (T' := T6) (g' := (mkF m 36 #[.val (.ref a), .val (.ref b), .val (.ref b)] [])) (fun _ k => XS.icmpNo X6.here hx rfl (hb hby own_d14_33) rfl (by decide) k) ?_
  refine own_go (T' := T6) (g' := (mkF m 37 #[.val (.ref a), .val (.ref b), .val (.ref b)] [(.ref a)])) (fun _ k => XS.aloadN X6.here hx rfl (hb hby own_d14_36) rfl rfl k) ?_
  obtain ⟨T7, X7, e7, st7⟩ := getF X6 hx hZ hown (host := "") (Or.inl (hw _ (List.mem_of_getElem? (i := 32) rfl))) Via.refl e6 F_a_value (g := (mkF m 37 #[.val (.ref a), .val (.ref b), .val (.ref b)] [(.ref a)])) rfl rfl (hb hby own_d14_37)
  refine own_go (T' := T7) (g' := (mkF m 40 #[.val (.ref a), .val (.ref b), .val (.ref b)] [(.ref va)])) (fun _ k => st7 _ k) ?_
  refine own_go (T' := T7) (g' := (mkF m 41 #[.val (.ref a), .val (.ref b), .val (.ref b)] [(.ref b), (.ref va)])) (fun _ k => XS.aloadN X7.here hx rfl (hb hby own_d14_40) rfl rfl k) ?_
  obtain ⟨T8, X8, e8, st8⟩ := getF X7 hx hZ hown (host := "") (Or.inl (hw _ (List.mem_of_getElem? (i := 32) rfl))) Via.refl e7 F_b_value (g := (mkF m 41 #[.val (.ref a), .val (.ref b), .val (.ref b)] [(.ref b), (.ref va)])) rfl rfl (hb hby own_d14_41)
  refine own_go (T' := T8) (g' := (mkF m 44 #[.val (.ref a), .val (.ref b), .val (.ref b)] [(.ref vb), (.ref va)])) (fun _ k => st8 _ k) ?_
  obtain ⟨_, _, ⟨T9, L9, k9, n9⟩, -, X9, ⟨Lc9, hQ9, l9, y9, z9⟩, st9⟩ := Jvm.LawKit.callS X8 hx (y := (⟨"java/lang/StringLatin1", "equals", "([B[B)Z"⟩ : MethodName)) hown (mvT hZ (hw _ (List.mem_of_getElem? (i := 73) rfl))) (mvT hZ (hw _ (List.mem_of_getElem? (i := 74) rfl))) (mvT hZ (hw _ (List.mem_of_getElem? (i := 75) rfl))) (mvT hZ (hw _ (List.mem_of_getElem? (i := 76) rfl))) (by decide) (backOf (W := 0) (own_rm13 l Z a0 hw [] va vb ka nn x y kb mm xb yb h0 n0 Zs V_va V_vb hn hm) hZ (hw _ (List.mem_of_getElem? (i := 76) rfl)) (hw _ (List.mem_of_getElem? (i := 75) rfl)) (by decide) (by decide)) (g := (mkF m 44 #[.val (.ref a), .val (.ref b), .val (.ref b)] [(.ref vb), (.ref va)])) rfl (by rw [hml]; rfl) (argsL := [(.ref va), (.ref vb)]) (rest := []) (lenOf own_pd14_0 rfl) rfl (by show 2 * 0 + _ ≤ _; exact Nat.le_of_eq rfl) (hb hby own_d14_44) (fun _ _ => ⟨rfl, e8, (by decide : 0 + 0 ≤ _), (by decide : 0 + 0 ≤ _)⟩)
  dsimp only [Pt.U, Pt.locs, Pt.cells, Pt.slots] at X9 l9 y9 z9 st9 hQ9
  subst l9 y9 z9
  obtain ⟨rz9, rfl, NQ9, eq9, hz9⟩ := hQ9
  have NF := Fr.app NF NQ9
  refine own_go (T' := T9) (g' := (mkF m 47 #[.val (.ref a), .val (.ref b), .val (.ref b)] [(.int rz9)])) (fun _ k => st9 _ k) ?_
  by_cases c10 : rz9 = (0 : Int32)
  · refine own_go (T' := T9) (g' := (mkF m 54 #[.val (.ref a), .val (.ref b), .val (.ref b)] [])) (fun _ k => XS.ifYes X9.here hx rfl (pc0 := 47) (pc' := 54) rfl (hb hby own_d14_47) rfl ((if0 _ _).trans (teq c10).1) (by decide) (by decide) k) ?_
    refine own_go (T' := T9) (g' := (mkF m 55 #[.val (.ref a), .val (.ref b), .val (.ref b)] [(.int (0 : Int32))])) (fun _ k => XS.iconst X9.here hx rfl (hb hby own_d14_54) k) ?_
    refine own_ret X9 Bd.notSynchronized (some (.int (0 : Int32))) (fun h => by rw [Bd.returns] at h; cases h) (fun fs hr => retN X9 hx (t := .boolean) Bd.returns (by simp) (hb hby own_d14_55) hr) ?_ (by decide) (by decide)
    show (own_Q14 Z a b va ka nn x y vb kb mm xb yb cs h0 n0) (some (.int (0 : Int32))) T9.heap _
    rw [eq9]
    exact ⟨_, rfl, NF, rfl, by (try simp only [own_l0, own_l1, own_l2, own_l3, own_l4, own_l8, own_l31, own_l255, own_l2147483647, Int32.lt_iff_toInt_lt, ← Int32.toInt_inj, Int64.lt_iff_toInt_lt, ← Int64.toInt_inj, and_true, true_and, and_false, false_and, or_true, true_or, or_false, false_or, not_true_eq_false, not_false_eq_true, ne_eq, true_implies, false_implies, implies_true] at hz9 c10 ⊢) <;> omega⟩
  · refine own_go (T' := T9) (g' := (mkF m 50 #[.val (.ref a), .val (.ref b), .val (.ref b)] [])) (fun _ k => XS.ifNo X9.here hx rfl (hb hby own_d14_47) rfl ((if0 _ _).trans (feq c10).1) k) ?_
    refine own_go (T' := T9) (g' := (mkF m 51 #[.val (.ref a), .val (.ref b), .val (.ref b)] [(.int (1 : Int32))])) (fun _ k => XS.iconst X9.here hx rfl (hb hby own_d14_50) k) ?_
    refine own_go (T' := T9) (g' := (mkF m 55 #[.val (.ref a), .val (.ref b), .val (.ref b)] [(.int (1 : Int32))])) (fun _ k => XS.goto X9.here hx rfl (pc0 := 51) (pc' := 55) rfl (hb hby own_d14_51) (by decide) (by decide) k) ?_
    refine own_ret X9 Bd.notSynchronized (some (.int (1 : Int32))) (fun h => by rw [Bd.returns] at h; cases h) (fun fs hr => retN X9 hx (t := .boolean) Bd.returns (by simp) (hb hby own_d14_55) hr) ?_ (by decide) (by decide)
    show (own_Q14 Z a b va ka nn x y vb kb mm xb yb cs h0 n0) (some (.int (1 : Int32))) T9.heap _
    rw [eq9]
    exact ⟨_, rfl, NF, rfl, by (try simp only [own_l0, own_l1, own_l2, own_l3, own_l4, own_l8, own_l31, own_l255, own_l2147483647, Int32.lt_iff_toInt_lt, ← Int32.toInt_inj, Int64.lt_iff_toInt_lt, ← Int64.toInt_inj, and_true, true_and, and_false, false_and, or_true, true_or, or_false, false_or, not_true_eq_false, not_false_eq_true, ne_eq, true_implies, false_implies, implies_true] at hz9 c10 ⊢) <;> omega⟩
theorem own_d15_0 : decode prog_35_method_8_code 0 = .ok (.aload_n 0, 1) := by decide +kernel
theorem own_d15_1 : decode prog_35_method_8_code 1 = .ok (.aload_n 1, 1) := by decide +kernel
theorem own_d15_2 : decode prog_35_method_8_code 2 = .ok (.if_acmp .ne 5, 3) := by decide +kernel
theorem own_d15_5 : decode prog_35_method_8_code 5 = .ok (.iconst 1, 1) := by decide +kernel
theorem own_d15_6 : decode prog_35_method_8_code 6 = .ok (.ireturn, 1) := by decide +kernel
theorem own_pn15 : plainName "com/example/gentle_rebalance/gentlerebalance/engine/TopicPartition" = true := by first | (simp [plainName, overriddenIn]; done) | decide +kernel
theorem own_ef15 (m : MethodId) (a : Addr) : entryFrame m #[(.ref a), (.ref a)] 3 = mkF m 0 #[.val (.ref a), .val (.ref a), .unset] [] := by first | (simp [entryFrame, mkF, argsToLocals, Value.category]; done) | rfl
def own_Q15 (Z : State) (a : Addr) (h0 : Heap) (n0 : Nat) (v : Option Value) (h : Heap) (L : List Loc) : Prop := v = some (.int (1 : Int32)) ∧ Fr n0 L ∧ h = h0
set_option maxRecDepth 65536 in
set_option maxHeartbeats 40000000 in
theorem own_rm15 (l : Launch) (Z : State) (a0 : Array Value) (hw : ∀ d ∈ tables_1, d.before a0 Z = true) (ws : List Jvm.Cond) (a : Addr) (h0 : Heap) (n0 : Nat) (Zs : n0 ≤ h0.size)  :
    MetFree l (⟨"com/example/gentle_rebalance/gentlerebalance/engine/TopicPartition", "equals", "(Ljava/lang/Object;)Z"⟩ : MethodName) (head1 (Jvm.Cond.code (⟨"com/example/gentle_rebalance/gentlerebalance/engine/TopicPartition", "equals", "(Ljava/lang/Object;)Z"⟩ : MethodName) prog_35_method_8_code 3 (some .boolean) :: ws) ({ frames := 0, cells := 0, slots := 0, locals := 0 } : Room)) (fun aA_ U => aA_ = #[(.ref a), (.ref a)] ∧ Z.Warmed39 U.vm ∧ U.heap = h0) (fun _ _ _ _ _ => True) (fun _ U o U' => ∃ v L, o = .returned v ∧ own_Q15 Z a h0 n0 v U'.heap L ∧ FrameEnd U o U' L ({ frames := 0, cells := 0, slots := 0, locals := 0 } : Room).cells ({ frames := 0, cells := 0, slots := 0, locals := 0 } : Room).slots) := by
  refine MetFree.of_bodySF (plainFor_of_name own_pn15) hisR ?_
  intro p e s m args below meth c s₁ Bd hml0 hP hK
  obtain ⟨rfl, hZ, hh⟩ := hP
  have hx := Bd.exec
  have hby := Bd.bytes
  have hml : c.maxLocals = 3 := hml0
  have hown : s.vm.findClass "com/example/gentle_rebalance/gentlerebalance/engine/TopicPartition" = some m.cls := findClass_of_methodNamed Bd.named
  have hnm := (name_of_methodNamed Bd.named Bd.method).1
  have X0 : Stand p l e ({ frames := 0, cells := 0, slots := 0, locals := 0 } : Room) s m #[(.ref a), (.ref a)] below meth c s₁ [] 0 0 := Stand.of_body Bd
  have e0 : s₁.heap = h0 := by rw [← hh, Bd.state]; rfl
  have NF := Fr.nil n0
  rw [own_ef15 m a]
  show own_Dn p e below s (own_Q15 Z a h0 n0) 0 0 s₁ (mkF m 0 #[.val (.ref a), .val (.ref a), .unset] [])
  refine own_go (T' := s₁) (g' := (mkF m 1 #[.val (.ref a), .val (.ref a), .unset] [(.ref a)])) (fun _ k => XS.aloadN X0.here hx rfl (hb hby own_d15_0) rfl rfl k) ?_
  refine own_go (T' := s₁) (g' := (mkF m 2 #[.val (.ref a), .val (.ref a), .unset] [(.ref a), (.ref a)])) (fun _ k => XS.aloadN X0.here hx rfl (hb hby own_d15_1) rfl rfl k) ?_
  refine own_go (T' := s₁) (g' := (mkF m 5 #[.val (.ref a), .val (.ref a), .unset] [])) (fun _ k => Jvm.RoadKit.acmp (g := (mkF m 2 #[.val (.ref a), .val (.ref a), .unset] [(.ref a), (.ref a)])) X0 hx rfl rfl rfl (pc0 := 2) (pc' := 5) (same := true) rfl (hb hby own_d15_2) rfl (decide_eq_true rfl) (by decide) (by decide) k) ?_
  refine own_go (T' := s₁) (g' := (mkF m 6 #[.val (.ref a), .val (.ref a), .unset] [(.int (1 : Int32))])) (fun _ k => XS.iconst X0.here hx rfl (hb hby own_d15_5) k) ?_
  refine own_ret X0 Bd.notSynchronized (some (.int (1 : Int32))) (fun h => by rw [Bd.returns] at h; cases h) (fun fs hr => retN X0 hx (t := .boolean) Bd.returns (by simp) (hb hby own_d15_6) hr) ?_ (by decide) (by decide)
  show (own_Q15 Z a h0 n0) (some (.int (1 : Int32))) s₁.heap _
  rw [e0]
  exact ⟨rfl, NF, rfl⟩
theorem own_d16_0 : decode prog_35_method_8_code 0 = .ok (.aload_n 0, 1) := by decide +kernel
theorem own_d16_1 : decode prog_35_method_8_code 1 = .ok (.aload_n 1, 1) := by decide +kernel
theorem own_d16_2 : decode prog_35_method_8_code 2 = .ok (.if_acmp .ne 5, 3) := by decide +kernel
theorem own_d16_7 : decode prog_35_method_8_code 7 = .ok (.aload_n 1, 1) := by decide +kernel
theorem own_d16_8 : decode prog_35_method_8_code 8 = .ok (.instanceof 33, 3) := by decide +kernel
theorem own_d16_11 : decode prog_35_method_8_code 11 = .ok (.ifCond .eq 11, 3) := by decide +kernel
theorem own_d16_22 : decode prog_35_method_8_code 22 = .ok (.iconst 0, 1) := by decide +kernel
theorem own_d16_23 : decode prog_35_method_8_code 23 = .ok (.ireturn, 1) := by decide +kernel
theorem own_pn16 : plainName "com/example/gentle_rebalance/gentlerebalance/engine/TopicPartition" = true := by first | (simp [plainName, overriddenIn]; done) | decide +kernel
theorem own_ef16 (m : MethodId) (a : Addr) : entryFrame m #[(.ref a), .null] 3 = mkF m 0 #[.val (.ref a), .val .null, .unset] [] := by first | (simp [entryFrame, mkF, argsToLocals, Value.category]; done) | rfl
def own_Q16 (Z : State) (a : Addr) (h0 : Heap) (n0 : Nat) (v : Option Value) (h : Heap) (L : List Loc) : Prop := v = some (.int (0 : Int32)) ∧ Fr n0 L ∧ h = h0
set_option maxRecDepth 65536 in
set_option maxHeartbeats 40000000 in
theorem own_rm16 (l : Launch) (Z : State) (a0 : Array Value) (hw : ∀ d ∈ tables_1, d.before a0 Z = true) (ws : List Jvm.Cond) (a : Addr) (h0 : Heap) (n0 : Nat) (Zs : n0 ≤ h0.size)  :
    MetFree l (⟨"com/example/gentle_rebalance/gentlerebalance/engine/TopicPartition", "equals", "(Ljava/lang/Object;)Z"⟩ : MethodName) (head1 (Jvm.Cond.code (⟨"com/example/gentle_rebalance/gentlerebalance/engine/TopicPartition", "equals", "(Ljava/lang/Object;)Z"⟩ : MethodName) prog_35_method_8_code 3 (some .boolean) :: ws) ({ frames := 0, cells := 0, slots := 0, locals := 0 } : Room)) (fun aA_ U => aA_ = #[(.ref a), .null] ∧ Z.Warmed39 U.vm ∧ U.heap = h0) (fun _ _ _ _ _ => True) (fun _ U o U' => ∃ v L, o = .returned v ∧ own_Q16 Z a h0 n0 v U'.heap L ∧ FrameEnd U o U' L ({ frames := 0, cells := 0, slots := 0, locals := 0 } : Room).cells ({ frames := 0, cells := 0, slots := 0, locals := 0 } : Room).slots) := by
  refine MetFree.of_bodySF (plainFor_of_name own_pn16) hisR ?_
  intro p e s m args below meth c s₁ Bd hml0 hP hK
  obtain ⟨rfl, hZ, hh⟩ := hP
  have hx := Bd.exec
  have hby := Bd.bytes
  have hml : c.maxLocals = 3 := hml0
  have hown : s.vm.findClass "com/example/gentle_rebalance/gentlerebalance/engine/TopicPartition" = some m.cls := findClass_of_methodNamed Bd.named
  have hnm := (name_of_methodNamed Bd.named Bd.method).1
  have X0 : Stand p l e ({ frames := 0, cells := 0, slots := 0, locals := 0 } : Room) s m #[(.ref a), .null] below meth c s₁ [] 0 0 := Stand.of_body Bd
  have e0 : s₁.heap = h0 := by rw [← hh, Bd.state]; rfl
  have NF := Fr.nil n0
  rw [own_ef16 m a]
  show own_Dn p e below s (own_Q16 Z a h0 n0) 0 0 s₁ (mkF m 0 #[.val (.ref a), .val .null, .unset] [])
  refine own_go (T' := s₁) (g' := (mkF m 1 #[.val (.ref a), .val .null, .unset] [(.ref a)])) (fun _ k => XS.aloadN X0.here hx rfl (hb hby own_d16_0) rfl rfl k) ?_
  refine own_go (T' := s₁) (g' := (mkF m 2 #[.val (.ref a), .val .null, .unset] [.null, (.ref a)])) (fun _ k => XS.aloadN X0.here hx rfl (hb hby own_d16_1) rfl rfl k) ?_
  refine own_go (T' := s₁) (g' := (mkF m 7 #[.val (.ref a), .val .null, .unset] [])) (fun _ k => Jvm.RoadKit.acmp (g := (mkF m 2 #[.val (.ref a), .val .null, .unset] [.null, (.ref a)])) X0 hx rfl rfl rfl (pc0 := 2) (pc' := 7) (same := false) rfl (hb hby own_d16_2) rfl (decide_eq_false nofun) (by decide) (by decide) k) ?_
  refine own_go (T' := s₁) (g' := (mkF m 8 #[.val (.ref a), .val .null, .unset] [.null])) (fun _ k => XS.aloadN X0.here hx rfl (hb hby own_d16_7) rfl rfl k) ?_
  refine own_go (T' := s₁) (g' := (mkF m 11 #[.val (.ref a), .val .null, .unset] [(.int (0 : Int32))])) (fun _ k => X0.instanceofNull hx (g := (mkF m 8 #[.val (.ref a), .val .null, .unset] [.null])) rfl rfl (hb hby own_d16_8) _ k) ?_
  refine own_go (T' := s₁) (g' := (mkF m 22 #[.val (.ref a), .val .null, .unset] [])) (fun _ k => XS.ifYes X0.here hx rfl (pc0 := 11) (pc' := 22) rfl (hb hby own_d16_11) rfl (by decide) (by decide) (by decide) k) ?_
  refine own_go (T' := s₁) (g' := (mkF m 23 #[.val (.ref a), .val .null, .unset] [(.int (0 : Int32))])) (fun _ k => XS.iconst X0.here hx rfl (hb hby own_d16_22) k) ?_
  refine own_ret X0 Bd.notSynchronized (some (.int (0 : Int32))) (fun h => by rw [Bd.returns] at h; cases h) (fun fs hr => retN X0 hx (t := .boolean) Bd.returns (by simp) (hb hby own_d16_23) hr) ?_ (by decide) (by decide)
  show (own_Q16 Z a h0 n0) (some (.int (0 : Int32))) s₁.heap _
  rw [e0]
  exact ⟨rfl, NF, rfl⟩
theorem own_d17_0 : decode prog_35_method_8_code 0 = .ok (.aload_n 0, 1) := by decide +kernel
theorem own_d17_1 : decode prog_35_method_8_code 1 = .ok (.aload_n 1, 1) := by decide +kernel
theorem own_d17_2 : decode prog_35_method_8_code 2 = .ok (.if_acmp .ne 5, 3) := by decide +kernel
theorem own_d17_7 : decode prog_35_method_8_code 7 = .ok (.aload_n 1, 1) := by decide +kernel
theorem own_d17_8 : decode prog_35_method_8_code 8 = .ok (.instanceof 33, 3) := by decide +kernel
theorem own_d17_11 : decode prog_35_method_8_code 11 = .ok (.ifCond .eq 11, 3) := by decide +kernel
theorem own_d17_22 : decode prog_35_method_8_code 22 = .ok (.iconst 0, 1) := by decide +kernel
theorem own_d17_23 : decode prog_35_method_8_code 23 = .ok (.ireturn, 1) := by decide +kernel
theorem own_pn17 : plainName "com/example/gentle_rebalance/gentlerebalance/engine/TopicPartition" = true := by first | (simp [plainName, overriddenIn]; done) | decide +kernel
theorem own_ef17 (m : MethodId) (a : Addr) (b : Addr) : entryFrame m #[(.ref a), (.ref b)] 3 = mkF m 0 #[.val (.ref a), .val (.ref b), .unset] [] := by first | (simp [entryFrame, mkF, argsToLocals, Value.category]; done) | rfl
def own_Q17 (Z : State) (a : Addr) (b : Addr) (h0 : Heap) (n0 : Nat) (v : Option Value) (h : Heap) (L : List Loc) : Prop := v = some (.int (0 : Int32)) ∧ Fr n0 L ∧ h = h0
set_option maxRecDepth 65536 in
set_option maxHeartbeats 40000000 in
theorem own_rm17 (l : Launch) (Z : State) (a0 : Array Value) (hw : ∀ d ∈ tables_1, d.before a0 Z = true) (ws : List Jvm.Cond) (a : Addr) (b : Addr) (h0 : Heap) (n0 : Nat) (Zs : n0 ≤ h0.size) (E_b : Exa Z h0 b "java/lang/String") (ne_a_b : a ≠ b) :
    MetFree l (⟨"com/example/gentle_rebalance/gentlerebalance/engine/TopicPartition", "equals", "(Ljava/lang/Object;)Z"⟩ : MethodName) (head1 (Jvm.Cond.code (⟨"com/example/gentle_rebalance/gentlerebalance/engine/TopicPartition", "equals", "(Ljava/lang/Object;)Z"⟩ : MethodName) prog_35_method_8_code 3 (some .boolean) :: ws) ({ frames := 0, cells := 0, slots := 0, locals := 0 } : Room)) (fun aA_ U => aA_ = #[(.ref a), (.ref b)] ∧ Z.Warmed39 U.vm ∧ U.heap = h0) (fun _ _ _ _ _ => True) (fun _ U o U' => ∃ v L, o = .returned v ∧ own_Q17 Z a b h0 n0 v U'.heap L ∧ FrameEnd U o U' L ({ frames := 0, cells := 0, slots := 0, locals := 0 } : Room).cells ({ frames := 0, cells := 0, slots := 0, locals := 0 } : Room).slots) := by
  refine MetFree.of_bodySF (plainFor_of_name own_pn17) hisR ?_
  intro p e s m args below meth c s₁ Bd hml0 hP hK
  obtain ⟨rfl, hZ, hh⟩ := hP
  have hx := Bd.exec
  have hby := Bd.bytes
  have hml : c.maxLocals = 3 := hml0
  have hown : s.vm.findClass "com/example/gentle_rebalance/gentlerebalance/engine/TopicPartition" = some m.cls := findClass_of_methodNamed Bd.named
  have hnm := (name_of_methodNamed Bd.named Bd.method).1
  have X0 : Stand p l e ({ frames := 0, cells := 0, slots := 0, locals := 0 } : Room) s m #[(.ref a), (.ref b)] below meth c s₁ [] 0 0 := Stand.of_body Bd
  have e0 : s₁.heap = h0 := by rw [← hh, Bd.state]; rfl
  have NF := Fr.nil n0
  rw [own_ef17 m a b]
  show own_Dn p e below s (own_Q17 Z a b h0 n0) 0 0 s₁ (mkF m 0 #[.val (.ref a), .val (.ref b), .unset] [])
  refine own_go (T' := s₁) (g' := (mkF m 1 #[.val (.ref a), .val (.ref b), .unset] [(.ref a)])) (fun _ k => XS.aloadN X0.here hx rfl (hb hby own_d17_0) rfl rfl k) ?_
  refine own_go (T' := s₁) (g' := (mkF m 2 #[.val (.ref a), .val (.ref b), .unset] [(.ref b), (.ref a)])) (fun _ k => XS.aloadN X0.here hx rfl (hb hby own_d17_1) rfl rfl k) ?_
  refine own_go (T' := s₁) (g' := (mkF m 7 #[.val (.ref a), .val (.ref b), .unset] [])) (fun _ k => Jvm.RoadKit.acmp (g := (mkF m 2 #[.val (.ref a), .val (.ref b), .unset] [(.ref b), (.ref a)])) X0 hx rfl rfl rfl (pc0 := 2) (pc' := 7) (same := false) rfl (hb hby own_d17_2) rfl (decide_eq_false fun q => ne_a_b (Value.ref.inj q)) (by decide) (by decide) k) ?_
  refine own_go (T' := s₁) (g' := (mkF m 8 #[.val (.ref a), .val (.ref b), .unset] [(.ref b)])) (fun _ k => XS.aloadN X0.here hx rfl (hb hby own_d17_7) rfl rfl k) ?_
  obtain ⟨T2, X2, e2, st2⟩ := instNo X0 hx hZ hown (hw _ (List.mem_of_getElem? (i := 63) rfl)) e0 E_b (own_notTP Z a0 hw) (g := (mkF m 8 #[.val (.ref a), .val (.ref b), .unset] [(.ref b)])) rfl rfl (hb hby own_d17_8)
  refine own_go (T' := T2) (g' := (mkF m 11 #[.val (.ref a), .val (.ref b), .unset] [(.int (0 : Int32))])) (fun _ k => st2 _ k) ?_
  refine own_go (T' := T2) (g' := (mkF m 22 #[.val (.ref a), .val (.ref b), .unset] [])) (fun _ k => XS.ifYes X2.here hx rfl (pc0 := 11) (pc' := 22) rfl (hb hby own_d17_11) rfl (by decide) (by decide) (by decide) k) ?_
  refine own_go (T' := T2) (g' := (mkF m 23 #[.val (.ref a), .val (.ref b), .unset] [(.int (0 : Int32))])) (fun _ k => XS.iconst X2.here hx rfl (hb hby own_d17_22) k) ?_
  refine own_ret X2 Bd.notSynchronized (some (.int (0 : Int32))) (fun h => by rw [Bd.returns] at h; cases h) (fun fs hr => retN X2 hx (t := .boolean) Bd.returns (by simp) (hb hby own_d17_23) hr) ?_ (by decide) (by decide)
  show (own_Q17 Z a b h0 n0) (some (.int (0 : Int32))) T2.heap _
  rw [e2]
  exact ⟨rfl, NF, rfl⟩
theorem own_d18_0 : decode prog_35_method_8_code 0 = .ok (.aload_n 0, 1) := by decide +kernel
theorem own_d18_1 : decode prog_35_method_8_code 1 = .ok (.aload_n 1, 1) := by decide +kernel
theorem own_d18_2 : decode prog_35_method_8_code 2 = .ok (.if_acmp .ne 5, 3) := by decide +kernel
theorem own_d18_7 : decode prog_35_method_8_code 7 = .ok (.aload_n 1, 1) := by decide +kernel
theorem own_d18_8 : decode prog_35_method_8_code 8 = .ok (.instanceof 33, 3) := by decide +kernel
theorem own_d18_11 : decode prog_35_method_8_code 11 = .ok (.ifCond .eq 11, 3) := by decide +kernel
theorem own_d18_14 : decode prog_35_method_8_code 14 = .ok (.aload_n 1, 1) := by decide +kernel
theorem own_d18_15 : decode prog_35_method_8_code 15 = .ok (.checkcast 33, 3) := by decide +kernel
theorem own_d18_18 : decode prog_35_method_8_code 18 = .ok (.astore_n 2, 1) := by decide +kernel
theorem own_d18_19 : decode prog_35_method_8_code 19 = .ok (.goto 5, 3) := by decide +kernel
theorem own_d18_24 : decode prog_35_method_8_code 24 = .ok (.aload_n 0, 1) := by decide +kernel
theorem own_d18_25 : decode prog_35_method_8_code 25 = .ok (.getfield 37, 3) := by decide +kernel
theorem own_d18_28 : decode prog_35_method_8_code 28 = .ok (.aload_n 2, 1) := by decide +kernel
theorem own_d18_29 : decode prog_35_method_8_code 29 = .ok (.getfield 37, 3) := by decide +kernel
theorem own_d18_32 : decode prog_35_method_8_code 32 = .ok (.if_icmp .ne 21, 3) := by decide +kernel
theorem own_d18_35 : decode prog_35_method_8_code 35 = .ok (.aload_n 0, 1) := by decide +kernel
theorem own_d18_36 : decode prog_35_method_8_code 36 = .ok (.getfield 32, 3) := by decide +kernel
theorem own_d18_39 : decode prog_35_method_8_code 39 = .ok (.aload_n 2, 1) := by decide +kernel
theorem own_d18_40 : decode prog_35_method_8_code 40 = .ok (.getfield 32, 3) := by decide +kernel
theorem own_d18_43 : decode prog_35_method_8_code 43 = .ok (.invokevirtual 99, 3) := by decide +kernel
theorem own_d18_46 : decode prog_35_method_8_code 46 = .ok (.ifCond .eq 7, 3) := by decide +kernel
theorem own_d18_49 : decode prog_35_method_8_code 49 = .ok (.iconst 1, 1) := by decide +kernel
theorem own_d18_50 : decode prog_35_method_8_code 50 = .ok (.goto 4, 3) := by decide +kernel
theorem own_d18_53 : decode prog_35_method_8_code 53 = .ok (.iconst 0, 1) := by decide +kernel
theorem own_d18_54 : decode prog_35_method_8_code 54 = .ok (.ireturn, 1) := by decide +kernel
theorem own_pn18 : plainName "com/example/gentle_rebalance/gentlerebalance/engine/TopicPartition" = true := by first | (simp [plainName, overriddenIn]; done) | decide +kernel
theorem own_pd18_0 : parseMethodDescriptor "(Ljava/lang/Object;)Z" = some ⟨[(.object "java/lang/Object")], some .boolean⟩ := by decide +kernel
theorem own_ef18 (m : MethodId) (a : Addr) (b : Addr) : entryFrame m #[(.ref a), (.ref b)] 3 = mkF m 0 #[.val (.ref a), .val (.ref b), .unset] [] := by first | (simp [entryFrame, mkF, argsToLocals, Value.category]; done) | rfl
def own_Q18 (Z : State) (a : Addr) (b : Addr) (t : Addr) (u : Int32) (t2 : Addr) (u2 : Int32) (va : Addr) (ka : ClassId) (nn : Int32) (x : Int32) (y : Int32) (vb : Addr) (kb : ClassId) (mm : Int32) (xb : Int32) (yb : Int32) (cs : Int32) (h0 : Heap) (n0 : Nat) (v : Option Value) (h : Heap) (L : List Loc) : Prop := ∃ r : Int32, v = some (.int r) ∧ Fr n0 L ∧ h = h0 ∧ ((r = (1 : Int32) ∧ (u = u2 ∧ nn = mm ∧ x = xb ∧ (nn = (1 : Int32) ∨ y = yb))) ∨ (r = (0 : Int32) ∧ ¬ (u = u2 ∧ nn = mm ∧ x = xb ∧ (nn = (1 : Int32) ∨ y = yb))))
set_option maxRecDepth 65536 in
set_option maxHeartbeats 40000000 in
theorem own_rm18 (l : Launch) (Z : State) (a0 : Array Value) (hw : ∀ d ∈ tables_1, d.before a0 Z = true) (ws : List Jvm.Cond) (a : Addr) (b : Addr) (t : Addr) (u : Int32) (t2 : Addr) (u2 : Int32) (va : Addr) (ka : ClassId) (nn : Int32) (x : Int32) (y : Int32) (vb : Addr) (kb : ClassId) (mm : Int32) (xb : Int32) (yb : Int32) (cs : Int32) (h0 : Heap) (n0 : Nat) (Zs : n0 ≤ h0.size) (OL : Old Z n0 h0) (S_cs : Sta Z Z.heap "java/lang/String" "COMPACT_STRINGS" "Z" (.int cs)) (hcs : ¬ (cs = (0 : Int32))) (F_a_topic : Fld Z h0 a "com/example/gentle_rebalance/gentlerebalance/engine/TopicPartition" "topic" "Ljava/lang/String;" (.ref t)) (F_a_partition : Fld Z h0 a "com/example/gentle_rebalance/gentlerebalance/engine/TopicPartition" "partition" "I" (.int u)) (F_b_topic : Fld Z h0 b "com/example/gentle_rebalance/gentlerebalance/engine/TopicPartition" "topic" "Ljava/lang/String;" (.ref t2)) (F_b_partition : Fld Z h0 b "com/example/gentle_rebalance/gentlerebalance/engine/TopicPartition" "partition" "I" (.int u2)) (E_b : Exa Z h0 b "com/example/gentle_rebalance/gentlerebalance/engine/TopicPartition") (ne_a_b : a ≠ b) (E_t : Exa Z h0 t "java/lang/String") (E_t2 : Exa Z h0 t2 "java/lang/String") (ne_t_t2 : t ≠ t2) (F_t_value : Fld Z h0 t "java/lang/String" "value" "[B" (.ref va)) (F_t_coder : Fld Z h0 t "java/lang/String" "coder" "B" (.int (0 : Int32))) (F_t2_value : Fld Z h0 t2 "java/lang/String" "value" "[B" (.ref vb)) (F_t2_coder : Fld Z h0 t2 "java/lang/String" "coder" "B" (.int (0 : Int32))) (V_va : Arv Z h0 va ka .byte nn [(.int x), (.int y)] (.int (0 : Int32))) (V_vb : Arv Z h0 vb kb .byte mm [(.int xb), (.int yb)] (.int (0 : Int32))) (hn : nn.toInt = 1 ∨ nn.toInt = 2) (hm : mm.toInt = 1 ∨ mm.toInt = 2) :
    MetFree l (⟨"com/example/gentle_rebalance/gentlerebalance/engine/TopicPartition", "equals", "(Ljava/lang/Object;)Z"⟩ : MethodName) (head1 (Jvm.Cond.code (⟨"com/example/gentle_rebalance/gentlerebalance/engine/TopicPartition", "equals", "(Ljava/lang/Object;)Z"⟩ : MethodName) prog_35_method_8_code 3 (some .boolean) :: ws) ({ frames := 2, cells := 0, slots := 0, locals := 28 } : Room)) (fun aA_ U => aA_ = #[(.ref a), (.ref b)] ∧ Z.Warmed39 U.vm ∧ U.heap = h0) (fun _ _ _ _ _ => True) (fun _ U o U' => ∃ v L, o = .returned v ∧ own_Q18 Z a b t u t2 u2 va ka nn x y vb kb mm xb yb cs h0 n0 v U'.heap L ∧ FrameEnd U o U' L ({ frames := 2, cells := 0, slots := 0, locals := 28 } : Room).cells ({ frames := 2, cells := 0, slots := 0, locals := 28 } : Room).slots) := by
  refine MetFree.of_bodySF (plainFor_of_name own_pn18) hisR ?_
  intro p e s m args below meth c s₁ Bd hml0 hP hK
  obtain ⟨rfl, hZ, hh⟩ := hP
  have hx := Bd.exec
  have hby := Bd.bytes
  have hml : c.maxLocals = 3 := hml0
  have hown : s.vm.findClass "com/example/gentle_rebalance/gentlerebalance/engine/TopicPartition" = some m.cls := findClass_of_methodNamed Bd.named
  have hnm := (name_of_methodNamed Bd.named Bd.method).1
  have X0 : Stand p l e ({ frames := 2, cells := 0, slots := 0, locals := 28 } : Room) s m #[(.ref a), (.ref b)] below meth c s₁ [] 0 0 := Stand.of_body Bd
  have e0 : s₁.heap = h0 := by rw [← hh, Bd.state]; rfl
  have NF := Fr.nil n0
  rw [own_ef18 m a b]
  show own_Dn p e below s (own_Q18 Z a b t u t2 u2 va ka nn x y vb kb mm xb yb cs h0 n0) 0 0 s₁ (mkF m 0 #[.val (.ref a), .val (.ref b), .unset] [])
  refine own_go (T' := s₁) (g' := (mkF m 1 #[.val (.ref a), .val (.ref b), .unset] [(.ref a)])) (fun _ k => XS.aloadN X0.here hx rfl (hb hby own_d18_0) rfl rfl k) ?_
  refine own_go (T' := s₁) (g' := (mkF m 2 #[.val (.ref a), .val (.ref b), .unset] [(.ref b), (.ref a)])) (fun _ k => XS.aloadN X0.here hx rfl (hb hby own_d18_1) rfl rfl k) ?_
  refine own_go (T' := s₁) (g' := (mkF m 7 #[.val (.ref a), .val (.ref b), .unset] [])) (fun _ k => Jvm.RoadKit.acmp (g := (mkF m 2 #[.val (.ref a), .val (.ref b), .unset] [(.ref b), (.ref a)])) X0 hx rfl rfl rfl (pc0 := 2) (pc' := 7) (same := false) rfl (hb hby own_d18_2) rfl (decide_eq_false fun q => ne_a_b (Value.ref.inj q)) (by decide) (by decide) k) ?_
  refine own_go (T' := s₁) (g' := (mkF m 8 #[.val (.ref a), .val (.ref b), .unset] [(.ref b)])) (fun _ k => XS.aloadN X0.here hx rfl (hb hby own_d18_7) rfl rfl k) ?_
  obtain ⟨T2, X2, e2, st2⟩ := instY X0 hx hZ hown (hw _ (List.mem_of_getElem? (i := 63) rfl)) e0 (Ins.self E_b) (g := (mkF m 8 #[.val (.ref a), .val (.ref b), .unset] [(.ref b)])) rfl rfl (hb hby own_d18_8)
  refine own_go (T' := T2) (g' := (mkF m 11 #[.val (.ref a), .val (.ref b), .unset] [(.int (1 : Int32))])) (fun _ k => st2 _ k) ?_
  refine own_go (T' := T2) (g' := (mkF m 14 #[.val (.ref a), .val (.ref b), .unset] [])) (fun _ k => XS.ifNo X2.here hx rfl (hb hby own_d18_11) rfl (by decide) k) ?_
  refine own_go (T' := T2) (g' := (mkF m 15 #[.val (.ref a), .val (.ref b), .unset] [(.ref b)])) (fun _ k => XS.aloadN X2.here hx rfl (hb hby own_d18_14) rfl rfl k) ?_
  obtain ⟨T3, X3, e3, st3⟩ := castY X2 hx hZ hown (hw _ (List.mem_of_getElem? (i := 63) rfl)) e2 (Ins.self E_b) (g := (mkF m 15 #[.val (.ref a), .val (.ref b), .unset] [(.ref b)])) rfl rfl (hb hby own_d18_15)
  refine own_go (T' := T3) (g' := (mkF m 18 #[.val (.ref a), .val (.ref b), .unset] [(.ref b)])) (fun _ k => st3 _ k) ?_
  refine own_go (T' := T3) (g' := (mkF m 19 #[.val (.ref a), .val (.ref b), .val (.ref b)] [])) (fun _ k => XS.astoreN X3.here hx rfl (hb hby own_d18_18) rfl rfl (l' := #[.val (.ref a), .val (.ref b), .val (.ref b)]) rfl k) ?_
  refine own_go (T' := T3) (g' := (mkF m 24 #[.val (.ref a), .val (.ref b), .val (.ref b)] [])) (fun _ k => XS.goto X3.here hx rfl (pc0 := 19) (pc' := 24) rfl (hb hby own_d18_19) (by decide) (by decide) k) ?_
  refine own_go (T' := T3) (g' := (mkF m 25 #[.val (.ref a), .val (.ref b), .val (.ref b)] [(.ref a)])) (fun _ k => XS.aloadN X3.here hx rfl (hb hby own_d18_24) rfl rfl k) ?_
  obtain ⟨T4, X4, e4, st4⟩ := getF X3 hx hZ hown (host := "") (Or.inl (hw _ (List.mem_of_getElem? (i := 56) rfl))) Via.refl e3 F_a_partition (g := (mkF m 25 #[.val (.ref a), .val (.ref b), .val (.ref b)] [(.ref a)])) rfl rfl (hb hby own_d18_25)
  refine own_go (T' := T4) (g' := (mkF m 28 #[.val (.ref a), .val (.ref b), .val (.ref b)] [(.int u)])) (fun _ k => st4 _ k) ?_
  refine own_go (T' := T4) (g' := (mkF m 29 #[.val (.ref a), .val (.ref b), .val (.ref b)] [(.ref b), (.int u)])) (fun _ k => XS.aloadN X4.here hx rfl (hb hby own_d18_28) rfl rfl k) ?_
  obtain ⟨T5, X5, e5, st5⟩ := getF X4 hx hZ hown (host := "") (Or.inl (hw _ (List.mem_of_getElem? (i := 56) rfl))) Via.refl e4 F_b_partition (g := (mkF m 29 #[.val (.ref a), .val (.ref b), .val (.ref b)] [(.ref b), (.int u)])) rfl rfl (hb hby own_d18_29)
  refine own_go (T' := T5) (g' := (mkF m 32 #[.val (.ref a), .val (.ref b), .val (.ref b)] [(.int u2), (.int u)])) (fun _ k => st5 _ k) ?_
  by_cases c6 : u = u2
  · refine own_go (T' := T5) (g' := (mkF m 35 #[.val (.ref a), .val (.ref b), .val (.ref b)] [])) (fun _ k => XS.icmpNo X5.here hx rfl (hb hby own_d18_32) rfl (teq c6).2 k) ?_
    refine own_go (T' := T5) (g' := (mkF m 36 #[.val (.ref a), .val (.ref b), .val (.ref b)] [(.ref a)])) (fun _ k => XS.aloadN X5.here hx rfl (hb hby own_d18_35) rfl rfl k) ?_
    obtain ⟨T7, X7, e7, st7⟩ := getF X5 hx hZ hown (host := "") (Or.inl (hw _ (List.mem_of_getElem? (i := 54) rfl))) Via.refl e5 F_a_topic (g := (mkF m 36 #[.val (.ref a), .val (.ref b), .val (.ref b)] [(.ref a)])) rfl rfl (hb hby own_d18_36)
    refine own_go (T' := T7) (g' := (mkF m 39 #[.val (.ref a), .val (.ref b), .val (.ref b)] [(.ref t)])) (fun _ k => st7 _ k) ?_
    refine own_go (T' := T7) (g' := (mkF m 40 #[.val (.ref a), .val (.ref b), .val (.ref b)] [(.ref b), (.ref t)])) (fun _ k => XS.aloadN X7.here hx rfl (hb hby own_d18_39) rfl rfl k) ?_
    obtain ⟨T8, X8, e8, st8⟩ := getF X7 hx hZ hown (host := "") (Or.inl (hw _ (List.mem_of_getElem? (i := 54) rfl))) Via.refl e7 F_b_topic (g := (mkF m 40 #[.val (.ref a), .val (.ref b), .val (.ref b)] [(.ref b), (.ref t)])) rfl rfl (hb hby own_d18_40)
    refine own_go (T' := T8) (g' := (mkF m 43 #[.val (.ref a), .val (.ref b), .val (.ref b)] [(.ref t2), (.ref t)])) (fun _ k => st8 _ k) ?_
    obtain ⟨cq9, kq9, q9a, q9b, q9c⟩ := isOf hZ e8 E_t
    obtain ⟨_, _, ⟨T9, L9, k9, n9⟩, -, X9, ⟨Lc9, hQ9, l9, y9, z9⟩, st9⟩ := X8.virtualBack hx (y := (⟨"java/lang/String", "equals", "(Ljava/lang/Object;)Z"⟩ : MethodName)) (z := (⟨"java/lang/String", "equals", "(Ljava/lang/Object;)Z"⟩ : MethodName)) hown (mvT hZ (hw _ (List.mem_of_getElem? (i := 67) rfl))) (mvT hZ (hw _ (List.mem_of_getElem? (i := 68) rfl))) (notFace_of_selects (args := #[]) (mvT hZ (hw _ (List.mem_of_getElem? (i := 70) rfl)))) (mvT hZ (hw _ (List.mem_of_getElem? (i := 70) rfl))) (mvT hZ (hw _ (List.mem_of_getElem? (i := 69) rfl))) (by decide) (backOf (W := 0) (own_rm14 l Z a0 hw [] t t2 va ka nn x y vb kb mm xb yb cs h0 n0 Zs OL S_cs hcs F_t_value F_t_coder F_t2_value F_t2_coder E_t2 ne_t_t2 V_va V_vb hn hm) hZ (hw _ (List.mem_of_getElem? (i := 71) rfl)) (hw _ (List.mem_of_getElem? (i := 6) rfl)) (by decide) (by decide)) q9a q9c (g := (mkF m 43 #[.val (.ref a), .val (.ref b), .val (.ref b)] [(.ref t2), (.ref t)])) rfl (by rw [hml]; rfl) (Steps.refl _) (argsL := [(.ref t2)]) (rest := []) (lenOf own_pd18_0 rfl) rfl (by show 2 * 0 + _ ≤ _; exact Nat.le_of_eq rfl) (hb hby own_d18_43) (fun _ _ => ⟨rfl, e8, (by decide : 0 + 0 ≤ _), (by decide : 0 + 0 ≤ _)⟩)
    dsimp only [Pt.U, Pt.locs, Pt.cells, Pt.slots] at X9 l9 y9 z9 st9 hQ9
    subst l9 y9 z9
    obtain ⟨rz9, rfl, NQ9, eq9, hz9⟩ := hQ9
    have NF := Fr.app NF NQ9
    refine own_go (T' := T9) (g' := (mkF m 46 #[.val (.ref a), .val (.ref b), .val (.ref b)] [(.int rz9)])) (fun _ k => st9.trans k) ?_
    by_cases c10 : rz9 = (0 : Int32)
    · refine own_go (T' := T9) (g' := (mkF m 53 #[.val (.ref a), .val (.ref b), .val (.ref b)] [])) (fun _ k => XS.ifYes X9.here hx rfl (pc0 := 46) (pc' := 53) rfl (hb hby own_d18_46) rfl ((if0 _ _).trans (teq c10).1) (by decide) (by decide) k) ?_
      refine own_go (T' := T9) (g' := (mkF m 54 #[.val (.ref a), .val (.ref b), .val (.ref b)] [(.int (0 : Int32))])) (fun _ k => XS.iconst X9.here hx rfl (hb hby own_d18_53) k) ?_
      refine own_ret X9 Bd.notSynchronized (some (.int (0 : Int32))) (fun h => by rw [Bd.returns] at h; cases h) (fun fs hr => retN X9 hx (t := .boolean) Bd.returns (by simp) (hb hby own_d18_54) hr) ?_ (by decide) (by decide)
      show (own_Q18 Z a b t u t2 u2 va ka nn x y vb kb mm xb yb cs h0 n0) (some (.int (0 : Int32))) T9.heap _
      rw [eq9]
      exact ⟨_, rfl, NF, rfl, by (try simp only [own_l0, own_l1, own_l2, own_l3, own_l4, own_l8, own_l31, own_l255, own_l2147483647, Int32.lt_iff_toInt_lt, ← Int32.toInt_inj, Int64.lt_iff_toInt_lt, ← Int64.toInt_inj, and_true, true_and, and_false, false_and, or_true, true_or, or_false, false_or, not_true_eq_false, not_false_eq_true, ne_eq, true_implies, false_implies, implies_true] at c6 hz9 c10 ⊢) <;> omega⟩
    · refine own_go (T' := T9) (g' := (mkF m 49 #[.val (.ref a), .val (.ref b), .val (.ref b)] [])) (fun _ k => XS.ifNo X9.here hx rfl (hb hby own_d18_46) rfl ((if0 _ _).trans (feq c10).1) k) ?_
      refine own_go (T' := T9) (g' := (mkF m 50 #[.val (.ref a), .val (.ref b), .val (.ref b)] [(.int (1 : Int32))])) (fun _ k => XS.iconst X9.here hx rfl (hb hby own_d18_49) k) ?_
      refine own_go (T' := T9) (g' := (mkF m 54 #[.val (.ref a), .val (.ref b), .val (.ref b)] [(.int (1 : Int32))])) (fun _ k => XS.goto X9.here hx rfl (pc0 := 50) (pc' := 54) rfl (hb hby own_d18_50) (by decide) (by decide) k) ?_
      refine own_ret X9 Bd.notSynchronized (some (.int (1 : Int32))) (fun h => by rw [Bd.returns] at h; cases h) (fun fs hr => retN X9 hx (t := .boolean) Bd.returns (by simp) (hb hby own_d18_54) hr) ?_ (by decide) (by decide)
      show (own_Q18 Z a b t u t2 u2 va ka nn x y vb kb mm xb yb cs h0 n0) (some (.int (1 : Int32))) T9.heap _
      rw [eq9]
      exact ⟨_, rfl, NF, rfl, by (try simp only [own_l0, own_l1, own_l2, own_l3, own_l4, own_l8, own_l31, own_l255, own_l2147483647, Int32.lt_iff_toInt_lt, ← Int32.toInt_inj, Int64.lt_iff_toInt_lt, ← Int64.toInt_inj, and_true, true_and, and_false, false_and, or_true, true_or, or_false, false_or, not_true_eq_false, not_false_eq_true, ne_eq, true_implies, false_implies, implies_true] at c6 hz9 c10 ⊢) <;> omega⟩
  · refine own_go (T' := T5) (g' := (mkF m 53 #[.val (.ref a), .val (.ref b), .val (.ref b)] [])) (fun _ k => XS.icmpYes X5.here hx rfl (pc0 := 32) (pc' := 53) rfl (hb hby own_d18_32) rfl (feq c6).2 (by decide) (by decide) k) ?_
    refine own_go (T' := T5) (g' := (mkF m 54 #[.val (.ref a), .val (.ref b), .val (.ref b)] [(.int (0 : Int32))])) (fun _ k => XS.iconst X5.here hx rfl (hb hby own_d18_53) k) ?_
    refine own_ret X5 Bd.notSynchronized (some (.int (0 : Int32))) (fun h => by rw [Bd.returns] at h; cases h) (fun fs hr => retN X5 hx (t := .boolean) Bd.returns (by simp) (hb hby own_d18_54) hr) ?_ (by decide) (by decide)
    show (own_Q18 Z a b t u t2 u2 va ka nn x y vb kb mm xb yb cs h0 n0) (some (.int (0 : Int32))) T5.heap _
    rw [e5]
    exact ⟨_, rfl, NF, rfl, by (try simp only [own_l0, own_l1, own_l2, own_l3, own_l4, own_l8, own_l31, own_l255, own_l2147483647, Int32.lt_iff_toInt_lt, ← Int32.toInt_inj, Int64.lt_iff_toInt_lt, ← Int64.toInt_inj, and_true, true_and, and_false, false_and, or_true, true_or, or_false, false_or, not_true_eq_false, not_false_eq_true, ne_eq, true_implies, false_implies, implies_true] at c6 ⊢) <;> omega⟩
theorem own_pn0 : plainName "com/example/gentle_rebalance/gentlerebalance/engine/TopicPartitionEqualsPinLaw" = true := by first | (simp [plainName, overriddenIn]; done) | decide +kernel
theorem own_pd0_0 : parseMethodDescriptor "(ICC)Ljava/lang/String;" = some ⟨[.int, .char, .char], some (.object "java/lang/String")⟩ := by decide +kernel
theorem own_pd0_1 : parseMethodDescriptor "(Ljava/lang/String;I)V" = some ⟨[(.object "java/lang/String"), .int], none⟩ := by decide +kernel
theorem own_pd0_2 : parseMethodDescriptor "(Ljava/lang/Object;)Z" = some ⟨[(.object "java/lang/Object")], some .boolean⟩ := by decide +kernel
theorem own_ef0 (m : MethodId) (i0 : Int32) (i1 : Int32) (i2 : Int32) (i3 : Int32) (i4 : Int32) : entryFrame m #[(.int i0), (.int i1), (.int i2), (.int i3), (.int i4)] maxLocals = mkF m 0 #[.val (.int i0), .val (.int i1), .val (.int i2), .val (.int i3), .val (.int i4), .unset, .unset, .unset, .unset, .unset, .unset, .unset, .unset, .unset, .unset, .unset, .unset, .unset, .unset, .unset, .unset, .unset, .unset, .unset] [] := by first | (simp [entryFrame, mkF, argsToLocals, Value.category, maxLocals]; done) | rfl
def own_Q0 (Z : State) (i0 : Int32) (i1 : Int32) (i2 : Int32) (i3 : Int32) (i4 : Int32) (cs : Int32) (h0 : Heap) (n0 : Nat) (v : Option Value) (h : Heap) (L : List Loc) : Prop := v = some (.int 1) ∧ Fr n0 L
set_option maxRecDepth 65536 in
set_option maxHeartbeats 40000000 in
theorem own_rm0 (l : Launch) (Z : State) (a0 : Array Value) (hw : ∀ d ∈ tables_1, d.before a0 Z = true) (ws : List Jvm.Cond) (i0 : Int32) (i1 : Int32) (i2 : Int32) (i3 : Int32) (i4 : Int32) (cs : Int32) (h0 : Heap) (n0 : Nat) (Zs : n0 ≤ h0.size) (OL : Old Z n0 h0) (S_cs : Sta Z Z.heap "java/lang/String" "COMPACT_STRINGS" "Z" (.int cs)) (hcs : ¬ (cs = (0 : Int32))) :
    MetFree l x (head1 (Jvm.Cond.code x code maxLocals ret :: ws) room_1) (fun aA_ U => aA_ = #[(.int i0), (.int i1), (.int i2), (.int i3), (.int i4)] ∧ Z.Warmed39 U.vm ∧ U.heap = h0) (fun _ _ _ _ _ => True) (fun _ U o U' => ∃ v L, o = .returned v ∧ own_Q0 Z i0 i1 i2 i3 i4 cs h0 n0 v U'.heap L ∧ ReturnedEndW U o U' L room_1.cells room_1.slots) := by
  refine MetFree.of_bodySF (plainFor_of_name own_pn0) hisR ?_
  intro p e s m args below meth c s₁ Bd hml0 hP hK
  obtain ⟨rfl, hZ, hh⟩ := hP
  have hx := Bd.exec
  have hby := Bd.bytes
  have hml : c.maxLocals = 24 := hml0
  have hown : s.vm.findClass "com/example/gentle_rebalance/gentlerebalance/engine/TopicPartitionEqualsPinLaw" = some m.cls := findClass_of_methodNamed Bd.named
  have hnm := (name_of_methodNamed Bd.named Bd.method).1
  have X0 : Stand p l e room_1 s m #[(.int i0), (.int i1), (.int i2), (.int i3), (.int i4)] below meth c s₁ [] 0 0 := Stand.of_body Bd
  have e0 : s₁.heap = h0 := by rw [← hh, Bd.state]; rfl
  have NF := Fr.nil n0
  rw [own_ef0 m i0 i1 i2 i3 i4]
  show own_DnW p e below s (own_Q0 Z i0 i1 i2 i3 i4 cs h0 n0) room_1.cells room_1.slots s₁ (mkF m 0 #[.val (.int i0), .val (.int i1), .val (.int i2), .val (.int i3), .val (.int i4), .unset, .unset, .unset, .unset, .unset, .unset, .unset, .unset, .unset, .unset, .unset, .unset, .unset, .unset, .unset, .unset, .unset, .unset, .unset] [])
  have hSi : s.Since s.vm 0 := (State.WarmedH.refl s).since 0
  have hKi : 0 ≤ h0.size := Nat.zero_le _
  have J3 : ∀ (z1 : Int32), (True) → own_DnW p e below s (own_Q0 Z i0 i1 i2 i3 i4 cs h0 n0) room_1.cells room_1.slots s₁ (mkF m 14 #[.val (.int i0), .val (.int i1), .val (.int i2), .val (.int i3), .val (.int i4), .unset, .unset, .unset, .unset, .unset, .unset, .unset, .unset, .unset, .unset, .unset, .unset, .unset, .unset, .unset, .unset, .unset, .unset, .unset] [(.int z1)]) := by
    intro z1 hz2
    refine own_goW (T' := s₁) (g' := (mkF m 16 #[.val (.int i0), .val (.int i1), .val (.int i2), .val (.int i3), .val (.int i4), .val (.int z1), .unset, .unset, .unset, .unset, .unset, .unset, .unset, .unset, .unset, .unset, .unset, .unset, .unset, .unset, .unset, .unset, .unset, .unset] [])) (fun _ k => XS.istore X0.here hx rfl (hb hby at_14) rfl (l' := #[.val (.int i0), .val (.int i1), .val (.int i2), .val (.int i3), .val (.int i4), .val (.int z1), .unset, .unset, .unset, .unset, .unset, .unset, .unset, .unset, .unset, .unset, .unset, .unset, .unset, .unset, .unset, .unset, .unset, .unset]) rfl k) ?_
    have J6 : ∀ (z4 : Int32), (True) → own_DnW p e below s (own_Q0 Z i0 i1 i2 i3 i4 cs h0 n0) room_1.cells room_1.slots s₁ (mkF m 30 #[.val (.int i0), .val (.int i1), .val (.int i2), .val (.int i3), .val (.int i4), .val (.int z1), .unset, .unset, .unset, .unset, .unset, .unset, .unset, .unset, .unset, .unset, .unset, .unset, .unset, .unset, .unset, .unset, .unset, .unset] [(.int z4)]) := by
      intro z4 hz5
      refine own_goW (T' := s₁) (g' := (mkF m 32 #[.val (.int i0), .val (.int i1), .val (.int i2), .val (.int i3), .val (.int i4), .val (.int z1), .val (.int z4), .unset, .unset, .unset, .unset, .unset, .unset, .unset, .unset, .unset, .unset, .unset, .unset, .unset, .unset, .unset, .unset, .unset] [])) (fun _ k => XS.istore X0.here hx rfl (hb hby at_30) rfl (l' := #[.val (.int i0), .val (.int i1), .val (.int i2), .val (.int i3), .val (.int i4), .val (.int z1), .val (.int z4), .unset, .unset, .unset, .unset, .unset, .unset, .unset, .unset, .unset, .unset, .unset, .unset, .unset, .unset, .unset, .unset, .unset]) rfl k) ?_
      refine own_goW (T' := s₁) (g' := (mkF m 34 #[.val (.int i0), .val (.int i1), .val (.int i2), .val (.int i3), .val (.int i4), .val (.int z1), .val (.int z4), .unset, .unset, .unset, .unset, .unset, .unset, .unset, .unset, .unset, .unset, .unset, .unset, .unset, .unset, .unset, .unset, .unset] [(.int i4)])) (fun _ k => XS.iload X0.here hx rfl (hb hby at_32) rfl k) ?_
      refine own_goW (T' := s₁) (g' := (mkF m 35 #[.val (.int i0), .val (.int i1), .val (.int i2), .val (.int i3), .val (.int i4), .val (.int z1), .val (.int z4), .unset, .unset, .unset, .unset, .unset, .unset, .unset, .unset, .unset, .unset, .unset, .unset, .unset, .unset, .unset, .unset, .unset] [(.int (4 : Int32)), (.int i4)])) (fun _ k => XS.iconst X0.here hx rfl (hb hby at_34) k) ?_
      refine own_goW (T' := s₁) (g' := (mkF m 36 #[.val (.int i0), .val (.int i1), .val (.int i2), .val (.int i3), .val (.int i4), .val (.int z1), .val (.int z4), .unset, .unset, .unset, .unset, .unset, .unset, .unset, .unset, .unset, .unset, .unset, .unset, .unset, .unset, .unset, .unset, .unset] [(.int ((i4.toUInt32 >>> ((4 : Int32) &&& 31).toUInt32).toInt32))])) (fun _ k => XS.iushr X0.here hx rfl (hb hby at_35) rfl k) ?_
      refine own_goW (T' := s₁) (g' := (mkF m 37 #[.val (.int i0), .val (.int i1), .val (.int i2), .val (.int i3), .val (.int i4), .val (.int z1), .val (.int z4), .unset, .unset, .unset, .unset, .unset, .unset, .unset, .unset, .unset, .unset, .unset, .unset, .unset, .unset, .unset, .unset, .unset] [(.int (3 : Int32)), (.int ((i4.toUInt32 >>> ((4 : Int32) &&& 31).toUInt32).toInt32))])) (fun _ k => XS.iconst X0.here hx rfl (hb hby at_36) k) ?_
      refine own_goW (T' := s₁) (g' := (mkF m 38 #[.val (.int i0), .val (.int i1), .val (.int i2), .val (.int i3), .val (.int i4), .val (.int z1), .val (.int z4), .unset, .unset, .unset, .unset, .unset, .unset, .unset, .unset, .unset, .unset, .unset, .unset, .unset, .unset, .unset, .unset, .unset] [(.int (((i4.toUInt32 >>> ((4 : Int32) &&& 31).toUInt32).toInt32) &&& (3 : Int32)))])) (fun _ k => XS.iand X0.here hx rfl (hb hby at_37) rfl k) ?_
      refine own_goW (T' := s₁) (g' := (mkF m 40 #[.val (.int i0), .val (.int i1), .val (.int i2), .val (.int i3), .val (.int i4), .val (.int z1), .val (.int z4), .val (.int (((i4.toUInt32 >>> ((4 : Int32) &&& 31).toUInt32).toInt32) &&& (3 : Int32))), .unset, .unset, .unset, .unset, .unset, .unset, .unset, .unset, .unset, .unset, .unset, .unset, .unset, .unset, .unset, .unset] [])) (fun _ k => XS.istore X0.here hx rfl (hb hby at_38) rfl (l' := #[.val (.int i0), .val (.int i1), .val (.int i2), .val (.int i3), .val (.int i4), .val (.int z1), .val (.int z4), .val (.int (((i4.toUInt32 >>> ((4 : Int32) &&& 31).toUInt32).toInt32) &&& (3 : Int32))), .unset, .unset, .unset, .unset, .unset, .unset, .unset, .unset, .unset, .unset, .unset, .unset, .unset, .unset, .unset, .unset]) rfl k) ?_
      refine own_goW (T' := s₁) (g' := (mkF m 41 #[.val (.int i0), .val (.int i1), .val (.int i2), .val (.int i3), .val (.int i4), .val (.int z1), .val (.int z4), .val (.int (((i4.toUInt32 >>> ((4 : Int32) &&& 31).toUInt32).toInt32) &&& (3 : Int32))), .unset, .unset, .unset, .unset, .unset, .unset, .unset, .unset, .unset, .unset, .unset, .unset, .unset, .unset, .unset, .unset] [(.int (1 : Int32))])) (fun _ k => XS.iconst X0.here hx rfl (hb hby at_40) k) ?_
      refine own_goW (T' := s₁) (g' := (mkF m 43 #[.val (.int i0), .val (.int i1), .val (.int i2), .val (.int i3), .val (.int i4), .val (.int z1), .val (.int z4), .val (.int (((i4.toUInt32 >>> ((4 : Int32) &&& 31).toUInt32).toInt32) &&& (3 : Int32))), .unset, .unset, .unset, .unset, .unset, .unset, .unset, .unset, .unset, .unset, .unset, .unset, .unset, .unset, .unset, .unset] [(.int i4), (.int (1 : Int32))])) (fun _ k => XS.iload X0.here hx rfl (hb hby at_41) rfl k) ?_
      refine own_goW (T' := s₁) (g' := (mkF m 44 #[.val (.int i0), .val (.int i1), .val (.int i2), .val (.int i3), .val (.int i4), .val (.int z1), .val (.int z4), .val (.int (((i4.toUInt32 >>> ((4 : Int32) &&& 31).toUInt32).toInt32) &&& (3 : Int32))), .unset, .unset, .unset, .unset, .unset, .unset, .unset, .unset, .unset, .unset, .unset, .unset, .unset, .unset, .unset, .unset] [(.int (1 : Int32)), (.int i4), (.int (1 : Int32))])) (fun _ k => XS.iconst X0.here hx rfl (hb hby at_43) k) ?_
      refine own_goW (T' := s₁) (g' := (mkF m 45 #[.val (.int i0), .val (.int i1), .val (.int i2), .val (.int i3), .val (.int i4), .val (.int z1), .val (.int z4), .val (.int (((i4.toUInt32 >>> ((4 : Int32) &&& 31).toUInt32).toInt32) &&& (3 : Int32))), .unset, .unset, .unset, .unset, .unset, .unset, .unset, .unset, .unset, .unset, .unset, .unset, .unset, .unset, .unset, .unset] [(.int (i4 &&& (1 : Int32))), (.int (1 : Int32))])) (fun _ k => XS.iand X0.here hx rfl (hb hby at_44) rfl k) ?_
      refine own_goW (T' := s₁) (g' := (mkF m 46 #[.val (.int i0), .val (.int i1), .val (.int i2), .val (.int i3), .val (.int i4), .val (.int z1), .val (.int z4), .val (.int (((i4.toUInt32 >>> ((4 : Int32) &&& 31).toUInt32).toInt32) &&& (3 : Int32))), .unset, .unset, .unset, .unset, .unset, .unset, .unset, .unset, .unset, .unset, .unset, .unset, .unset, .unset, .unset, .unset] [(.int ((1 : Int32) + (i4 &&& (1 : Int32))))])) (fun _ k => XS.iadd X0.here hx rfl (hb hby at_45) rfl k) ?_
      refine own_goW (T' := s₁) (g' := (mkF m 48 #[.val (.int i0), .val (.int i1), .val (.int i2), .val (.int i3), .val (.int i4), .val (.int z1), .val (.int z4), .val (.int (((i4.toUInt32 >>> ((4 : Int32) &&& 31).toUInt32).toInt32) &&& (3 : Int32))), .val (.int ((1 : Int32) + (i4 &&& (1 : Int32)))), .unset, .unset, .unset, .unset, .unset, .unset, .unset, .unset, .unset, .unset, .unset, .unset, .unset, .unset, .unset] [])) (fun _ k => XS.istore X0.here hx rfl (hb hby at_46) rfl (l' := #[.val (.int i0), .val (.int i1), .val (.int i2), .val (.int i3), .val (.int i4), .val (.int z1), .val (.int z4), .val (.int (((i4.toUInt32 >>> ((4 : Int32) &&& 31).toUInt32).toInt32) &&& (3 : Int32))), .val (.int ((1 : Int32) + (i4 &&& (1 : Int32)))), .unset, .unset, .unset, .unset, .unset, .unset, .unset, .unset, .unset, .unset, .unset, .unset, .unset, .unset, .unset]) rfl k) ?_
      have hn_na := own_12 i4
      generalize hge : ((1 : Int32) + (i4 &&& (1 : Int32))) = na at hn_na ⊢
      clear hge
      have h12 := own_12 ((i4.toUInt32 >>> ((1 : Int32) &&& 31).toUInt32).toInt32)
      have J9 : ∀ (z7 : Int32), (z7.toInt = 1 ∨ z7.toInt = 2) → own_DnW p e below s (own_Q0 Z i0 i1 i2 i3 i4 cs h0 n0) room_1.cells room_1.slots s₁ (mkF m 66 #[.val (.int i0), .val (.int i1), .val (.int i2), .val (.int i3), .val (.int i4), .val (.int z1), .val (.int z4), .val (.int (((i4.toUInt32 >>> ((4 : Int32) &&& 31).toUInt32).toInt32) &&& (3 : Int32))), .val (.int na), .unset, .unset, .unset, .unset, .unset, .unset, .unset, .unset, .unset, .unset, .unset, .unset, .unset, .unset, .unset] [(.int z7)]) := by
        intro z7 hz8
        refine own_goW (T' := s₁) (g' := (mkF m 68 #[.val (.int i0), .val (.int i1), .val (.int i2), .val (.int i3), .val (.int i4), .val (.int z1), .val (.int z4), .val (.int (((i4.toUInt32 >>> ((4 : Int32) &&& 31).toUInt32).toInt32) &&& (3 : Int32))), .val (.int na), .val (.int z7), .unset, .unset, .unset, .unset, .unset, .unset, .unset, .unset, .unset, .unset, .unset, .unset, .unset, .unset] [])) (fun _ k => XS.istore X0.here hx rfl (hb hby at_66) rfl (l' := #[.val (.int i0), .val (.int i1), .val (.int i2), .val (.int i3), .val (.int i4), .val (.int z1), .val (.int z4), .val (.int (((i4.toUInt32 >>> ((4 : Int32) &&& 31).toUInt32).toInt32) &&& (3 : Int32))), .val (.int na), .val (.int z7), .unset, .unset, .unset, .unset, .unset, .unset, .unset, .unset, .unset, .unset, .unset, .unset, .unset, .unset]) rfl k) ?_
        have hn_z7 := hz8
        clear h12
        have J12 : ∀ (z10 : Int32), (True) → own_DnW p e below s (own_Q0 Z i0 i1 i2 i3 i4 cs h0 n0) room_1.cells room_1.slots s₁ (mkF m 78 #[.val (.int i0), .val (.int i1), .val (.int i2), .val (.int i3), .val (.int i4), .val (.int z1), .val (.int z4), .val (.int (((i4.toUInt32 >>> ((4 : Int32) &&& 31).toUInt32).toInt32) &&& (3 : Int32))), .val (.int na), .val (.int z7), .unset, .unset, .unset, .unset, .unset, .unset, .unset, .unset, .unset, .unset, .unset, .unset, .unset, .unset] [(.int z10)]) := by
          intro z10 hz11
          refine own_goW (T' := s₁) (g' := (mkF m 80 #[.val (.int i0), .val (.int i1), .val (.int i2), .val (.int i3), .val (.int i4), .val (.int z1), .val (.int z4), .val (.int (((i4.toUInt32 >>> ((4 : Int32) &&& 31).toUInt32).toInt32) &&& (3 : Int32))), .val (.int na), .val (.int z7), .val (.int z10), .unset, .unset, .unset, .unset, .unset, .unset, .unset, .unset, .unset, .unset, .unset, .unset, .unset] [])) (fun _ k => XS.istore X0.here hx rfl (hb hby at_78) rfl (l' := #[.val (.int i0), .val (.int i1), .val (.int i2), .val (.int i3), .val (.int i4), .val (.int z1), .val (.int z4), .val (.int (((i4.toUInt32 >>> ((4 : Int32) &&& 31).toUInt32).toInt32) &&& (3 : Int32))), .val (.int na), .val (.int z7), .val (.int z10), .unset, .unset, .unset, .unset, .unset, .unset, .unset, .unset, .unset, .unset, .unset, .unset, .unset]) rfl k) ?_
          refine own_goW (T' := s₁) (g' := (mkF m 81 #[.val (.int i0), .val (.int i1), .val (.int i2), .val (.int i3), .val (.int i4), .val (.int z1), .val (.int z4), .val (.int (((i4.toUInt32 >>> ((4 : Int32) &&& 31).toUInt32).toInt32) &&& (3 : Int32))), .val (.int na), .val (.int z7), .val (.int z10), .unset, .unset, .unset, .unset, .unset, .unset, .unset, .unset, .unset, .unset, .unset, .unset, .unset] [(.int i0)])) (fun _ k => XS.iloadN X0.here hx rfl (hb hby at_80) rfl k) ?_
          refine own_goW (T' := s₁) (g' := (mkF m 84 #[.val (.int i0), .val (.int i1), .val (.int i2), .val (.int i3), .val (.int i4), .val (.int z1), .val (.int z4), .val (.int (((i4.toUInt32 >>> ((4 : Int32) &&& 31).toUInt32).toInt32) &&& (3 : Int32))), .val (.int na), .val (.int z7), .val (.int z10), .unset, .unset, .unset, .unset, .unset, .unset, .unset, .unset, .unset, .unset, .unset, .unset, .unset] [(.int (255 : Int32)), (.int i0)])) (fun _ k => XS.sipush X0.here hx rfl (hb hby at_81) k) ?_
          refine own_goW (T' := s₁) (g' := (mkF m 85 #[.val (.int i0), .val (.int i1), .val (.int i2), .val (.int i3), .val (.int i4), .val (.int z1), .val (.int z4), .val (.int (((i4.toUInt32 >>> ((4 : Int32) &&& 31).toUInt32).toInt32) &&& (3 : Int32))), .val (.int na), .val (.int z7), .val (.int z10), .unset, .unset, .unset, .unset, .unset, .unset, .unset, .unset, .unset, .unset, .unset, .unset, .unset] [(.int (i0 &&& (255 : Int32)))])) (fun _ k => XS.iand X0.here hx rfl (hb hby at_84) rfl k) ?_
          refine own_goW (T' := s₁) (g' := (mkF m 86 #[.val (.int i0), .val (.int i1), .val (.int i2), .val (.int i3), .val (.int i4), .val (.int z1), .val (.int z4), .val (.int (((i4.toUInt32 >>> ((4 : Int32) &&& 31).toUInt32).toInt32) &&& (3 : Int32))), .val (.int na), .val (.int z7), .val (.int z10), .unset, .unset, .unset, .unset, .unset, .unset, .unset, .unset, .unset, .unset, .unset, .unset, .unset] [(.int ((i0 &&& (255 : Int32)).toUInt32.toUInt16.toUInt32.toInt32))])) (fun _ k => XS.i2c X0.here hx rfl (hb hby at_85) rfl k) ?_
          refine own_goW (T' := s₁) (g' := (mkF m 88 #[.val (.int i0), .val (.int i1), .val (.int i2), .val (.int i3), .val (.int i4), .val (.int z1), .val (.int z4), .val (.int (((i4.toUInt32 >>> ((4 : Int32) &&& 31).toUInt32).toInt32) &&& (3 : Int32))), .val (.int na), .val (.int z7), .val (.int z10), .val (.int ((i0 &&& (255 : Int32)).toUInt32.toUInt16.toUInt32.toInt32)), .unset, .unset, .unset, .unset, .unset, .unset, .unset, .unset, .unset, .unset, .unset, .unset] [])) (fun _ k => XS.istore X0.here hx rfl (hb hby at_86) rfl (l' := #[.val (.int i0), .val (.int i1), .val (.int i2), .val (.int i3), .val (.int i4), .val (.int z1), .val (.int z4), .val (.int (((i4.toUInt32 >>> ((4 : Int32) &&& 31).toUInt32).toInt32) &&& (3 : Int32))), .val (.int na), .val (.int z7), .val (.int z10), .val (.int ((i0 &&& (255 : Int32)).toUInt32.toUInt16.toUInt32.toInt32)), .unset, .unset, .unset, .unset, .unset, .unset, .unset, .unset, .unset, .unset, .unset, .unset]) rfl k) ?_
          refine own_goW (T' := s₁) (g' := (mkF m 89 #[.val (.int i0), .val (.int i1), .val (.int i2), .val (.int i3), .val (.int i4), .val (.int z1), .val (.int z4), .val (.int (((i4.toUInt32 >>> ((4 : Int32) &&& 31).toUInt32).toInt32) &&& (3 : Int32))), .val (.int na), .val (.int z7), .val (.int z10), .val (.int ((i0 &&& (255 : Int32)).toUInt32.toUInt16.toUInt32.toInt32)), .unset, .unset, .unset, .unset, .unset, .unset, .unset, .unset, .unset, .unset, .unset, .unset] [(.int i0)])) (fun _ k => XS.iloadN X0.here hx rfl (hb hby at_88) rfl k) ?_
          refine own_goW (T' := s₁) (g' := (mkF m 91 #[.val (.int i0), .val (.int i1), .val (.int i2), .val (.int i3), .val (.int i4), .val (.int z1), .val (.int z4), .val (.int (((i4.toUInt32 >>> ((4 : Int32) &&& 31).toUInt32).toInt32) &&& (3 : Int32))), .val (.int na), .val (.int z7), .val (.int z10), .val (.int ((i0 &&& (255 : Int32)).toUInt32.toUInt16.toUInt32.toInt32)), .unset, .unset, .unset, .unset, .unset, .unset, .unset, .unset, .unset, .unset, .unset, .unset] [(.int (8 : Int32)), (.int i0)])) (fun _ k => XS.bipush X0.here hx rfl (hb hby at_89) k) ?_
          refine own_goW (T' := s₁) (g' := (mkF m 92 #[.val (.int i0), .val (.int i1), .val (.int i2), .val (.int i3), .val (.int i4), .val (.int z1), .val (.int z4), .val (.int (((i4.toUInt32 >>> ((4 : Int32) &&& 31).toUInt32).toInt32) &&& (3 : Int32))), .val (.int na), .val (.int z7), .val (.int z10), .val (.int ((i0 &&& (255 : Int32)).toUInt32.toUInt16.toUInt32.toInt32)), .unset, .unset, .unset, .unset, .unset, .unset, .unset, .unset, .unset, .unset, .unset, .unset] [(.int ((i0.toUInt32 >>> ((8 : Int32) &&& 31).toUInt32).toInt32))])) (fun _ k => XS.iushr X0.here hx rfl (hb hby at_91) rfl k) ?_
          refine own_goW (T' := s₁) (g' := (mkF m 95 #[.val (.int i0), .val (.int i1), .val (.int i2), .val (.int i3), .val (.int i4), .val (.int z1), .val (.int z4), .val (.int (((i4.toUInt32 >>> ((4 : Int32) &&& 31).toUInt32).toInt32) &&& (3 : Int32))), .val (.int na), .val (.int z7), .val (.int z10), .val (.int ((i0 &&& (255 : Int32)).toUInt32.toUInt16.toUInt32.toInt32)), .unset, .unset, .unset, .unset, .unset, .unset, .unset, .unset, .unset, .unset, .unset, .unset] [(.int (255 : Int32)), (.int ((i0.toUInt32 >>> ((8 : Int32) &&& 31).toUInt32).toInt32))])) (fun _ k => XS.sipush X0.here hx rfl (hb hby at_92) k) ?_
          refine own_goW (T' := s₁) (g' := (mkF m 96 #[.val (.int i0), .val (.int i1), .val (.int i2), .val (.int i3), .val (.int i4), .val (.int z1), .val (.int z4), .val (.int (((i4.toUInt32 >>> ((4 : Int32) &&& 31).toUInt32).toInt32) &&& (3 : Int32))), .val (.int na), .val (.int z7), .val (.int z10), .val (.int ((i0 &&& (255 : Int32)).toUInt32.toUInt16.toUInt32.toInt32)), .unset, .unset, .unset, .unset, .unset, .unset, .unset, .unset, .unset, .unset, .unset, .unset] [(.int (((i0.toUInt32 >>> ((8 : Int32) &&& 31).toUInt32).toInt32) &&& (255 : Int32)))])) (fun _ k => XS.iand X0.here hx rfl (hb hby at_95) rfl k) ?_
          refine own_goW (T' := s₁) (g' := (mkF m 97 #[.val (.int i0), .val (.int i1), .val (.int i2), .val (.int i3), .val (.int i4), .val (.int z1), .val (.int z4), .val (.int (((i4.toUInt32 >>> ((4 : Int32) &&& 31).toUInt32).toInt32) &&& (3 : Int32))), .val (.int na), .val (.int z7), .val (.int z10), .val (.int ((i0 &&& (255 : Int32)).toUInt32.toUInt16.toUInt32.toInt32)), .unset, .unset, .unset, .unset, .unset, .unset, .unset, .unset, .unset, .unset, .unset, .unset] [(.int ((((i0.toUInt32 >>> ((8 : Int32) &&& 31).toUInt32).toInt32) &&& (255 : Int32)).toUInt32.toUInt16.toUInt32.toInt32))])) (fun _ k => XS.i2c X0.here hx rfl (hb hby at_96) rfl k) ?_
          refine own_goW (T' := s₁) (g' := (mkF m 99 #[.val (.int i0), .val (.int i1), .val (.int i2), .val (.int i3), .val (.int i4), .val (.int z1), .val (.int z4), .val (.int (((i4.toUInt32 >>> ((4 : Int32) &&& 31).toUInt32).toInt32) &&& (3 : Int32))), .val (.int na), .val (.int z7), .val (.int z10), .val (.int ((i0 &&& (255 : Int32)).toUInt32.toUInt16.toUInt32.toInt32)), .val (.int ((((i0.toUInt32 >>> ((8 : Int32) &&& 31).toUInt32).toInt32) &&& (255 : Int32)).toUInt32.toUInt16.toUInt32.toInt32)), .unset, .unset, .unset, .unset, .unset, .unset, .unset, .unset, .unset, .unset, .unset] [])) (fun _ k => XS.istore X0.here hx rfl (hb hby at_97) rfl (l' := #[.val (.int i0), .val (.int i1), .val (.int i2), .val (.int i3), .val (.int i4), .val (.int z1), .val (.int z4), .val (.int (((i4.toUInt32 >>> ((4 : Int32) &&& 31).toUInt32).toInt32) &&& (3 : Int32))), .val (.int na), .val (.int z7), .val (.int z10), .val (.int ((i0 &&& (255 : Int32)).toUInt32.toUInt16.toUInt32.toInt32)), .val (.int ((((i0.toUInt32 >>> ((8 : Int32) &&& 31).toUInt32).toInt32) &&& (255 : Int32)).toUInt32.toUInt16.toUInt32.toInt32)), .unset, .unset, .unset, .unset, .unset, .unset, .unset, .unset, .unset, .unset, .unset]) rfl k) ?_
          refine own_goW (T' := s₁) (g' := (mkF m 101 #[.val (.int i0), .val (.int i1), .val (.int i2), .val (.int i3), .val (.int i4), .val (.int z1), .val (.int z4), .val (.int (((i4.toUInt32 >>> ((4 : Int32) &&& 31).toUInt32).toInt32) &&& (3 : Int32))), .val (.int na), .val (.int z7), .val (.int z10), .val (.int ((i0 &&& (255 : Int32)).toUInt32.toUInt16.toUInt32.toInt32)), .val (.int ((((i0.toUInt32 >>> ((8 : Int32) &&& 31).toUInt32).toInt32) &&& (255 : Int32)).toUInt32.toUInt16.toUInt32.toInt32)), .unset, .unset, .unset, .unset, .unset, .unset, .unset, .unset, .unset, .unset, .unset] [(.int z10)])) (fun _ k => XS.iload X0.here hx rfl (hb hby at_99) rfl k) ?_
          refine own_goW (T' := s₁) (g' := (mkF m 104 #[.val (.int i0), .val (.int i1), .val (.int i2), .val (.int i3), .val (.int i4), .val (.int z1), .val (.int z4), .val (.int (((i4.toUInt32 >>> ((4 : Int32) &&& 31).toUInt32).toInt32) &&& (3 : Int32))), .val (.int na), .val (.int z7), .val (.int z10), .val (.int ((i0 &&& (255 : Int32)).toUInt32.toUInt16.toUInt32.toInt32)), .val (.int ((((i0.toUInt32 >>> ((8 : Int32) &&& 31).toUInt32).toInt32) &&& (255 : Int32)).toUInt32.toUInt16.toUInt32.toInt32)), .unset, .unset, .unset, .unset, .unset, .unset, .unset, .unset, .unset, .unset, .unset] [(.int (255 : Int32)), (.int z10)])) (fun _ k => XS.sipush X0.here hx rfl (hb hby at_101) k) ?_
          refine own_goW (T' := s₁) (g' := (mkF m 105 #[.val (.int i0), .val (.int i1), .val (.int i2), .val (.int i3), .val (.int i4), .val (.int z1), .val (.int z4), .val (.int (((i4.toUInt32 >>> ((4 : Int32) &&& 31).toUInt32).toInt32) &&& (3 : Int32))), .val (.int na), .val (.int z7), .val (.int z10), .val (.int ((i0 &&& (255 : Int32)).toUInt32.toUInt16.toUInt32.toInt32)), .val (.int ((((i0.toUInt32 >>> ((8 : Int32) &&& 31).toUInt32).toInt32) &&& (255 : Int32)).toUInt32.toUInt16.toUInt32.toInt32)), .unset, .unset, .unset, .unset, .unset, .unset, .unset, .unset, .unset, .unset, .unset] [(.int (z10 &&& (255 : Int32)))])) (fun _ k => XS.iand X0.here hx rfl (hb hby at_104) rfl k) ?_
          refine own_goW (T' := s₁) (g' := (mkF m 106 #[.val (.int i0), .val (.int i1), .val (.int i2), .val (.int i3), .val (.int i4), .val (.int z1), .val (.int z4), .val (.int (((i4.toUInt32 >>> ((4 : Int32) &&& 31).toUInt32).toInt32) &&& (3 : Int32))), .val (.int na), .val (.int z7), .val (.int z10), .val (.int ((i0 &&& (255 : Int32)).toUInt32.toUInt16.toUInt32.toInt32)), .val (.int ((((i0.toUInt32 >>> ((8 : Int32) &&& 31).toUInt32).toInt32) &&& (255 : Int32)).toUInt32.toUInt16.toUInt32.toInt32)), .unset, .unset, .unset, .unset, .unset, .unset, .unset, .unset, .unset, .unset, .unset] [(.int ((z10 &&& (255 : Int32)).toUInt32.toUInt16.toUInt32.toInt32))])) (fun _ k => XS.i2c X0.here hx rfl (hb hby at_105) rfl k) ?_
          refine own_goW (T' := s₁) (g' := (mkF m 108 #[.val (.int i0), .val (.int i1), .val (.int i2), .val (.int i3), .val (.int i4), .val (.int z1), .val (.int z4), .val (.int (((i4.toUInt32 >>> ((4 : Int32) &&& 31).toUInt32).toInt32) &&& (3 : Int32))), .val (.int na), .val (.int z7), .val (.int z10), .val (.int ((i0 &&& (255 : Int32)).toUInt32.toUInt16.toUInt32.toInt32)), .val (.int ((((i0.toUInt32 >>> ((8 : Int32) &&& 31).toUInt32).toInt32) &&& (255 : Int32)).toUInt32.toUInt16.toUInt32.toInt32)), .val (.int ((z10 &&& (255 : Int32)).toUInt32.toUInt16.toUInt32.toInt32)), .unset, .unset, .unset, .unset, .unset, .unset, .unset, .unset, .unset, .unset] [])) (fun _ k => XS.istore X0.here hx rfl (hb hby at_106) rfl (l' := #[.val (.int i0), .val (.int i1), .val (.int i2), .val (.int i3), .val (.int i4), .val (.int z1), .val (.int z4), .val (.int (((i4.toUInt32 >>> ((4 : Int32) &&& 31).toUInt32).toInt32) &&& (3 : Int32))), .val (.int na), .val (.int z7), .val (.int z10), .val (.int ((i0 &&& (255 : Int32)).toUInt32.toUInt16.toUInt32.toInt32)), .val (.int ((((i0.toUInt32 >>> ((8 : Int32) &&& 31).toUInt32).toInt32) &&& (255 : Int32)).toUInt32.toUInt16.toUInt32.toInt32)), .val (.int ((z10 &&& (255 : Int32)).toUInt32.toUInt16.toUInt32.toInt32)), .unset, .unset, .unset, .unset, .unset, .unset, .unset, .unset, .unset, .unset]) rfl k) ?_
          refine own_goW (T' := s₁) (g' := (mkF m 110 #[.val (.int i0), .val (.int i1), .val (.int i2), .val (.int i3), .val (.int i4), .val (.int z1), .val (.int z4), .val (.int (((i4.toUInt32 >>> ((4 : Int32) &&& 31).toUInt32).toInt32) &&& (3 : Int32))), .val (.int na), .val (.int z7), .val (.int z10), .val (.int ((i0 &&& (255 : Int32)).toUInt32.toUInt16.toUInt32.toInt32)), .val (.int ((((i0.toUInt32 >>> ((8 : Int32) &&& 31).toUInt32).toInt32) &&& (255 : Int32)).toUInt32.toUInt16.toUInt32.toInt32)), .val (.int ((z10 &&& (255 : Int32)).toUInt32.toUInt16.toUInt32.toInt32)), .unset, .unset, .unset, .unset, .unset, .unset, .unset, .unset, .unset, .unset] [(.int z10)])) (fun _ k => XS.iload X0.here hx rfl (hb hby at_108) rfl k) ?_
          refine own_goW (T' := s₁) (g' := (mkF m 112 #[.val (.int i0), .val (.int i1), .val (.int i2), .val (.int i3), .val (.int i4), .val (.int z1), .val (.int z4), .val (.int (((i4.toUInt32 >>> ((4 : Int32) &&& 31).toUInt32).toInt32) &&& (3 : Int32))), .val (.int na), .val (.int z7), .val (.int z10), .val (.int ((i0 &&& (255 : Int32)).toUInt32.toUInt16.toUInt32.toInt32)), .val (.int ((((i0.toUInt32 >>> ((8 : Int32) &&& 31).toUInt32).toInt32) &&& (255 : Int32)).toUInt32.toUInt16.toUInt32.toInt32)), .val (.int ((z10 &&& (255 : Int32)).toUInt32.toUInt16.toUInt32.toInt32)), .unset, .unset, .unset, .unset, .unset, .unset, .unset, .unset, .unset, .unset] [(.int (8 : Int32)), (.int z10)])) (fun _ k => XS.bipush X0.here hx rfl (hb hby at_110) k) ?_
          refine own_goW (T' := s₁) (g' := (mkF m 113 #[.val (.int i0), .val (.int i1), .val (.int i2), .val (.int i3), .val (.int i4), .val (.int z1), .val (.int z4), .val (.int (((i4.toUInt32 >>> ((4 : Int32) &&& 31).toUInt32).toInt32) &&& (3 : Int32))), .val (.int na), .val (.int z7), .val (.int z10), .val (.int ((i0 &&& (255 : Int32)).toUInt32.toUInt16.toUInt32.toInt32)), .val (.int ((((i0.toUInt32 >>> ((8 : Int32) &&& 31).toUInt32).toInt32) &&& (255 : Int32)).toUInt32.toUInt16.toUInt32.toInt32)), .val (.int ((z10 &&& (255 : Int32)).toUInt32.toUInt16.toUInt32.toInt32)), .unset, .unset, .unset, .unset, .unset, .unset, .unset, .unset, .unset, .unset] [(.int ((z10.toUInt32 >>> ((8 : Int32) &&& 31).toUInt32).toInt32))])) (fun _ k => XS.iushr X0.here hx rfl (hb hby at_112) rfl k) ?_
          refine own_goW (T' := s₁) (g' := (mkF m 116 #[.val (.int i0), .val (.int i1), .val (.int i2), .val (.int i3), .val (.int i4), .val (.int z1), .val (.int z4), .val (.int (((i4.toUInt32 >>> ((4 : Int32) &&& 31).toUInt32).toInt32) &&& (3 : Int32))), .val (.int na), .val (.int z7), .val (.int z10), .val (.int ((i0 &&& (255 : Int32)).toUInt32.toUInt16.toUInt32.toInt32)), .val (.int ((((i0.toUInt32 >>> ((8 : Int32) &&& 31).toUInt32).toInt32) &&& (255 : Int32)).toUInt32.toUInt16.toUInt32.toInt32)), .val (.int ((z10 &&& (255 : Int32)).toUInt32.toUInt16.toUInt32.toInt32)), .unset, .unset, .unset, .unset, .unset, .unset, .unset, .unset, .unset, .unset] [(.int (255 : Int32)), (.int ((z10.toUInt32 >>> ((8 : Int32) &&& 31).toUInt32).toInt32))])) (fun _ k => XS.sipush X0.here hx rfl (hb hby at_113) k) ?_
          refine own_goW (T' := s₁) (g' := (mkF m 117 #[.val (.int i0), .val (.int i1), .val (.int i2), .val (.int i3), .val (.int i4), .val (.int z1), .val (.int z4), .val (.int (((i4.toUInt32 >>> ((4 : Int32) &&& 31).toUInt32).toInt32) &&& (3 : Int32))), .val (.int na), .val (.int z7), .val (.int z10), .val (.int ((i0 &&& (255 : Int32)).toUInt32.toUInt16.toUInt32.toInt32)), .val (.int ((((i0.toUInt32 >>> ((8 : Int32) &&& 31).toUInt32).toInt32) &&& (255 : Int32)).toUInt32.toUInt16.toUInt32.toInt32)), .val (.int ((z10 &&& (255 : Int32)).toUInt32.toUInt16.toUInt32.toInt32)), .unset, .unset, .unset, .unset, .unset, .unset, .unset, .unset, .unset, .unset] [(.int (((z10.toUInt32 >>> ((8 : Int32) &&& 31).toUInt32).toInt32) &&& (255 : Int32)))])) (fun _ k => XS.iand X0.here hx rfl (hb hby at_116) rfl k) ?_
          refine own_goW (T' := s₁) (g' := (mkF m 118 #[.val (.int i0), .val (.int i1), .val (.int i2), .val (.int i3), .val (.int i4), .val (.int z1), .val (.int z4), .val (.int (((i4.toUInt32 >>> ((4 : Int32) &&& 31).toUInt32).toInt32) &&& (3 : Int32))), .val (.int na), .val (.int z7), .val (.int z10), .val (.int ((i0 &&& (255 : Int32)).toUInt32.toUInt16.toUInt32.toInt32)), .val (.int ((((i0.toUInt32 >>> ((8 : Int32) &&& 31).toUInt32).toInt32) &&& (255 : Int32)).toUInt32.toUInt16.toUInt32.toInt32)), .val (.int ((z10 &&& (255 : Int32)).toUInt32.toUInt16.toUInt32.toInt32)), .unset, .unset, .unset, .unset, .unset, .unset, .unset, .unset, .unset, .unset] [(.int ((((z10.toUInt32 >>> ((8 : Int32) &&& 31).toUInt32).toInt32) &&& (255 : Int32)).toUInt32.toUInt16.toUInt32.toInt32))])) (fun _ k => XS.i2c X0.here hx rfl (hb hby at_117) rfl k) ?_
          refine own_goW (T' := s₁) (g' := (mkF m 120 #[.val (.int i0), .val (.int i1), .val (.int i2), .val (.int i3), .val (.int i4), .val (.int z1), .val (.int z4), .val (.int (((i4.toUInt32 >>> ((4 : Int32) &&& 31).toUInt32).toInt32) &&& (3 : Int32))), .val (.int na), .val (.int z7), .val (.int z10), .val (.int ((i0 &&& (255 : Int32)).toUInt32.toUInt16.toUInt32.toInt32)), .val (.int ((((i0.toUInt32 >>> ((8 : Int32) &&& 31).toUInt32).toInt32) &&& (255 : Int32)).toUInt32.toUInt16.toUInt32.toInt32)), .val (.int ((z10 &&& (255 : Int32)).toUInt32.toUInt16.toUInt32.toInt32)), .val (.int ((((z10.toUInt32 >>> ((8 : Int32) &&& 31).toUInt32).toInt32) &&& (255 : Int32)).toUInt32.toUInt16.toUInt32.toInt32)), .unset, .unset, .unset, .unset, .unset, .unset, .unset, .unset, .unset] [])) (fun _ k => XS.istore X0.here hx rfl (hb hby at_118) rfl (l' := #[.val (.int i0), .val (.int i1), .val (.int i2), .val (.int i3), .val (.int i4), .val (.int z1), .val (.int z4), .val (.int (((i4.toUInt32 >>> ((4 : Int32) &&& 31).toUInt32).toInt32) &&& (3 : Int32))), .val (.int na), .val (.int z7), .val (.int z10), .val (.int ((i0 &&& (255 : Int32)).toUInt32.toUInt16.toUInt32.toInt32)), .val (.int ((((i0.toUInt32 >>> ((8 : Int32) &&& 31).toUInt32).toInt32) &&& (255 : Int32)).toUInt32.toUInt16.toUInt32.toInt32)), .val (.int ((z10 &&& (255 : Int32)).toUInt32.toUInt16.toUInt32.toInt32)), .val (.int ((((z10.toUInt32 >>> ((8 : Int32) &&& 31).toUInt32).toInt32) &&& (255 : Int32)).toUInt32.toUInt16.toUInt32.toInt32)), .unset, .unset, .unset, .unset, .unset, .unset, .unset, .unset, .unset]) rfl k) ?_
          have hc_ch11 := own_chr' i0
          generalize hge : ((i0 &&& (255 : Int32)).toUInt32.toUInt16.toUInt32.toInt32) = ch11 at hc_ch11 ⊢
          clear hge
          have hc_ch12 := own_chr' ((i0.toUInt32 >>> ((8 : Int32) &&& 31).toUInt32).toInt32)
          generalize hge : ((((i0.toUInt32 >>> ((8 : Int32) &&& 31).toUInt32).toInt32) &&& (255 : Int32)).toUInt32.toUInt16.toUInt32.toInt32) = ch12 at hc_ch12 ⊢
          clear hge
          have hc_ch13 := own_chr' z10
          generalize hge : ((z10 &&& (255 : Int32)).toUInt32.toUInt16.toUInt32.toInt32) = ch13 at hc_ch13 ⊢
          clear hge
          have hc_ch14 := own_chr' ((z10.toUInt32 >>> ((8 : Int32) &&& 31).toUInt32).toInt32)
          generalize hge : ((((z10.toUInt32 >>> ((8 : Int32) &&& 31).toUInt32).toInt32) &&& (255 : Int32)).toUInt32.toUInt16.toUInt32.toInt32) = ch14 at hc_ch14 ⊢
          clear hge
          have hbx := own_by_inj hc_ch11 hc_ch13
          have hbw := own_by_inj hc_ch12 hc_ch14
          have hbx' := own_by_inj hc_ch13 hc_ch11
          have hbw' := own_by_inj hc_ch14 hc_ch12
          refine own_goW (T' := s₁) (g' := (mkF m 122 #[.val (.int i0), .val (.int i1), .val (.int i2), .val (.int i3), .val (.int i4), .val (.int z1), .val (.int z4), .val (.int (((i4.toUInt32 >>> ((4 : Int32) &&& 31).toUInt32).toInt32) &&& (3 : Int32))), .val (.int na), .val (.int z7), .val (.int z10), .val (.int ch11), .val (.int ch12), .val (.int ch13), .val (.int ch14), .unset, .unset, .unset, .unset, .unset, .unset, .unset, .unset, .unset] [(.int na)])) (fun _ k => XS.iload X0.here hx rfl (hb hby at_120) rfl k) ?_
          refine own_goW (T' := s₁) (g' := (mkF m 124 #[.val (.int i0), .val (.int i1), .val (.int i2), .val (.int i3), .val (.int i4), .val (.int z1), .val (.int z4), .val (.int (((i4.toUInt32 >>> ((4 : Int32) &&& 31).toUInt32).toInt32) &&& (3 : Int32))), .val (.int na), .val (.int z7), .val (.int z10), .val (.int ch11), .val (.int ch12), .val (.int ch13), .val (.int ch14), .unset, .unset, .unset, .unset, .unset, .unset, .unset, .unset, .unset] [(.int ch11), (.int na)])) (fun _ k => XS.iload X0.here hx rfl (hb hby at_122) rfl k) ?_
          refine own_goW (T' := s₁) (g' := (mkF m 126 #[.val (.int i0), .val (.int i1), .val (.int i2), .val (.int i3), .val (.int i4), .val (.int z1), .val (.int z4), .val (.int (((i4.toUInt32 >>> ((4 : Int32) &&& 31).toUInt32).toInt32) &&& (3 : Int32))), .val (.int na), .val (.int z7), .val (.int z10), .val (.int ch11), .val (.int ch12), .val (.int ch13), .val (.int ch14), .unset, .unset, .unset, .unset, .unset, .unset, .unset, .unset, .unset] [(.int ch12), (.int ch11), (.int na)])) (fun _ k => XS.iload X0.here hx rfl (hb hby at_124) rfl k) ?_
          obtain ⟨_, _, ⟨T13, L13, k13, n13⟩, -, X13, ⟨Lc13, hQ13, l13, y13, z13⟩, st13⟩ := Jvm.LawKit.callS X0 hx (y := (⟨"com/example/gentle_rebalance/gentlerebalance/engine/TopicPartitionEqualsPinLaw", "makeTopic", "(ICC)Ljava/lang/String;"⟩ : MethodName)) hown (mvT hZ (hw _ (List.mem_of_getElem? (i := 0) rfl))) (mvT hZ (hw _ (List.mem_of_getElem? (i := 1) rfl))) (mvT hZ (hw _ (List.mem_of_getElem? (i := 2) rfl))) (mvT hZ (hw _ (List.mem_of_getElem? (i := 3) rfl))) (by decide) (backOf (W := 0) (own_rm10 l Z a0 hw [] na ch11 ch12 cs h0 n0 Zs OL S_cs hcs hn_na hc_ch11 hc_ch12) hZ (hw _ (List.mem_of_getElem? (i := 3) rfl)) (hw _ (List.mem_of_getElem? (i := 2) rfl)) (by decide) (by decide)) (g := (mkF m 126 #[.val (.int i0), .val (.int i1), .val (.int i2), .val (.int i3), .val (.int i4), .val (.int z1), .val (.int z4), .val (.int (((i4.toUInt32 >>> ((4 : Int32) &&& 31).toUInt32).toInt32) &&& (3 : Int32))), .val (.int na), .val (.int z7), .val (.int z10), .val (.int ch11), .val (.int ch12), .val (.int ch13), .val (.int ch14), .unset, .unset, .unset, .unset, .unset, .unset, .unset, .unset, .unset] [(.int ch12), (.int ch11), (.int na)])) rfl (by rw [hml]; rfl) (argsL := [(.int na), (.int ch11), (.int ch12)]) (rest := []) (lenOf own_pd0_0 rfl) rfl (by show 2 * 0 + _ ≤ _; exact Nat.le_of_eq rfl) (hb hby at_126) (fun _ _ => ⟨rfl, e0, (by decide : 0 + 3 ≤ _), (by decide : 0 + 8 ≤ _)⟩)
          dsimp only [Pt.U, Pt.locs, Pt.cells, Pt.slots] at X13 l13 y13 z13 st13 hQ13
          subst l13 y13 z13
          obtain ⟨NQ13, K13, ts13, tv13, kt13, rfl, ge_ts13, g_ts13, ge_tv13, g_tv13, E_ts13, V_tv13, F_ts13_value, F_ts13_coder⟩ := hQ13
          have NF := Fr.app NF NQ13
          have OL := OL.keep K13 all0
          have hKi := Nat.le_trans hKi K13.1
          have Zs := Nat.le_trans Zs K13.1
          refine own_goW (T' := T13) (g' := (mkF m 129 #[.val (.int i0), .val (.int i1), .val (.int i2), .val (.int i3), .val (.int i4), .val (.int z1), .val (.int z4), .val (.int (((i4.toUInt32 >>> ((4 : Int32) &&& 31).toUInt32).toInt32) &&& (3 : Int32))), .val (.int na), .val (.int z7), .val (.int z10), .val (.int ch11), .val (.int ch12), .val (.int ch13), .val (.int ch14), .unset, .unset, .unset, .unset, .unset, .unset, .unset, .unset, .unset] [(.ref ts13)])) (fun _ k => st13 _ k) ?_
          refine own_goW (T' := T13) (g' := (mkF m 131 #[.val (.int i0), .val (.int i1), .val (.int i2), .val (.int i3), .val (.int i4), .val (.int z1), .val (.int z4), .val (.int (((i4.toUInt32 >>> ((4 : Int32) &&& 31).toUInt32).toInt32) &&& (3 : Int32))), .val (.int na), .val (.int z7), .val (.int z10), .val (.int ch11), .val (.int ch12), .val (.int ch13), .val (.int ch14), .val (.ref ts13), .unset, .unset, .unset, .unset, .unset, .unset, .unset, .unset] [])) (fun _ k => XS.astore X13.here hx rfl (hb hby at_129) rfl rfl (l' := #[.val (.int i0), .val (.int i1), .val (.int i2), .val (.int i3), .val (.int i4), .val (.int z1), .val (.int z4), .val (.int (((i4.toUInt32 >>> ((4 : Int32) &&& 31).toUInt32).toInt32) &&& (3 : Int32))), .val (.int na), .val (.int z7), .val (.int z10), .val (.int ch11), .val (.int ch12), .val (.int ch13), .val (.int ch14), .val (.ref ts13), .unset, .unset, .unset, .unset, .unset, .unset, .unset, .unset]) rfl k) ?_
          refine own_goW (T' := T13) (g' := (mkF m 133 #[.val (.int i0), .val (.int i1), .val (.int i2), .val (.int i3), .val (.int i4), .val (.int z1), .val (.int z4), .val (.int (((i4.toUInt32 >>> ((4 : Int32) &&& 31).toUInt32).toInt32) &&& (3 : Int32))), .val (.int na), .val (.int z7), .val (.int z10), .val (.int ch11), .val (.int ch12), .val (.int ch13), .val (.int ch14), .val (.ref ts13), .unset, .unset, .unset, .unset, .unset, .unset, .unset, .unset] [(.int z7)])) (fun _ k => XS.iload X13.here hx rfl (hb hby at_131) rfl k) ?_
          refine own_goW (T' := T13) (g' := (mkF m 135 #[.val (.int i0), .val (.int i1), .val (.int i2), .val (.int i3), .val (.int i4), .val (.int z1), .val (.int z4), .val (.int (((i4.toUInt32 >>> ((4 : Int32) &&& 31).toUInt32).toInt32) &&& (3 : Int32))), .val (.int na), .val (.int z7), .val (.int z10), .val (.int ch11), .val (.int ch12), .val (.int ch13), .val (.int ch14), .val (.ref ts13), .unset, .unset, .unset, .unset, .unset, .unset, .unset, .unset] [(.int ch13), (.int z7)])) (fun _ k => XS.iload X13.here hx rfl (hb hby at_133) rfl k) ?_
          refine own_goW (T' := T13) (g' := (mkF m 137 #[.val (.int i0), .val (.int i1), .val (.int i2), .val (.int i3), .val (.int i4), .val (.int z1), .val (.int z4), .val (.int (((i4.toUInt32 >>> ((4 : Int32) &&& 31).toUInt32).toInt32) &&& (3 : Int32))), .val (.int na), .val (.int z7), .val (.int z10), .val (.int ch11), .val (.int ch12), .val (.int ch13), .val (.int ch14), .val (.ref ts13), .unset, .unset, .unset, .unset, .unset, .unset, .unset, .unset] [(.int ch14), (.int ch13), (.int z7)])) (fun _ k => XS.iload X13.here hx rfl (hb hby at_135) rfl k) ?_
          have lt_ts13 := E_ts13.lt
          have lt_tv13 := V_tv13.lt
          obtain ⟨_, _, ⟨T14, L14, k14, n14⟩, -, X14, ⟨Lc14, hQ14, l14, y14, z14⟩, st14⟩ := Jvm.LawKit.callS X13 hx (y := (⟨"com/example/gentle_rebalance/gentlerebalance/engine/TopicPartitionEqualsPinLaw", "makeTopic", "(ICC)Ljava/lang/String;"⟩ : MethodName)) hown (mvT hZ (hw _ (List.mem_of_getElem? (i := 0) rfl))) (mvT hZ (hw _ (List.mem_of_getElem? (i := 1) rfl))) (mvT hZ (hw _ (List.mem_of_getElem? (i := 2) rfl))) (mvT hZ (hw _ (List.mem_of_getElem? (i := 3) rfl))) (by decide) (backOf (W := 0) (own_rm10 l Z a0 hw [] z7 ch13 ch14 cs T13.heap n0 Zs OL S_cs hcs hn_z7 hc_ch13 hc_ch14) hZ (hw _ (List.mem_of_getElem? (i := 3) rfl)) (hw _ (List.mem_of_getElem? (i := 2) rfl)) (by decide) (by decide)) (g := (mkF m 137 #[.val (.int i0), .val (.int i1), .val (.int i2), .val (.int i3), .val (.int i4), .val (.int z1), .val (.int z4), .val (.int (((i4.toUInt32 >>> ((4 : Int32) &&& 31).toUInt32).toInt32) &&& (3 : Int32))), .val (.int na), .val (.int z7), .val (.int z10), .val (.int ch11), .val (.int ch12), .val (.int ch13), .val (.int ch14), .val (.ref ts13), .unset, .unset, .unset, .unset, .unset, .unset, .unset, .unset] [(.int ch14), (.int ch13), (.int z7)])) rfl (by rw [hml]; rfl) (argsL := [(.int z7), (.int ch13), (.int ch14)]) (rest := []) (lenOf own_pd0_0 rfl) rfl (by show 2 * 0 + _ ≤ _; exact Nat.le_of_eq rfl) (hb hby at_137) (fun _ _ => ⟨rfl, rfl, (by decide : 3 + 3 ≤ _), (by decide : 8 + 8 ≤ _)⟩)
          dsimp only [Pt.U, Pt.locs, Pt.cells, Pt.slots] at X14 l14 y14 z14 st14 hQ14
          subst l14 y14 z14
          obtain ⟨NQ14, K14, ts14, tv14, kt14, rfl, ge_ts14, g_ts14, ge_tv14, g_tv14, E_ts14, V_tv14, F_ts14_value, F_ts14_coder⟩ := hQ14
          have NF := Fr.app NF NQ14
          have OL := OL.keep K14 all0
          have E_ts13 := E_ts13.keep K14
          have F_ts13_value := F_ts13_value.keep K14 nin0
          have F_ts13_coder := F_ts13_coder.keep K14 nin0
          have V_tv13 := V_tv13.keep K14 nin0
          have hKi := Nat.le_trans hKi K14.1
          have Zs := Nat.le_trans Zs K14.1
          have ne_ts13_ts14 : ts13 ≠ ts14 := Nat.ne_of_lt (Nat.lt_of_lt_of_le lt_ts13 ge_ts14)
          have ne_tv13_ts14 : tv13 ≠ ts14 := Nat.ne_of_lt (Nat.lt_of_lt_of_le lt_tv13 ge_ts14)
          have ne_ts13_tv14 : ts13 ≠ tv14 := Nat.ne_of_lt (Nat.lt_of_lt_of_le lt_ts13 ge_tv14)
          have ne_tv13_tv14 : tv13 ≠ tv14 := Nat.ne_of_lt (Nat.lt_of_lt_of_le lt_tv13 ge_tv14)
          refine own_goW (T' := T14) (g' := (mkF m 140 #[.val (.int i0), .val (.int i1), .val (.int i2), .val (.int i3), .val (.int i4), .val (.int z1), .val (.int z4), .val (.int (((i4.toUInt32 >>> ((4 : Int32) &&& 31).toUInt32).toInt32) &&& (3 : Int32))), .val (.int na), .val (.int z7), .val (.int z10), .val (.int ch11), .val (.int ch12), .val (.int ch13), .val (.int ch14), .val (.ref ts13), .unset, .unset, .unset, .unset, .unset, .unset, .unset, .unset] [(.ref ts14)])) (fun _ k => st14 _ k) ?_
          refine own_goW (T' := T14) (g' := (mkF m 142 #[.val (.int i0), .val (.int i1), .val (.int i2), .val (.int i3), .val (.int i4), .val (.int z1), .val (.int z4), .val (.int (((i4.toUInt32 >>> ((4 : Int32) &&& 31).toUInt32).toInt32) &&& (3 : Int32))), .val (.int na), .val (.int z7), .val (.int z10), .val (.int ch11), .val (.int ch12), .val (.int ch13), .val (.int ch14), .val (.ref ts13), .val (.ref ts14), .unset, .unset, .unset, .unset, .unset, .unset, .unset] [])) (fun _ k => XS.astore X14.here hx rfl (hb hby at_140) rfl rfl (l' := #[.val (.int i0), .val (.int i1), .val (.int i2), .val (.int i3), .val (.int i4), .val (.int z1), .val (.int z4), .val (.int (((i4.toUInt32 >>> ((4 : Int32) &&& 31).toUInt32).toInt32) &&& (3 : Int32))), .val (.int na), .val (.int z7), .val (.int z10), .val (.int ch11), .val (.int ch12), .val (.int ch13), .val (.int ch14), .val (.ref ts13), .val (.ref ts14), .unset, .unset, .unset, .unset, .unset, .unset, .unset]) rfl k) ?_
          refine own_goW (T' := T14) (g' := (mkF m 143 #[.val (.int i0), .val (.int i1), .val (.int i2), .val (.int i3), .val (.int i4), .val (.int z1), .val (.int z4), .val (.int (((i4.toUInt32 >>> ((4 : Int32) &&& 31).toUInt32).toInt32) &&& (3 : Int32))), .val (.int na), .val (.int z7), .val (.int z10), .val (.int ch11), .val (.int ch12), .val (.int ch13), .val (.int ch14), .val (.ref ts13), .val (.ref ts14), .unset, .unset, .unset, .unset, .unset, .unset, .unset] [(.int i2)])) (fun _ k => XS.iloadN X14.here hx rfl (hb hby at_142) rfl k) ?_
          refine own_goW (T' := T14) (g' := (mkF m 145 #[.val (.int i0), .val (.int i1), .val (.int i2), .val (.int i3), .val (.int i4), .val (.int z1), .val (.int z4), .val (.int (((i4.toUInt32 >>> ((4 : Int32) &&& 31).toUInt32).toInt32) &&& (3 : Int32))), .val (.int na), .val (.int z7), .val (.int z10), .val (.int ch11), .val (.int ch12), .val (.int ch13), .val (.int ch14), .val (.ref ts13), .val (.ref ts14), .unset, .unset, .unset, .unset, .unset, .unset, .unset] [(.int (2147483647 : Int32)), (.int i2)])) (fun _ k => X14.ldcInt hx hown (mvT hZ (hw _ (List.mem_of_getElem? (i := 34) rfl))) (g := (mkF m 143 #[.val (.int i0), .val (.int i1), .val (.int i2), .val (.int i3), .val (.int i4), .val (.int z1), .val (.int z4), .val (.int (((i4.toUInt32 >>> ((4 : Int32) &&& 31).toUInt32).toInt32) &&& (3 : Int32))), .val (.int na), .val (.int z7), .val (.int z10), .val (.int ch11), .val (.int ch12), .val (.int ch13), .val (.int ch14), .val (.ref ts13), .val (.ref ts14), .unset, .unset, .unset, .unset, .unset, .unset, .unset] [(.int i2)])) rfl (hb hby at_143) _ k) ?_
          refine own_goW (T' := T14) (g' := (mkF m 146 #[.val (.int i0), .val (.int i1), .val (.int i2), .val (.int i3), .val (.int i4), .val (.int z1), .val (.int z4), .val (.int (((i4.toUInt32 >>> ((4 : Int32) &&& 31).toUInt32).toInt32) &&& (3 : Int32))), .val (.int na), .val (.int z7), .val (.int z10), .val (.int ch11), .val (.int ch12), .val (.int ch13), .val (.int ch14), .val (.ref ts13), .val (.ref ts14), .unset, .unset, .unset, .unset, .unset, .unset, .unset] [(.int (i2 &&& (2147483647 : Int32)))])) (fun _ k => XS.iand X14.here hx rfl (hb hby at_145) rfl k) ?_
          refine own_goW (T' := T14) (g' := (mkF m 148 #[.val (.int i0), .val (.int i1), .val (.int i2), .val (.int i3), .val (.int i4), .val (.int z1), .val (.int z4), .val (.int (((i4.toUInt32 >>> ((4 : Int32) &&& 31).toUInt32).toInt32) &&& (3 : Int32))), .val (.int na), .val (.int z7), .val (.int z10), .val (.int ch11), .val (.int ch12), .val (.int ch13), .val (.int ch14), .val (.ref ts13), .val (.ref ts14), .val (.int (i2 &&& (2147483647 : Int32))), .unset, .unset, .unset, .unset, .unset, .unset] [])) (fun _ k => XS.istore X14.here hx rfl (hb hby at_146) rfl (l' := #[.val (.int i0), .val (.int i1), .val (.int i2), .val (.int i3), .val (.int i4), .val (.int z1), .val (.int z4), .val (.int (((i4.toUInt32 >>> ((4 : Int32) &&& 31).toUInt32).toInt32) &&& (3 : Int32))), .val (.int na), .val (.int z7), .val (.int z10), .val (.int ch11), .val (.int ch12), .val (.int ch13), .val (.int ch14), .val (.ref ts13), .val (.ref ts14), .val (.int (i2 &&& (2147483647 : Int32))), .unset, .unset, .unset, .unset, .unset, .unset]) rfl k) ?_
          have hu_pa := own_pos i2
          generalize hge : (i2 &&& (2147483647 : Int32)) = pa at hu_pa ⊢
          clear hge
          have hpo := own_pos i3
          have J17 : ∀ (z15 : Int32), (0 ≤ z15.toInt) → own_DnW p e below s (own_Q0 Z i0 i1 i2 i3 i4 cs h0 n0) room_1.cells room_1.slots T14 (mkF m 162 #[.val (.int i0), .val (.int i1), .val (.int i2), .val (.int i3), .val (.int i4), .val (.int z1), .val (.int z4), .val (.int (((i4.toUInt32 >>> ((4 : Int32) &&& 31).toUInt32).toInt32) &&& (3 : Int32))), .val (.int na), .val (.int z7), .val (.int z10), .val (.int ch11), .val (.int ch12), .val (.int ch13), .val (.int ch14), .val (.ref ts13), .val (.ref ts14), .val (.int pa), .unset, .unset, .unset, .unset, .unset, .unset] [(.int z15)]) := by
            intro z15 hz16
            refine own_goW (T' := T14) (g' := (mkF m 164 #[.val (.int i0), .val (.int i1), .val (.int i2), .val (.int i3), .val (.int i4), .val (.int z1), .val (.int z4), .val (.int (((i4.toUInt32 >>> ((4 : Int32) &&& 31).toUInt32).toInt32) &&& (3 : Int32))), .val (.int na), .val (.int z7), .val (.int z10), .val (.int ch11), .val (.int ch12), .val (.int ch13), .val (.int ch14), .val (.ref ts13), .val (.ref ts14), .val (.int pa), .val (.int z15), .unset, .unset, .unset, .unset, .unset] [])) (fun _ k => XS.istore X14.here hx rfl (hb hby at_162) rfl (l' := #[.val (.int i0), .val (.int i1), .val (.int i2), .val (.int i3), .val (.int i4), .val (.int z1), .val (.int z4), .val (.int (((i4.toUInt32 >>> ((4 : Int32) &&& 31).toUInt32).toInt32) &&& (3 : Int32))), .val (.int na), .val (.int z7), .val (.int z10), .val (.int ch11), .val (.int ch12), .val (.int ch13), .val (.int ch14), .val (.ref ts13), .val (.ref ts14), .val (.int pa), .val (.int z15), .unset, .unset, .unset, .unset, .unset]) rfl k) ?_
            clear hpo
            have hu_z15 := hz16
            obtain ⟨T18, h18, X18, e18, E18, A18, D18, -, st18⟩ := newO X14 hx hZ hown (hw _ (List.mem_of_getElem? (i := 35) rfl)) (hw _ (List.mem_of_getElem? (i := 36) rfl)) (hw _ (List.mem_of_getElem? (i := 37) rfl)) rfl (g := (mkF m 164 #[.val (.int i0), .val (.int i1), .val (.int i2), .val (.int i3), .val (.int i4), .val (.int z1), .val (.int z4), .val (.int (((i4.toUInt32 >>> ((4 : Int32) &&& 31).toUInt32).toInt32) &&& (3 : Int32))), .val (.int na), .val (.int z7), .val (.int z10), .val (.int ch11), .val (.int ch12), .val (.int ch13), .val (.int ch14), .val (.ref ts13), .val (.ref ts14), .val (.int pa), .val (.int z15), .unset, .unset, .unset, .unset, .unset] [])) rfl (hb hby at_164) (by decide) (by decide)
            obtain ⟨b18, g18⟩ : ∃ z, z = T14.heap.size := ⟨_, rfl⟩
            rw [← g18] at A18 D18 st18
            have ne_ts13_b18 : ts13 ≠ b18 := Nat.ne_of_lt (Nat.lt_of_lt_of_le E_ts13.lt (Nat.le_of_eq g18.symm))
            have ne_ts14_b18 : ts14 ≠ b18 := Nat.ne_of_lt (Nat.lt_of_lt_of_le E_ts14.lt (Nat.le_of_eq g18.symm))
            have ne_tv13_b18 : tv13 ≠ b18 := Nat.ne_of_lt (Nat.lt_of_lt_of_le V_tv13.lt (Nat.le_of_eq g18.symm))
            have ne_tv14_b18 : tv14 ≠ b18 := Nat.ne_of_lt (Nat.lt_of_lt_of_le V_tv14.lt (Nat.le_of_eq g18.symm))
            have g_b18 : n0 ≤ b18 := Nat.le_trans Zs (Nat.le_of_eq g18.symm)
            have OL := OL.ext E18
            have E_ts13 := E_ts13.ext E18
            have F_ts13_value := F_ts13_value.ext E18
            have F_ts13_coder := F_ts13_coder.ext E18
            have V_tv13 := V_tv13.ext E18
            have E_ts14 := E_ts14.ext E18
            have F_ts14_value := F_ts14_value.ext E18
            have F_ts14_coder := F_ts14_coder.ext E18
            have V_tv14 := V_tv14.ext E18
            have hKi := Nat.le_trans hKi E18.1
            have Zs := Nat.le_trans Zs E18.1
            have E_b18 := A18
            have F_b18_topic : Fld Z h18 b18 "com/example/gentle_rebalance/gentlerebalance/engine/TopicPartition" "topic" "Ljava/lang/String;" .null := D18 (Or.inr (hw _ (List.mem_of_getElem? (i := 55) rfl))) (ty := (.object "java/lang/String")) (by decide)
            have F_b18_partition : Fld Z h18 b18 "com/example/gentle_rebalance/gentlerebalance/engine/TopicPartition" "partition" "I" (.int (0 : Int32)) := D18 (Or.inr (hw _ (List.mem_of_getElem? (i := 57) rfl))) (ty := .int) (by decide)
            refine own_goW (T' := T18) (g' := (mkF m 167 #[.val (.int i0), .val (.int i1), .val (.int i2), .val (.int i3), .val (.int i4), .val (.int z1), .val (.int z4), .val (.int (((i4.toUInt32 >>> ((4 : Int32) &&& 31).toUInt32).toInt32) &&& (3 : Int32))), .val (.int na), .val (.int z7), .val (.int z10), .val (.int ch11), .val (.int ch12), .val (.int ch13), .val (.int ch14), .val (.ref ts13), .val (.ref ts14), .val (.int pa), .val (.int z15), .unset, .unset, .unset, .unset, .unset] [(.ref b18)])) (fun _ k => st18 _ k) ?_
            refine own_goW (T' := T18) (g' := (mkF m 168 #[.val (.int i0), .val (.int i1), .val (.int i2), .val (.int i3), .val (.int i4), .val (.int z1), .val (.int z4), .val (.int (((i4.toUInt32 >>> ((4 : Int32) &&& 31).toUInt32).toInt32) &&& (3 : Int32))), .val (.int na), .val (.int z7), .val (.int z10), .val (.int ch11), .val (.int ch12), .val (.int ch13), .val (.int ch14), .val (.ref ts13), .val (.ref ts14), .val (.int pa), .val (.int z15), .unset, .unset, .unset, .unset, .unset] [(.ref b18), (.ref b18)])) (fun _ k => XS.dup X18.here hx rfl (hb hby at_167) rfl rfl k) ?_
            refine own_goW (T' := T18) (g' := (mkF m 170 #[.val (.int i0), .val (.int i1), .val (.int i2), .val (.int i3), .val (.int i4), .val (.int z1), .val (.int z4), .val (.int (((i4.toUInt32 >>> ((4 : Int32) &&& 31).toUInt32).toInt32) &&& (3 : Int32))), .val (.int na), .val (.int z7), .val (.int z10), .val (.int ch11), .val (.int ch12), .val (.int ch13), .val (.int ch14), .val (.ref ts13), .val (.ref ts14), .val (.int pa), .val (.int z15), .unset, .unset, .unset, .unset, .unset] [(.ref ts13), (.ref b18), (.ref b18)])) (fun _ k => XS.aload X18.here hx rfl (hb hby at_168) rfl rfl k) ?_
            refine own_goW (T' := T18) (g' := (mkF m 172 #[.val (.int i0), .val (.int i1), .val (.int i2), .val (.int i3), .val (.int i4), .val (.int z1), .val (.int z4), .val (.int (((i4.toUInt32 >>> ((4 : Int32) &&& 31).toUInt32).toInt32) &&& (3 : Int32))), .val (.int na), .val (.int z7), .val (.int z10), .val (.int ch11), .val (.int ch12), .val (.int ch13), .val (.int ch14), .val (.ref ts13), .val (.ref ts14), .val (.int pa), .val (.int z15), .unset, .unset, .unset, .unset, .unset] [(.int pa), (.ref ts13), (.ref b18), (.ref b18)])) (fun _ k => XS.iload X18.here hx rfl (hb hby at_170) rfl k) ?_
            obtain ⟨_, _, ⟨T19, L19, k19, n19⟩, -, X19, hs19, gr19, ⟨Lc19, hQ19, l19, y19, z19⟩, st19⟩ := Jvm.Stand.specialBackS (s := s.setVm s.vm) X18 hx (y := (⟨"com/example/gentle_rebalance/gentlerebalance/engine/TopicPartition", "<init>", "(Ljava/lang/String;I)V"⟩ : MethodName)) rfl hown (mvT hZ (hw _ (List.mem_of_getElem? (i := 38) rfl))) (mvT hZ (hw _ (List.mem_of_getElem? (i := 39) rfl))) (mvT hZ (hw _ (List.mem_of_getElem? (i := 40) rfl))) (by decide) (backOfS (W := 1) (own_rm20 l Z a0 hw [] b18 ts13 pa tv13 kt13 na (own_by ch11) (own_by ch12) h18 n0 Zs F_b18_topic F_b18_partition E_b18 g_b18 (Ne.symm ne_ts13_b18) (Ne.symm ne_tv13_b18) E_ts13 F_ts13_value V_tv13 (own_n0 hn_na) (own_nneg hu_pa)) hZ (hw _ (List.mem_of_getElem? (i := 40) rfl)) (hw _ (List.mem_of_getElem? (i := 37) rfl)) (by decide) (by decide)) (g := (mkF m 172 #[.val (.int i0), .val (.int i1), .val (.int i2), .val (.int i3), .val (.int i4), .val (.int z1), .val (.int z4), .val (.int (((i4.toUInt32 >>> ((4 : Int32) &&& 31).toUInt32).toInt32) &&& (3 : Int32))), .val (.int na), .val (.int z7), .val (.int z10), .val (.int ch11), .val (.int ch12), .val (.int ch13), .val (.int ch14), .val (.ref ts13), .val (.ref ts14), .val (.int pa), .val (.int z15), .unset, .unset, .unset, .unset, .unset] [(.int pa), (.ref ts13), (.ref b18), (.ref b18)])) rfl (by rw [hml]; rfl) (Steps.refl _) (a := b18) (argsL := [(.ref ts13), (.int pa)]) (rest := [(.ref b18)]) (lenOf own_pd0_1 rfl) rfl (by show 2 * 0 + _ ≤ _; exact Nat.le_of_eq rfl) (hb hby at_172) (fun _ _ => ⟨rfl, e18, (by decide : 7 + 2 ≤ _), (by decide : 18 + 24 ≤ _)⟩)
            dsimp only [Pt.U, Pt.locs, Pt.cells, Pt.slots] at X19 l19 y19 z19 st19 hQ19 hs19 gr19
            subst l19 y19 z19
            replace hSi := foldS (s := s) (vm0 := s.vm) (T := T18) (U := T19) hSi (by rw [e18]; exact hKi) hs19 gr19
            replace hZ : Z.Warmed39 (s.setVm T19.vm).vm := State.Warmed39.trans (t := s.setVm s.vm) hZ hs19.1
            replace hown : (s.setVm T19.vm).vm.findClass "com/example/gentle_rebalance/gentlerebalance/engine/TopicPartitionEqualsPinLaw" = some m.cls := by
              rw [show (s.setVm T19.vm).vm = T19.vm from rfl, hs19.1.alike.findClass]; exact hown
            obtain ⟨rfl, NQ19, K19, E_b18, F_b18_topic, F_b18_partition⟩ := hQ19
            have NF := Fr.app NF NQ19
            have OL := OL.keep K19 (allS g_b18 all0)
            have E_ts13 := E_ts13.keep K19
            have F_ts13_value := F_ts13_value.keep K19 (ninS ne_ts13_b18 nin0)
            have F_ts13_coder := F_ts13_coder.keep K19 (ninS ne_ts13_b18 nin0)
            have V_tv13 := V_tv13.keep K19 (ninS ne_tv13_b18 nin0)
            have E_ts14 := E_ts14.keep K19
            have F_ts14_value := F_ts14_value.keep K19 (ninS ne_ts14_b18 nin0)
            have F_ts14_coder := F_ts14_coder.keep K19 (ninS ne_ts14_b18 nin0)
            have V_tv14 := V_tv14.keep K19 (ninS ne_tv14_b18 nin0)
            have hKi := Nat.le_trans hKi K19.1
            have Zs := Nat.le_trans Zs K19.1
            replace hKi : T19.heap.size ≤ T19.heap.size := Nat.le_refl _
            refine own_goW (T' := T19) (g' := (mkF m 175 #[.val (.int i0), .val (.int i1), .val (.int i2), .val (.int i3), .val (.int i4), .val (.int z1), .val (.int z4), .val (.int (((i4.toUInt32 >>> ((4 : Int32) &&& 31).toUInt32).toInt32) &&& (3 : Int32))), .val (.int na), .val (.int z7), .val (.int z10), .val (.int ch11), .val (.int ch12), .val (.int ch13), .val (.int ch14), .val (.ref ts13), .val (.ref ts14), .val (.int pa), .val (.int z15), .unset, .unset, .unset, .unset, .unset] [(.ref b18)])) (fun _ k => st19.trans k) ?_
            refine own_goW (T' := T19) (g' := (mkF m 177 #[.val (.int i0), .val (.int i1), .val (.int i2), .val (.int i3), .val (.int i4), .val (.int z1), .val (.int z4), .val (.int (((i4.toUInt32 >>> ((4 : Int32) &&& 31).toUInt32).toInt32) &&& (3 : Int32))), .val (.int na), .val (.int z7), .val (.int z10), .val (.int ch11), .val (.int ch12), .val (.int ch13), .val (.int ch14), .val (.ref ts13), .val (.ref ts14), .val (.int pa), .val (.int z15), .val (.ref b18), .unset, .unset, .unset, .unset] [])) (fun _ k => XS.astore X19.here hx rfl (hb hby at_175) rfl rfl (l' := #[.val (.int i0), .val (.int i1), .val (.int i2), .val (.int i3), .val (.int i4), .val (.int z1), .val (.int z4), .val (.int (((i4.toUInt32 >>> ((4 : Int32) &&& 31).toUInt32).toInt32) &&& (3 : Int32))), .val (.int na), .val (.int z7), .val (.int z10), .val (.int ch11), .val (.int ch12), .val (.int ch13), .val (.int ch14), .val (.ref ts13), .val (.ref ts14), .val (.int pa), .val (.int z15), .val (.ref b18), .unset, .unset, .unset, .unset]) rfl k) ?_
            obtain ⟨T20, h20, X20, e20, E20, A20, D20, -, st20⟩ := newO X19 hx hZ hown (hw _ (List.mem_of_getElem? (i := 35) rfl)) (hw _ (List.mem_of_getElem? (i := 36) rfl)) (hw _ (List.mem_of_getElem? (i := 37) rfl)) rfl (g := (mkF m 177 #[.val (.int i0), .val (.int i1), .val (.int i2), .val (.int i3), .val (.int i4), .val (.int z1), .val (.int z4), .val (.int (((i4.toUInt32 >>> ((4 : Int32) &&& 31).toUInt32).toInt32) &&& (3 : Int32))), .val (.int na), .val (.int z7), .val (.int z10), .val (.int ch11), .val (.int ch12), .val (.int ch13), .val (.int ch14), .val (.ref ts13), .val (.ref ts14), .val (.int pa), .val (.int z15), .val (.ref b18), .unset, .unset, .unset, .unset] [])) rfl (hb hby at_177) (by decide) (by decide)
            obtain ⟨b20, g20⟩ : ∃ z, z = T19.heap.size := ⟨_, rfl⟩
            rw [← g20] at A20 D20 st20
            have ne_b18_b20 : b18 ≠ b20 := Nat.ne_of_lt (Nat.lt_of_lt_of_le E_b18.lt (Nat.le_of_eq g20.symm))
            have ne_ts13_b20 : ts13 ≠ b20 := Nat.ne_of_lt (Nat.lt_of_lt_of_le E_ts13.lt (Nat.le_of_eq g20.symm))
            have ne_ts14_b20 : ts14 ≠ b20 := Nat.ne_of_lt (Nat.lt_of_lt_of_le E_ts14.lt (Nat.le_of_eq g20.symm))
            have ne_tv13_b20 : tv13 ≠ b20 := Nat.ne_of_lt (Nat.lt_of_lt_of_le V_tv13.lt (Nat.le_of_eq g20.symm))
            have ne_tv14_b20 : tv14 ≠ b20 := Nat.ne_of_lt (Nat.lt_of_lt_of_le V_tv14.lt (Nat.le_of_eq g20.symm))
            have g_b20 : n0 ≤ b20 := Nat.le_trans Zs (Nat.le_of_eq g20.symm)
            have OL := OL.ext E20
            have E_ts13 := E_ts13.ext E20
            have F_ts13_value := F_ts13_value.ext E20
            have F_ts13_coder := F_ts13_coder.ext E20
            have V_tv13 := V_tv13.ext E20
            have E_ts14 := E_ts14.ext E20
            have F_ts14_value := F_ts14_value.ext E20
            have F_ts14_coder := F_ts14_coder.ext E20
            have V_tv14 := V_tv14.ext E20
            have E_b18 := E_b18.ext E20
            have F_b18_topic := F_b18_topic.ext E20
            have F_b18_partition := F_b18_partition.ext E20
            have hKi := Nat.le_trans hKi E20.1
            have Zs := Nat.le_trans Zs E20.1
            have E_b20 := A20
            have F_b20_topic : Fld Z h20 b20 "com/example/gentle_rebalance/gentlerebalance/engine/TopicPartition" "topic" "Ljava/lang/String;" .null := D20 (Or.inr (hw _ (List.mem_of_getElem? (i := 55) rfl))) (ty := (.object "java/lang/String")) (by decide)
            have F_b20_partition : Fld Z h20 b20 "com/example/gentle_rebalance/gentlerebalance/engine/TopicPartition" "partition" "I" (.int (0 : Int32)) := D20 (Or.inr (hw _ (List.mem_of_getElem? (i := 57) rfl))) (ty := .int) (by decide)
            refine own_goW (T' := T20) (g' := (mkF m 180 #[.val (.int i0), .val (.int i1), .val (.int i2), .val (.int i3), .val (.int i4), .val (.int z1), .val (.int z4), .val (.int (((i4.toUInt32 >>> ((4 : Int32) &&& 31).toUInt32).toInt32) &&& (3 : Int32))), .val (.int na), .val (.int z7), .val (.int z10), .val (.int ch11), .val (.int ch12), .val (.int ch13), .val (.int ch14), .val (.ref ts13), .val (.ref ts14), .val (.int pa), .val (.int z15), .val (.ref b18), .unset, .unset, .unset, .unset] [(.ref b20)])) (fun _ k => st20 _ k) ?_
            refine own_goW (T' := T20) (g' := (mkF m 181 #[.val (.int i0), .val (.int i1), .val (.int i2), .val (.int i3), .val (.int i4), .val (.int z1), .val (.int z4), .val (.int (((i4.toUInt32 >>> ((4 : Int32) &&& 31).toUInt32).toInt32) &&& (3 : Int32))), .val (.int na), .val (.int z7), .val (.int z10), .val (.int ch11), .val (.int ch12), .val (.int ch13), .val (.int ch14), .val (.ref ts13), .val (.ref ts14), .val (.int pa), .val (.int z15), .val (.ref b18), .unset, .unset, .unset, .unset] [(.ref b20), (.ref b20)])) (fun _ k => XS.dup X20.here hx rfl (hb hby at_180) rfl rfl k) ?_
            refine own_goW (T' := T20) (g' := (mkF m 183 #[.val (.int i0), .val (.int i1), .val (.int i2), .val (.int i3), .val (.int i4), .val (.int z1), .val (.int z4), .val (.int (((i4.toUInt32 >>> ((4 : Int32) &&& 31).toUInt32).toInt32) &&& (3 : Int32))), .val (.int na), .val (.int z7), .val (.int z10), .val (.int ch11), .val (.int ch12), .val (.int ch13), .val (.int ch14), .val (.ref ts13), .val (.ref ts14), .val (.int pa), .val (.int z15), .val (.ref b18), .unset, .unset, .unset, .unset] [(.ref ts14), (.ref b20), (.ref b20)])) (fun _ k => XS.aload X20.here hx rfl (hb hby at_181) rfl rfl k) ?_
            refine own_goW (T' := T20) (g' := (mkF m 185 #[.val (.int i0), .val (.int i1), .val (.int i2), .val (.int i3), .val (.int i4), .val (.int z1), .val (.int z4), .val (.int (((i4.toUInt32 >>> ((4 : Int32) &&& 31).toUInt32).toInt32) &&& (3 : Int32))), .val (.int na), .val (.int z7), .val (.int z10), .val (.int ch11), .val (.int ch12), .val (.int ch13), .val (.int ch14), .val (.ref ts13), .val (.ref ts14), .val (.int pa), .val (.int z15), .val (.ref b18), .unset, .unset, .unset, .unset] [(.int z15), (.ref ts14), (.ref b20), (.ref b20)])) (fun _ k => XS.iload X20.here hx rfl (hb hby at_183) rfl k) ?_
            obtain ⟨_, _, ⟨T21, L21, k21, n21⟩, -, X21, hs21, gr21, ⟨Lc21, hQ21, l21, y21, z21⟩, st21⟩ := Jvm.Stand.specialBackS (s := s.setVm T19.vm) X20 hx (y := (⟨"com/example/gentle_rebalance/gentlerebalance/engine/TopicPartition", "<init>", "(Ljava/lang/String;I)V"⟩ : MethodName)) rfl hown (mvT hZ (hw _ (List.mem_of_getElem? (i := 38) rfl))) (mvT hZ (hw _ (List.mem_of_getElem? (i := 39) rfl))) (mvT hZ (hw _ (List.mem_of_getElem? (i := 40) rfl))) (by decide) (backOfS (W := 1) (own_rm20 l Z a0 hw [] b20 ts14 z15 tv14 kt14 z7 (own_by ch13) (own_by ch14) h20 n0 Zs F_b20_topic F_b20_partition E_b20 g_b20 (Ne.symm ne_ts14_b20) (Ne.symm ne_tv14_b20) E_ts14 F_ts14_value V_tv14 (own_n0 hn_z7) (own_nneg hu_z15)) hZ (hw _ (List.mem_of_getElem? (i := 40) rfl)) (hw _ (List.mem_of_getElem? (i := 37) rfl)) (by decide) (by decide)) (g := (mkF m 185 #[.val (.int i0), .val (.int i1), .val (.int i2), .val (.int i3), .val (.int i4), .val (.int z1), .val (.int z4), .val (.int (((i4.toUInt32 >>> ((4 : Int32) &&& 31).toUInt32).toInt32) &&& (3 : Int32))), .val (.int na), .val (.int z7), .val (.int z10), .val (.int ch11), .val (.int ch12), .val (.int ch13), .val (.int ch14), .val (.ref ts13), .val (.ref ts14), .val (.int pa), .val (.int z15), .val (.ref b18), .unset, .unset, .unset, .unset] [(.int z15), (.ref ts14), (.ref b20), (.ref b20)])) rfl (by rw [hml]; rfl) (Steps.refl _) (a := b20) (argsL := [(.ref ts14), (.int z15)]) (rest := [(.ref b20)]) (lenOf own_pd0_1 rfl) rfl (by show 2 * 0 + _ ≤ _; exact Nat.le_of_eq rfl) (hb hby at_185) (fun _ _ => ⟨rfl, e20, (by decide : 10 + 2 ≤ _), (by decide : 44 + 24 ≤ _)⟩)
            dsimp only [Pt.U, Pt.locs, Pt.cells, Pt.slots] at X21 l21 y21 z21 st21 hQ21 hs21 gr21
            subst l21 y21 z21
            replace hSi := foldS (s := s) (vm0 := T19.vm) (T := T20) (U := T21) hSi (by rw [e20]; exact hKi) hs21 gr21
            replace hZ : Z.Warmed39 (s.setVm T21.vm).vm := State.Warmed39.trans (t := s.setVm T19.vm) hZ hs21.1
            replace hown : (s.setVm T21.vm).vm.findClass "com/example/gentle_rebalance/gentlerebalance/engine/TopicPartitionEqualsPinLaw" = some m.cls := by
              rw [show (s.setVm T21.vm).vm = T21.vm from rfl, hs21.1.alike.findClass]; exact hown
            obtain ⟨rfl, NQ21, K21, E_b20, F_b20_topic, F_b20_partition⟩ := hQ21
            have NF := Fr.app NF NQ21
            have OL := OL.keep K21 (allS g_b20 all0)
            have E_ts13 := E_ts13.keep K21
            have F_ts13_value := F_ts13_value.keep K21 (ninS ne_ts13_b20 nin0)
            have F_ts13_coder := F_ts13_coder.keep K21 (ninS ne_ts13_b20 nin0)
            have V_tv13 := V_tv13.keep K21 (ninS ne_tv13_b20 nin0)
            have E_ts14 := E_ts14.keep K21
            have F_ts14_value := F_ts14_value.keep K21 (ninS ne_ts14_b20 nin0)
            have F_ts14_coder := F_ts14_coder.keep K21 (ninS ne_ts14_b20 nin0)
            have V_tv14 := V_tv14.keep K21 (ninS ne_tv14_b20 nin0)
            have E_b18 := E_b18.keep K21
            have F_b18_topic := F_b18_topic.keep K21 (ninS ne_b18_b20 nin0)
            have F_b18_partition := F_b18_partition.keep K21 (ninS ne_b18_b20 nin0)
            have hKi := Nat.le_trans hKi K21.1
            have Zs := Nat.le_trans Zs K21.1
            replace hKi : T21.heap.size ≤ T21.heap.size := Nat.le_refl _
            refine own_goW (T' := T21) (g' := (mkF m 188 #[.val (.int i0), .val (.int i1), .val (.int i2), .val (.int i3), .val (.int i4), .val (.int z1), .val (.int z4), .val (.int (((i4.toUInt32 >>> ((4 : Int32) &&& 31).toUInt32).toInt32) &&& (3 : Int32))), .val (.int na), .val (.int z7), .val (.int z10), .val (.int ch11), .val (.int ch12), .val (.int ch13), .val (.int ch14), .val (.ref ts13), .val (.ref ts14), .val (.int pa), .val (.int z15), .val (.ref b18), .unset, .unset, .unset, .unset] [(.ref b20)])) (fun _ k => st21.trans k) ?_
            refine own_goW (T' := T21) (g' := (mkF m 190 #[.val (.int i0), .val (.int i1), .val (.int i2), .val (.int i3), .val (.int i4), .val (.int z1), .val (.int z4), .val (.int (((i4.toUInt32 >>> ((4 : Int32) &&& 31).toUInt32).toInt32) &&& (3 : Int32))), .val (.int na), .val (.int z7), .val (.int z10), .val (.int ch11), .val (.int ch12), .val (.int ch13), .val (.int ch14), .val (.ref ts13), .val (.ref ts14), .val (.int pa), .val (.int z15), .val (.ref b18), .val (.ref b20), .unset, .unset, .unset] [])) (fun _ k => XS.astore X21.here hx rfl (hb hby at_188) rfl rfl (l' := #[.val (.int i0), .val (.int i1), .val (.int i2), .val (.int i3), .val (.int i4), .val (.int z1), .val (.int z4), .val (.int (((i4.toUInt32 >>> ((4 : Int32) &&& 31).toUInt32).toInt32) &&& (3 : Int32))), .val (.int na), .val (.int z7), .val (.int z10), .val (.int ch11), .val (.int ch12), .val (.int ch13), .val (.int ch14), .val (.ref ts13), .val (.ref ts14), .val (.int pa), .val (.int z15), .val (.ref b18), .val (.ref b20), .unset, .unset, .unset]) rfl k) ?_
            refine own_goW (T' := T21) (g' := (mkF m 192 #[.val (.int i0), .val (.int i1), .val (.int i2), .val (.int i3), .val (.int i4), .val (.int z1), .val (.int z4), .val (.int (((i4.toUInt32 >>> ((4 : Int32) &&& 31).toUInt32).toInt32) &&& (3 : Int32))), .val (.int na), .val (.int z7), .val (.int z10), .val (.int ch11), .val (.int ch12), .val (.int ch13), .val (.int ch14), .val (.ref ts13), .val (.ref ts14), .val (.int pa), .val (.int z15), .val (.ref b18), .val (.ref b20), .unset, .unset, .unset] [(.int (((i4.toUInt32 >>> ((4 : Int32) &&& 31).toUInt32).toInt32) &&& (3 : Int32)))])) (fun _ k => XS.iload X21.here hx rfl (hb hby at_190) rfl k) ?_
            by_cases c22 : (((i4.toUInt32 >>> ((4 : Int32) &&& 31).toUInt32).toInt32) &&& (3 : Int32)) = (0 : Int32)
            · refine own_goW (T' := T21) (g' := (mkF m 195 #[.val (.int i0), .val (.int i1), .val (.int i2), .val (.int i3), .val (.int i4), .val (.int z1), .val (.int z4), .val (.int (((i4.toUInt32 >>> ((4 : Int32) &&& 31).toUInt32).toInt32) &&& (3 : Int32))), .val (.int na), .val (.int z7), .val (.int z10), .val (.int ch11), .val (.int ch12), .val (.int ch13), .val (.int ch14), .val (.ref ts13), .val (.ref ts14), .val (.int pa), .val (.int z15), .val (.ref b18), .val (.ref b20), .unset, .unset, .unset] [])) (fun _ k => XS.ifNo X21.here hx rfl (hb hby at_192) rfl ((if0 _ _).trans (teq c22).2) k) ?_
              refine own_goW (T' := T21) (g' := (mkF m 197 #[.val (.int i0), .val (.int i1), .val (.int i2), .val (.int i3), .val (.int i4), .val (.int z1), .val (.int z4), .val (.int (((i4.toUInt32 >>> ((4 : Int32) &&& 31).toUInt32).toInt32) &&& (3 : Int32))), .val (.int na), .val (.int z7), .val (.int z10), .val (.int ch11), .val (.int ch12), .val (.int ch13), .val (.int ch14), .val (.ref ts13), .val (.ref ts14), .val (.int pa), .val (.int z15), .val (.ref b18), .val (.ref b20), .unset, .unset, .unset] [(.ref b20)])) (fun _ k => XS.aload X21.here hx rfl (hb hby at_195) rfl rfl k) ?_
              refine own_goW (T' := T21) (g' := (mkF m 199 #[.val (.int i0), .val (.int i1), .val (.int i2), .val (.int i3), .val (.int i4), .val (.int z1), .val (.int z4), .val (.int (((i4.toUInt32 >>> ((4 : Int32) &&& 31).toUInt32).toInt32) &&& (3 : Int32))), .val (.int na), .val (.int z7), .val (.int z10), .val (.int ch11), .val (.int ch12), .val (.int ch13), .val (.int ch14), .val (.ref ts13), .val (.ref ts14), .val (.int pa), .val (.int z15), .val (.ref b18), .val (.ref b20), .val (.ref b20), .unset, .unset] [])) (fun _ k => XS.astore X21.here hx rfl (hb hby at_197) rfl rfl (l' := #[.val (.int i0), .val (.int i1), .val (.int i2), .val (.int i3), .val (.int i4), .val (.int z1), .val (.int z4), .val (.int (((i4.toUInt32 >>> ((4 : Int32) &&& 31).toUInt32).toInt32) &&& (3 : Int32))), .val (.int na), .val (.int z7), .val (.int z10), .val (.int ch11), .val (.int ch12), .val (.int ch13), .val (.int ch14), .val (.ref ts13), .val (.ref ts14), .val (.int pa), .val (.int z15), .val (.ref b18), .val (.ref b20), .val (.ref b20), .unset, .unset]) rfl k) ?_
              have J25 : ∀ (z23 : Int32), ((z23 = (1 : Int32) ∧ (pa = z15 ∧ na = z7 ∧ ch11 = ch13 ∧ (na = (1 : Int32) ∨ ch12 = ch14))) ∨ (z23 = (0 : Int32) ∧ ¬ (pa = z15 ∧ na = z7 ∧ ch11 = ch13 ∧ (na = (1 : Int32) ∨ ch12 = ch14)))) → own_DnW p e below s (own_Q0 Z i0 i1 i2 i3 i4 cs h0 n0) room_1.cells room_1.slots T21 (mkF m 238 #[.val (.int i0), .val (.int i1), .val (.int i2), .val (.int i3), .val (.int i4), .val (.int z1), .val (.int z4), .val (.int (((i4.toUInt32 >>> ((4 : Int32) &&& 31).toUInt32).toInt32) &&& (3 : Int32))), .val (.int na), .val (.int z7), .val (.int z10), .val (.int ch11), .val (.int ch12), .val (.int ch13), .val (.int ch14), .val (.ref ts13), .val (.ref ts14), .val (.int pa), .val (.int z15), .val (.ref b18), .val (.ref b20), .val (.ref b20), .unset, .unset] [(.int z23)]) := by
                intro z23 hz24
                have hze := hz24
                refine own_goW (T' := T21) (g' := (mkF m 240 #[.val (.int i0), .val (.int i1), .val (.int i2), .val (.int i3), .val (.int i4), .val (.int z1), .val (.int z4), .val (.int (((i4.toUInt32 >>> ((4 : Int32) &&& 31).toUInt32).toInt32) &&& (3 : Int32))), .val (.int na), .val (.int z7), .val (.int z10), .val (.int ch11), .val (.int ch12), .val (.int ch13), .val (.int ch14), .val (.ref ts13), .val (.ref ts14), .val (.int pa), .val (.int z15), .val (.ref b18), .val (.ref b20), .val (.ref b20), .val (.int z23), .unset] [])) (fun _ k => XS.istore X21.here hx rfl (hb hby at_238) rfl (l' := #[.val (.int i0), .val (.int i1), .val (.int i2), .val (.int i3), .val (.int i4), .val (.int z1), .val (.int z4), .val (.int (((i4.toUInt32 >>> ((4 : Int32) &&& 31).toUInt32).toInt32) &&& (3 : Int32))), .val (.int na), .val (.int z7), .val (.int z10), .val (.int ch11), .val (.int ch12), .val (.int ch13), .val (.int ch14), .val (.ref ts13), .val (.ref ts14), .val (.int pa), .val (.int z15), .val (.ref b18), .val (.ref b20), .val (.ref b20), .val (.int z23), .unset]) rfl k) ?_
                refine own_goW (T' := T21) (g' := (mkF m 281 #[.val (.int i0), .val (.int i1), .val (.int i2), .val (.int i3), .val (.int i4), .val (.int z1), .val (.int z4), .val (.int (((i4.toUInt32 >>> ((4 : Int32) &&& 31).toUInt32).toInt32) &&& (3 : Int32))), .val (.int na), .val (.int z7), .val (.int z10), .val (.int ch11), .val (.int ch12), .val (.int ch13), .val (.int ch14), .val (.ref ts13), .val (.ref ts14), .val (.int pa), .val (.int z15), .val (.ref b18), .val (.ref b20), .val (.ref b20), .val (.int z23), .unset] [])) (fun _ k => XS.goto X21.here hx rfl (pc0 := 240) (pc' := 281) rfl (hb hby at_240) (by decide) (by decide) k) ?_
                refine own_goW (T' := T21) (g' := (mkF m 283 #[.val (.int i0), .val (.int i1), .val (.int i2), .val (.int i3), .val (.int i4), .val (.int z1), .val (.int z4), .val (.int (((i4.toUInt32 >>> ((4 : Int32) &&& 31).toUInt32).toInt32) &&& (3 : Int32))), .val (.int na), .val (.int z7), .val (.int z10), .val (.int ch11), .val (.int ch12), .val (.int ch13), .val (.int ch14), .val (.ref ts13), .val (.ref ts14), .val (.int pa), .val (.int z15), .val (.ref b18), .val (.ref b20), .val (.ref b20), .val (.int z23), .unset] [(.ref b18)])) (fun _ k => XS.aload X21.here hx rfl (hb hby at_281) rfl rfl k) ?_
                refine own_goW (T' := T21) (g' := (mkF m 285 #[.val (.int i0), .val (.int i1), .val (.int i2), .val (.int i3), .val (.int i4), .val (.int z1), .val (.int z4), .val (.int (((i4.toUInt32 >>> ((4 : Int32) &&& 31).toUInt32).toInt32) &&& (3 : Int32))), .val (.int na), .val (.int z7), .val (.int z10), .val (.int ch11), .val (.int ch12), .val (.int ch13), .val (.int ch14), .val (.ref ts13), .val (.ref ts14), .val (.int pa), .val (.int z15), .val (.ref b18), .val (.ref b20), .val (.ref b20), .val (.int z23), .unset] [(.ref b20), (.ref b18)])) (fun _ k => XS.aload X21.here hx rfl (hb hby at_283) rfl rfl k) ?_
                obtain ⟨cq26, kq26, q26a, q26b, q26c⟩ := isOf hZ rfl E_b18
                obtain ⟨_, _, ⟨T26, L26, k26, n26⟩, -, X26, ⟨Lc26, hQ26, l26, y26, z26⟩, st26⟩ := X21.virtualBack hx (y := (⟨"com/example/gentle_rebalance/gentlerebalance/engine/TopicPartition", "equals", "(Ljava/lang/Object;)Z"⟩ : MethodName)) (z := (⟨"com/example/gentle_rebalance/gentlerebalance/engine/TopicPartition", "equals", "(Ljava/lang/Object;)Z"⟩ : MethodName)) hown (mvT hZ (hw _ (List.mem_of_getElem? (i := 58) rfl))) (mvT hZ (hw _ (List.mem_of_getElem? (i := 59) rfl))) (notFace_of_selects (args := #[]) (mvT hZ (hw _ (List.mem_of_getElem? (i := 61) rfl)))) (mvT hZ (hw _ (List.mem_of_getElem? (i := 61) rfl))) (mvT hZ (hw _ (List.mem_of_getElem? (i := 60) rfl))) (by decide) (backOf (W := 0) (own_rm18 l Z a0 hw [] b18 b20 ts13 pa ts14 z15 tv13 kt13 na (own_by ch11) (own_by ch12) tv14 kt14 z7 (own_by ch13) (own_by ch14) cs T21.heap n0 Zs OL S_cs hcs F_b18_topic F_b18_partition F_b20_topic F_b20_partition E_b20 ne_b18_b20 E_ts13 E_ts14 ne_ts13_ts14 F_ts13_value F_ts13_coder F_ts14_value F_ts14_coder V_tv13 V_tv14 hn_na hn_z7) hZ (hw _ (List.mem_of_getElem? (i := 62) rfl)) (hw _ (List.mem_of_getElem? (i := 37) rfl)) (by decide) (by decide)) q26a q26c (g := (mkF m 285 #[.val (.int i0), .val (.int i1), .val (.int i2), .val (.int i3), .val (.int i4), .val (.int z1), .val (.int z4), .val (.int (((i4.toUInt32 >>> ((4 : Int32) &&& 31).toUInt32).toInt32) &&& (3 : Int32))), .val (.int na), .val (.int z7), .val (.int z10), .val (.int ch11), .val (.int ch12), .val (.int ch13), .val (.int ch14), .val (.ref ts13), .val (.ref ts14), .val (.int pa), .val (.int z15), .val (.ref b18), .val (.ref b20), .val (.ref b20), .val (.int z23), .unset] [(.ref b20), (.ref b18)])) rfl (by rw [hml]; rfl) (Steps.refl _) (argsL := [(.ref b20)]) (rest := []) (lenOf own_pd0_2 rfl) rfl (by show 2 * 0 + _ ≤ _; exact Nat.le_of_eq rfl) (hb hby at_285) (fun _ _ => ⟨rfl, rfl, (by decide : 12 + 0 ≤ _), (by decide : 68 + 0 ≤ _)⟩)
                dsimp only [Pt.U, Pt.locs, Pt.cells, Pt.slots] at X26 l26 y26 z26 st26 hQ26
                subst l26 y26 z26
                obtain ⟨rz26, rfl, NQ26, eq26, hz26⟩ := hQ26
                have NF := Fr.app NF NQ26
                have hr26 := own_tr hbx hbw hz26
                have hg1 := own_same hr26 hze
                refine own_goW (T' := T26) (g' := (mkF m 288 #[.val (.int i0), .val (.int i1), .val (.int i2), .val (.int i3), .val (.int i4), .val (.int z1), .val (.int z4), .val (.int (((i4.toUInt32 >>> ((4 : Int32) &&& 31).toUInt32).toInt32) &&& (3 : Int32))), .val (.int na), .val (.int z7), .val (.int z10), .val (.int ch11), .val (.int ch12), .val (.int ch13), .val (.int ch14), .val (.ref ts13), .val (.ref ts14), .val (.int pa), .val (.int z15), .val (.ref b18), .val (.ref b20), .val (.ref b20), .val (.int z23), .unset] [(.int rz26)])) (fun _ k => st26.trans k) ?_
                refine own_goW (T' := T26) (g' := (mkF m 290 #[.val (.int i0), .val (.int i1), .val (.int i2), .val (.int i3), .val (.int i4), .val (.int z1), .val (.int z4), .val (.int (((i4.toUInt32 >>> ((4 : Int32) &&& 31).toUInt32).toInt32) &&& (3 : Int32))), .val (.int na), .val (.int z7), .val (.int z10), .val (.int ch11), .val (.int ch12), .val (.int ch13), .val (.int ch14), .val (.ref ts13), .val (.ref ts14), .val (.int pa), .val (.int z15), .val (.ref b18), .val (.ref b20), .val (.ref b20), .val (.int z23), .val (.int rz26)] [])) (fun _ k => XS.istore X26.here hx rfl (hb hby at_288) rfl (l' := #[.val (.int i0), .val (.int i1), .val (.int i2), .val (.int i3), .val (.int i4), .val (.int z1), .val (.int z4), .val (.int (((i4.toUInt32 >>> ((4 : Int32) &&& 31).toUInt32).toInt32) &&& (3 : Int32))), .val (.int na), .val (.int z7), .val (.int z10), .val (.int ch11), .val (.int ch12), .val (.int ch13), .val (.int ch14), .val (.ref ts13), .val (.ref ts14), .val (.int pa), .val (.int z15), .val (.ref b18), .val (.ref b20), .val (.ref b20), .val (.int z23), .val (.int rz26)]) rfl k) ?_
                refine own_goW (T' := T26) (g' := (mkF m 292 #[.val (.int i0), .val (.int i1), .val (.int i2), .val (.int i3), .val (.int i4), .val (.int z1), .val (.int z4), .val (.int (((i4.toUInt32 >>> ((4 : Int32) &&& 31).toUInt32).toInt32) &&& (3 : Int32))), .val (.int na), .val (.int z7), .val (.int z10), .val (.int ch11), .val (.int ch12), .val (.int ch13), .val (.int ch14), .val (.ref ts13), .val (.ref ts14), .val (.int pa), .val (.int z15), .val (.ref b18), .val (.ref b20), .val (.ref b20), .val (.int z23), .val (.int rz26)] [(.int (((i4.toUInt32 >>> ((4 : Int32) &&& 31).toUInt32).toInt32) &&& (3 : Int32)))])) (fun _ k => XS.iload X26.here hx rfl (hb hby at_290) rfl k) ?_
                refine own_goW (T' := T26) (g' := (mkF m 295 #[.val (.int i0), .val (.int i1), .val (.int i2), .val (.int i3), .val (.int i4), .val (.int z1), .val (.int z4), .val (.int (((i4.toUInt32 >>> ((4 : Int32) &&& 31).toUInt32).toInt32) &&& (3 : Int32))), .val (.int na), .val (.int z7), .val (.int z10), .val (.int ch11), .val (.int ch12), .val (.int ch13), .val (.int ch14), .val (.ref ts13), .val (.ref ts14), .val (.int pa), .val (.int z15), .val (.ref b18), .val (.ref b20), .val (.ref b20), .val (.int z23), .val (.int rz26)] [])) (fun _ k => XS.ifNo X26.here hx rfl (hb hby at_292) rfl ((if0 _ _).trans (teq c22).2) k) ?_
                refine own_goW (T' := T26) (g' := (mkF m 297 #[.val (.int i0), .val (.int i1), .val (.int i2), .val (.int i3), .val (.int i4), .val (.int z1), .val (.int z4), .val (.int (((i4.toUInt32 >>> ((4 : Int32) &&& 31).toUInt32).toInt32) &&& (3 : Int32))), .val (.int na), .val (.int z7), .val (.int z10), .val (.int ch11), .val (.int ch12), .val (.int ch13), .val (.int ch14), .val (.ref ts13), .val (.ref ts14), .val (.int pa), .val (.int z15), .val (.ref b18), .val (.ref b20), .val (.ref b20), .val (.int z23), .val (.int rz26)] [(.int rz26)])) (fun _ k => XS.iload X26.here hx rfl (hb hby at_295) rfl k) ?_
                refine own_goW (T' := T26) (g' := (mkF m 299 #[.val (.int i0), .val (.int i1), .val (.int i2), .val (.int i3), .val (.int i4), .val (.int z1), .val (.int z4), .val (.int (((i4.toUInt32 >>> ((4 : Int32) &&& 31).toUInt32).toInt32) &&& (3 : Int32))), .val (.int na), .val (.int z7), .val (.int z10), .val (.int ch11), .val (.int ch12), .val (.int ch13), .val (.int ch14), .val (.ref ts13), .val (.ref ts14), .val (.int pa), .val (.int z15), .val (.ref b18), .val (.ref b20), .val (.ref b20), .val (.int z23), .val (.int rz26)] [(.ref b20), (.int rz26)])) (fun _ k => XS.aload X26.here hx rfl (hb hby at_297) rfl rfl k) ?_
                refine own_goW (T' := T26) (g' := (mkF m 301 #[.val (.int i0), .val (.int i1), .val (.int i2), .val (.int i3), .val (.int i4), .val (.int z1), .val (.int z4), .val (.int (((i4.toUInt32 >>> ((4 : Int32) &&& 31).toUInt32).toInt32) &&& (3 : Int32))), .val (.int na), .val (.int z7), .val (.int z10), .val (.int ch11), .val (.int ch12), .val (.int ch13), .val (.int ch14), .val (.ref ts13), .val (.ref ts14), .val (.int pa), .val (.int z15), .val (.ref b18), .val (.ref b20), .val (.ref b20), .val (.int z23), .val (.int rz26)] [(.ref b18), (.ref b20), (.int rz26)])) (fun _ k => XS.aload X26.here hx rfl (hb hby at_299) rfl rfl k) ?_
                obtain ⟨cq27, kq27, q27a, q27b, q27c⟩ := isOf hZ eq26 E_b20
                obtain ⟨_, _, ⟨T27, L27, k27, n27⟩, -, X27, ⟨Lc27, hQ27, l27, y27, z27⟩, st27⟩ := X26.virtualBack hx (y := (⟨"com/example/gentle_rebalance/gentlerebalance/engine/TopicPartition", "equals", "(Ljava/lang/Object;)Z"⟩ : MethodName)) (z := (⟨"com/example/gentle_rebalance/gentlerebalance/engine/TopicPartition", "equals", "(Ljava/lang/Object;)Z"⟩ : MethodName)) hown (mvT hZ (hw _ (List.mem_of_getElem? (i := 58) rfl))) (mvT hZ (hw _ (List.mem_of_getElem? (i := 59) rfl))) (notFace_of_selects (args := #[]) (mvT hZ (hw _ (List.mem_of_getElem? (i := 61) rfl)))) (mvT hZ (hw _ (List.mem_of_getElem? (i := 61) rfl))) (mvT hZ (hw _ (List.mem_of_getElem? (i := 60) rfl))) (by decide) (backOf (W := 1) (own_rm18 l Z a0 hw [] b20 b18 ts14 z15 ts13 pa tv14 kt14 z7 (own_by ch13) (own_by ch14) tv13 kt13 na (own_by ch11) (own_by ch12) cs T21.heap n0 Zs OL S_cs hcs F_b20_topic F_b20_partition F_b18_topic F_b18_partition E_b18 (Ne.symm ne_b18_b20) E_ts14 E_ts13 (Ne.symm ne_ts13_ts14) F_ts14_value F_ts14_coder F_ts13_value F_ts13_coder V_tv14 V_tv13 hn_z7 hn_na) hZ (hw _ (List.mem_of_getElem? (i := 62) rfl)) (hw _ (List.mem_of_getElem? (i := 37) rfl)) (by decide) (by decide)) q27a q27c (g := (mkF m 301 #[.val (.int i0), .val (.int i1), .val (.int i2), .val (.int i3), .val (.int i4), .val (.int z1), .val (.int z4), .val (.int (((i4.toUInt32 >>> ((4 : Int32) &&& 31).toUInt32).toInt32) &&& (3 : Int32))), .val (.int na), .val (.int z7), .val (.int z10), .val (.int ch11), .val (.int ch12), .val (.int ch13), .val (.int ch14), .val (.ref ts13), .val (.ref ts14), .val (.int pa), .val (.int z15), .val (.ref b18), .val (.ref b20), .val (.ref b20), .val (.int z23), .val (.int rz26)] [(.ref b18), (.ref b20), (.int rz26)])) rfl (by rw [hml]; rfl) (Steps.refl _) (argsL := [(.ref b18)]) (rest := [(.int rz26)]) (lenOf own_pd0_2 rfl) rfl (by show 2 * 0 + _ ≤ _; exact Nat.le_of_eq rfl) (hb hby at_301) (fun _ _ => ⟨rfl, eq26, (by decide : 12 + 0 ≤ _), (by decide : 68 + 0 ≤ _)⟩)
                dsimp only [Pt.U, Pt.locs, Pt.cells, Pt.slots] at X27 l27 y27 z27 st27 hQ27
                subst l27 y27 z27
                obtain ⟨rz27, rfl, NQ27, eq27, hz27⟩ := hQ27
                have NF := Fr.app NF NQ27
                have hr27 := own_sym (own_tr hbx' hbw' hz27)
                have hg2 := own_same hr26 hr27
                refine own_goW (T' := T27) (g' := (mkF m 304 #[.val (.int i0), .val (.int i1), .val (.int i2), .val (.int i3), .val (.int i4), .val (.int z1), .val (.int z4), .val (.int (((i4.toUInt32 >>> ((4 : Int32) &&& 31).toUInt32).toInt32) &&& (3 : Int32))), .val (.int na), .val (.int z7), .val (.int z10), .val (.int ch11), .val (.int ch12), .val (.int ch13), .val (.int ch14), .val (.ref ts13), .val (.ref ts14), .val (.int pa), .val (.int z15), .val (.ref b18), .val (.ref b20), .val (.ref b20), .val (.int z23), .val (.int rz26)] [(.int rz27), (.int rz26)])) (fun _ k => st27.trans k) ?_
                refine own_goW (T' := T27) (g' := (mkF m 309 #[.val (.int i0), .val (.int i1), .val (.int i2), .val (.int i3), .val (.int i4), .val (.int z1), .val (.int z4), .val (.int (((i4.toUInt32 >>> ((4 : Int32) &&& 31).toUInt32).toInt32) &&& (3 : Int32))), .val (.int na), .val (.int z7), .val (.int z10), .val (.int ch11), .val (.int ch12), .val (.int ch13), .val (.int ch14), .val (.ref ts13), .val (.ref ts14), .val (.int pa), .val (.int z15), .val (.ref b18), .val (.ref b20), .val (.ref b20), .val (.int z23), .val (.int rz26)] [])) (fun _ k => XS.icmpYes X27.here hx rfl (pc0 := 304) (pc' := 309) rfl (hb hby at_304) rfl (teq hg2).1 (by decide) (by decide) k) ?_
                refine own_goW (T' := T27) (g' := (mkF m 311 #[.val (.int i0), .val (.int i1), .val (.int i2), .val (.int i3), .val (.int i4), .val (.int z1), .val (.int z4), .val (.int (((i4.toUInt32 >>> ((4 : Int32) &&& 31).toUInt32).toInt32) &&& (3 : Int32))), .val (.int na), .val (.int z7), .val (.int z10), .val (.int ch11), .val (.int ch12), .val (.int ch13), .val (.int ch14), .val (.ref ts13), .val (.ref ts14), .val (.int pa), .val (.int z15), .val (.ref b18), .val (.ref b20), .val (.ref b20), .val (.int z23), .val (.int rz26)] [(.int rz26)])) (fun _ k => XS.iload X27.here hx rfl (hb hby at_309) rfl k) ?_
                refine own_goW (T' := T27) (g' := (mkF m 313 #[.val (.int i0), .val (.int i1), .val (.int i2), .val (.int i3), .val (.int i4), .val (.int z1), .val (.int z4), .val (.int (((i4.toUInt32 >>> ((4 : Int32) &&& 31).toUInt32).toInt32) &&& (3 : Int32))), .val (.int na), .val (.int z7), .val (.int z10), .val (.int ch11), .val (.int ch12), .val (.int ch13), .val (.int ch14), .val (.ref ts13), .val (.ref ts14), .val (.int pa), .val (.int z15), .val (.ref b18), .val (.ref b20), .val (.ref b20), .val (.int z23), .val (.int rz26)] [(.int z23), (.int rz26)])) (fun _ k => XS.iload X27.here hx rfl (hb hby at_311) rfl k) ?_
                refine own_goW (T' := T27) (g' := (mkF m 316 #[.val (.int i0), .val (.int i1), .val (.int i2), .val (.int i3), .val (.int i4), .val (.int z1), .val (.int z4), .val (.int (((i4.toUInt32 >>> ((4 : Int32) &&& 31).toUInt32).toInt32) &&& (3 : Int32))), .val (.int na), .val (.int z7), .val (.int z10), .val (.int ch11), .val (.int ch12), .val (.int ch13), .val (.int ch14), .val (.ref ts13), .val (.ref ts14), .val (.int pa), .val (.int z15), .val (.ref b18), .val (.ref b20), .val (.ref b20), .val (.int z23), .val (.int rz26)] [])) (fun _ k => XS.icmpNo X27.here hx rfl (hb hby at_313) rfl (teq hg1).2 k) ?_
                refine own_goW (T' := T27) (g' := (mkF m 317 #[.val (.int i0), .val (.int i1), .val (.int i2), .val (.int i3), .val (.int i4), .val (.int z1), .val (.int z4), .val (.int (((i4.toUInt32 >>> ((4 : Int32) &&& 31).toUInt32).toInt32) &&& (3 : Int32))), .val (.int na), .val (.int z7), .val (.int z10), .val (.int ch11), .val (.int ch12), .val (.int ch13), .val (.int ch14), .val (.ref ts13), .val (.ref ts14), .val (.int pa), .val (.int z15), .val (.ref b18), .val (.ref b20), .val (.ref b20), .val (.int z23), .val (.int rz26)] [(.int (1 : Int32))])) (fun _ k => XS.iconst X27.here hx rfl (hb hby at_316) k) ?_
                refine own_goW (T' := T27) (g' := (mkF m 321 #[.val (.int i0), .val (.int i1), .val (.int i2), .val (.int i3), .val (.int i4), .val (.int z1), .val (.int z4), .val (.int (((i4.toUInt32 >>> ((4 : Int32) &&& 31).toUInt32).toInt32) &&& (3 : Int32))), .val (.int na), .val (.int z7), .val (.int z10), .val (.int ch11), .val (.int ch12), .val (.int ch13), .val (.int ch14), .val (.ref ts13), .val (.ref ts14), .val (.int pa), .val (.int z15), .val (.ref b18), .val (.ref b20), .val (.ref b20), .val (.int z23), .val (.int rz26)] [(.int (1 : Int32))])) (fun _ k => XS.goto X27.here hx rfl (pc0 := 317) (pc' := 321) rfl (hb hby at_317) (by decide) (by decide) k) ?_
                refine own_retW (s := s) (vm₁ := T21.vm) X27 Bd.notSynchronized (some (.int (1 : Int32))) (fun h => by rw [Bd.returns] at h; cases h) (fun fs hr => retN X27 hx (t := .boolean) Bd.returns (by simp) (hb hby at_321) hr) ?_ (by decide) (by decide) hSi (by rw [eq27]; exact hKi)
                show (own_Q0 Z i0 i1 i2 i3 i4 cs h0 n0) (some (.int (1 : Int32))) T27.heap _
                rw [eq27]
                exact ⟨rfl, NF⟩
              refine own_goW (T' := T21) (g' := (mkF m 201 #[.val (.int i0), .val (.int i1), .val (.int i2), .val (.int i3), .val (.int i4), .val (.int z1), .val (.int z4), .val (.int (((i4.toUInt32 >>> ((4 : Int32) &&& 31).toUInt32).toInt32) &&& (3 : Int32))), .val (.int na), .val (.int z7), .val (.int z10), .val (.int ch11), .val (.int ch12), .val (.int ch13), .val (.int ch14), .val (.ref ts13), .val (.ref ts14), .val (.int pa), .val (.int z15), .val (.ref b18), .val (.ref b20), .val (.ref b20), .unset, .unset] [(.int na)])) (fun _ k => XS.iload X21.here hx rfl (hb hby at_199) rfl k) ?_
              refine own_goW (T' := T21) (g' := (mkF m 203 #[.val (.int i0), .val (.int i1), .val (.int i2), .val (.int i3), .val (.int i4), .val (.int z1), .val (.int z4), .val (.int (((i4.toUInt32 >>> ((4 : Int32) &&& 31).toUInt32).toInt32) &&& (3 : Int32))), .val (.int na), .val (.int z7), .val (.int z10), .val (.int ch11), .val (.int ch12), .val (.int ch13), .val (.int ch14), .val (.ref ts13), .val (.ref ts14), .val (.int pa), .val (.int z15), .val (.ref b18), .val (.ref b20), .val (.ref b20), .unset, .unset] [(.int z7), (.int na)])) (fun _ k => XS.iload X21.here hx rfl (hb hby at_201) rfl k) ?_
              by_cases c28 : na = z7
              · refine own_goW (T' := T21) (g' := (mkF m 206 #[.val (.int i0), .val (.int i1), .val (.int i2), .val (.int i3), .val (.int i4), .val (.int z1), .val (.int z4), .val (.int (((i4.toUInt32 >>> ((4 : Int32) &&& 31).toUInt32).toInt32) &&& (3 : Int32))), .val (.int na), .val (.int z7), .val (.int z10), .val (.int ch11), .val (.int ch12), .val (.int ch13), .val (.int ch14), .val (.ref ts13), .val (.ref ts14), .val (.int pa), .val (.int z15), .val (.ref b18), .val (.ref b20), .val (.ref b20), .unset, .unset] [])) (fun _ k => XS.icmpNo X21.here hx rfl (hb hby at_203) rfl (teq c28).2 k) ?_
                refine own_goW (T' := T21) (g' := (mkF m 208 #[.val (.int i0), .val (.int i1), .val (.int i2), .val (.int i3), .val (.int i4), .val (.int z1), .val (.int z4), .val (.int (((i4.toUInt32 >>> ((4 : Int32) &&& 31).toUInt32).toInt32) &&& (3 : Int32))), .val (.int na), .val (.int z7), .val (.int z10), .val (.int ch11), .val (.int ch12), .val (.int ch13), .val (.int ch14), .val (.ref ts13), .val (.ref ts14), .val (.int pa), .val (.int z15), .val (.ref b18), .val (.ref b20), .val (.ref b20), .unset, .unset] [(.int ch11)])) (fun _ k => XS.iload X21.here hx rfl (hb hby at_206) rfl k) ?_
                refine own_goW (T' := T21) (g' := (mkF m 210 #[.val (.int i0), .val (.int i1), .val (.int i2), .val (.int i3), .val (.int i4), .val (.int z1), .val (.int z4), .val (.int (((i4.toUInt32 >>> ((4 : Int32) &&& 31).toUInt32).toInt32) &&& (3 : Int32))), .val (.int na), .val (.int z7), .val (.int z10), .val (.int ch11), .val (.int ch12), .val (.int ch13), .val (.int ch14), .val (.ref ts13), .val (.ref ts14), .val (.int pa), .val (.int z15), .val (.ref b18), .val (.ref b20), .val (.ref b20), .unset, .unset] [(.int ch13), (.int ch11)])) (fun _ k => XS.iload X21.here hx rfl (hb hby at_208) rfl k) ?_
                by_cases c29 : ch11 = ch13
                · refine own_goW (T' := T21) (g' := (mkF m 213 #[.val (.int i0), .val (.int i1), .val (.int i2), .val (.int i3), .val (.int i4), .val (.int z1), .val (.int z4), .val (.int (((i4.toUInt32 >>> ((4 : Int32) &&& 31).toUInt32).toInt32) &&& (3 : Int32))), .val (.int na), .val (.int z7), .val (.int z10), .val (.int ch11), .val (.int ch12), .val (.int ch13), .val (.int ch14), .val (.ref ts13), .val (.ref ts14), .val (.int pa), .val (.int z15), .val (.ref b18), .val (.ref b20), .val (.ref b20), .unset, .unset] [])) (fun _ k => XS.icmpNo X21.here hx rfl (hb hby at_210) rfl (teq c29).2 k) ?_
                  refine own_goW (T' := T21) (g' := (mkF m 215 #[.val (.int i0), .val (.int i1), .val (.int i2), .val (.int i3), .val (.int i4), .val (.int z1), .val (.int z4), .val (.int (((i4.toUInt32 >>> ((4 : Int32) &&& 31).toUInt32).toInt32) &&& (3 : Int32))), .val (.int na), .val (.int z7), .val (.int z10), .val (.int ch11), .val (.int ch12), .val (.int ch13), .val (.int ch14), .val (.ref ts13), .val (.ref ts14), .val (.int pa), .val (.int z15), .val (.ref b18), .val (.ref b20), .val (.ref b20), .unset, .unset] [(.int na)])) (fun _ k => XS.iload X21.here hx rfl (hb hby at_213) rfl k) ?_
                  refine own_goW (T' := T21) (g' := (mkF m 216 #[.val (.int i0), .val (.int i1), .val (.int i2), .val (.int i3), .val (.int i4), .val (.int z1), .val (.int z4), .val (.int (((i4.toUInt32 >>> ((4 : Int32) &&& 31).toUInt32).toInt32) &&& (3 : Int32))), .val (.int na), .val (.int z7), .val (.int z10), .val (.int ch11), .val (.int ch12), .val (.int ch13), .val (.int ch14), .val (.ref ts13), .val (.ref ts14), .val (.int pa), .val (.int z15), .val (.ref b18), .val (.ref b20), .val (.ref b20), .unset, .unset] [(.int (1 : Int32)), (.int na)])) (fun _ k => XS.iconst X21.here hx rfl (hb hby at_215) k) ?_
                  by_cases c30 : na = (1 : Int32)
                  · refine own_goW (T' := T21) (g' := (mkF m 226 #[.val (.int i0), .val (.int i1), .val (.int i2), .val (.int i3), .val (.int i4), .val (.int z1), .val (.int z4), .val (.int (((i4.toUInt32 >>> ((4 : Int32) &&& 31).toUInt32).toInt32) &&& (3 : Int32))), .val (.int na), .val (.int z7), .val (.int z10), .val (.int ch11), .val (.int ch12), .val (.int ch13), .val (.int ch14), .val (.ref ts13), .val (.ref ts14), .val (.int pa), .val (.int z15), .val (.ref b18), .val (.ref b20), .val (.ref b20), .unset, .unset] [])) (fun _ k => XS.icmpYes X21.here hx rfl (pc0 := 216) (pc' := 226) rfl (hb hby at_216) rfl (teq c30).1 (by decide) (by decide) k) ?_
                    refine own_goW (T' := T21) (g' := (mkF m 228 #[.val (.int i0), .val (.int i1), .val (.int i2), .val (.int i3), .val (.int i4), .val (.int z1), .val (.int z4), .val (.int (((i4.toUInt32 >>> ((4 : Int32) &&& 31).toUInt32).toInt32) &&& (3 : Int32))), .val (.int na), .val (.int z7), .val (.int z10), .val (.int ch11), .val (.int ch12), .val (.int ch13), .val (.int ch14), .val (.ref ts13), .val (.ref ts14), .val (.int pa), .val (.int z15), .val (.ref b18), .val (.ref b20), .val (.ref b20), .unset, .unset] [(.int pa)])) (fun _ k => XS.iload X21.here hx rfl (hb hby at_226) rfl k) ?_
                    refine own_goW (T' := T21) (g' := (mkF m 230 #[.val (.int i0), .val (.int i1), .val (.int i2), .val (.int i3), .val (.int i4), .val (.int z1), .val (.int z4), .val (.int (((i4.toUInt32 >>> ((4 : Int32) &&& 31).toUInt32).toInt32) &&& (3 : Int32))), .val (.int na), .val (.int z7), .val (.int z10), .val (.int ch11), .val (.int ch12), .val (.int ch13), .val (.int ch14), .val (.ref ts13), .val (.ref ts14), .val (.int pa), .val (.int z15), .val (.ref b18), .val (.ref b20), .val (.ref b20), .unset, .unset] [(.int z15), (.int pa)])) (fun _ k => XS.iload X21.here hx rfl (hb hby at_228) rfl k) ?_
                    by_cases c31 : pa = z15
                    · refine own_goW (T' := T21) (g' := (mkF m 233 #[.val (.int i0), .val (.int i1), .val (.int i2), .val (.int i3), .val (.int i4), .val (.int z1), .val (.int z4), .val (.int (((i4.toUInt32 >>> ((4 : Int32) &&& 31).toUInt32).toInt32) &&& (3 : Int32))), .val (.int na), .val (.int z7), .val (.int z10), .val (.int ch11), .val (.int ch12), .val (.int ch13), .val (.int ch14), .val (.ref ts13), .val (.ref ts14), .val (.int pa), .val (.int z15), .val (.ref b18), .val (.ref b20), .val (.ref b20), .unset, .unset] [])) (fun _ k => XS.icmpNo X21.here hx rfl (hb hby at_230) rfl (teq c31).2 k) ?_
                      refine own_goW (T' := T21) (g' := (mkF m 234 #[.val (.int i0), .val (.int i1), .val (.int i2), .val (.int i3), .val (.int i4), .val (.int z1), .val (.int z4), .val (.int (((i4.toUInt32 >>> ((4 : Int32) &&& 31).toUInt32).toInt32) &&& (3 : Int32))), .val (.int na), .val (.int z7), .val (.int z10), .val (.int ch11), .val (.int ch12), .val (.int ch13), .val (.int ch14), .val (.ref ts13), .val (.ref ts14), .val (.int pa), .val (.int z15), .val (.ref b18), .val (.ref b20), .val (.ref b20), .unset, .unset] [(.int (1 : Int32))])) (fun _ k => XS.iconst X21.here hx rfl (hb hby at_233) k) ?_
                      refine own_goW (T' := T21) (g' := (mkF m 238 #[.val (.int i0), .val (.int i1), .val (.int i2), .val (.int i3), .val (.int i4), .val (.int z1), .val (.int z4), .val (.int (((i4.toUInt32 >>> ((4 : Int32) &&& 31).toUInt32).toInt32) &&& (3 : Int32))), .val (.int na), .val (.int z7), .val (.int z10), .val (.int ch11), .val (.int ch12), .val (.int ch13), .val (.int ch14), .val (.ref ts13), .val (.ref ts14), .val (.int pa), .val (.int z15), .val (.ref b18), .val (.ref b20), .val (.ref b20), .unset, .unset] [(.int (1 : Int32))])) (fun _ k => XS.goto X21.here hx rfl (pc0 := 234) (pc' := 238) rfl (hb hby at_234) (by decide) (by decide) k) ?_
                      exact J25 _ (by (try simp only [own_l0, own_l1, own_l2, own_l3, own_l4, own_l8, own_l31, own_l255, own_l2147483647, Int32.lt_iff_toInt_lt, ← Int32.toInt_inj, Int64.lt_iff_toInt_lt, ← Int64.toInt_inj, and_true, true_and, and_false, false_and, or_true, true_or, or_false, false_or, not_true_eq_false, not_false_eq_true, ne_eq, true_implies, false_implies, implies_true] at hz2 hz5 hz8 hz11 hz16 c22 c28 c29 c30 c31 ⊢) <;> omega)
                    · refine own_goW (T' := T21) (g' := (mkF m 237 #[.val (.int i0), .val (.int i1), .val (.int i2), .val (.int i3), .val (.int i4), .val (.int z1), .val (.int z4), .val (.int (((i4.toUInt32 >>> ((4 : Int32) &&& 31).toUInt32).toInt32) &&& (3 : Int32))), .val (.int na), .val (.int z7), .val (.int z10), .val (.int ch11), .val (.int ch12), .val (.int ch13), .val (.int ch14), .val (.ref ts13), .val (.ref ts14), .val (.int pa), .val (.int z15), .val (.ref b18), .val (.ref b20), .val (.ref b20), .unset, .unset] [])) (fun _ k => XS.icmpYes X21.here hx rfl (pc0 := 230) (pc' := 237) rfl (hb hby at_230) rfl (feq c31).2 (by decide) (by decide) k) ?_
                      refine own_goW (T' := T21) (g' := (mkF m 238 #[.val (.int i0), .val (.int i1), .val (.int i2), .val (.int i3), .val (.int i4), .val (.int z1), .val (.int z4), .val (.int (((i4.toUInt32 >>> ((4 : Int32) &&& 31).toUInt32).toInt32) &&& (3 : Int32))), .val (.int na), .val (.int z7), .val (.int z10), .val (.int ch11), .val (.int ch12), .val (.int ch13), .val (.int ch14), .val (.ref ts13), .val (.ref ts14), .val (.int pa), .val (.int z15), .val (.ref b18), .val (.ref b20), .val (.ref b20), .unset, .unset] [(.int (0 : Int32))])) (fun _ k => XS.iconst X21.here hx rfl (hb hby at_237) k) ?_
                      exact J25 _ (by (try simp only [own_l0, own_l1, own_l2, own_l3, own_l4, own_l8, own_l31, own_l255, own_l2147483647, Int32.lt_iff_toInt_lt, ← Int32.toInt_inj, Int64.lt_iff_toInt_lt, ← Int64.toInt_inj, and_true, true_and, and_false, false_and, or_true, true_or, or_false, false_or, not_true_eq_false, not_false_eq_true, ne_eq, true_implies, false_implies, implies_true] at hz2 hz5 hz8 hz11 hz16 c22 c28 c29 c30 c31 ⊢) <;> omega)
                  · refine own_goW (T' := T21) (g' := (mkF m 219 #[.val (.int i0), .val (.int i1), .val (.int i2), .val (.int i3), .val (.int i4), .val (.int z1), .val (.int z4), .val (.int (((i4.toUInt32 >>> ((4 : Int32) &&& 31).toUInt32).toInt32) &&& (3 : Int32))), .val (.int na), .val (.int z7), .val (.int z10), .val (.int ch11), .val (.int ch12), .val (.int ch13), .val (.int ch14), .val (.ref ts13), .val (.ref ts14), .val (.int pa), .val (.int z15), .val (.ref b18), .val (.ref b20), .val (.ref b20), .unset, .unset] [])) (fun _ k => XS.icmpNo X21.here hx rfl (hb hby at_216) rfl (feq c30).1 k) ?_
                    refine own_goW (T' := T21) (g' := (mkF m 221 #[.val (.int i0), .val (.int i1), .val (.int i2), .val (.int i3), .val (.int i4), .val (.int z1), .val (.int z4), .val (.int (((i4.toUInt32 >>> ((4 : Int32) &&& 31).toUInt32).toInt32) &&& (3 : Int32))), .val (.int na), .val (.int z7), .val (.int z10), .val (.int ch11), .val (.int ch12), .val (.int ch13), .val (.int ch14), .val (.ref ts13), .val (.ref ts14), .val (.int pa), .val (.int z15), .val (.ref b18), .val (.ref b20), .val (.ref b20), .unset, .unset] [(.int ch12)])) (fun _ k => XS.iload X21.here hx rfl (hb hby at_219) rfl k) ?_
                    refine own_goW (T' := T21) (g' := (mkF m 223 #[.val (.int i0), .val (.int i1), .val (.int i2), .val (.int i3), .val (.int i4), .val (.int z1), .val (.int z4), .val (.int (((i4.toUInt32 >>> ((4 : Int32) &&& 31).toUInt32).toInt32) &&& (3 : Int32))), .val (.int na), .val (.int z7), .val (.int z10), .val (.int ch11), .val (.int ch12), .val (.int ch13), .val (.int ch14), .val (.ref ts13), .val (.ref ts14), .val (.int pa), .val (.int z15), .val (.ref b18), .val (.ref b20), .val (.ref b20), .unset, .unset] [(.int ch14), (.int ch12)])) (fun _ k => XS.iload X21.here hx rfl (hb hby at_221) rfl k) ?_
                    by_cases c32 : ch12 = ch14
                    · refine own_goW (T' := T21) (g' := (mkF m 226 #[.val (.int i0), .val (.int i1), .val (.int i2), .val (.int i3), .val (.int i4), .val (.int z1), .val (.int z4), .val (.int (((i4.toUInt32 >>> ((4 : Int32) &&& 31).toUInt32).toInt32) &&& (3 : Int32))), .val (.int na), .val (.int z7), .val (.int z10), .val (.int ch11), .val (.int ch12), .val (.int ch13), .val (.int ch14), .val (.ref ts13), .val (.ref ts14), .val (.int pa), .val (.int z15), .val (.ref b18), .val (.ref b20), .val (.ref b20), .unset, .unset] [])) (fun _ k => XS.icmpNo X21.here hx rfl (hb hby at_223) rfl (teq c32).2 k) ?_
                      refine own_goW (T' := T21) (g' := (mkF m 228 #[.val (.int i0), .val (.int i1), .val (.int i2), .val (.int i3), .val (.int i4), .val (.int z1), .val (.int z4), .val (.int (((i4.toUInt32 >>> ((4 : Int32) &&& 31).toUInt32).toInt32) &&& (3 : Int32))), .val (.int na), .val (.int z7), .val (.int z10), .val (.int ch11), .val (.int ch12), .val (.int ch13), .val (.int ch14), .val (.ref ts13), .val (.ref ts14), .val (.int pa), .val (.int z15), .val (.ref b18), .val (.ref b20), .val (.ref b20), .unset, .unset] [(.int pa)])) (fun _ k => XS.iload X21.here hx rfl (hb hby at_226) rfl k) ?_
                      refine own_goW (T' := T21) (g' := (mkF m 230 #[.val (.int i0), .val (.int i1), .val (.int i2), .val (.int i3), .val (.int i4), .val (.int z1), .val (.int z4), .val (.int (((i4.toUInt32 >>> ((4 : Int32) &&& 31).toUInt32).toInt32) &&& (3 : Int32))), .val (.int na), .val (.int z7), .val (.int z10), .val (.int ch11), .val (.int ch12), .val (.int ch13), .val (.int ch14), .val (.ref ts13), .val (.ref ts14), .val (.int pa), .val (.int z15), .val (.ref b18), .val (.ref b20), .val (.ref b20), .unset, .unset] [(.int z15), (.int pa)])) (fun _ k => XS.iload X21.here hx rfl (hb hby at_228) rfl k) ?_
                      by_cases c33 : pa = z15
                      · refine own_goW (T' := T21) (g' := (mkF m 233 #[.val (.int i0), .val (.int i1), .val (.int i2), .val (.int i3), .val (.int i4), .val (.int z1), .val (.int z4), .val (.int (((i4.toUInt32 >>> ((4 : Int32) &&& 31).toUInt32).toInt32) &&& (3 : Int32))), .val (.int na), .val (.int z7), .val (.int z10), .val (.int ch11), .val (.int ch12), .val (.int ch13), .val (.int ch14), .val (.ref ts13), .val (.ref ts14), .val (.int pa), .val (.int z15), .val (.ref b18), .val (.ref b20), .val (.ref b20), .unset, .unset] [])) (fun _ k => XS.icmpNo X21.here hx rfl (hb hby at_230) rfl (teq c33).2 k) ?_
                        refine own_goW (T' := T21) (g' := (mkF m 234 #[.val (.int i0), .val (.int i1), .val (.int i2), .val (.int i3), .val (.int i4), .val (.int z1), .val (.int z4), .val (.int (((i4.toUInt32 >>> ((4 : Int32) &&& 31).toUInt32).toInt32) &&& (3 : Int32))), .val (.int na), .val (.int z7), .val (.int z10), .val (.int ch11), .val (.int ch12), .val (.int ch13), .val (.int ch14), .val (.ref ts13), .val (.ref ts14), .val (.int pa), .val (.int z15), .val (.ref b18), .val (.ref b20), .val (.ref b20), .unset, .unset] [(.int (1 : Int32))])) (fun _ k => XS.iconst X21.here hx rfl (hb hby at_233) k) ?_
                        refine own_goW (T' := T21) (g' := (mkF m 238 #[.val (.int i0), .val (.int i1), .val (.int i2), .val (.int i3), .val (.int i4), .val (.int z1), .val (.int z4), .val (.int (((i4.toUInt32 >>> ((4 : Int32) &&& 31).toUInt32).toInt32) &&& (3 : Int32))), .val (.int na), .val (.int z7), .val (.int z10), .val (.int ch11), .val (.int ch12), .val (.int ch13), .val (.int ch14), .val (.ref ts13), .val (.ref ts14), .val (.int pa), .val (.int z15), .val (.ref b18), .val (.ref b20), .val (.ref b20), .unset, .unset] [(.int (1 : Int32))])) (fun _ k => XS.goto X21.here hx rfl (pc0 := 234) (pc' := 238) rfl (hb hby at_234) (by decide) (by decide) k) ?_
                        exact J25 _ (by (try simp only [own_l0, own_l1, own_l2, own_l3, own_l4, own_l8, own_l31, own_l255, own_l2147483647, Int32.lt_iff_toInt_lt, ← Int32.toInt_inj, Int64.lt_iff_toInt_lt, ← Int64.toInt_inj, and_true, true_and, and_false, false_and, or_true, true_or, or_false, false_or, not_true_eq_false, not_false_eq_true, ne_eq, true_implies, false_implies, implies_true] at hz2 hz5 hz8 hz11 hz16 c22 c28 c29 c30 c32 c33 ⊢) <;> omega)
                      · refine own_goW (T' := T21) (g' := (mkF m 237 #[.val (.int i0), .val (.int i1), .val (.int i2), .val (.int i3), .val (.int i4), .val (.int z1), .val (.int z4), .val (.int (((i4.toUInt32 >>> ((4 : Int32) &&& 31).toUInt32).toInt32) &&& (3 : Int32))), .val (.int na), .val (.int z7), .val (.int z10), .val (.int ch11), .val (.int ch12), .val (.int ch13), .val (.int ch14), .val (.ref ts13), .val (.ref ts14), .val (.int pa), .val (.int z15), .val (.ref b18), .val (.ref b20), .val (.ref b20), .unset, .unset] [])) (fun _ k => XS.icmpYes X21.here hx rfl (pc0 := 230) (pc' := 237) rfl (hb hby at_230) rfl (feq c33).2 (by decide) (by decide) k) ?_
                        refine own_goW (T' := T21) (g' := (mkF m 238 #[.val (.int i0), .val (.int i1), .val (.int i2), .val (.int i3), .val (.int i4), .val (.int z1), .val (.int z4), .val (.int (((i4.toUInt32 >>> ((4 : Int32) &&& 31).toUInt32).toInt32) &&& (3 : Int32))), .val (.int na), .val (.int z7), .val (.int z10), .val (.int ch11), .val (.int ch12), .val (.int ch13), .val (.int ch14), .val (.ref ts13), .val (.ref ts14), .val (.int pa), .val (.int z15), .val (.ref b18), .val (.ref b20), .val (.ref b20), .unset, .unset] [(.int (0 : Int32))])) (fun _ k => XS.iconst X21.here hx rfl (hb hby at_237) k) ?_
                        exact J25 _ (by (try simp only [own_l0, own_l1, own_l2, own_l3, own_l4, own_l8, own_l31, own_l255, own_l2147483647, Int32.lt_iff_toInt_lt, ← Int32.toInt_inj, Int64.lt_iff_toInt_lt, ← Int64.toInt_inj, and_true, true_and, and_false, false_and, or_true, true_or, or_false, false_or, not_true_eq_false, not_false_eq_true, ne_eq, true_implies, false_implies, implies_true] at hz2 hz5 hz8 hz11 hz16 c22 c28 c29 c30 c32 c33 ⊢) <;> omega)
                    · refine own_goW (T' := T21) (g' := (mkF m 237 #[.val (.int i0), .val (.int i1), .val (.int i2), .val (.int i3), .val (.int i4), .val (.int z1), .val (.int z4), .val (.int (((i4.toUInt32 >>> ((4 : Int32) &&& 31).toUInt32).toInt32) &&& (3 : Int32))), .val (.int na), .val (.int z7), .val (.int z10), .val (.int ch11), .val (.int ch12), .val (.int ch13), .val (.int ch14), .val (.ref ts13), .val (.ref ts14), .val (.int pa), .val (.int z15), .val (.ref b18), .val (.ref b20), .val (.ref b20), .unset, .unset] [])) (fun _ k => XS.icmpYes X21.here hx rfl (pc0 := 223) (pc' := 237) rfl (hb hby at_223) rfl (feq c32).2 (by decide) (by decide) k) ?_
                      refine own_goW (T' := T21) (g' := (mkF m 238 #[.val (.int i0), .val (.int i1), .val (.int i2), .val (.int i3), .val (.int i4), .val (.int z1), .val (.int z4), .val (.int (((i4.toUInt32 >>> ((4 : Int32) &&& 31).toUInt32).toInt32) &&& (3 : Int32))), .val (.int na), .val (.int z7), .val (.int z10), .val (.int ch11), .val (.int ch12), .val (.int ch13), .val (.int ch14), .val (.ref ts13), .val (.ref ts14), .val (.int pa), .val (.int z15), .val (.ref b18), .val (.ref b20), .val (.ref b20), .unset, .unset] [(.int (0 : Int32))])) (fun _ k => XS.iconst X21.here hx rfl (hb hby at_237) k) ?_
                      exact J25 _ (by (try simp only [own_l0, own_l1, own_l2, own_l3, own_l4, own_l8, own_l31, own_l255, own_l2147483647, Int32.lt_iff_toInt_lt, ← Int32.toInt_inj, Int64.lt_iff_toInt_lt, ← Int64.toInt_inj, and_true, true_and, and_false, false_and, or_true, true_or, or_false, false_or, not_true_eq_false, not_false_eq_true, ne_eq, true_implies, false_implies, implies_true] at hz2 hz5 hz8 hz11 hz16 c22 c28 c29 c30 c32 ⊢) <;> omega)
                · refine own_goW (T' := T21) (g' := (mkF m 237 #[.val (.int i0), .val (.int i1), .val (.int i2), .val (.int i3), .val (.int i4), .val (.int z1), .val (.int z4), .val (.int (((i4.toUInt32 >>> ((4 : Int32) &&& 31).toUInt32).toInt32) &&& (3 : Int32))), .val (.int na), .val (.int z7), .val (.int z10), .val (.int ch11), .val (.int ch12), .val (.int ch13), .val (.int ch14), .val (.ref ts13), .val (.ref ts14), .val (.int pa), .val (.int z15), .val (.ref b18), .val (.ref b20), .val (.ref b20), .unset, .unset] [])) (fun _ k => XS.icmpYes X21.here hx rfl (pc0 := 210) (pc' := 237) rfl (hb hby at_210) rfl (feq c29).2 (by decide) (by decide) k) ?_
                  refine own_goW (T' := T21) (g' := (mkF m 238 #[.val (.int i0), .val (.int i1), .val (.int i2), .val (.int i3), .val (.int i4), .val (.int z1), .val (.int z4), .val (.int (((i4.toUInt32 >>> ((4 : Int32) &&& 31).toUInt32).toInt32) &&& (3 : Int32))), .val (.int na), .val (.int z7), .val (.int z10), .val (.int ch11), .val (.int ch12), .val (.int ch13), .val (.int ch14), .val (.ref ts13), .val (.ref ts14), .val (.int pa), .val (.int z15), .val (.ref b18), .val (.ref b20), .val (.ref b20), .unset, .unset] [(.int (0 : Int32))])) (fun _ k => XS.iconst X21.here hx rfl (hb hby at_237) k) ?_
                  exact J25 _ (by (try simp only [own_l0, own_l1, own_l2, own_l3, own_l4, own_l8, own_l31, own_l255, own_l2147483647, Int32.lt_iff_toInt_lt, ← Int32.toInt_inj, Int64.lt_iff_toInt_lt, ← Int64.toInt_inj, and_true, true_and, and_false, false_and, or_true, true_or, or_false, false_or, not_true_eq_false, not_false_eq_true, ne_eq, true_implies, false_implies, implies_true] at hz2 hz5 hz8 hz11 hz16 c22 c28 c29 ⊢) <;> omega)
              · refine own_goW (T' := T21) (g' := (mkF m 237 #[.val (.int i0), .val (.int i1), .val (.int i2), .val (.int i3), .val (.int i4), .val (.int z1), .val (.int z4), .val (.int (((i4.toUInt32 >>> ((4 : Int32) &&& 31).toUInt32).toInt32) &&& (3 : Int32))), .val (.int na), .val (.int z7), .val (.int z10), .val (.int ch11), .val (.int ch12), .val (.int ch13), .val (.int ch14), .val (.ref ts13), .val (.ref ts14), .val (.int pa), .val (.int z15), .val (.ref b18), .val (.ref b20), .val (.ref b20), .unset, .unset] [])) (fun _ k => XS.icmpYes X21.here hx rfl (pc0 := 203) (pc' := 237) rfl (hb hby at_203) rfl (feq c28).2 (by decide) (by decide) k) ?_
                refine own_goW (T' := T21) (g' := (mkF m 238 #[.val (.int i0), .val (.int i1), .val (.int i2), .val (.int i3), .val (.int i4), .val (.int z1), .val (.int z4), .val (.int (((i4.toUInt32 >>> ((4 : Int32) &&& 31).toUInt32).toInt32) &&& (3 : Int32))), .val (.int na), .val (.int z7), .val (.int z10), .val (.int ch11), .val (.int ch12), .val (.int ch13), .val (.int ch14), .val (.ref ts13), .val (.ref ts14), .val (.int pa), .val (.int z15), .val (.ref b18), .val (.ref b20), .val (.ref b20), .unset, .unset] [(.int (0 : Int32))])) (fun _ k => XS.iconst X21.here hx rfl (hb hby at_237) k) ?_
                exact J25 _ (by (try simp only [own_l0, own_l1, own_l2, own_l3, own_l4, own_l8, own_l31, own_l255, own_l2147483647, Int32.lt_iff_toInt_lt, ← Int32.toInt_inj, Int64.lt_iff_toInt_lt, ← Int64.toInt_inj, and_true, true_and, and_false, false_and, or_true, true_or, or_false, false_or, not_true_eq_false, not_false_eq_true, ne_eq, true_implies, false_implies, implies_true] at hz2 hz5 hz8 hz11 hz16 c22 c28 ⊢) <;> omega)
            · refine own_goW (T' := T21) (g' := (mkF m 243 #[.val (.int i0), .val (.int i1), .val (.int i2), .val (.int i3), .val (.int i4), .val (.int z1), .val (.int z4), .val (.int (((i4.toUInt32 >>> ((4 : Int32) &&& 31).toUInt32).toInt32) &&& (3 : Int32))), .val (.int na), .val (.int z7), .val (.int z10), .val (.int ch11), .val (.int ch12), .val (.int ch13), .val (.int ch14), .val (.ref ts13), .val (.ref ts14), .val (.int pa), .val (.int z15), .val (.ref b18), .val (.ref b20), .unset, .unset, .unset] [])) (fun _ k => XS.ifYes X21.here hx rfl (pc0 := 192) (pc' := 243) rfl (hb hby at_192) rfl ((if0 _ _).trans (feq c22).2) (by decide) (by decide) k) ?_
              refine own_goW (T' := T21) (g' := (mkF m 245 #[.val (.int i0), .val (.int i1), .val (.int i2), .val (.int i3), .val (.int i4), .val (.int z1), .val (.int z4), .val (.int (((i4.toUInt32 >>> ((4 : Int32) &&& 31).toUInt32).toInt32) &&& (3 : Int32))), .val (.int na), .val (.int z7), .val (.int z10), .val (.int ch11), .val (.int ch12), .val (.int ch13), .val (.int ch14), .val (.ref ts13), .val (.ref ts14), .val (.int pa), .val (.int z15), .val (.ref b18), .val (.ref b20), .unset, .unset, .unset] [(.int (((i4.toUInt32 >>> ((4 : Int32) &&& 31).toUInt32).toInt32) &&& (3 : Int32)))])) (fun _ k => XS.iload X21.here hx rfl (hb hby at_243) rfl k) ?_
              refine own_goW (T' := T21) (g' := (mkF m 246 #[.val (.int i0), .val (.int i1), .val (.int i2), .val (.int i3), .val (.int i4), .val (.int z1), .val (.int z4), .val (.int (((i4.toUInt32 >>> ((4 : Int32) &&& 31).toUInt32).toInt32) &&& (3 : Int32))), .val (.int na), .val (.int z7), .val (.int z10), .val (.int ch11), .val (.int ch12), .val (.int ch13), .val (.int ch14), .val (.ref ts13), .val (.ref ts14), .val (.int pa), .val (.int z15), .val (.ref b18), .val (.ref b20), .unset, .unset, .unset] [(.int (1 : Int32)), (.int (((i4.toUInt32 >>> ((4 : Int32) &&& 31).toUInt32).toInt32) &&& (3 : Int32)))])) (fun _ k => XS.iconst X21.here hx rfl (hb hby at_245) k) ?_
              by_cases c34 : (((i4.toUInt32 >>> ((4 : Int32) &&& 31).toUInt32).toInt32) &&& (3 : Int32)) = (1 : Int32)
              · refine own_goW (T' := T21) (g' := (mkF m 249 #[.val (.int i0), .val (.int i1), .val (.int i2), .val (.int i3), .val (.int i4), .val (.int z1), .val (.int z4), .val (.int (((i4.toUInt32 >>> ((4 : Int32) &&& 31).toUInt32).toInt32) &&& (3 : Int32))), .val (.int na), .val (.int z7), .val (.int z10), .val (.int ch11), .val (.int ch12), .val (.int ch13), .val (.int ch14), .val (.ref ts13), .val (.ref ts14), .val (.int pa), .val (.int z15), .val (.ref b18), .val (.ref b20), .unset, .unset, .unset] [])) (fun _ k => XS.icmpNo X21.here hx rfl (hb hby at_246) rfl (teq c34).2 k) ?_
                refine own_goW (T' := T21) (g' := (mkF m 251 #[.val (.int i0), .val (.int i1), .val (.int i2), .val (.int i3), .val (.int i4), .val (.int z1), .val (.int z4), .val (.int (((i4.toUInt32 >>> ((4 : Int32) &&& 31).toUInt32).toInt32) &&& (3 : Int32))), .val (.int na), .val (.int z7), .val (.int z10), .val (.int ch11), .val (.int ch12), .val (.int ch13), .val (.int ch14), .val (.ref ts13), .val (.ref ts14), .val (.int pa), .val (.int z15), .val (.ref b18), .val (.ref b20), .unset, .unset, .unset] [(.ref b18)])) (fun _ k => XS.aload X21.here hx rfl (hb hby at_249) rfl rfl k) ?_
                refine own_goW (T' := T21) (g' := (mkF m 253 #[.val (.int i0), .val (.int i1), .val (.int i2), .val (.int i3), .val (.int i4), .val (.int z1), .val (.int z4), .val (.int (((i4.toUInt32 >>> ((4 : Int32) &&& 31).toUInt32).toInt32) &&& (3 : Int32))), .val (.int na), .val (.int z7), .val (.int z10), .val (.int ch11), .val (.int ch12), .val (.int ch13), .val (.int ch14), .val (.ref ts13), .val (.ref ts14), .val (.int pa), .val (.int z15), .val (.ref b18), .val (.ref b20), .val (.ref b18), .unset, .unset] [])) (fun _ k => XS.astore X21.here hx rfl (hb hby at_251) rfl rfl (l' := #[.val (.int i0), .val (.int i1), .val (.int i2), .val (.int i3), .val (.int i4), .val (.int z1), .val (.int z4), .val (.int (((i4.toUInt32 >>> ((4 : Int32) &&& 31).toUInt32).toInt32) &&& (3 : Int32))), .val (.int na), .val (.int z7), .val (.int z10), .val (.int ch11), .val (.int ch12), .val (.int ch13), .val (.int ch14), .val (.ref ts13), .val (.ref ts14), .val (.int pa), .val (.int z15), .val (.ref b18), .val (.ref b20), .val (.ref b18), .unset, .unset]) rfl k) ?_
                refine own_goW (T' := T21) (g' := (mkF m 254 #[.val (.int i0), .val (.int i1), .val (.int i2), .val (.int i3), .val (.int i4), .val (.int z1), .val (.int z4), .val (.int (((i4.toUInt32 >>> ((4 : Int32) &&& 31).toUInt32).toInt32) &&& (3 : Int32))), .val (.int na), .val (.int z7), .val (.int z10), .val (.int ch11), .val (.int ch12), .val (.int ch13), .val (.int ch14), .val (.ref ts13), .val (.ref ts14), .val (.int pa), .val (.int z15), .val (.ref b18), .val (.ref b20), .val (.ref b18), .unset, .unset] [(.int (1 : Int32))])) (fun _ k => XS.iconst X21.here hx rfl (hb hby at_253) k) ?_
                refine own_goW (T' := T21) (g' := (mkF m 256 #[.val (.int i0), .val (.int i1), .val (.int i2), .val (.int i3), .val (.int i4), .val (.int z1), .val (.int z4), .val (.int (((i4.toUInt32 >>> ((4 : Int32) &&& 31).toUInt32).toInt32) &&& (3 : Int32))), .val (.int na), .val (.int z7), .val (.int z10), .val (.int ch11), .val (.int ch12), .val (.int ch13), .val (.int ch14), .val (.ref ts13), .val (.ref ts14), .val (.int pa), .val (.int z15), .val (.ref b18), .val (.ref b20), .val (.ref b18), .val (.int (1 : Int32)), .unset] [])) (fun _ k => XS.istore X21.here hx rfl (hb hby at_254) rfl (l' := #[.val (.int i0), .val (.int i1), .val (.int i2), .val (.int i3), .val (.int i4), .val (.int z1), .val (.int z4), .val (.int (((i4.toUInt32 >>> ((4 : Int32) &&& 31).toUInt32).toInt32) &&& (3 : Int32))), .val (.int na), .val (.int z7), .val (.int z10), .val (.int ch11), .val (.int ch12), .val (.int ch13), .val (.int ch14), .val (.ref ts13), .val (.ref ts14), .val (.int pa), .val (.int z15), .val (.ref b18), .val (.ref b20), .val (.ref b18), .val (.int (1 : Int32)), .unset]) rfl k) ?_
                refine own_goW (T' := T21) (g' := (mkF m 281 #[.val (.int i0), .val (.int i1), .val (.int i2), .val (.int i3), .val (.int i4), .val (.int z1), .val (.int z4), .val (.int (((i4.toUInt32 >>> ((4 : Int32) &&& 31).toUInt32).toInt32) &&& (3 : Int32))), .val (.int na), .val (.int z7), .val (.int z10), .val (.int ch11), .val (.int ch12), .val (.int ch13), .val (.int ch14), .val (.ref ts13), .val (.ref ts14), .val (.int pa), .val (.int z15), .val (.ref b18), .val (.ref b20), .val (.ref b18), .val (.int (1 : Int32)), .unset] [])) (fun _ k => XS.goto X21.here hx rfl (pc0 := 256) (pc' := 281) rfl (hb hby at_256) (by decide) (by decide) k) ?_
                refine own_goW (T' := T21) (g' := (mkF m 283 #[.val (.int i0), .val (.int i1), .val (.int i2), .val (.int i3), .val (.int i4), .val (.int z1), .val (.int z4), .val (.int (((i4.toUInt32 >>> ((4 : Int32) &&& 31).toUInt32).toInt32) &&& (3 : Int32))), .val (.int na), .val (.int z7), .val (.int z10), .val (.int ch11), .val (.int ch12), .val (.int ch13), .val (.int ch14), .val (.ref ts13), .val (.ref ts14), .val (.int pa), .val (.int z15), .val (.ref b18), .val (.ref b20), .val (.ref b18), .val (.int (1 : Int32)), .unset] [(.ref b18)])) (fun _ k => XS.aload X21.here hx rfl (hb hby at_281) rfl rfl k) ?_
                refine own_goW (T' := T21) (g' := (mkF m 285 #[.val (.int i0), .val (.int i1), .val (.int i2), .val (.int i3), .val (.int i4), .val (.int z1), .val (.int z4), .val (.int (((i4.toUInt32 >>> ((4 : Int32) &&& 31).toUInt32).toInt32) &&& (3 : Int32))), .val (.int na), .val (.int z7), .val (.int z10), .val (.int ch11), .val (.int ch12), .val (.int ch13), .val (.int ch14), .val (.ref ts13), .val (.ref ts14), .val (.int pa), .val (.int z15), .val (.ref b18), .val (.ref b20), .val (.ref b18), .val (.int (1 : Int32)), .unset] [(.ref b18), (.ref b18)])) (fun _ k => XS.aload X21.here hx rfl (hb hby at_283) rfl rfl k) ?_
                obtain ⟨cq35, kq35, q35a, q35b, q35c⟩ := isOf hZ rfl E_b18
                obtain ⟨_, _, ⟨T35, L35, k35, n35⟩, -, X35, ⟨Lc35, hQ35, l35, y35, z35⟩, st35⟩ := X21.virtualBack hx (y := (⟨"com/example/gentle_rebalance/gentlerebalance/engine/TopicPartition", "equals", "(Ljava/lang/Object;)Z"⟩ : MethodName)) (z := (⟨"com/example/gentle_rebalance/gentlerebalance/engine/TopicPartition", "equals", "(Ljava/lang/Object;)Z"⟩ : MethodName)) hown (mvT hZ (hw _ (List.mem_of_getElem? (i := 58) rfl))) (mvT hZ (hw _ (List.mem_of_getElem? (i := 59) rfl))) (notFace_of_selects (args := #[]) (mvT hZ (hw _ (List.mem_of_getElem? (i := 61) rfl)))) (mvT hZ (hw _ (List.mem_of_getElem? (i := 61) rfl))) (mvT hZ (hw _ (List.mem_of_getElem? (i := 60) rfl))) (by decide) (backOf (W := 0) (own_rm15 l Z a0 hw [] b18 T21.heap n0 Zs) hZ (hw _ (List.mem_of_getElem? (i := 62) rfl)) (hw _ (List.mem_of_getElem? (i := 37) rfl)) (by decide) (by decide)) q35a q35c (g := (mkF m 285 #[.val (.int i0), .val (.int i1), .val (.int i2), .val (.int i3), .val (.int i4), .val (.int z1), .val (.int z4), .val (.int (((i4.toUInt32 >>> ((4 : Int32) &&& 31).toUInt32).toInt32) &&& (3 : Int32))), .val (.int na), .val (.int z7), .val (.int z10), .val (.int ch11), .val (.int ch12), .val (.int ch13), .val (.int ch14), .val (.ref ts13), .val (.ref ts14), .val (.int pa), .val (.int z15), .val (.ref b18), .val (.ref b20), .val (.ref b18), .val (.int (1 : Int32)), .unset] [(.ref b18), (.ref b18)])) rfl (by rw [hml]; rfl) (Steps.refl _) (argsL := [(.ref b18)]) (rest := []) (lenOf own_pd0_2 rfl) rfl (by show 2 * 0 + _ ≤ _; exact Nat.le_of_eq rfl) (hb hby at_285) (fun _ _ => ⟨rfl, rfl, (by decide : 12 + 0 ≤ _), (by decide : 68 + 0 ≤ _)⟩)
                dsimp only [Pt.U, Pt.locs, Pt.cells, Pt.slots] at X35 l35 y35 z35 st35 hQ35
                subst l35 y35 z35
                obtain ⟨rfl, NQ35, eq35⟩ := hQ35
                have NF := Fr.app NF NQ35
                refine own_goW (T' := T35) (g' := (mkF m 288 #[.val (.int i0), .val (.int i1), .val (.int i2), .val (.int i3), .val (.int i4), .val (.int z1), .val (.int z4), .val (.int (((i4.toUInt32 >>> ((4 : Int32) &&& 31).toUInt32).toInt32) &&& (3 : Int32))), .val (.int na), .val (.int z7), .val (.int z10), .val (.int ch11), .val (.int ch12), .val (.int ch13), .val (.int ch14), .val (.ref ts13), .val (.ref ts14), .val (.int pa), .val (.int z15), .val (.ref b18), .val (.ref b20), .val (.ref b18), .val (.int (1 : Int32)), .unset] [(.int (1 : Int32))])) (fun _ k => st35.trans k) ?_
                refine own_goW (T' := T35) (g' := (mkF m 290 #[.val (.int i0), .val (.int i1), .val (.int i2), .val (.int i3), .val (.int i4), .val (.int z1), .val (.int z4), .val (.int (((i4.toUInt32 >>> ((4 : Int32) &&& 31).toUInt32).toInt32) &&& (3 : Int32))), .val (.int na), .val (.int z7), .val (.int z10), .val (.int ch11), .val (.int ch12), .val (.int ch13), .val (.int ch14), .val (.ref ts13), .val (.ref ts14), .val (.int pa), .val (.int z15), .val (.ref b18), .val (.ref b20), .val (.ref b18), .val (.int (1 : Int32)), .val (.int (1 : Int32))] [])) (fun _ k => XS.istore X35.here hx rfl (hb hby at_288) rfl (l' := #[.val (.int i0), .val (.int i1), .val (.int i2), .val (.int i3), .val (.int i4), .val (.int z1), .val (.int z4), .val (.int (((i4.toUInt32 >>> ((4 : Int32) &&& 31).toUInt32).toInt32) &&& (3 : Int32))), .val (.int na), .val (.int z7), .val (.int z10), .val (.int ch11), .val (.int ch12), .val (.int ch13), .val (.int ch14), .val (.ref ts13), .val (.ref ts14), .val (.int pa), .val (.int z15), .val (.ref b18), .val (.ref b20), .val (.ref b18), .val (.int (1 : Int32)), .val (.int (1 : Int32))]) rfl k) ?_
                refine own_goW (T' := T35) (g' := (mkF m 292 #[.val (.int i0), .val (.int i1), .val (.int i2), .val (.int i3), .val (.int i4), .val (.int z1), .val (.int z4), .val (.int (((i4.toUInt32 >>> ((4 : Int32) &&& 31).toUInt32).toInt32) &&& (3 : Int32))), .val (.int na), .val (.int z7), .val (.int z10), .val (.int ch11), .val (.int ch12), .val (.int ch13), .val (.int ch14), .val (.ref ts13), .val (.ref ts14), .val (.int pa), .val (.int z15), .val (.ref b18), .val (.ref b20), .val (.ref b18), .val (.int (1 : Int32)), .val (.int (1 : Int32))] [(.int (((i4.toUInt32 >>> ((4 : Int32) &&& 31).toUInt32).toInt32) &&& (3 : Int32)))])) (fun _ k => XS.iload X35.here hx rfl (hb hby at_290) rfl k) ?_
                refine own_goW (T' := T35) (g' := (mkF m 309 #[.val (.int i0), .val (.int i1), .val (.int i2), .val (.int i3), .val (.int i4), .val (.int z1), .val (.int z4), .val (.int (((i4.toUInt32 >>> ((4 : Int32) &&& 31).toUInt32).toInt32) &&& (3 : Int32))), .val (.int na), .val (.int z7), .val (.int z10), .val (.int ch11), .val (.int ch12), .val (.int ch13), .val (.int ch14), .val (.ref ts13), .val (.ref ts14), .val (.int pa), .val (.int z15), .val (.ref b18), .val (.ref b20), .val (.ref b18), .val (.int (1 : Int32)), .val (.int (1 : Int32))] [])) (fun _ k => XS.ifYes X35.here hx rfl (pc0 := 292) (pc' := 309) rfl (hb hby at_292) rfl ((if0 _ _).trans (feq c22).2) (by decide) (by decide) k) ?_
                refine own_goW (T' := T35) (g' := (mkF m 311 #[.val (.int i0), .val (.int i1), .val (.int i2), .val (.int i3), .val (.int i4), .val (.int z1), .val (.int z4), .val (.int (((i4.toUInt32 >>> ((4 : Int32) &&& 31).toUInt32).toInt32) &&& (3 : Int32))), .val (.int na), .val (.int z7), .val (.int z10), .val (.int ch11), .val (.int ch12), .val (.int ch13), .val (.int ch14), .val (.ref ts13), .val (.ref ts14), .val (.int pa), .val (.int z15), .val (.ref b18), .val (.ref b20), .val (.ref b18), .val (.int (1 : Int32)), .val (.int (1 : Int32))] [(.int (1 : Int32))])) (fun _ k => XS.iload X35.here hx rfl (hb hby at_309) rfl k) ?_
                refine own_goW (T' := T35) (g' := (mkF m 313 #[.val (.int i0), .val (.int i1), .val (.int i2), .val (.int i3), .val (.int i4), .val (.int z1), .val (.int z4), .val (.int (((i4.toUInt32 >>> ((4 : Int32) &&& 31).toUInt32).toInt32) &&& (3 : Int32))), .val (.int na), .val (.int z7), .val (.int z10), .val (.int ch11), .val (.int ch12), .val (.int ch13), .val (.int ch14), .val (.ref ts13), .val (.ref ts14), .val (.int pa), .val (.int z15), .val (.ref b18), .val (.ref b20), .val (.ref b18), .val (.int (1 : Int32)), .val (.int (1 : Int32))] [(.int (1 : Int32)), (.int (1 : Int32))])) (fun _ k => XS.iload X35.here hx rfl (hb hby at_311) rfl k) ?_
                refine own_goW (T' := T35) (g' := (mkF m 316 #[.val (.int i0), .val (.int i1), .val (.int i2), .val (.int i3), .val (.int i4), .val (.int z1), .val (.int z4), .val (.int (((i4.toUInt32 >>> ((4 : Int32) &&& 31).toUInt32).toInt32) &&& (3 : Int32))), .val (.int na), .val (.int z7), .val (.int z10), .val (.int ch11), .val (.int ch12), .val (.int ch13), .val (.int ch14), .val (.ref ts13), .val (.ref ts14), .val (.int pa), .val (.int z15), .val (.ref b18), .val (.ref b20), .val (.ref b18), .val (.int (1 : Int32)), .val (.int (1 : Int32))] [])) (fun _ k => XS.icmpNo X35.here hx rfl (hb hby at_313) rfl (by decide) k) ?_
                refine own_goW (T' := T35) (g' := (mkF m 317 #[.val (.int i0), .val (.int i1), .val (.int i2), .val (.int i3), .val (.int i4), .val (.int z1), .val (.int z4), .val (.int (((i4.toUInt32 >>> ((4 : Int32) &&& 31).toUInt32).toInt32) &&& (3 : Int32))), .val (.int na), .val (.int z7), .val (.int z10), .val (.int ch11), .val (.int ch12), .val (.int ch13), .val (.int ch14), .val (.ref ts13), .val (.ref ts14), .val (.int pa), .val (.int z15), .val (.ref b18), .val (.ref b20), .val (.ref b18), .val (.int (1 : Int32)), .val (.int (1 : Int32))] [(.int (1 : Int32))])) (fun _ k => XS.iconst X35.here hx rfl (hb hby at_316) k) ?_
                refine own_goW (T' := T35) (g' := (mkF m 321 #[.val (.int i0), .val (.int i1), .val (.int i2), .val (.int i3), .val (.int i4), .val (.int z1), .val (.int z4), .val (.int (((i4.toUInt32 >>> ((4 : Int32) &&& 31).toUInt32).toInt32) &&& (3 : Int32))), .val (.int na), .val (.int z7), .val (.int z10), .val (.int ch11), .val (.int ch12), .val (.int ch13), .val (.int ch14), .val (.ref ts13), .val (.ref ts14), .val (.int pa), .val (.int z15), .val (.ref b18), .val (.ref b20), .val (.ref b18), .val (.int (1 : Int32)), .val (.int (1 : Int32))] [(.int (1 : Int32))])) (fun _ k => XS.goto X35.here hx rfl (pc0 := 317) (pc' := 321) rfl (hb hby at_317) (by decide) (by decide) k) ?_
                refine own_retW (s := s) (vm₁ := T21.vm) X35 Bd.notSynchronized (some (.int (1 : Int32))) (fun h => by rw [Bd.returns] at h; cases h) (fun fs hr => retN X35 hx (t := .boolean) Bd.returns (by simp) (hb hby at_321) hr) ?_ (by decide) (by decide) hSi (by rw [eq35]; exact hKi)
                show (own_Q0 Z i0 i1 i2 i3 i4 cs h0 n0) (some (.int (1 : Int32))) T35.heap _
                rw [eq35]
                exact ⟨rfl, NF⟩
              · refine own_goW (T' := T21) (g' := (mkF m 259 #[.val (.int i0), .val (.int i1), .val (.int i2), .val (.int i3), .val (.int i4), .val (.int z1), .val (.int z4), .val (.int (((i4.toUInt32 >>> ((4 : Int32) &&& 31).toUInt32).toInt32) &&& (3 : Int32))), .val (.int na), .val (.int z7), .val (.int z10), .val (.int ch11), .val (.int ch12), .val (.int ch13), .val (.int ch14), .val (.ref ts13), .val (.ref ts14), .val (.int pa), .val (.int z15), .val (.ref b18), .val (.ref b20), .unset, .unset, .unset] [])) (fun _ k => XS.icmpYes X21.here hx rfl (pc0 := 246) (pc' := 259) rfl (hb hby at_246) rfl (feq c34).2 (by decide) (by decide) k) ?_
                refine own_goW (T' := T21) (g' := (mkF m 261 #[.val (.int i0), .val (.int i1), .val (.int i2), .val (.int i3), .val (.int i4), .val (.int z1), .val (.int z4), .val (.int (((i4.toUInt32 >>> ((4 : Int32) &&& 31).toUInt32).toInt32) &&& (3 : Int32))), .val (.int na), .val (.int z7), .val (.int z10), .val (.int ch11), .val (.int ch12), .val (.int ch13), .val (.int ch14), .val (.ref ts13), .val (.ref ts14), .val (.int pa), .val (.int z15), .val (.ref b18), .val (.ref b20), .unset, .unset, .unset] [(.int (((i4.toUInt32 >>> ((4 : Int32) &&& 31).toUInt32).toInt32) &&& (3 : Int32)))])) (fun _ k => XS.iload X21.here hx rfl (hb hby at_259) rfl k) ?_
                refine own_goW (T' := T21) (g' := (mkF m 262 #[.val (.int i0), .val (.int i1), .val (.int i2), .val (.int i3), .val (.int i4), .val (.int z1), .val (.int z4), .val (.int (((i4.toUInt32 >>> ((4 : Int32) &&& 31).toUInt32).toInt32) &&& (3 : Int32))), .val (.int na), .val (.int z7), .val (.int z10), .val (.int ch11), .val (.int ch12), .val (.int ch13), .val (.int ch14), .val (.ref ts13), .val (.ref ts14), .val (.int pa), .val (.int z15), .val (.ref b18), .val (.ref b20), .unset, .unset, .unset] [(.int (2 : Int32)), (.int (((i4.toUInt32 >>> ((4 : Int32) &&& 31).toUInt32).toInt32) &&& (3 : Int32)))])) (fun _ k => XS.iconst X21.here hx rfl (hb hby at_261) k) ?_
                by_cases c36 : (((i4.toUInt32 >>> ((4 : Int32) &&& 31).toUInt32).toInt32) &&& (3 : Int32)) = (2 : Int32)
                · refine own_goW (T' := T21) (g' := (mkF m 265 #[.val (.int i0), .val (.int i1), .val (.int i2), .val (.int i3), .val (.int i4), .val (.int z1), .val (.int z4), .val (.int (((i4.toUInt32 >>> ((4 : Int32) &&& 31).toUInt32).toInt32) &&& (3 : Int32))), .val (.int na), .val (.int z7), .val (.int z10), .val (.int ch11), .val (.int ch12), .val (.int ch13), .val (.int ch14), .val (.ref ts13), .val (.ref ts14), .val (.int pa), .val (.int z15), .val (.ref b18), .val (.ref b20), .unset, .unset, .unset] [])) (fun _ k => XS.icmpNo X21.here hx rfl (hb hby at_262) rfl (teq c36).2 k) ?_
                  refine own_goW (T' := T21) (g' := (mkF m 266 #[.val (.int i0), .val (.int i1), .val (.int i2), .val (.int i3), .val (.int i4), .val (.int z1), .val (.int z4), .val (.int (((i4.toUInt32 >>> ((4 : Int32) &&& 31).toUInt32).toInt32) &&& (3 : Int32))), .val (.int na), .val (.int z7), .val (.int z10), .val (.int ch11), .val (.int ch12), .val (.int ch13), .val (.int ch14), .val (.ref ts13), .val (.ref ts14), .val (.int pa), .val (.int z15), .val (.ref b18), .val (.ref b20), .unset, .unset, .unset] [.null])) (fun _ k => XS.aconstNull X21.here hx rfl (hb hby at_265) k) ?_
                  refine own_goW (T' := T21) (g' := (mkF m 268 #[.val (.int i0), .val (.int i1), .val (.int i2), .val (.int i3), .val (.int i4), .val (.int z1), .val (.int z4), .val (.int (((i4.toUInt32 >>> ((4 : Int32) &&& 31).toUInt32).toInt32) &&& (3 : Int32))), .val (.int na), .val (.int z7), .val (.int z10), .val (.int ch11), .val (.int ch12), .val (.int ch13), .val (.int ch14), .val (.ref ts13), .val (.ref ts14), .val (.int pa), .val (.int z15), .val (.ref b18), .val (.ref b20), .val .null, .unset, .unset] [])) (fun _ k => XS.astore X21.here hx rfl (hb hby at_266) rfl rfl (l' := #[.val (.int i0), .val (.int i1), .val (.int i2), .val (.int i3), .val (.int i4), .val (.int z1), .val (.int z4), .val (.int (((i4.toUInt32 >>> ((4 : Int32) &&& 31).toUInt32).toInt32) &&& (3 : Int32))), .val (.int na), .val (.int z7), .val (.int z10), .val (.int ch11), .val (.int ch12), .val (.int ch13), .val (.int ch14), .val (.ref ts13), .val (.ref ts14), .val (.int pa), .val (.int z15), .val (.ref b18), .val (.ref b20), .val .null, .unset, .unset]) rfl k) ?_
                  refine own_goW (T' := T21) (g' := (mkF m 269 #[.val (.int i0), .val (.int i1), .val (.int i2), .val (.int i3), .val (.int i4), .val (.int z1), .val (.int z4), .val (.int (((i4.toUInt32 >>> ((4 : Int32) &&& 31).toUInt32).toInt32) &&& (3 : Int32))), .val (.int na), .val (.int z7), .val (.int z10), .val (.int ch11), .val (.int ch12), .val (.int ch13), .val (.int ch14), .val (.ref ts13), .val (.ref ts14), .val (.int pa), .val (.int z15), .val (.ref b18), .val (.ref b20), .val .null, .unset, .unset] [(.int (0 : Int32))])) (fun _ k => XS.iconst X21.here hx rfl (hb hby at_268) k) ?_
                  refine own_goW (T' := T21) (g' := (mkF m 271 #[.val (.int i0), .val (.int i1), .val (.int i2), .val (.int i3), .val (.int i4), .val (.int z1), .val (.int z4), .val (.int (((i4.toUInt32 >>> ((4 : Int32) &&& 31).toUInt32).toInt32) &&& (3 : Int32))), .val (.int na), .val (.int z7), .val (.int z10), .val (.int ch11), .val (.int ch12), .val (.int ch13), .val (.int ch14), .val (.ref ts13), .val (.ref ts14), .val (.int pa), .val (.int z15), .val (.ref b18), .val (.ref b20), .val .null, .val (.int (0 : Int32)), .unset] [])) (fun _ k => XS.istore X21.here hx rfl (hb hby at_269) rfl (l' := #[.val (.int i0), .val (.int i1), .val (.int i2), .val (.int i3), .val (.int i4), .val (.int z1), .val (.int z4), .val (.int (((i4.toUInt32 >>> ((4 : Int32) &&& 31).toUInt32).toInt32) &&& (3 : Int32))), .val (.int na), .val (.int z7), .val (.int z10), .val (.int ch11), .val (.int ch12), .val (.int ch13), .val (.int ch14), .val (.ref ts13), .val (.ref ts14), .val (.int pa), .val (.int z15), .val (.ref b18), .val (.ref b20), .val .null, .val (.int (0 : Int32)), .unset]) rfl k) ?_
                  refine own_goW (T' := T21) (g' := (mkF m 281 #[.val (.int i0), .val (.int i1), .val (.int i2), .val (.int i3), .val (.int i4), .val (.int z1), .val (.int z4), .val (.int (((i4.toUInt32 >>> ((4 : Int32) &&& 31).toUInt32).toInt32) &&& (3 : Int32))), .val (.int na), .val (.int z7), .val (.int z10), .val (.int ch11), .val (.int ch12), .val (.int ch13), .val (.int ch14), .val (.ref ts13), .val (.ref ts14), .val (.int pa), .val (.int z15), .val (.ref b18), .val (.ref b20), .val .null, .val (.int (0 : Int32)), .unset] [])) (fun _ k => XS.goto X21.here hx rfl (pc0 := 271) (pc' := 281) rfl (hb hby at_271) (by decide) (by decide) k) ?_
                  refine own_goW (T' := T21) (g' := (mkF m 283 #[.val (.int i0), .val (.int i1), .val (.int i2), .val (.int i3), .val (.int i4), .val (.int z1), .val (.int z4), .val (.int (((i4.toUInt32 >>> ((4 : Int32) &&& 31).toUInt32).toInt32) &&& (3 : Int32))), .val (.int na), .val (.int z7), .val (.int z10), .val (.int ch11), .val (.int ch12), .val (.int ch13), .val (.int ch14), .val (.ref ts13), .val (.ref ts14), .val (.int pa), .val (.int z15), .val (.ref b18), .val (.ref b20), .val .null, .val (.int (0 : Int32)), .unset] [(.ref b18)])) (fun _ k => XS.aload X21.here hx rfl (hb hby at_281) rfl rfl k) ?_
                  refine own_goW (T' := T21) (g' := (mkF m 285 #[.val (.int i0), .val (.int i1), .val (.int i2), .val (.int i3), .val (.int i4), .val (.int z1), .val (.int z4), .val (.int (((i4.toUInt32 >>> ((4 : Int32) &&& 31).toUInt32).toInt32) &&& (3 : Int32))), .val (.int na), .val (.int z7), .val (.int z10), .val (.int ch11), .val (.int ch12), .val (.int ch13), .val (.int ch14), .val (.ref ts13), .val (.ref ts14), .val (.int pa), .val (.int z15), .val (.ref b18), .val (.ref b20), .val .null, .val (.int (0 : Int32)), .unset] [.null, (.ref b18)])) (fun _ k => XS.aload X21.here hx rfl (hb hby at_283) rfl rfl k) ?_
                  obtain ⟨cq37, kq37, q37a, q37b, q37c⟩ := isOf hZ rfl E_b18
                  obtain ⟨_, _, ⟨T37, L37, k37, n37⟩, -, X37, ⟨Lc37, hQ37, l37, y37, z37⟩, st37⟩ := X21.virtualBack hx (y := (⟨"com/example/gentle_rebalance/gentlerebalance/engine/TopicPartition", "equals", "(Ljava/lang/Object;)Z"⟩ : MethodName)) (z := (⟨"com/example/gentle_rebalance/gentlerebalance/engine/TopicPartition", "equals", "(Ljava/lang/Object;)Z"⟩ : MethodName)) hown (mvT hZ (hw _ (List.mem_of_getElem? (i := 58) rfl))) (mvT hZ (hw _ (List.mem_of_getElem? (i := 59) rfl))) (notFace_of_selects (args := #[]) (mvT hZ (hw _ (List.mem_of_getElem? (i := 61) rfl)))) (mvT hZ (hw _ (List.mem_of_getElem? (i := 61) rfl))) (mvT hZ (hw _ (List.mem_of_getElem? (i := 60) rfl))) (by decide) (backOf (W := 0) (own_rm16 l Z a0 hw [] b18 T21.heap n0 Zs) hZ (hw _ (List.mem_of_getElem? (i := 62) rfl)) (hw _ (List.mem_of_getElem? (i := 37) rfl)) (by decide) (by decide)) q37a q37c (g := (mkF m 285 #[.val (.int i0), .val (.int i1), .val (.int i2), .val (.int i3), .val (.int i4), .val (.int z1), .val (.int z4), .val (.int (((i4.toUInt32 >>> ((4 : Int32) &&& 31).toUInt32).toInt32) &&& (3 : Int32))), .val (.int na), .val (.int z7), .val (.int z10), .val (.int ch11), .val (.int ch12), .val (.int ch13), .val (.int ch14), .val (.ref ts13), .val (.ref ts14), .val (.int pa), .val (.int z15), .val (.ref b18), .val (.ref b20), .val .null, .val (.int (0 : Int32)), .unset] [.null, (.ref b18)])) rfl (by rw [hml]; rfl) (Steps.refl _) (argsL := [.null]) (rest := []) (lenOf own_pd0_2 rfl) rfl (by show 2 * 0 + _ ≤ _; exact Nat.le_of_eq rfl) (hb hby at_285) (fun _ _ => ⟨rfl, rfl, (by decide : 12 + 0 ≤ _), (by decide : 68 + 0 ≤ _)⟩)
                  dsimp only [Pt.U, Pt.locs, Pt.cells, Pt.slots] at X37 l37 y37 z37 st37 hQ37
                  subst l37 y37 z37
                  obtain ⟨rfl, NQ37, eq37⟩ := hQ37
                  have NF := Fr.app NF NQ37
                  refine own_goW (T' := T37) (g' := (mkF m 288 #[.val (.int i0), .val (.int i1), .val (.int i2), .val (.int i3), .val (.int i4), .val (.int z1), .val (.int z4), .val (.int (((i4.toUInt32 >>> ((4 : Int32) &&& 31).toUInt32).toInt32) &&& (3 : Int32))), .val (.int na), .val (.int z7), .val (.int z10), .val (.int ch11), .val (.int ch12), .val (.int ch13), .val (.int ch14), .val (.ref ts13), .val (.ref ts14), .val (.int pa), .val (.int z15), .val (.ref b18), .val (.ref b20), .val .null, .val (.int (0 : Int32)), .unset] [(.int (0 : Int32))])) (fun _ k => st37.trans k) ?_
                  refine own_goW (T' := T37) (g' := (mkF m 290 #[.val (.int i0), .val (.int i1), .val (.int i2), .val (.int i3), .val (.int i4), .val (.int z1), .val (.int z4), .val (.int (((i4.toUInt32 >>> ((4 : Int32) &&& 31).toUInt32).toInt32) &&& (3 : Int32))), .val (.int na), .val (.int z7), .val (.int z10), .val (.int ch11), .val (.int ch12), .val (.int ch13), .val (.int ch14), .val (.ref ts13), .val (.ref ts14), .val (.int pa), .val (.int z15), .val (.ref b18), .val (.ref b20), .val .null, .val (.int (0 : Int32)), .val (.int (0 : Int32))] [])) (fun _ k => XS.istore X37.here hx rfl (hb hby at_288) rfl (l' := #[.val (.int i0), .val (.int i1), .val (.int i2), .val (.int i3), .val (.int i4), .val (.int z1), .val (.int z4), .val (.int (((i4.toUInt32 >>> ((4 : Int32) &&& 31).toUInt32).toInt32) &&& (3 : Int32))), .val (.int na), .val (.int z7), .val (.int z10), .val (.int ch11), .val (.int ch12), .val (.int ch13), .val (.int ch14), .val (.ref ts13), .val (.ref ts14), .val (.int pa), .val (.int z15), .val (.ref b18), .val (.ref b20), .val .null, .val (.int (0 : Int32)), .val (.int (0 : Int32))]) rfl k) ?_
                  refine own_goW (T' := T37) (g' := (mkF m 292 #[.val (.int i0), .val (.int i1), .val (.int i2), .val (.int i3), .val (.int i4), .val (.int z1), .val (.int z4), .val (.int (((i4.toUInt32 >>> ((4 : Int32) &&& 31).toUInt32).toInt32) &&& (3 : Int32))), .val (.int na), .val (.int z7), .val (.int z10), .val (.int ch11), .val (.int ch12), .val (.int ch13), .val (.int ch14), .val (.ref ts13), .val (.ref ts14), .val (.int pa), .val (.int z15), .val (.ref b18), .val (.ref b20), .val .null, .val (.int (0 : Int32)), .val (.int (0 : Int32))] [(.int (((i4.toUInt32 >>> ((4 : Int32) &&& 31).toUInt32).toInt32) &&& (3 : Int32)))])) (fun _ k => XS.iload X37.here hx rfl (hb hby at_290) rfl k) ?_
                  refine own_goW (T' := T37) (g' := (mkF m 309 #[.val (.int i0), .val (.int i1), .val (.int i2), .val (.int i3), .val (.int i4), .val (.int z1), .val (.int z4), .val (.int (((i4.toUInt32 >>> ((4 : Int32) &&& 31).toUInt32).toInt32) &&& (3 : Int32))), .val (.int na), .val (.int z7), .val (.int z10), .val (.int ch11), .val (.int ch12), .val (.int ch13), .val (.int ch14), .val (.ref ts13), .val (.ref ts14), .val (.int pa), .val (.int z15), .val (.ref b18), .val (.ref b20), .val .null, .val (.int (0 : Int32)), .val (.int (0 : Int32))] [])) (fun _ k => XS.ifYes X37.here hx rfl (pc0 := 292) (pc' := 309) rfl (hb hby at_292) rfl ((if0 _ _).trans (feq c22).2) (by decide) (by decide) k) ?_
                  refine own_goW (T' := T37) (g' := (mkF m 311 #[.val (.int i0), .val (.int i1), .val (.int i2), .val (.int i3), .val (.int i4), .val (.int z1), .val (.int z4), .val (.int (((i4.toUInt32 >>> ((4 : Int32) &&& 31).toUInt32).toInt32) &&& (3 : Int32))), .val (.int na), .val (.int z7), .val (.int z10), .val (.int ch11), .val (.int ch12), .val (.int ch13), .val (.int ch14), .val (.ref ts13), .val (.ref ts14), .val (.int pa), .val (.int z15), .val (.ref b18), .val (.ref b20), .val .null, .val (.int (0 : Int32)), .val (.int (0 : Int32))] [(.int (0 : Int32))])) (fun _ k => XS.iload X37.here hx rfl (hb hby at_309) rfl k) ?_
                  refine own_goW (T' := T37) (g' := (mkF m 313 #[.val (.int i0), .val (.int i1), .val (.int i2), .val (.int i3), .val (.int i4), .val (.int z1), .val (.int z4), .val (.int (((i4.toUInt32 >>> ((4 : Int32) &&& 31).toUInt32).toInt32) &&& (3 : Int32))), .val (.int na), .val (.int z7), .val (.int z10), .val (.int ch11), .val (.int ch12), .val (.int ch13), .val (.int ch14), .val (.ref ts13), .val (.ref ts14), .val (.int pa), .val (.int z15), .val (.ref b18), .val (.ref b20), .val .null, .val (.int (0 : Int32)), .val (.int (0 : Int32))] [(.int (0 : Int32)), (.int (0 : Int32))])) (fun _ k => XS.iload X37.here hx rfl (hb hby at_311) rfl k) ?_
                  refine own_goW (T' := T37) (g' := (mkF m 316 #[.val (.int i0), .val (.int i1), .val (.int i2), .val (.int i3), .val (.int i4), .val (.int z1), .val (.int z4), .val (.int (((i4.toUInt32 >>> ((4 : Int32) &&& 31).toUInt32).toInt32) &&& (3 : Int32))), .val (.int na), .val (.int z7), .val (.int z10), .val (.int ch11), .val (.int ch12), .val (.int ch13), .val (.int ch14), .val (.ref ts13), .val (.ref ts14), .val (.int pa), .val (.int z15), .val (.ref b18), .val (.ref b20), .val .null, .val (.int (0 : Int32)), .val (.int (0 : Int32))] [])) (fun _ k => XS.icmpNo X37.here hx rfl (hb hby at_313) rfl (by decide) k) ?_
                  refine own_goW (T' := T37) (g' := (mkF m 317 #[.val (.int i0), .val (.int i1), .val (.int i2), .val (.int i3), .val (.int i4), .val (.int z1), .val (.int z4), .val (.int (((i4.toUInt32 >>> ((4 : Int32) &&& 31).toUInt32).toInt32) &&& (3 : Int32))), .val (.int na), .val (.int z7), .val (.int z10), .val (.int ch11), .val (.int ch12), .val (.int ch13), .val (.int ch14), .val (.ref ts13), .val (.ref ts14), .val (.int pa), .val (.int z15), .val (.ref b18), .val (.ref b20), .val .null, .val (.int (0 : Int32)), .val (.int (0 : Int32))] [(.int (1 : Int32))])) (fun _ k => XS.iconst X37.here hx rfl (hb hby at_316) k) ?_
                  refine own_goW (T' := T37) (g' := (mkF m 321 #[.val (.int i0), .val (.int i1), .val (.int i2), .val (.int i3), .val (.int i4), .val (.int z1), .val (.int z4), .val (.int (((i4.toUInt32 >>> ((4 : Int32) &&& 31).toUInt32).toInt32) &&& (3 : Int32))), .val (.int na), .val (.int z7), .val (.int z10), .val (.int ch11), .val (.int ch12), .val (.int ch13), .val (.int ch14), .val (.ref ts13), .val (.ref ts14), .val (.int pa), .val (.int z15), .val (.ref b18), .val (.ref b20), .val .null, .val (.int (0 : Int32)), .val (.int (0 : Int32))] [(.int (1 : Int32))])) (fun _ k => XS.goto X37.here hx rfl (pc0 := 317) (pc' := 321) rfl (hb hby at_317) (by decide) (by decide) k) ?_
                  refine own_retW (s := s) (vm₁ := T21.vm) X37 Bd.notSynchronized (some (.int (1 : Int32))) (fun h => by rw [Bd.returns] at h; cases h) (fun fs hr => retN X37 hx (t := .boolean) Bd.returns (by simp) (hb hby at_321) hr) ?_ (by decide) (by decide) hSi (by rw [eq37]; exact hKi)
                  show (own_Q0 Z i0 i1 i2 i3 i4 cs h0 n0) (some (.int (1 : Int32))) T37.heap _
                  rw [eq37]
                  exact ⟨rfl, NF⟩
                · refine own_goW (T' := T21) (g' := (mkF m 274 #[.val (.int i0), .val (.int i1), .val (.int i2), .val (.int i3), .val (.int i4), .val (.int z1), .val (.int z4), .val (.int (((i4.toUInt32 >>> ((4 : Int32) &&& 31).toUInt32).toInt32) &&& (3 : Int32))), .val (.int na), .val (.int z7), .val (.int z10), .val (.int ch11), .val (.int ch12), .val (.int ch13), .val (.int ch14), .val (.ref ts13), .val (.ref ts14), .val (.int pa), .val (.int z15), .val (.ref b18), .val (.ref b20), .unset, .unset, .unset] [])) (fun _ k => XS.icmpYes X21.here hx rfl (pc0 := 262) (pc' := 274) rfl (hb hby at_262) rfl (feq c36).2 (by decide) (by decide) k) ?_
                  refine own_goW (T' := T21) (g' := (mkF m 276 #[.val (.int i0), .val (.int i1), .val (.int i2), .val (.int i3), .val (.int i4), .val (.int z1), .val (.int z4), .val (.int (((i4.toUInt32 >>> ((4 : Int32) &&& 31).toUInt32).toInt32) &&& (3 : Int32))), .val (.int na), .val (.int z7), .val (.int z10), .val (.int ch11), .val (.int ch12), .val (.int ch13), .val (.int ch14), .val (.ref ts13), .val (.ref ts14), .val (.int pa), .val (.int z15), .val (.ref b18), .val (.ref b20), .unset, .unset, .unset] [(.ref ts13)])) (fun _ k => XS.aload X21.here hx rfl (hb hby at_274) rfl rfl k) ?_
                  refine own_goW (T' := T21) (g' := (mkF m 278 #[.val (.int i0), .val (.int i1), .val (.int i2), .val (.int i3), .val (.int i4), .val (.int z1), .val (.int z4), .val (.int (((i4.toUInt32 >>> ((4 : Int32) &&& 31).toUInt32).toInt32) &&& (3 : Int32))), .val (.int na), .val (.int z7), .val (.int z10), .val (.int ch11), .val (.int ch12), .val (.int ch13), .val (.int ch14), .val (.ref ts13), .val (.ref ts14), .val (.int pa), .val (.int z15), .val (.ref b18), .val (.ref b20), .val (.ref ts13), .unset, .unset] [])) (fun _ k => XS.astore X21.here hx rfl (hb hby at_276) rfl rfl (l' := #[.val (.int i0), .val (.int i1), .val (.int i2), .val (.int i3), .val (.int i4), .val (.int z1), .val (.int z4), .val (.int (((i4.toUInt32 >>> ((4 : Int32) &&& 31).toUInt32).toInt32) &&& (3 : Int32))), .val (.int na), .val (.int z7), .val (.int z10), .val (.int ch11), .val (.int ch12), .val (.int ch13), .val (.int ch14), .val (.ref ts13), .val (.ref ts14), .val (.int pa), .val (.int z15), .val (.ref b18), .val (.ref b20), .val (.ref ts13), .unset, .unset]) rfl k) ?_
                  refine own_goW (T' := T21) (g' := (mkF m 279 #[.val (.int i0), .val (.int i1), .val (.int i2), .val (.int i3), .val (.int i4), .val (.int z1), .val (.int z4), .val (.int (((i4.toUInt32 >>> ((4 : Int32) &&& 31).toUInt32).toInt32) &&& (3 : Int32))), .val (.int na), .val (.int z7), .val (.int z10), .val (.int ch11), .val (.int ch12), .val (.int ch13), .val (.int ch14), .val (.ref ts13), .val (.ref ts14), .val (.int pa), .val (.int z15), .val (.ref b18), .val (.ref b20), .val (.ref ts13), .unset, .unset] [(.int (0 : Int32))])) (fun _ k => XS.iconst X21.here hx rfl (hb hby at_278) k) ?_
                  refine own_goW (T' := T21) (g' := (mkF m 281 #[.val (.int i0), .val (.int i1), .val (.int i2), .val (.int i3), .val (.int i4), .val (.int z1), .val (.int z4), .val (.int (((i4.toUInt32 >>> ((4 : Int32) &&& 31).toUInt32).toInt32) &&& (3 : Int32))), .val (.int na), .val (.int z7), .val (.int z10), .val (.int ch11), .val (.int ch12), .val (.int ch13), .val (.int ch14), .val (.ref ts13), .val (.ref ts14), .val (.int pa), .val (.int z15), .val (.ref b18), .val (.ref b20), .val (.ref ts13), .val (.int (0 : Int32)), .unset] [])) (fun _ k => XS.istore X21.here hx rfl (hb hby at_279) rfl (l' := #[.val (.int i0), .val (.int i1), .val (.int i2), .val (.int i3), .val (.int i4), .val (.int z1), .val (.int z4), .val (.int (((i4.toUInt32 >>> ((4 : Int32) &&& 31).toUInt32).toInt32) &&& (3 : Int32))), .val (.int na), .val (.int z7), .val (.int z10), .val (.int ch11), .val (.int ch12), .val (.int ch13), .val (.int ch14), .val (.ref ts13), .val (.ref ts14), .val (.int pa), .val (.int z15), .val (.ref b18), .val (.ref b20), .val (.ref ts13), .val (.int (0 : Int32)), .unset]) rfl k) ?_
                  refine own_goW (T' := T21) (g' := (mkF m 283 #[.val (.int i0), .val (.int i1), .val (.int i2), .val (.int i3), .val (.int i4), .val (.int z1), .val (.int z4), .val (.int (((i4.toUInt32 >>> ((4 : Int32) &&& 31).toUInt32).toInt32) &&& (3 : Int32))), .val (.int na), .val (.int z7), .val (.int z10), .val (.int ch11), .val (.int ch12), .val (.int ch13), .val (.int ch14), .val (.ref ts13), .val (.ref ts14), .val (.int pa), .val (.int z15), .val (.ref b18), .val (.ref b20), .val (.ref ts13), .val (.int (0 : Int32)), .unset] [(.ref b18)])) (fun _ k => XS.aload X21.here hx rfl (hb hby at_281) rfl rfl k) ?_
                  refine own_goW (T' := T21) (g' := (mkF m 285 #[.val (.int i0), .val (.int i1), .val (.int i2), .val (.int i3), .val (.int i4), .val (.int z1), .val (.int z4), .val (.int (((i4.toUInt32 >>> ((4 : Int32) &&& 31).toUInt32).toInt32) &&& (3 : Int32))), .val (.int na), .val (.int z7), .val (.int z10), .val (.int ch11), .val (.int ch12), .val (.int ch13), .val (.int ch14), .val (.ref ts13), .val (.ref ts14), .val (.int pa), .val (.int z15), .val (.ref b18), .val (.ref b20), .val (.ref ts13), .val (.int (0 : Int32)), .unset] [(.ref ts13), (.ref b18)])) (fun _ k => XS.aload X21.here hx rfl (hb hby at_283) rfl rfl k) ?_
                  obtain ⟨cq38, kq38, q38a, q38b, q38c⟩ := isOf hZ rfl E_b18
                  obtain ⟨_, _, ⟨T38, L38, k38, n38⟩, -, X38, ⟨Lc38, hQ38, l38, y38, z38⟩, st38⟩ := X21.virtualBack hx (y := (⟨"com/example/gentle_rebalance/gentlerebalance/engine/TopicPartition", "equals", "(Ljava/lang/Object;)Z"⟩ : MethodName)) (z := (⟨"com/example/gentle_rebalance/gentlerebalance/engine/TopicPartition", "equals", "(Ljava/lang/Object;)Z"⟩ : MethodName)) hown (mvT hZ (hw _ (List.mem_of_getElem? (i := 58) rfl))) (mvT hZ (hw _ (List.mem_of_getElem? (i := 59) rfl))) (notFace_of_selects (args := #[]) (mvT hZ (hw _ (List.mem_of_getElem? (i := 61) rfl)))) (mvT hZ (hw _ (List.mem_of_getElem? (i := 61) rfl))) (mvT hZ (hw _ (List.mem_of_getElem? (i := 60) rfl))) (by decide) (backOf (W := 0) (own_rm17 l Z a0 hw [] b18 ts13 T21.heap n0 Zs E_ts13 (Ne.symm ne_ts13_b18)) hZ (hw _ (List.mem_of_getElem? (i := 62) rfl)) (hw _ (List.mem_of_getElem? (i := 37) rfl)) (by decide) (by decide)) q38a q38c (g := (mkF m 285 #[.val (.int i0), .val (.int i1), .val (.int i2), .val (.int i3), .val (.int i4), .val (.int z1), .val (.int z4), .val (.int (((i4.toUInt32 >>> ((4 : Int32) &&& 31).toUInt32).toInt32) &&& (3 : Int32))), .val (.int na), .val (.int z7), .val (.int z10), .val (.int ch11), .val (.int ch12), .val (.int ch13), .val (.int ch14), .val (.ref ts13), .val (.ref ts14), .val (.int pa), .val (.int z15), .val (.ref b18), .val (.ref b20), .val (.ref ts13), .val (.int (0 : Int32)), .unset] [(.ref ts13), (.ref b18)])) rfl (by rw [hml]; rfl) (Steps.refl _) (argsL := [(.ref ts13)]) (rest := []) (lenOf own_pd0_2 rfl) rfl (by show 2 * 0 + _ ≤ _; exact Nat.le_of_eq rfl) (hb hby at_285) (fun _ _ => ⟨rfl, rfl, (by decide : 12 + 0 ≤ _), (by decide : 68 + 0 ≤ _)⟩)
                  dsimp only [Pt.U, Pt.locs, Pt.cells, Pt.slots] at X38 l38 y38 z38 st38 hQ38
                  subst l38 y38 z38
                  obtain ⟨rfl, NQ38, eq38⟩ := hQ38
                  have NF := Fr.app NF NQ38
                  refine own_goW (T' := T38) (g' := (mkF m 288 #[.val (.int i0), .val (.int i1), .val (.int i2), .val (.int i3), .val (.int i4), .val (.int z1), .val (.int z4), .val (.int (((i4.toUInt32 >>> ((4 : Int32) &&& 31).toUInt32).toInt32) &&& (3 : Int32))), .val (.int na), .val (.int z7), .val (.int z10), .val (.int ch11), .val (.int ch12), .val (.int ch13), .val (.int ch14), .val (.ref ts13), .val (.ref ts14), .val (.int pa), .val (.int z15), .val (.ref b18), .val (.ref b20), .val (.ref ts13), .val (.int (0 : Int32)), .unset] [(.int (0 : Int32))])) (fun _ k => st38.trans k) ?_
                  refine own_goW (T' := T38) (g' := (mkF m 290 #[.val (.int i0), .val (.int i1), .val (.int i2), .val (.int i3), .val (.int i4), .val (.int z1), .val (.int z4), .val (.int (((i4.toUInt32 >>> ((4 : Int32) &&& 31).toUInt32).toInt32) &&& (3 : Int32))), .val (.int na), .val (.int z7), .val (.int z10), .val (.int ch11), .val (.int ch12), .val (.int ch13), .val (.int ch14), .val (.ref ts13), .val (.ref ts14), .val (.int pa), .val (.int z15), .val (.ref b18), .val (.ref b20), .val (.ref ts13), .val (.int (0 : Int32)), .val (.int (0 : Int32))] [])) (fun _ k => XS.istore X38.here hx rfl (hb hby at_288) rfl (l' := #[.val (.int i0), .val (.int i1), .val (.int i2), .val (.int i3), .val (.int i4), .val (.int z1), .val (.int z4), .val (.int (((i4.toUInt32 >>> ((4 : Int32) &&& 31).toUInt32).toInt32) &&& (3 : Int32))), .val (.int na), .val (.int z7), .val (.int z10), .val (.int ch11), .val (.int ch12), .val (.int ch13), .val (.int ch14), .val (.ref ts13), .val (.ref ts14), .val (.int pa), .val (.int z15), .val (.ref b18), .val (.ref b20), .val (.ref ts13), .val (.int (0 : Int32)), .val (.int (0 : Int32))]) rfl k) ?_
                  refine own_goW (T' := T38) (g' := (mkF m 292 #[.val (.int i0), .val (.int i1), .val (.int i2), .val (.int i3), .val (.int i4), .val (.int z1), .val (.int z4), .val (.int (((i4.toUInt32 >>> ((4 : Int32) &&& 31).toUInt32).toInt32) &&& (3 : Int32))), .val (.int na), .val (.int z7), .val (.int z10), .val (.int ch11), .val (.int ch12), .val (.int ch13), .val (.int ch14), .val (.ref ts13), .val (.ref ts14), .val (.int pa), .val (.int z15), .val (.ref b18), .val (.ref b20), .val (.ref ts13), .val (.int (0 : Int32)), .val (.int (0 : Int32))] [(.int (((i4.toUInt32 >>> ((4 : Int32) &&& 31).toUInt32).toInt32) &&& (3 : Int32)))])) (fun _ k => XS.iload X38.here hx rfl (hb hby at_290) rfl k) ?_
                  refine own_goW (T' := T38) (g' := (mkF m 309 #[.val (.int i0), .val (.int i1), .val (.int i2), .val (.int i3), .val (.int i4), .val (.int z1), .val (.int z4), .val (.int (((i4.toUInt32 >>> ((4 : Int32) &&& 31).toUInt32).toInt32) &&& (3 : Int32))), .val (.int na), .val (.int z7), .val (.int z10), .val (.int ch11), .val (.int ch12), .val (.int ch13), .val (.int ch14), .val (.ref ts13), .val (.ref ts14), .val (.int pa), .val (.int z15), .val (.ref b18), .val (.ref b20), .val (.ref ts13), .val (.int (0 : Int32)), .val (.int (0 : Int32))] [])) (fun _ k => XS.ifYes X38.here hx rfl (pc0 := 292) (pc' := 309) rfl (hb hby at_292) rfl ((if0 _ _).trans (feq c22).2) (by decide) (by decide) k) ?_
                  refine own_goW (T' := T38) (g' := (mkF m 311 #[.val (.int i0), .val (.int i1), .val (.int i2), .val (.int i3), .val (.int i4), .val (.int z1), .val (.int z4), .val (.int (((i4.toUInt32 >>> ((4 : Int32) &&& 31).toUInt32).toInt32) &&& (3 : Int32))), .val (.int na), .val (.int z7), .val (.int z10), .val (.int ch11), .val (.int ch12), .val (.int ch13), .val (.int ch14), .val (.ref ts13), .val (.ref ts14), .val (.int pa), .val (.int z15), .val (.ref b18), .val (.ref b20), .val (.ref ts13), .val (.int (0 : Int32)), .val (.int (0 : Int32))] [(.int (0 : Int32))])) (fun _ k => XS.iload X38.here hx rfl (hb hby at_309) rfl k) ?_
                  refine own_goW (T' := T38) (g' := (mkF m 313 #[.val (.int i0), .val (.int i1), .val (.int i2), .val (.int i3), .val (.int i4), .val (.int z1), .val (.int z4), .val (.int (((i4.toUInt32 >>> ((4 : Int32) &&& 31).toUInt32).toInt32) &&& (3 : Int32))), .val (.int na), .val (.int z7), .val (.int z10), .val (.int ch11), .val (.int ch12), .val (.int ch13), .val (.int ch14), .val (.ref ts13), .val (.ref ts14), .val (.int pa), .val (.int z15), .val (.ref b18), .val (.ref b20), .val (.ref ts13), .val (.int (0 : Int32)), .val (.int (0 : Int32))] [(.int (0 : Int32)), (.int (0 : Int32))])) (fun _ k => XS.iload X38.here hx rfl (hb hby at_311) rfl k) ?_
                  refine own_goW (T' := T38) (g' := (mkF m 316 #[.val (.int i0), .val (.int i1), .val (.int i2), .val (.int i3), .val (.int i4), .val (.int z1), .val (.int z4), .val (.int (((i4.toUInt32 >>> ((4 : Int32) &&& 31).toUInt32).toInt32) &&& (3 : Int32))), .val (.int na), .val (.int z7), .val (.int z10), .val (.int ch11), .val (.int ch12), .val (.int ch13), .val (.int ch14), .val (.ref ts13), .val (.ref ts14), .val (.int pa), .val (.int z15), .val (.ref b18), .val (.ref b20), .val (.ref ts13), .val (.int (0 : Int32)), .val (.int (0 : Int32))] [])) (fun _ k => XS.icmpNo X38.here hx rfl (hb hby at_313) rfl (by decide) k) ?_
                  refine own_goW (T' := T38) (g' := (mkF m 317 #[.val (.int i0), .val (.int i1), .val (.int i2), .val (.int i3), .val (.int i4), .val (.int z1), .val (.int z4), .val (.int (((i4.toUInt32 >>> ((4 : Int32) &&& 31).toUInt32).toInt32) &&& (3 : Int32))), .val (.int na), .val (.int z7), .val (.int z10), .val (.int ch11), .val (.int ch12), .val (.int ch13), .val (.int ch14), .val (.ref ts13), .val (.ref ts14), .val (.int pa), .val (.int z15), .val (.ref b18), .val (.ref b20), .val (.ref ts13), .val (.int (0 : Int32)), .val (.int (0 : Int32))] [(.int (1 : Int32))])) (fun _ k => XS.iconst X38.here hx rfl (hb hby at_316) k) ?_
                  refine own_goW (T' := T38) (g' := (mkF m 321 #[.val (.int i0), .val (.int i1), .val (.int i2), .val (.int i3), .val (.int i4), .val (.int z1), .val (.int z4), .val (.int (((i4.toUInt32 >>> ((4 : Int32) &&& 31).toUInt32).toInt32) &&& (3 : Int32))), .val (.int na), .val (.int z7), .val (.int z10), .val (.int ch11), .val (.int ch12), .val (.int ch13), .val (.int ch14), .val (.ref ts13), .val (.ref ts14), .val (.int pa), .val (.int z15), .val (.ref b18), .val (.ref b20), .val (.ref ts13), .val (.int (0 : Int32)), .val (.int (0 : Int32))] [(.int (1 : Int32))])) (fun _ k => XS.goto X38.here hx rfl (pc0 := 317) (pc' := 321) rfl (hb hby at_317) (by decide) (by decide) k) ?_
                  refine own_retW (s := s) (vm₁ := T21.vm) X38 Bd.notSynchronized (some (.int (1 : Int32))) (fun h => by rw [Bd.returns] at h; cases h) (fun fs hr => retN X38 hx (t := .boolean) Bd.returns (by simp) (hb hby at_321) hr) ?_ (by decide) (by decide) hSi (by rw [eq38]; exact hKi)
                  show (own_Q0 Z i0 i1 i2 i3 i4 cs h0 n0) (some (.int (1 : Int32))) T38.heap _
                  rw [eq38]
                  exact ⟨rfl, NF⟩
          refine own_goW (T' := T14) (g' := (mkF m 150 #[.val (.int i0), .val (.int i1), .val (.int i2), .val (.int i3), .val (.int i4), .val (.int z1), .val (.int z4), .val (.int (((i4.toUInt32 >>> ((4 : Int32) &&& 31).toUInt32).toInt32) &&& (3 : Int32))), .val (.int na), .val (.int z7), .val (.int z10), .val (.int ch11), .val (.int ch12), .val (.int ch13), .val (.int ch14), .val (.ref ts13), .val (.ref ts14), .val (.int pa), .unset, .unset, .unset, .unset, .unset, .unset] [(.int z4)])) (fun _ k => XS.iload X14.here hx rfl (hb hby at_148) rfl k) ?_
          by_cases c39 : z4 = (0 : Int32)
          · refine own_goW (T' := T14) (g' := (mkF m 158 #[.val (.int i0), .val (.int i1), .val (.int i2), .val (.int i3), .val (.int i4), .val (.int z1), .val (.int z4), .val (.int (((i4.toUInt32 >>> ((4 : Int32) &&& 31).toUInt32).toInt32) &&& (3 : Int32))), .val (.int na), .val (.int z7), .val (.int z10), .val (.int ch11), .val (.int ch12), .val (.int ch13), .val (.int ch14), .val (.ref ts13), .val (.ref ts14), .val (.int pa), .unset, .unset, .unset, .unset, .unset, .unset] [])) (fun _ k => XS.ifYes X14.here hx rfl (pc0 := 150) (pc' := 158) rfl (hb hby at_150) rfl ((if0 _ _).trans (teq c39).1) (by decide) (by decide) k) ?_
            refine own_goW (T' := T14) (g' := (mkF m 159 #[.val (.int i0), .val (.int i1), .val (.int i2), .val (.int i3), .val (.int i4), .val (.int z1), .val (.int z4), .val (.int (((i4.toUInt32 >>> ((4 : Int32) &&& 31).toUInt32).toInt32) &&& (3 : Int32))), .val (.int na), .val (.int z7), .val (.int z10), .val (.int ch11), .val (.int ch12), .val (.int ch13), .val (.int ch14), .val (.ref ts13), .val (.ref ts14), .val (.int pa), .unset, .unset, .unset, .unset, .unset, .unset] [(.int i3)])) (fun _ k => XS.iloadN X14.here hx rfl (hb hby at_158) rfl k) ?_
            refine own_goW (T' := T14) (g' := (mkF m 161 #[.val (.int i0), .val (.int i1), .val (.int i2), .val (.int i3), .val (.int i4), .val (.int z1), .val (.int z4), .val (.int (((i4.toUInt32 >>> ((4 : Int32) &&& 31).toUInt32).toInt32) &&& (3 : Int32))), .val (.int na), .val (.int z7), .val (.int z10), .val (.int ch11), .val (.int ch12), .val (.int ch13), .val (.int ch14), .val (.ref ts13), .val (.ref ts14), .val (.int pa), .unset, .unset, .unset, .unset, .unset, .unset] [(.int (2147483647 : Int32)), (.int i3)])) (fun _ k => X14.ldcInt hx hown (mvT hZ (hw _ (List.mem_of_getElem? (i := 34) rfl))) (g := (mkF m 159 #[.val (.int i0), .val (.int i1), .val (.int i2), .val (.int i3), .val (.int i4), .val (.int z1), .val (.int z4), .val (.int (((i4.toUInt32 >>> ((4 : Int32) &&& 31).toUInt32).toInt32) &&& (3 : Int32))), .val (.int na), .val (.int z7), .val (.int z10), .val (.int ch11), .val (.int ch12), .val (.int ch13), .val (.int ch14), .val (.ref ts13), .val (.ref ts14), .val (.int pa), .unset, .unset, .unset, .unset, .unset, .unset] [(.int i3)])) rfl (hb hby at_159) _ k) ?_
            refine own_goW (T' := T14) (g' := (mkF m 162 #[.val (.int i0), .val (.int i1), .val (.int i2), .val (.int i3), .val (.int i4), .val (.int z1), .val (.int z4), .val (.int (((i4.toUInt32 >>> ((4 : Int32) &&& 31).toUInt32).toInt32) &&& (3 : Int32))), .val (.int na), .val (.int z7), .val (.int z10), .val (.int ch11), .val (.int ch12), .val (.int ch13), .val (.int ch14), .val (.ref ts13), .val (.ref ts14), .val (.int pa), .unset, .unset, .unset, .unset, .unset, .unset] [(.int (i3 &&& (2147483647 : Int32)))])) (fun _ k => XS.iand X14.here hx rfl (hb hby at_161) rfl k) ?_
            exact J17 _ (by (try simp only [own_l0, own_l1, own_l2, own_l3, own_l4, own_l8, own_l31, own_l255, own_l2147483647, Int32.lt_iff_toInt_lt, ← Int32.toInt_inj, Int64.lt_iff_toInt_lt, ← Int64.toInt_inj, and_true, true_and, and_false, false_and, or_true, true_or, or_false, false_or, not_true_eq_false, not_false_eq_true, ne_eq, true_implies, false_implies, implies_true] at hz2 hz5 hz8 hz11 c39 ⊢) <;> omega)
          · refine own_goW (T' := T14) (g' := (mkF m 153 #[.val (.int i0), .val (.int i1), .val (.int i2), .val (.int i3), .val (.int i4), .val (.int z1), .val (.int z4), .val (.int (((i4.toUInt32 >>> ((4 : Int32) &&& 31).toUInt32).toInt32) &&& (3 : Int32))), .val (.int na), .val (.int z7), .val (.int z10), .val (.int ch11), .val (.int ch12), .val (.int ch13), .val (.int ch14), .val (.ref ts13), .val (.ref ts14), .val (.int pa), .unset, .unset, .unset, .unset, .unset, .unset] [])) (fun _ k => XS.ifNo X14.here hx rfl (hb hby at_150) rfl ((if0 _ _).trans (feq c39).1) k) ?_
            refine own_goW (T' := T14) (g' := (mkF m 155 #[.val (.int i0), .val (.int i1), .val (.int i2), .val (.int i3), .val (.int i4), .val (.int z1), .val (.int z4), .val (.int (((i4.toUInt32 >>> ((4 : Int32) &&& 31).toUInt32).toInt32) &&& (3 : Int32))), .val (.int na), .val (.int z7), .val (.int z10), .val (.int ch11), .val (.int ch12), .val (.int ch13), .val (.int ch14), .val (.ref ts13), .val (.ref ts14), .val (.int pa), .unset, .unset, .unset, .unset, .unset, .unset] [(.int pa)])) (fun _ k => XS.iload X14.here hx rfl (hb hby at_153) rfl k) ?_
            refine own_goW (T' := T14) (g' := (mkF m 162 #[.val (.int i0), .val (.int i1), .val (.int i2), .val (.int i3), .val (.int i4), .val (.int z1), .val (.int z4), .val (.int (((i4.toUInt32 >>> ((4 : Int32) &&& 31).toUInt32).toInt32) &&& (3 : Int32))), .val (.int na), .val (.int z7), .val (.int z10), .val (.int ch11), .val (.int ch12), .val (.int ch13), .val (.int ch14), .val (.ref ts13), .val (.ref ts14), .val (.int pa), .unset, .unset, .unset, .unset, .unset, .unset] [(.int pa)])) (fun _ k => XS.goto X14.here hx rfl (pc0 := 155) (pc' := 162) rfl (hb hby at_155) (by decide) (by decide) k) ?_
            exact J17 _ (by (try simp only [own_l0, own_l1, own_l2, own_l3, own_l4, own_l8, own_l31, own_l255, own_l2147483647, Int32.lt_iff_toInt_lt, ← Int32.toInt_inj, Int64.lt_iff_toInt_lt, ← Int64.toInt_inj, and_true, true_and, and_false, false_and, or_true, true_or, or_false, false_or, not_true_eq_false, not_false_eq_true, ne_eq, true_implies, false_implies, implies_true] at hz2 hz5 hz8 hz11 c39 ⊢) <;> omega)
        refine own_goW (T' := s₁) (g' := (mkF m 70 #[.val (.int i0), .val (.int i1), .val (.int i2), .val (.int i3), .val (.int i4), .val (.int z1), .val (.int z4), .val (.int (((i4.toUInt32 >>> ((4 : Int32) &&& 31).toUInt32).toInt32) &&& (3 : Int32))), .val (.int na), .val (.int z7), .unset, .unset, .unset, .unset, .unset, .unset, .unset, .unset, .unset, .unset, .unset, .unset, .unset, .unset] [(.int z1)])) (fun _ k => XS.iload X0.here hx rfl (hb hby at_68) rfl k) ?_
        by_cases c40 : z1 = (0 : Int32)
        · refine own_goW (T' := s₁) (g' := (mkF m 77 #[.val (.int i0), .val (.int i1), .val (.int i2), .val (.int i3), .val (.int i4), .val (.int z1), .val (.int z4), .val (.int (((i4.toUInt32 >>> ((4 : Int32) &&& 31).toUInt32).toInt32) &&& (3 : Int32))), .val (.int na), .val (.int z7), .unset, .unset, .unset, .unset, .unset, .unset, .unset, .unset, .unset, .unset, .unset, .unset, .unset, .unset] [])) (fun _ k => XS.ifYes X0.here hx rfl (pc0 := 70) (pc' := 77) rfl (hb hby at_70) rfl ((if0 _ _).trans (teq c40).1) (by decide) (by decide) k) ?_
          refine own_goW (T' := s₁) (g' := (mkF m 78 #[.val (.int i0), .val (.int i1), .val (.int i2), .val (.int i3), .val (.int i4), .val (.int z1), .val (.int z4), .val (.int (((i4.toUInt32 >>> ((4 : Int32) &&& 31).toUInt32).toInt32) &&& (3 : Int32))), .val (.int na), .val (.int z7), .unset, .unset, .unset, .unset, .unset, .unset, .unset, .unset, .unset, .unset, .unset, .unset, .unset, .unset] [(.int i1)])) (fun _ k => XS.iloadN X0.here hx rfl (hb hby at_77) rfl k) ?_
          exact J12 _ (by (try simp only [own_l0, own_l1, own_l2, own_l3, own_l4, own_l8, own_l31, own_l255, own_l2147483647, Int32.lt_iff_toInt_lt, ← Int32.toInt_inj, Int64.lt_iff_toInt_lt, ← Int64.toInt_inj, and_true, true_and, and_false, false_and, or_true, true_or, or_false, false_or, not_true_eq_false, not_false_eq_true, ne_eq, true_implies, false_implies, implies_true] at hz2 hz5 hz8 c40 ⊢) <;> omega)
        · refine own_goW (T' := s₁) (g' := (mkF m 73 #[.val (.int i0), .val (.int i1), .val (.int i2), .val (.int i3), .val (.int i4), .val (.int z1), .val (.int z4), .val (.int (((i4.toUInt32 >>> ((4 : Int32) &&& 31).toUInt32).toInt32) &&& (3 : Int32))), .val (.int na), .val (.int z7), .unset, .unset, .unset, .unset, .unset, .unset, .unset, .unset, .unset, .unset, .unset, .unset, .unset, .unset] [])) (fun _ k => XS.ifNo X0.here hx rfl (hb hby at_70) rfl ((if0 _ _).trans (feq c40).1) k) ?_
          refine own_goW (T' := s₁) (g' := (mkF m 74 #[.val (.int i0), .val (.int i1), .val (.int i2), .val (.int i3), .val (.int i4), .val (.int z1), .val (.int z4), .val (.int (((i4.toUInt32 >>> ((4 : Int32) &&& 31).toUInt32).toInt32) &&& (3 : Int32))), .val (.int na), .val (.int z7), .unset, .unset, .unset, .unset, .unset, .unset, .unset, .unset, .unset, .unset, .unset, .unset, .unset, .unset] [(.int i0)])) (fun _ k => XS.iloadN X0.here hx rfl (hb hby at_73) rfl k) ?_
          refine own_goW (T' := s₁) (g' := (mkF m 78 #[.val (.int i0), .val (.int i1), .val (.int i2), .val (.int i3), .val (.int i4), .val (.int z1), .val (.int z4), .val (.int (((i4.toUInt32 >>> ((4 : Int32) &&& 31).toUInt32).toInt32) &&& (3 : Int32))), .val (.int na), .val (.int z7), .unset, .unset, .unset, .unset, .unset, .unset, .unset, .unset, .unset, .unset, .unset, .unset, .unset, .unset] [(.int i0)])) (fun _ k => XS.goto X0.here hx rfl (pc0 := 74) (pc' := 78) rfl (hb hby at_74) (by decide) (by decide) k) ?_
          exact J12 _ (by (try simp only [own_l0, own_l1, own_l2, own_l3, own_l4, own_l8, own_l31, own_l255, own_l2147483647, Int32.lt_iff_toInt_lt, ← Int32.toInt_inj, Int64.lt_iff_toInt_lt, ← Int64.toInt_inj, and_true, true_and, and_false, false_and, or_true, true_or, or_false, false_or, not_true_eq_false, not_false_eq_true, ne_eq, true_implies, false_implies, implies_true] at hz2 hz5 hz8 c40 ⊢) <;> omega)
      refine own_goW (T' := s₁) (g' := (mkF m 50 #[.val (.int i0), .val (.int i1), .val (.int i2), .val (.int i3), .val (.int i4), .val (.int z1), .val (.int z4), .val (.int (((i4.toUInt32 >>> ((4 : Int32) &&& 31).toUInt32).toInt32) &&& (3 : Int32))), .val (.int na), .unset, .unset, .unset, .unset, .unset, .unset, .unset, .unset, .unset, .unset, .unset, .unset, .unset, .unset, .unset] [(.int z1)])) (fun _ k => XS.iload X0.here hx rfl (hb hby at_48) rfl k) ?_
      by_cases c41 : z1 = (0 : Int32)
      · refine own_goW (T' := s₁) (g' := (mkF m 58 #[.val (.int i0), .val (.int i1), .val (.int i2), .val (.int i3), .val (.int i4), .val (.int z1), .val (.int z4), .val (.int (((i4.toUInt32 >>> ((4 : Int32) &&& 31).toUInt32).toInt32) &&& (3 : Int32))), .val (.int na), .unset, .unset, .unset, .unset, .unset, .unset, .unset, .unset, .unset, .unset, .unset, .unset, .unset, .unset, .unset] [])) (fun _ k => XS.ifYes X0.here hx rfl (pc0 := 50) (pc' := 58) rfl (hb hby at_50) rfl ((if0 _ _).trans (teq c41).1) (by decide) (by decide) k) ?_
        refine own_goW (T' := s₁) (g' := (mkF m 59 #[.val (.int i0), .val (.int i1), .val (.int i2), .val (.int i3), .val (.int i4), .val (.int z1), .val (.int z4), .val (.int (((i4.toUInt32 >>> ((4 : Int32) &&& 31).toUInt32).toInt32) &&& (3 : Int32))), .val (.int na), .unset, .unset, .unset, .unset, .unset, .unset, .unset, .unset, .unset, .unset, .unset, .unset, .unset, .unset, .unset] [(.int (1 : Int32))])) (fun _ k => XS.iconst X0.here hx rfl (hb hby at_58) k) ?_
        refine own_goW (T' := s₁) (g' := (mkF m 61 #[.val (.int i0), .val (.int i1), .val (.int i2), .val (.int i3), .val (.int i4), .val (.int z1), .val (.int z4), .val (.int (((i4.toUInt32 >>> ((4 : Int32) &&& 31).toUInt32).toInt32) &&& (3 : Int32))), .val (.int na), .unset, .unset, .unset, .unset, .unset, .unset, .unset, .unset, .unset, .unset, .unset, .unset, .unset, .unset, .unset] [(.int i4), (.int (1 : Int32))])) (fun _ k => XS.iload X0.here hx rfl (hb hby at_59) rfl k) ?_
        refine own_goW (T' := s₁) (g' := (mkF m 62 #[.val (.int i0), .val (.int i1), .val (.int i2), .val (.int i3), .val (.int i4), .val (.int z1), .val (.int z4), .val (.int (((i4.toUInt32 >>> ((4 : Int32) &&& 31).toUInt32).toInt32) &&& (3 : Int32))), .val (.int na), .unset, .unset, .unset, .unset, .unset, .unset, .unset, .unset, .unset, .unset, .unset, .unset, .unset, .unset, .unset] [(.int (1 : Int32)), (.int i4), (.int (1 : Int32))])) (fun _ k => XS.iconst X0.here hx rfl (hb hby at_61) k) ?_
        refine own_goW (T' := s₁) (g' := (mkF m 63 #[.val (.int i0), .val (.int i1), .val (.int i2), .val (.int i3), .val (.int i4), .val (.int z1), .val (.int z4), .val (.int (((i4.toUInt32 >>> ((4 : Int32) &&& 31).toUInt32).toInt32) &&& (3 : Int32))), .val (.int na), .unset, .unset, .unset, .unset, .unset, .unset, .unset, .unset, .unset, .unset, .unset, .unset, .unset, .unset, .unset] [(.int ((i4.toUInt32 >>> ((1 : Int32) &&& 31).toUInt32).toInt32)), (.int (1 : Int32))])) (fun _ k => XS.iushr X0.here hx rfl (hb hby at_62) rfl k) ?_
        refine own_goW (T' := s₁) (g' := (mkF m 64 #[.val (.int i0), .val (.int i1), .val (.int i2), .val (.int i3), .val (.int i4), .val (.int z1), .val (.int z4), .val (.int (((i4.toUInt32 >>> ((4 : Int32) &&& 31).toUInt32).toInt32) &&& (3 : Int32))), .val (.int na), .unset, .unset, .unset, .unset, .unset, .unset, .unset, .unset, .unset, .unset, .unset, .unset, .unset, .unset, .unset] [(.int (1 : Int32)), (.int ((i4.toUInt32 >>> ((1 : Int32) &&& 31).toUInt32).toInt32)), (.int (1 : Int32))])) (fun _ k => XS.iconst X0.here hx rfl (hb hby at_63) k) ?_
        refine own_goW (T' := s₁) (g' := (mkF m 65 #[.val (.int i0), .val (.int i1), .val (.int i2), .val (.int i3), .val (.int i4), .val (.int z1), .val (.int z4), .val (.int (((i4.toUInt32 >>> ((4 : Int32) &&& 31).toUInt32).toInt32) &&& (3 : Int32))), .val (.int na), .unset, .unset, .unset, .unset, .unset, .unset, .unset, .unset, .unset, .unset, .unset, .unset, .unset, .unset, .unset] [(.int (((i4.toUInt32 >>> ((1 : Int32) &&& 31).toUInt32).toInt32) &&& (1 : Int32))), (.int (1 : Int32))])) (fun _ k => XS.iand X0.here hx rfl (hb hby at_64) rfl k) ?_
        refine own_goW (T' := s₁) (g' := (mkF m 66 #[.val (.int i0), .val (.int i1), .val (.int i2), .val (.int i3), .val (.int i4), .val (.int z1), .val (.int z4), .val (.int (((i4.toUInt32 >>> ((4 : Int32) &&& 31).toUInt32).toInt32) &&& (3 : Int32))), .val (.int na), .unset, .unset, .unset, .unset, .unset, .unset, .unset, .unset, .unset, .unset, .unset, .unset, .unset, .unset, .unset] [(.int ((1 : Int32) + (((i4.toUInt32 >>> ((1 : Int32) &&& 31).toUInt32).toInt32) &&& (1 : Int32))))])) (fun _ k => XS.iadd X0.here hx rfl (hb hby at_65) rfl k) ?_
        exact J9 _ (by (try simp only [own_l0, own_l1, own_l2, own_l3, own_l4, own_l8, own_l31, own_l255, own_l2147483647, Int32.lt_iff_toInt_lt, ← Int32.toInt_inj, Int64.lt_iff_toInt_lt, ← Int64.toInt_inj, and_true, true_and, and_false, false_and, or_true, true_or, or_false, false_or, not_true_eq_false, not_false_eq_true, ne_eq, true_implies, false_implies, implies_true] at hz2 hz5 c41 ⊢) <;> omega)
      · refine own_goW (T' := s₁) (g' := (mkF m 53 #[.val (.int i0), .val (.int i1), .val (.int i2), .val (.int i3), .val (.int i4), .val (.int z1), .val (.int z4), .val (.int (((i4.toUInt32 >>> ((4 : Int32) &&& 31).toUInt32).toInt32) &&& (3 : Int32))), .val (.int na), .unset, .unset, .unset, .unset, .unset, .unset, .unset, .unset, .unset, .unset, .unset, .unset, .unset, .unset, .unset] [])) (fun _ k => XS.ifNo X0.here hx rfl (hb hby at_50) rfl ((if0 _ _).trans (feq c41).1) k) ?_
        refine own_goW (T' := s₁) (g' := (mkF m 55 #[.val (.int i0), .val (.int i1), .val (.int i2), .val (.int i3), .val (.int i4), .val (.int z1), .val (.int z4), .val (.int (((i4.toUInt32 >>> ((4 : Int32) &&& 31).toUInt32).toInt32) &&& (3 : Int32))), .val (.int na), .unset, .unset, .unset, .unset, .unset, .unset, .unset, .unset, .unset, .unset, .unset, .unset, .unset, .unset, .unset] [(.int na)])) (fun _ k => XS.iload X0.here hx rfl (hb hby at_53) rfl k) ?_
        refine own_goW (T' := s₁) (g' := (mkF m 66 #[.val (.int i0), .val (.int i1), .val (.int i2), .val (.int i3), .val (.int i4), .val (.int z1), .val (.int z4), .val (.int (((i4.toUInt32 >>> ((4 : Int32) &&& 31).toUInt32).toInt32) &&& (3 : Int32))), .val (.int na), .unset, .unset, .unset, .unset, .unset, .unset, .unset, .unset, .unset, .unset, .unset, .unset, .unset, .unset, .unset] [(.int na)])) (fun _ k => XS.goto X0.here hx rfl (pc0 := 55) (pc' := 66) rfl (hb hby at_55) (by decide) (by decide) k) ?_
        exact J9 _ (by (try simp only [own_l0, own_l1, own_l2, own_l3, own_l4, own_l8, own_l31, own_l255, own_l2147483647, Int32.lt_iff_toInt_lt, ← Int32.toInt_inj, Int64.lt_iff_toInt_lt, ← Int64.toInt_inj, and_true, true_and, and_false, false_and, or_true, true_or, or_false, false_or, not_true_eq_false, not_false_eq_true, ne_eq, true_implies, false_implies, implies_true] at hz2 hz5 c41 ⊢) <;> omega)
    refine own_goW (T' := s₁) (g' := (mkF m 18 #[.val (.int i0), .val (.int i1), .val (.int i2), .val (.int i3), .val (.int i4), .val (.int z1), .unset, .unset, .unset, .unset, .unset, .unset, .unset, .unset, .unset, .unset, .unset, .unset, .unset, .unset, .unset, .unset, .unset, .unset] [(.int i4)])) (fun _ k => XS.iload X0.here hx rfl (hb hby at_16) rfl k) ?_
    refine own_goW (T' := s₁) (g' := (mkF m 19 #[.val (.int i0), .val (.int i1), .val (.int i2), .val (.int i3), .val (.int i4), .val (.int z1), .unset, .unset, .unset, .unset, .unset, .unset, .unset, .unset, .unset, .unset, .unset, .unset, .unset, .unset, .unset, .unset, .unset, .unset] [(.int (3 : Int32)), (.int i4)])) (fun _ k => XS.iconst X0.here hx rfl (hb hby at_18) k) ?_
    refine own_goW (T' := s₁) (g' := (mkF m 20 #[.val (.int i0), .val (.int i1), .val (.int i2), .val (.int i3), .val (.int i4), .val (.int z1), .unset, .unset, .unset, .unset, .unset, .unset, .unset, .unset, .unset, .unset, .unset, .unset, .unset, .unset, .unset, .unset, .unset, .unset] [(.int ((i4.toUInt32 >>> ((3 : Int32) &&& 31).toUInt32).toInt32))])) (fun _ k => XS.iushr X0.here hx rfl (hb hby at_19) rfl k) ?_
    refine own_goW (T' := s₁) (g' := (mkF m 21 #[.val (.int i0), .val (.int i1), .val (.int i2), .val (.int i3), .val (.int i4), .val (.int z1), .unset, .unset, .unset, .unset, .unset, .unset, .unset, .unset, .unset, .unset, .unset, .unset, .unset, .unset, .unset, .unset, .unset, .unset] [(.int (1 : Int32)), (.int ((i4.toUInt32 >>> ((3 : Int32) &&& 31).toUInt32).toInt32))])) (fun _ k => XS.iconst X0.here hx rfl (hb hby at_20) k) ?_
    refine own_goW (T' := s₁) (g' := (mkF m 22 #[.val (.int i0), .val (.int i1), .val (.int i2), .val (.int i3), .val (.int i4), .val (.int z1), .unset, .unset, .unset, .unset, .unset, .unset, .unset, .unset, .unset, .unset, .unset, .unset, .unset, .unset, .unset, .unset, .unset, .unset] [(.int (((i4.toUInt32 >>> ((3 : Int32) &&& 31).toUInt32).toInt32) &&& (1 : Int32)))])) (fun _ k => XS.iand X0.here hx rfl (hb hby at_21) rfl k) ?_
    by_cases c42 : (((i4.toUInt32 >>> ((3 : Int32) &&& 31).toUInt32).toInt32) &&& (1 : Int32)) = (0 : Int32)
    · refine own_goW (T' := s₁) (g' := (mkF m 29 #[.val (.int i0), .val (.int i1), .val (.int i2), .val (.int i3), .val (.int i4), .val (.int z1), .unset, .unset, .unset, .unset, .unset, .unset, .unset, .unset, .unset, .unset, .unset, .unset, .unset, .unset, .unset, .unset, .unset, .unset] [])) (fun _ k => XS.ifYes X0.here hx rfl (pc0 := 22) (pc' := 29) rfl (hb hby at_22) rfl ((if0 _ _).trans (teq c42).1) (by decide) (by decide) k) ?_
      refine own_goW (T' := s₁) (g' := (mkF m 30 #[.val (.int i0), .val (.int i1), .val (.int i2), .val (.int i3), .val (.int i4), .val (.int z1), .unset, .unset, .unset, .unset, .unset, .unset, .unset, .unset, .unset, .unset, .unset, .unset, .unset, .unset, .unset, .unset, .unset, .unset] [(.int (0 : Int32))])) (fun _ k => XS.iconst X0.here hx rfl (hb hby at_29) k) ?_
      exact J6 _ (by (try simp only [own_l0, own_l1, own_l2, own_l3, own_l4, own_l8, own_l31, own_l255, own_l2147483647, Int32.lt_iff_toInt_lt, ← Int32.toInt_inj, Int64.lt_iff_toInt_lt, ← Int64.toInt_inj, and_true, true_and, and_false, false_and, or_true, true_or, or_false, false_or, not_true_eq_false, not_false_eq_true, ne_eq, true_implies, false_implies, implies_true] at hz2 c42 ⊢) <;> omega)
    · refine own_goW (T' := s₁) (g' := (mkF m 25 #[.val (.int i0), .val (.int i1), .val (.int i2), .val (.int i3), .val (.int i4), .val (.int z1), .unset, .unset, .unset, .unset, .unset, .unset, .unset, .unset, .unset, .unset, .unset, .unset, .unset, .unset, .unset, .unset, .unset, .unset] [])) (fun _ k => XS.ifNo X0.here hx rfl (hb hby at_22) rfl ((if0 _ _).trans (feq c42).1) k) ?_
      refine own_goW (T' := s₁) (g' := (mkF m 26 #[.val (.int i0), .val (.int i1), .val (.int i2), .val (.int i3), .val (.int i4), .val (.int z1), .unset, .unset, .unset, .unset, .unset, .unset, .unset, .unset, .unset, .unset, .unset, .unset, .unset, .unset, .unset, .unset, .unset, .unset] [(.int (1 : Int32))])) (fun _ k => XS.iconst X0.here hx rfl (hb hby at_25) k) ?_
      refine own_goW (T' := s₁) (g' := (mkF m 30 #[.val (.int i0), .val (.int i1), .val (.int i2), .val (.int i3), .val (.int i4), .val (.int z1), .unset, .unset, .unset, .unset, .unset, .unset, .unset, .unset, .unset, .unset, .unset, .unset, .unset, .unset, .unset, .unset, .unset, .unset] [(.int (1 : Int32))])) (fun _ k => XS.goto X0.here hx rfl (pc0 := 26) (pc' := 30) rfl (hb hby at_26) (by decide) (by decide) k) ?_
      exact J6 _ (by (try simp only [own_l0, own_l1, own_l2, own_l3, own_l4, own_l8, own_l31, own_l255, own_l2147483647, Int32.lt_iff_toInt_lt, ← Int32.toInt_inj, Int64.lt_iff_toInt_lt, ← Int64.toInt_inj, and_true, true_and, and_false, false_and, or_true, true_or, or_false, false_or, not_true_eq_false, not_false_eq_true, ne_eq, true_implies, false_implies, implies_true] at hz2 c42 ⊢) <;> omega)
  refine own_goW (T' := s₁) (g' := (mkF m 2 #[.val (.int i0), .val (.int i1), .val (.int i2), .val (.int i3), .val (.int i4), .unset, .unset, .unset, .unset, .unset, .unset, .unset, .unset, .unset, .unset, .unset, .unset, .unset, .unset, .unset, .unset, .unset, .unset, .unset] [(.int i4)])) (fun _ k => XS.iload X0.here hx rfl (hb hby at_0) rfl k) ?_
  refine own_goW (T' := s₁) (g' := (mkF m 3 #[.val (.int i0), .val (.int i1), .val (.int i2), .val (.int i3), .val (.int i4), .unset, .unset, .unset, .unset, .unset, .unset, .unset, .unset, .unset, .unset, .unset, .unset, .unset, .unset, .unset, .unset, .unset, .unset, .unset] [(.int (2 : Int32)), (.int i4)])) (fun _ k => XS.iconst X0.here hx rfl (hb hby at_2) k) ?_
  refine own_goW (T' := s₁) (g' := (mkF m 4 #[.val (.int i0), .val (.int i1), .val (.int i2), .val (.int i3), .val (.int i4), .unset, .unset, .unset, .unset, .unset, .unset, .unset, .unset, .unset, .unset, .unset, .unset, .unset, .unset, .unset, .unset, .unset, .unset, .unset] [(.int ((i4.toUInt32 >>> ((2 : Int32) &&& 31).toUInt32).toInt32))])) (fun _ k => XS.iushr X0.here hx rfl (hb hby at_3) rfl k) ?_
  refine own_goW (T' := s₁) (g' := (mkF m 5 #[.val (.int i0), .val (.int i1), .val (.int i2), .val (.int i3), .val (.int i4), .unset, .unset, .unset, .unset, .unset, .unset, .unset, .unset, .unset, .unset, .unset, .unset, .unset, .unset, .unset, .unset, .unset, .unset, .unset] [(.int (1 : Int32)), (.int ((i4.toUInt32 >>> ((2 : Int32) &&& 31).toUInt32).toInt32))])) (fun _ k => XS.iconst X0.here hx rfl (hb hby at_4) k) ?_
  refine own_goW (T' := s₁) (g' := (mkF m 6 #[.val (.int i0), .val (.int i1), .val (.int i2), .val (.int i3), .val (.int i4), .unset, .unset, .unset, .unset, .unset, .unset, .unset, .unset, .unset, .unset, .unset, .unset, .unset, .unset, .unset, .unset, .unset, .unset, .unset] [(.int (((i4.toUInt32 >>> ((2 : Int32) &&& 31).toUInt32).toInt32) &&& (1 : Int32)))])) (fun _ k => XS.iand X0.here hx rfl (hb hby at_5) rfl k) ?_
  by_cases c43 : (((i4.toUInt32 >>> ((2 : Int32) &&& 31).toUInt32).toInt32) &&& (1 : Int32)) = (0 : Int32)
  · refine own_goW (T' := s₁) (g' := (mkF m 13 #[.val (.int i0), .val (.int i1), .val (.int i2), .val (.int i3), .val (.int i4), .unset, .unset, .unset, .unset, .unset, .unset, .unset, .unset, .unset, .unset, .unset, .unset, .unset, .unset, .unset, .unset, .unset, .unset, .unset] [])) (fun _ k => XS.ifYes X0.here hx rfl (pc0 := 6) (pc' := 13) rfl (hb hby at_6) rfl ((if0 _ _).trans (teq c43).1) (by decide) (by decide) k) ?_
    refine own_goW (T' := s₁) (g' := (mkF m 14 #[.val (.int i0), .val (.int i1), .val (.int i2), .val (.int i3), .val (.int i4), .unset, .unset, .unset, .unset, .unset, .unset, .unset, .unset, .unset, .unset, .unset, .unset, .unset, .unset, .unset, .unset, .unset, .unset, .unset] [(.int (0 : Int32))])) (fun _ k => XS.iconst X0.here hx rfl (hb hby at_13) k) ?_
    exact J3 _ (by (try simp only [own_l0, own_l1, own_l2, own_l3, own_l4, own_l8, own_l31, own_l255, own_l2147483647, Int32.lt_iff_toInt_lt, ← Int32.toInt_inj, Int64.lt_iff_toInt_lt, ← Int64.toInt_inj, and_true, true_and, and_false, false_and, or_true, true_or, or_false, false_or, not_true_eq_false, not_false_eq_true, ne_eq, true_implies, false_implies, implies_true] at c43 ⊢) <;> omega)
  · refine own_goW (T' := s₁) (g' := (mkF m 9 #[.val (.int i0), .val (.int i1), .val (.int i2), .val (.int i3), .val (.int i4), .unset, .unset, .unset, .unset, .unset, .unset, .unset, .unset, .unset, .unset, .unset, .unset, .unset, .unset, .unset, .unset, .unset, .unset, .unset] [])) (fun _ k => XS.ifNo X0.here hx rfl (hb hby at_6) rfl ((if0 _ _).trans (feq c43).1) k) ?_
    refine own_goW (T' := s₁) (g' := (mkF m 10 #[.val (.int i0), .val (.int i1), .val (.int i2), .val (.int i3), .val (.int i4), .unset, .unset, .unset, .unset, .unset, .unset, .unset, .unset, .unset, .unset, .unset, .unset, .unset, .unset, .unset, .unset, .unset, .unset, .unset] [(.int (1 : Int32))])) (fun _ k => XS.iconst X0.here hx rfl (hb hby at_9) k) ?_
    refine own_goW (T' := s₁) (g' := (mkF m 14 #[.val (.int i0), .val (.int i1), .val (.int i2), .val (.int i3), .val (.int i4), .unset, .unset, .unset, .unset, .unset, .unset, .unset, .unset, .unset, .unset, .unset, .unset, .unset, .unset, .unset, .unset, .unset, .unset, .unset] [(.int (1 : Int32))])) (fun _ k => XS.goto X0.here hx rfl (pc0 := 10) (pc' := 14) rfl (hb hby at_10) (by decide) (by decide) k) ?_
    exact J3 _ (by (try simp only [own_l0, own_l1, own_l2, own_l3, own_l4, own_l8, own_l31, own_l255, own_l2147483647, Int32.lt_iff_toInt_lt, ← Int32.toInt_inj, Int64.lt_iff_toInt_lt, ← Int64.toInt_inj, and_true, true_and, and_false, false_and, or_true, true_or, or_false, false_or, not_true_eq_false, not_false_eq_true, ne_eq, true_implies, false_implies, implies_true] at c43 ⊢) <;> omega)
set_option maxRecDepth 65536 in
set_option maxHeartbeats 40000000 in
theorem own_comes {Post : Tables → Env → Array Value → State → Outcome → State → Prop} (hpost : ∀ tb e args s v u, (limb_1_1.after args s (.returned v) u = true ∧ limb_1_2.after args s (.returned v) u = true ∧ True) → ReturnedEndW s (.returned v) u (Jvm.fieldLocs frame_1_writes args s ++ Jvm.arrayLocs frame_1_arrays args s ++ Jvm.staticLocs frame_1_statics s) 32 1152 → Post tb e args s (.returned v) u) :
    ArmFor flags0 classFile x code maxLocals ret World_1 tables_1 room_1 Calls_1 rest_1 Pre_1 Post := by
  intro l hfl _ _ p e ha hc hk s m args below hf hA hF happ hP
  obtain ⟨hcalls, hrest, hpre⟩ := hP
  obtain ⟨-, -, -, hnamed, -, -, -, hat⟩ := (Spec.applies_iff hf).mp happ
  obtain ⟨hg, hn⟩ := and_e (Cond.before_iff.mp (show (Jvm.Cond.and given_1 narrow_1).before args s = true from hpre))
  obtain ⟨gg1, gg2⟩ := and_e hg
  obtain ⟨gg3, gg4⟩ := and_e gg2
  obtain ⟨gg5, gg6⟩ := and_e gg4
  obtain ⟨gg7, gg8⟩ := and_e gg6
  obtain ⟨gg9, gg10⟩ := and_e gg8
  obtain ⟨w0, w1, w2, w3, w4, rfl⟩ : ∃ w0 w1 w2 w3 w4 : Value, args = #[w0, w1, w2, w3, w4] := by
    have hs : args.size = 5 := by simpa [Cond.value, given_1] using gg1
    obtain ⟨L⟩ := args
    match L, hs with
    | [w0, w1, w2, w3, w4], _ => exact ⟨w0, w1, w2, w3, w4, rfl⟩
  have hw := fun d (hd : d ∈ tables_1) => atoms_spec (ws := Jvm.Cond.code x code maxLocals ret :: tables_1) hat d (List.mem_cons_of_mem _ hd)
  have hfit : Fit s := fun {y c} hc i hi => by
    obtain ⟨ha, rfl⟩ := Array.getElem?_eq_some_iff.mp hc
    have q := List.all_eq_true.mp ((Array.all_eq_true_iff_forall_mem.mp hF) _ (Array.getElem_mem ha)) i (List.mem_range.mpr hi)
    simpa [Array.getElem?_eq_getElem hi] using q
  obtain ⟨hsets, hown0⟩ := atoms_of _ (rest_1_c_eq ▸ (show rest_1_c.before _ s = true from hrest))
  have hr0 := Cond.before_iff.mp hown0
  obtain ⟨i0, ei0⟩ := is_v gg3
  obtain rfl : w0 = (.int i0) := Option.some.inj ei0
  obtain ⟨i1, ei1⟩ := is_v gg5
  obtain rfl : w1 = (.int i1) := Option.some.inj ei1
  obtain ⟨i2, ei2⟩ := is_v gg7
  obtain rfl : w2 = (.int i2) := Option.some.inj ei2
  obtain ⟨i3, ei3⟩ := is_v gg9
  obtain rfl : w3 = (.int i3) := Option.some.inj ei3
  obtain ⟨i4, ei4⟩ := is_v gg10
  obtain rfl : w4 = (.int i4) := Option.some.inj ei4
  obtain ⟨cs, ecs⟩ := is_v (Cond.before_iff.mp (hsets _ (List.mem_of_getElem? (i := 1) rfl)))
  have S_cs := Sta.start (Z := s) ecs (Or.inl (hsets _ (List.mem_of_getElem? (i := 0) rfl)))
  have hcs : ¬ (cs = (0 : Int32)) := fun q => by
    have q2 := not_v (Cond.before_iff.mp (hsets _ (List.mem_of_getElem? (i := 2) rfl)))
    rw [eq_i ecs (Term.int_eval (0)) (congrArg Value.int q)] at q2
    cases q2
  have OL := Old.start s
  obtain ⟨n, o, h1, h2, h3, _, L, rfl, ⟨rfl, N⟩, hq⟩ := own_rm0 l s _ hw tables_1 i0 i1 i2 i3 i4 cs s.heap s.heap.size (Nat.le_refl _) OL S_cs hcs p e ha hc hk s m _ below hf ((Spec.applies_iff_loose hf).mp happ).1 ⟨rfl, State.Warmed39.refl s, rfl⟩ trivial
  refine ⟨n, _, h1, h2, h3, hpost _ _ _ _ _ _ ⟨Cond.after_iff.mpr rfl, Cond.after_iff.mpr (eq_i res_at (Term.int_eval (1)) rfl), trivial⟩ ⟨hq.1, hq.2.1, hq.2.2.1, (hq.2.2.2.sift fun y hy => Or.inr (N y hy)).mono (by decide) (by decide)⟩⟩
theorem main_1_1 : Claimed_1_1 := own_comes fun _ _ _ _ _ _ h hF => ⟨h.1, hF⟩
theorem main_1_2 : Claimed_1_2 := own_comes fun _ _ _ _ _ _ h hF => ⟨h.2.1, hF⟩
end Jvm.Pilot.@@N@@
namespace Jvm.Pilot.@@N@@
open Jvm Jvm.ClassFile Sem Op Lib Jvm.Free Jvm.Stand Jvm.Pilot.@@N@@.Jvm.D
/-! MADE BY PROGRAM (witnessworld.py) out of the Statement's table words and the real class files: 19 classes; the members and pool entries that the words name. The judged class is class 1, her method 2. -/
namespace start1
open Jvm.ClassFile
def u (s : String) : CpInfo := .utf8 (stringToUtf16 s)
/-- a pool by its gaps: so many unusable entries, then the entry; so many at the end -/
def gap : Nat → List CpInfo → List CpInfo
  | 0, r => r
  | n + 1, r => .unusable :: gap n r
def poolList (es : List (Nat × CpInfo)) (last : Nat) : List CpInfo := es.foldr (fun e r => gap e.1 (e.2 :: r)) (gap last [])
def pool (es : List (Nat × CpInfo)) (last : Nat) : Array CpInfo := ⟨poolList es last⟩
def fileOf (pool : Array CpInfo) (this : Nat) (attrs : Array Attribute := #[]) (ms : Array MethodInfo := #[]) (fl : Nat := 33) (sup : Nat := 0) (ifs : Array Nat := #[]) (fds : Array FieldInfo := #[]) : ClassFile where
  minorVersion := 0
  majorVersion := 65
  constantPool := pool
  accessFlags := fl
  thisClass := this
  superClass := sup
  interfaces := ifs
  fields := fds
  methods := ms
  attributes := attrs
def plain (name : String) (sup : Option ClassId) : Class where
  name := name
  kind := .ordinary
  loader := none
  accessFlags := 33
  super := sup
  interfaces := #[]
  cf := none
  fields := #[]
  methods := #[]
  instanceTypes := #[]
  staticTypes := #[]
  resolved := #[]
  callSites := []
  init := .initialized
  statics := none
  mirror := none

def pool0 : Array CpInfo := pool [(5, u "<init>"), (0, u "()V"), (1, .class_ 10), (1, u "java/lang/Object")] 113

def k0c0 : Code := { maxStack := 0, maxLocals := 1, code := object_method_1_code, exceptionTable := #[], attributes := #[] }
def k0m0 : Method := { name := "<init>", desc := "()V", sig := { parameters := [], returnType := none }, accessFlags := 1, code := some k0c0 }
/-- java/lang/Object -/
def k0 : Class := { plain "java/lang/Object" none with
  accessFlags := 33
  interfaces := #[]
  cf := some (fileOf pool0 8 #[] #[{ accessFlags := 1, nameIndex := 5, descriptorIndex := 6, attributes := #[] }] 33 0 #[] #[])
  fields := #[]
  methods := #[k0m0]
  instanceTypes := #[]
  staticTypes := #[]
  resolved := Array.replicate 124 none
  statics := none }

def pool1 : Array CpInfo := pool [(2, .class_ 4), (1, u "java/lang/Object"), (0, u "<init>"), (0, u "()V"), (0, .class_ 8), (0, u "java/lang/String"), (0, .methodref 7 10), (0, .nameAndType 5 11), (0, u "([C)V"), (0, .methodref 13 14), (0, .class_ 15), (0, .nameAndType 16 17), (0, u "com/example/gentle_rebalance/gentlerebalance/engine/TopicPartitionEqualsPinLaw"), (0, u "makeTopic"), (0, u "(ICC)Ljava/lang/String;"), (0, .integer 2147483647), (0, .class_ 20), (0, u "com/example/gentle_rebalance/gentlerebalance/engine/TopicPartition"), (0, .methodref 19 22), (0, .nameAndType 5 23), (0, u "(Ljava/lang/String;I)V"), (0, .methodref 19 25), (0, .nameAndType 26 27), (0, u "equals"), (0, u "(Ljava/lang/Object;)Z"), (3, u "law"), (0, u "(IIIII)Z")] 2

def k1m0 : Method := { name := "<init>", desc := "()V", sig := { parameters := [], returnType := none }, accessFlags := 1, code := none }
def k1c1 : Code := { maxStack := 6, maxLocals := 3, code := method_2_code, exceptionTable := #[], attributes := #[] }
def k1m1 : Method := { name := "makeTopic", desc := "(ICC)Ljava/lang/String;", sig := { parameters := [.int, .char, .char], returnType := some (.object "java/lang/String") }, accessFlags := 10, code := some k1c1 }
def k1c2 : Code := { maxStack := 4, maxLocals := 24, code := code, exceptionTable := #[], attributes := #[] }
def k1m2 : Method := { name := "law", desc := "(IIIII)Z", sig := { parameters := [.int, .int, .int, .int, .int], returnType := some .boolean }, accessFlags := 9, code := some k1c2 }
/-- com/example/gentle_rebalance/gentlerebalance/engine/TopicPartitionEqualsPinLaw -/
def k1 : Class := { plain "com/example/gentle_rebalance/gentlerebalance/engine/TopicPartitionEqualsPinLaw" (some 0) with
  accessFlags := 49
  interfaces := #[]
  cf := some (fileOf pool1 13 #[] #[{ accessFlags := 1, nameIndex := 5, descriptorIndex := 6, attributes := #[] }, { accessFlags := 10, nameIndex := 16, descriptorIndex := 17, attributes := #[] }, { accessFlags := 9, nameIndex := 31, descriptorIndex := 32, attributes := #[] }] 49 2 #[] #[])
  fields := #[]
  methods := #[k1m0, k1m1, k1m2]
  instanceTypes := #[]
  staticTypes := #[]
  resolved := Array.replicate 35 none
  statics := none }

def pool2 : Array CpInfo := pool [(1, .class_ 2), (0, u "java/io/Serializable"), (0, .class_ 4), (0, u "java/lang/Object")] 2

/-- java/io/Serializable -/
def k2 : Class := { plain "java/io/Serializable" (some 0) with
  accessFlags := 1537
  interfaces := #[]
  cf := some (fileOf pool2 1 #[] #[] 1537 3 #[] #[])
  fields := #[]
  methods := #[]
  instanceTypes := #[]
  staticTypes := #[]
  resolved := Array.replicate 7 none
  statics := none }

def pool3 : Array CpInfo := pool [(1, .class_ 2), (0, u "java/lang/Comparable"), (0, .class_ 4), (0, u "java/lang/Object")] 7

/-- java/lang/Comparable -/
def k3 : Class := { plain "java/lang/Comparable" (some 0) with
  accessFlags := 1537
  interfaces := #[]
  cf := some (fileOf pool3 1 #[] #[] 1537 3 #[] #[])
  fields := #[]
  methods := #[]
  instanceTypes := #[]
  staticTypes := #[]
  resolved := Array.replicate 12 none
  statics := none }

def pool4 : Array CpInfo := pool [(2, .class_ 4), (1, u "java/lang/CharSequence"), (42, .class_ 48), (0, u "java/lang/CharSequence$1CodePointIterator"), (10, .class_ 60), (0, u "java/lang/CharSequence$1CharIterator"), (5, .class_ 67), (0, u "java/lang/Object")] 63

/-- java/lang/CharSequence -/
def k4 : Class := { plain "java/lang/CharSequence" (some 0) with
  accessFlags := 1537
  interfaces := #[]
  cf := some (fileOf pool4 2 #[.nestMembers #[47, 59]] #[] 1537 66 #[] #[])
  fields := #[]
  methods := #[]
  instanceTypes := #[]
  staticTypes := #[]
  resolved := Array.replicate 131 none
  statics := none }

def pool5 : Array CpInfo := pool [(1, .class_ 2), (0, u "java/lang/constant/Constable"), (0, .class_ 4), (0, u "java/lang/Object")] 6

/-- java/lang/constant/Constable -/
def k5 : Class := { plain "java/lang/constant/Constable" (some 0) with
  accessFlags := 1537
  interfaces := #[]
  cf := some (fileOf pool5 1 #[] #[] 1537 3 #[] #[])
  fields := #[]
  methods := #[]
  instanceTypes := #[]
  staticTypes := #[]
  resolved := Array.replicate 11 none
  statics := none }

def pool6 : Array CpInfo := pool [(1, .class_ 2), (0, u "java/lang/constant/ConstantDesc"), (0, .class_ 4), (0, u "java/lang/Object")] 32

/-- java/lang/constant/ConstantDesc -/
def k6 : Class := { plain "java/lang/constant/ConstantDesc" (some 0) with
  accessFlags := 1537
  interfaces := #[]
  cf := some (fileOf pool6 1 #[] #[] 1537 3 #[] #[])
  fields := #[]
  methods := #[]
  instanceTypes := #[]
  staticTypes := #[]
  resolved := Array.replicate 37 none
  statics := none }

def pool7 : Array CpInfo := pool [(1, .methodref 2 3), (0, .class_ 4), (0, .nameAndType 5 6), (0, u "java/lang/Object"), (0, u "<init>"), (0, u "()V"), (2, .fieldref 10 11), (0, .class_ 12), (0, .nameAndType 13 14), (0, u "java/lang/String"), (0, u "value"), (0, u "[B"), (0, .fieldref 10 16), (0, .nameAndType 17 18), (0, u "coder"), (0, u "B"), (2, u "hash"), (0, u "I"), (2, u "hashIsZero"), (0, u "Z"), (0, .methodref 10 28), (0, .nameAndType 5 29), (0, u "([CIILjava/lang/Void;)V"), (8, .fieldref 10 39), (0, .nameAndType 40 26), (0, u "COMPACT_STRINGS"), (1, .class_ 44), (1, u "java/lang/StringUTF16"), (0, u "compress"), (1, .methodref 42 48), (0, .nameAndType 49 50), (0, u "coderFromArrayLen"), (0, u "([BI)B"), (56, .class_ 109), (1, u "java/lang/StringLatin1"), (32, u "()Z"), (34, .methodref 42 178), (0, .nameAndType 45 179), (0, u "([CII)[B"), (361, .methodref 107 542), (0, .nameAndType 543 544), (0, u "equals"), (0, u "([B[B)Z"), (28, u "(Ljava/lang/Object;)Z"), (1, .class_ 576), (0, u "java/lang/CharSequence"), (22, u "CASE_INSENSITIVE_ORDER"), (0, u "Ljava/util/Comparator;"), (91, u "isEmpty"), (317, u "([C)V"), (90, u "serialPersistentFields"), (0, u "[Ljava/io/ObjectStreamField;"), (0, .class_ 1104), (0, u "java/lang/String$CaseInsensitiveComparator"), (1, .class_ 1107), (0, u "java/io/Serializable"), (0, .class_ 1109), (0, u "java/lang/Comparable"), (0, .class_ 1111), (0, u "java/lang/constant/Constable"), (0, .class_ 1113), (0, u "java/lang/constant/ConstantDesc"), (2, u "serialVersionUID"), (0, u "J"), (3, u "REPL"), (0, u "C"), (2, u "LATIN1"), (1, u "UTF16")] 323

def k7m0 : Method := { name := "<init>", desc := "()V", sig := { parameters := [], returnType := none }, accessFlags := 1, code := none }
def k7c1 : Code := { maxStack := 5, maxLocals := 2, code := jdk_42_method_3_code, exceptionTable := #[], attributes := #[] }
def k7m1 : Method := { name := "<init>", desc := "([C)V", sig := { parameters := [(.array .char)], returnType := none }, accessFlags := 1, code := some k7c1 }
def k7c2 : Code := { maxStack := 1, maxLocals := 1, code := jdk_42_method_55_code, exceptionTable := #[], attributes := #[] }
def k7m2 : Method := { name := "isEmpty", desc := "()Z", sig := { parameters := [], returnType := some .boolean }, accessFlags := 1, code := some k7c2 }
def k7c3 : Code := { maxStack := 2, maxLocals := 3, code := jdk_42_method_66_code, exceptionTable := #[], attributes := #[] }
def k7m3 : Method := { name := "equals", desc := "(Ljava/lang/Object;)Z", sig := { parameters := [(.object "java/lang/Object")], returnType := some .boolean }, accessFlags := 1, code := some k7c3 }
def k7c4 : Code := { maxStack := 4, maxLocals := 6, code := jdk_42_method_149_code, exceptionTable := #[], attributes := #[] }
def k7m4 : Method := { name := "<init>", desc := "([CIILjava/lang/Void;)V", sig := { parameters := [(.array .char), .int, .int, (.object "java/lang/Void")], returnType := none }, accessFlags := 2, code := some k7c4 }
/-- java/lang/String -/
def k7 : Class := { plain "java/lang/String" (some 0) with
  accessFlags := 49
  interfaces := #[2, 3, 4, 5, 6]
  cf := some (fileOf pool7 10 #[.nestMembers #[1103]] #[{ accessFlags := 1, nameIndex := 5, descriptorIndex := 6, attributes := #[] }, { accessFlags := 1, nameIndex := 5, descriptorIndex := 1010, attributes := #[] }, { accessFlags := 1, nameIndex := 692, descriptorIndex := 142, attributes := #[] }, { accessFlags := 1, nameIndex := 543, descriptorIndex := 573, attributes := #[] }, { accessFlags := 2, nameIndex := 5, descriptorIndex := 29, attributes := #[] }] 49 2 #[1106, 1108, 575, 1110, 1112] #[{ accessFlags := 18, nameIndex := 13, descriptorIndex := 14, attributes := #[] }, { accessFlags := 18, nameIndex := 17, descriptorIndex := 18, attributes := #[] }, { accessFlags := 2, nameIndex := 21, descriptorIndex := 22, attributes := #[] }, { accessFlags := 2, nameIndex := 25, descriptorIndex := 26, attributes := #[] }, { accessFlags := 26, nameIndex := 1116, descriptorIndex := 1117, attributes := #[] }, { accessFlags := 24, nameIndex := 40, descriptorIndex := 26, attributes := #[] }, { accessFlags := 26, nameIndex := 1101, descriptorIndex := 1102, attributes := #[] }, { accessFlags := 26, nameIndex := 1121, descriptorIndex := 1122, attributes := #[] }, { accessFlags := 25, nameIndex := 599, descriptorIndex := 600, attributes := #[] }, { accessFlags := 24, nameIndex := 1125, descriptorIndex := 18, attributes := #[] }, { accessFlags := 24, nameIndex := 1127, descriptorIndex := 18, attributes := #[] }])
  fields := #[{ name := "value", type := (.array .byte), accessFlags := 18, slot := 0, constantValue := 0 }, { name := "coder", type := .byte, accessFlags := 18, slot := 1, constantValue := 0 }, { name := "hash", type := .int, accessFlags := 2, slot := 2, constantValue := 0 }, { name := "hashIsZero", type := .boolean, accessFlags := 2, slot := 3, constantValue := 0 }, { name := "serialVersionUID", type := .long, accessFlags := 26, slot := 0, constantValue := 0 }, { name := "COMPACT_STRINGS", type := .boolean, accessFlags := 24, slot := 1, constantValue := 0 }, { name := "serialPersistentFields", type := (.array (.object "java/io/ObjectStreamField")), accessFlags := 26, slot := 2, constantValue := 0 }, { name := "REPL", type := .char, accessFlags := 26, slot := 3, constantValue := 0 }, { name := "CASE_INSENSITIVE_ORDER", type := (.object "java/util/Comparator"), accessFlags := 25, slot := 4, constantValue := 0 }, { name := "LATIN1", type := .byte, accessFlags := 24, slot := 5, constantValue := 0 }, { name := "UTF16", type := .byte, accessFlags := 24, slot := 6, constantValue := 0 }]
  methods := #[k7m0, k7m1, k7m2, k7m3, k7m4]
  instanceTypes := #[(.array .byte), .byte, .int, .boolean]
  staticTypes := #[.long, .boolean, (.array (.object "java/io/ObjectStreamField")), .char, (.object "java/util/Comparator"), .byte, .byte]
  resolved := Array.replicate 1451 none
  statics := some 0 }

def pool8 : Array CpInfo := pool [(6, .class_ 8), (1, u "java/lang/Object"), (0, u "<init>"), (0, u "()V"), (1, .class_ 14), (1, u "java/lang/StringUTF16"), (31, u "$assertionsDisabled"), (0, u "Z"), (13, u "HI_BYTE_SHIFT"), (0, u "I"), (2, u "LO_BYTE_SHIFT"), (49, .methodref 12 116), (0, .nameAndType 117 118), (0, u "compress"), (0, u "([CI[BII)I"), (3, u "([CII)[B"), (138, u "coderFromArrayLen"), (0, u "([BI)B"), (106, .class_ 371), (1, u "java/lang/StringUTF16$LinesSpliterator"), (58, u "MAX_LENGTH"), (196, .class_ 628), (0, u "java/lang/StringUTF16$CodePointsSpliterator"), (0, .class_ 630), (0, u "java/lang/StringUTF16$CharsSpliterator")] 4

def k8m0 : Method := { name := "<init>", desc := "()V", sig := { parameters := [], returnType := none }, accessFlags := 0, code := none }
def k8c1 : Code := { maxStack := 2, maxLocals := 2, code := jdk_52_method_15_code, exceptionTable := #[], attributes := #[] }
def k8m1 : Method := { name := "coderFromArrayLen", desc := "([BI)B", sig := { parameters := [(.array .byte), .int], returnType := some .byte }, accessFlags := 8, code := some k8c1 }
def k8c2 : Code := { maxStack := 5, maxLocals := 6, code := jdk_52_method_16_code, exceptionTable := #[], attributes := #[] }
def k8m2 : Method := { name := "compress", desc := "([CII)[B", sig := { parameters := [(.array .char), .int, .int], returnType := some (.array .byte) }, accessFlags := 9, code := some k8c2 }
def k8c3 : Code := { maxStack := 3, maxLocals := 7, code := jdk_52_method_21_code, exceptionTable := #[], attributes := #[] }
def k8m3 : Method := { name := "compress", desc := "([CI[BII)I", sig := { parameters := [(.array .char), .int, (.array .byte), .int, .int], returnType := some .int }, accessFlags := 9, code := some k8c3 }
/-- java/lang/StringUTF16 -/
def k8 : Class := { plain "java/lang/StringUTF16" (some 0) with
  accessFlags := 48
  interfaces := #[]
  cf := some (fileOf pool8 12 #[.nestMembers #[627, 629, 369]] #[{ accessFlags := 0, nameIndex := 9, descriptorIndex := 10, attributes := #[] }, { accessFlags := 8, nameIndex := 261, descriptorIndex := 262, attributes := #[] }, { accessFlags := 9, nameIndex := 117, descriptorIndex := 122, attributes := #[] }, { accessFlags := 9, nameIndex := 117, descriptorIndex := 118, attributes := #[] }] 48 6 #[] #[{ accessFlags := 26, nameIndex := 61, descriptorIndex := 62, attributes := #[] }, { accessFlags := 26, nameIndex := 65, descriptorIndex := 62, attributes := #[] }, { accessFlags := 24, nameIndex := 430, descriptorIndex := 62, attributes := #[] }, { accessFlags := 4120, nameIndex := 46, descriptorIndex := 47, attributes := #[] }])
  fields := #[{ name := "HI_BYTE_SHIFT", type := .int, accessFlags := 26, slot := 0, constantValue := 0 }, { name := "LO_BYTE_SHIFT", type := .int, accessFlags := 26, slot := 1, constantValue := 0 }, { name := "MAX_LENGTH", type := .int, accessFlags := 24, slot := 2, constantValue := 0 }, { name := "$assertionsDisabled", type := .boolean, accessFlags := 4120, slot := 3, constantValue := 0 }]
  methods := #[k8m0, k8m1, k8m2, k8m3]
  instanceTypes := #[]
  staticTypes := #[.int, .int, .int, .boolean]
  resolved := Array.replicate 635 none
  statics := none }

def pool9 : Array CpInfo := pool [(1, .methodref 2 3), (0, .class_ 4), (0, .nameAndType 5 6), (0, u "java/lang/Object"), (0, u "<init>"), (0, u "()V"), (0, .string 8), (0, u "topic"), (0, .methodref 10 11), (0, .class_ 12), (0, .nameAndType 13 14), (0, u "java/util/Objects"), (0, u "requireNonNull"), (0, u "(Ljava/lang/Object;Ljava/lang/String;)Ljava/lang/Object;"), (0, .methodref 16 17), (0, .class_ 18), (0, .nameAndType 19 20), (0, u "java/lang/String"), (0, u "isEmpty"), (0, u "()Z"), (11, .fieldref 33 34), (0, .class_ 35), (0, .nameAndType 8 36), (0, u "com/example/gentle_rebalance/gentlerebalance/engine/TopicPartition"), (0, u "Ljava/lang/String;"), (0, .fieldref 33 38), (0, .nameAndType 39 40), (0, u "partition"), (0, u "I"), (24, u "(Ljava/lang/String;I)V"), (33, .methodref 16 100), (0, .nameAndType 101 102), (0, u "equals"), (0, u "(Ljava/lang/Object;)Z"), (10, .class_ 114), (0, u "java/lang/Comparable"), (0, u "SPREAD")] 33

def k9c0 : Code := { maxStack := 3, maxLocals := 3, code := prog_35_method_1_code, exceptionTable := #[], attributes := #[] }
def k9m0 : Method := { name := "<init>", desc := "(Ljava/lang/String;I)V", sig := { parameters := [(.object "java/lang/String"), .int], returnType := none }, accessFlags := 1, code := some k9c0 }
def k9c1 : Code := { maxStack := 2, maxLocals := 3, code := prog_35_method_8_code, exceptionTable := #[], attributes := #[] }
def k9m1 : Method := { name := "equals", desc := "(Ljava/lang/Object;)Z", sig := { parameters := [(.object "java/lang/Object")], returnType := some .boolean }, accessFlags := 1, code := some k9c1 }
/-- com/example/gentle_rebalance/gentlerebalance/engine/TopicPartition -/
def k9 : Class := { plain "com/example/gentle_rebalance/gentlerebalance/engine/TopicPartition" (some 0) with
  accessFlags := 33
  interfaces := #[3]
  cf := some (fileOf pool9 33 #[] #[{ accessFlags := 1, nameIndex := 5, descriptorIndex := 65, attributes := #[] }, { accessFlags := 1, nameIndex := 101, descriptorIndex := 102, attributes := #[] }] 33 2 #[113] #[{ accessFlags := 26, nameIndex := 115, descriptorIndex := 40, attributes := #[] }, { accessFlags := 18, nameIndex := 8, descriptorIndex := 36, attributes := #[] }, { accessFlags := 18, nameIndex := 39, descriptorIndex := 40, attributes := #[] }])
  fields := #[{ name := "SPREAD", type := .int, accessFlags := 26, slot := 0, constantValue := 0 }, { name := "topic", type := (.object "java/lang/String"), accessFlags := 18, slot := 0, constantValue := 0 }, { name := "partition", type := .int, accessFlags := 18, slot := 1, constantValue := 0 }]
  methods := #[k9m0, k9m1]
  instanceTypes := #[(.object "java/lang/String"), .int]
  staticTypes := #[.int]
  resolved := Array.replicate 149 none
  statics := none }

def pool10 : Array CpInfo := pool [(2, .class_ 4), (1, u "java/lang/Object"), (0, u "<init>"), (0, u "()V"), (35, .class_ 44), (1, u "java/util/Objects"), (0, u "requireNonNull"), (48, u "(Ljava/lang/Object;Ljava/lang/String;)Ljava/lang/Object;")] 89

def k10m0 : Method := { name := "<init>", desc := "()V", sig := { parameters := [], returnType := none }, accessFlags := 2, code := none }
def k10c1 : Code := { maxStack := 3, maxLocals := 2, code := jdk_31_method_11_code, exceptionTable := #[], attributes := #[] }
def k10m1 : Method := { name := "requireNonNull", desc := "(Ljava/lang/Object;Ljava/lang/String;)Ljava/lang/Object;", sig := { parameters := [(.object "java/lang/Object"), (.object "java/lang/String")], returnType := some (.object "java/lang/Object") }, accessFlags := 9, code := some k10c1 }
/-- java/util/Objects -/
def k10 : Class := { plain "java/util/Objects" (some 0) with
  accessFlags := 49
  interfaces := #[]
  cf := some (fileOf pool10 42 #[] #[{ accessFlags := 2, nameIndex := 5, descriptorIndex := 6, attributes := #[] }, { accessFlags := 9, nameIndex := 45, descriptorIndex := 94, attributes := #[] }] 49 2 #[] #[])
  fields := #[]
  methods := #[k10m0, k10m1]
  instanceTypes := #[]
  staticTypes := #[]
  resolved := Array.replicate 184 none
  statics := none }

def pool11 : Array CpInfo := pool [(4, .class_ 6), (1, u "java/lang/Object"), (0, u "<init>"), (0, u "()V"), (5, .class_ 16), (1, u "java/lang/StringLatin1"), (104, u "$assertionsDisabled"), (0, u "Z"), (98, .class_ 223), (1, u "java/lang/StringLatin1$LinesSpliterator"), (57, u "equals"), (0, u "([B[B)Z"), (107, .class_ 391), (0, u "java/lang/StringLatin1$CharsSpliterator")] 3

def k11m0 : Method := { name := "<init>", desc := "()V", sig := { parameters := [], returnType := none }, accessFlags := 0, code := none }
def k11c1 : Code := { maxStack := 3, maxLocals := 3, code := jdk_43_method_13_code, exceptionTable := #[], attributes := #[] }
def k11m1 : Method := { name := "equals", desc := "([B[B)Z", sig := { parameters := [(.array .byte), (.array .byte)], returnType := some .boolean }, accessFlags := 9, code := some k11c1 }
/-- java/lang/StringLatin1 -/
def k11 : Class := { plain "java/lang/StringLatin1" (some 0) with
  accessFlags := 48
  interfaces := #[]
  cf := some (fileOf pool11 14 #[.nestMembers #[390, 221]] #[{ accessFlags := 0, nameIndex := 7, descriptorIndex := 8, attributes := #[] }, { accessFlags := 9, nameIndex := 281, descriptorIndex := 282, attributes := #[] }] 48 4 #[] #[{ accessFlags := 4120, nameIndex := 121, descriptorIndex := 122, attributes := #[] }])
  fields := #[{ name := "$assertionsDisabled", type := .boolean, accessFlags := 4120, slot := 0, constantValue := 0 }]
  methods := #[k11m0, k11m1]
  instanceTypes := #[]
  staticTypes := #[.boolean]
  resolved := Array.replicate 395 none
  statics := none }

def pool12 : Array CpInfo := pool [(2, .class_ 4), (1, u "java/lang/Object"), (0, u "<init>"), (0, u "()V"), (17, .class_ 26), (1, u "jdk/internal/util/Preconditions"), (28, .class_ 56), (0, u "jdk/internal/util/Preconditions$4"), (57, .class_ 115), (0, u "jdk/internal/util/Preconditions$1"), (7, u "SIOOBE_FORMATTER"), (0, u "Ljava/util/function/BiFunction;"), (0, .class_ 126), (0, u "jdk/internal/util/Preconditions$2"), (3, u "AIOOBE_FORMATTER"), (0, .class_ 132), (0, u "jdk/internal/util/Preconditions$3"), (3, u "IOOBE_FORMATTER")] 57

def k12m0 : Method := { name := "<init>", desc := "()V", sig := { parameters := [], returnType := none }, accessFlags := 1, code := none }
/-- jdk/internal/util/Preconditions -/
def k12 : Class := { plain "jdk/internal/util/Preconditions" (some 0) with
  accessFlags := 33
  interfaces := #[]
  cf := some (fileOf pool12 24 #[.nestMembers #[55, 131, 125, 114]] #[{ accessFlags := 1, nameIndex := 5, descriptorIndex := 6, attributes := #[] }] 33 2 #[] #[{ accessFlags := 25, nameIndex := 123, descriptorIndex := 124, attributes := #[] }, { accessFlags := 25, nameIndex := 130, descriptorIndex := 124, attributes := #[] }, { accessFlags := 25, nameIndex := 136, descriptorIndex := 124, attributes := #[] }])
  fields := #[{ name := "SIOOBE_FORMATTER", type := (.object "java/util/function/BiFunction"), accessFlags := 25, slot := 0, constantValue := 0 }, { name := "AIOOBE_FORMATTER", type := (.object "java/util/function/BiFunction"), accessFlags := 25, slot := 1, constantValue := 0 }, { name := "IOOBE_FORMATTER", type := (.object "java/util/function/BiFunction"), accessFlags := 25, slot := 2, constantValue := 0 }]
  methods := #[k12m0]
  instanceTypes := #[]
  staticTypes := #[(.object "java/util/function/BiFunction"), (.object "java/util/function/BiFunction"), (.object "java/util/function/BiFunction")]
  resolved := Array.replicate 194 none
  statics := some 1 }

def pool13 : Array CpInfo := pool [(9, u "<init>"), (6, .class_ 18), (1, u "java/lang/Object"), (0, u "()V"), (1, .class_ 23), (1, u "jdk/internal/util/ArraysSupport"), (0, u "LOG2_ARRAY_LONG_INDEX_SCALE"), (0, u "I"), (2, u "U"), (0, u "Ljdk/internal/misc/Unsafe;"), (8, u "BIG_ENDIAN"), (0, u "Z"), (8, u "LOG2_BYTE_BIT_SIZE"), (4, u "LOG2_ARRAY_INT_INDEX_SCALE"), (54, u "JLA"), (0, u "Ljdk/internal/access/JavaLangAccess;"), (11, u "LOG2_ARRAY_BOOLEAN_INDEX_SCALE"), (9, u "LOG2_ARRAY_BYTE_INDEX_SCALE"), (5, u "LOG2_ARRAY_CHAR_INDEX_SCALE"), (5, u "LOG2_ARRAY_SHORT_INDEX_SCALE"), (18, u "LOG2_ARRAY_FLOAT_INDEX_SCALE"), (24, u "LOG2_ARRAY_DOUBLE_INDEX_SCALE"), (89, u "T_BOOLEAN"), (2, u "T_CHAR"), (1, u "T_FLOAT"), (1, u "T_DOUBLE"), (1, u "T_BYTE"), (1, u "T_SHORT"), (1, u "T_INT"), (1, u "T_LONG"), (1, u "SOFT_MAX_ARRAY_LENGTH")] 83

def k13m0 : Method := { name := "<init>", desc := "()V", sig := { parameters := [], returnType := none }, accessFlags := 2, code := none }
/-- jdk/internal/util/ArraysSupport -/
def k13 : Class := { plain "jdk/internal/util/ArraysSupport" (some 0) with
  accessFlags := 33
  interfaces := #[]
  cf := some (fileOf pool13 21 #[] #[{ accessFlags := 2, nameIndex := 9, descriptorIndex := 19, attributes := #[] }] 33 16 #[] #[{ accessFlags := 24, nameIndex := 28, descriptorIndex := 29, attributes := #[] }, { accessFlags := 26, nameIndex := 38, descriptorIndex := 39, attributes := #[] }, { accessFlags := 25, nameIndex := 121, descriptorIndex := 25, attributes := #[] }, { accessFlags := 25, nameIndex := 131, descriptorIndex := 25, attributes := #[] }, { accessFlags := 25, nameIndex := 137, descriptorIndex := 25, attributes := #[] }, { accessFlags := 25, nameIndex := 143, descriptorIndex := 25, attributes := #[] }, { accessFlags := 25, nameIndex := 53, descriptorIndex := 25, attributes := #[] }, { accessFlags := 25, nameIndex := 24, descriptorIndex := 25, attributes := #[] }, { accessFlags := 25, nameIndex := 162, descriptorIndex := 25, attributes := #[] }, { accessFlags := 25, nameIndex := 187, descriptorIndex := 25, attributes := #[] }, { accessFlags := 26, nameIndex := 48, descriptorIndex := 25, attributes := #[] }, { accessFlags := 25, nameIndex := 277, descriptorIndex := 25, attributes := #[] }, { accessFlags := 25, nameIndex := 280, descriptorIndex := 25, attributes := #[] }, { accessFlags := 25, nameIndex := 282, descriptorIndex := 25, attributes := #[] }, { accessFlags := 25, nameIndex := 284, descriptorIndex := 25, attributes := #[] }, { accessFlags := 25, nameIndex := 286, descriptorIndex := 25, attributes := #[] }, { accessFlags := 25, nameIndex := 288, descriptorIndex := 25, attributes := #[] }, { accessFlags := 25, nameIndex := 290, descriptorIndex := 25, attributes := #[] }, { accessFlags := 25, nameIndex := 292, descriptorIndex := 25, attributes := #[] }, { accessFlags := 26, nameIndex := 108, descriptorIndex := 109, attributes := #[] }, { accessFlags := 25, nameIndex := 294, descriptorIndex := 25, attributes := #[] }])
  fields := #[{ name := "U", type := (.object "jdk/internal/misc/Unsafe"), accessFlags := 24, slot := 0, constantValue := 0 }, { name := "BIG_ENDIAN", type := .boolean, accessFlags := 26, slot := 1, constantValue := 0 }, { name := "LOG2_ARRAY_BOOLEAN_INDEX_SCALE", type := .int, accessFlags := 25, slot := 2, constantValue := 0 }, { name := "LOG2_ARRAY_BYTE_INDEX_SCALE", type := .int, accessFlags := 25, slot := 3, constantValue := 0 }, { name := "LOG2_ARRAY_CHAR_INDEX_SCALE", type := .int, accessFlags := 25, slot := 4, constantValue := 0 }, { name := "LOG2_ARRAY_SHORT_INDEX_SCALE", type := .int, accessFlags := 25, slot := 5, constantValue := 0 }, { name := "LOG2_ARRAY_INT_INDEX_SCALE", type := .int, accessFlags := 25, slot := 6, constantValue := 0 }, { name := "LOG2_ARRAY_LONG_INDEX_SCALE", type := .int, accessFlags := 25, slot := 7, constantValue := 0 }, { name := "LOG2_ARRAY_FLOAT_INDEX_SCALE", type := .int, accessFlags := 25, slot := 8, constantValue := 0 }, { name := "LOG2_ARRAY_DOUBLE_INDEX_SCALE", type := .int, accessFlags := 25, slot := 9, constantValue := 0 }, { name := "LOG2_BYTE_BIT_SIZE", type := .int, accessFlags := 26, slot := 10, constantValue := 0 }, { name := "T_BOOLEAN", type := .int, accessFlags := 25, slot := 11, constantValue := 0 }, { name := "T_CHAR", type := .int, accessFlags := 25, slot := 12, constantValue := 0 }, { name := "T_FLOAT", type := .int, accessFlags := 25, slot := 13, constantValue := 0 }, { name := "T_DOUBLE", type := .int, accessFlags := 25, slot := 14, constantValue := 0 }, { name := "T_BYTE", type := .int, accessFlags := 25, slot := 15, constantValue := 0 }, { name := "T_SHORT", type := .int, accessFlags := 25, slot := 16, constantValue := 0 }, { name := "T_INT", type := .int, accessFlags := 25, slot := 17, constantValue := 0 }, { name := "T_LONG", type := .int, accessFlags := 25, slot := 18, constantValue := 0 }, { name := "JLA", type := (.object "jdk/internal/access/JavaLangAccess"), accessFlags := 26, slot := 19, constantValue := 0 }, { name := "SOFT_MAX_ARRAY_LENGTH", type := .int, accessFlags := 25, slot := 20, constantValue := 0 }]
  methods := #[k13m0]
  instanceTypes := #[]
  staticTypes := #[(.object "jdk/internal/misc/Unsafe"), .boolean, .int, .int, .int, .int, .int, .int, .int, .int, .int, .int, .int, .int, .int, .int, .int, .int, .int, (.object "jdk/internal/access/JavaLangAccess"), .int]
  resolved := Array.replicate 378 none
  statics := none }

def pool14 : Array CpInfo := pool [(1, u "java/lang/Cloneable"), (0, .class_ 1), (0, u "java/lang/Object"), (0, .class_ 3)] 3

/-- java/lang/Cloneable -/
def k14 : Class := { plain "java/lang/Cloneable" (some 0) with
  accessFlags := 1537
  interfaces := #[]
  cf := some (fileOf pool14 2 #[] #[] 1537 4 #[] #[])
  fields := #[]
  methods := #[]
  instanceTypes := #[]
  staticTypes := #[]
  resolved := Array.replicate 8 none
  statics := none }

/-- the primitive byte -/
def k15 : Class := { plain "byte" none with kind := .primitive 'B', accessFlags := 0x411 }
/-- [B -/
def k16 : Class := { plain "[B" (some 0) with kind := .array 15 .byte, interfaces := #[14, 2], accessFlags := 1041 }

/-- the primitive char -/
def k17 : Class := { plain "char" none with kind := .primitive 'C', accessFlags := 0x411 }
/-- [C -/
def k18 : Class := { plain "[C" (some 0) with kind := .array 17 .char, interfaces := #[14, 2], accessFlags := 1041 }

def heap : Heap := #[{ cls := 7, slots := #[.long 0, .int 1, .null, .int 0, .null, .int 0, .int 0], vm := .statics 7 },
  { cls := 12, slots := #[.null, .null, .null], vm := .statics 12 }]
def classes : Array Class := #[k0, k1, k2, k3, k4, k5, k6, k7, k8, k9, k10, k11, k12, k13, k14, k15, k16, k17, k18]
def interned : List (Array UInt16 × Addr) := []
def slotsUsed : Nat := 10
def theMethod : MethodId := ⟨1, 2⟩
def args0 : Array Value := #[.int 0, .int 1, .int 2, .int 3, .int 4]
def aboutOver (below : List Frame) : State where
  vm := { classes := classes, interned := interned.toArray }
  heap := heap
  slotsUsed := slotsUsed
  threads := #[{ frames := .invoking theMethod args0 :: below }]
def below0 : List Frame := [.native { method := ⟨0, 0⟩, args := #[] }]
def about1 : State := aboutOver below0
def p0 : Program := .bare "" "" ""
def e0 : Env := launch0.env 0 0 0
theorem w_frames : about1.frames = Frame.invoking theMethod args0 :: below0 := rfl
set_option maxRecDepth 65536 in
theorem w_args : argsFit about1.vm theMethod args0 = true := by decide +kernel
set_option maxRecDepth 65536 in
theorem w_heap : heapFits about1 = true := by decide +kernel
set_option maxRecDepth 65536 in
theorem w_runnable : about1.curStatus? = some .runnable := by decide +kernel
set_option maxRecDepth 65536 in
theorem w_alone : about1.alone = true := by decide +kernel
set_option maxRecDepth 65536 in
theorem w_named : about1.methodNamed? x = some theMethod := by decide +kernel
set_option maxRecDepth 65536 in
theorem w_hears : about1.hears theMethod below0 = true := by decide +kernel
set_option maxRecDepth 65536 in
theorem w_ripe : about1.ripe theMethod args0 below0 = true := by decide +kernel
theorem w_running : about1.status = .running := rfl
set_option maxRecDepth 65536 in
theorem w_room : about1.hasRoom e0.platform room_1 = true :=
  launch0.hasRoom_least _ room_1 (by decide +kernel) (by decide +kernel) (by decide +kernel) (by decide +kernel) (by decide +kernel) (by decide +kernel)
theorem allAtoms_all (ts : List Jvm.Cond) (a : Array Jvm.Value) (st : Jvm.State) : (allAtoms ts).before a st = ts.all (fun c => c.before a st) := by
  induction ts with
  | nil => rfl
  | cons c t ih =>
    show (Jvm.Cond.and c (allAtoms t)).before a st = _
    rw [Jvm.Cond.before_and, ih, List.all_cons]
def words1 : List Jvm.Cond := Jvm.Cond.code x code maxLocals ret :: tables_1
/-- a 'code' word, met by the world's own term for the bytes: nothing is compared byte by byte -/
theorem code_word {y : MethodName} {bytes : ByteArray} {mx : Nat} {rt : Option FieldType} {a : Array Value} {s : State} {m : MethodId} {meth : Method} {c : Code} (h1 : s.methodNamed? y = some m) (h2 : s.vm.method? m = some meth) (h3 : meth.code = some c) (h4 : c.code = bytes)
    (h5 : (c.maxLocals == mx && c.exceptionTable.isEmpty && decide (c.maxStack ≤ mostOperands) && decide (meth.sig.returnType = rt) && !meth.locks && decide (parseMethodDescriptor y.desc = some meth.sig)) = true) : (Jvm.Cond.code y bytes mx rt).before a s = true := by
  simp only [Bool.and_eq_true, beq_iff_eq, Bool.not_eq_true', decide_eq_true_eq] at h5
  obtain ⟨⟨⟨⟨⟨g1, g2⟩, g3⟩, g4⟩, g5⟩, g6⟩ := h5
  simp [Cond.before, Cond.holds, Cond.value, h1, h2, h3, h4, g1, g2, g3, g4, g5, g6]
def isCode : Jvm.Cond → Bool
  | .code _ _ _ _ => true
  | _ => false
theorem all_split {L : List Jvm.Cond} {P : Jvm.Cond → Bool} (h1 : L.all (fun c => isCode c || P c) = true) (h2 : ∀ c ∈ L.filter isCode, P c = true) : L.all P = true := by
  refine List.all_eq_true.mpr fun c hc => ?_
  have h := List.all_eq_true.mp h1 c hc
  rcases Bool.eq_false_or_eq_true (isCode c) with hi | hi
  · exact h2 c (List.mem_filter.mpr ⟨hc, hi⟩)
  · simpa [hi] using h
set_option maxRecDepth 65536 in
theorem w_c0 : (Jvm.Cond.code x code maxLocals ret).before args0 about1 = true := code_word (m := ⟨1, 2⟩) (meth := k1m2) (c := k1c2) (by decide +kernel) rfl rfl rfl (by decide +kernel)
set_option maxRecDepth 65536 in
theorem w_c1 : (Jvm.Cond.code ({ cls := "com/example/gentle_rebalance/gentlerebalance/engine/TopicPartitionEqualsPinLaw", name := "makeTopic", desc := "(ICC)Ljava/lang/String;" } : Jvm.MethodName) method_2_code (3 : Nat) (Option.some (Jvm.ClassFile.FieldType.object "java/lang/String"))).before args0 about1 = true := code_word (m := ⟨1, 1⟩) (meth := k1m1) (c := k1c1) (by decide +kernel) rfl rfl rfl (by decide +kernel)
set_option maxRecDepth 65536 in
theorem w_c2 : (Jvm.Cond.code ({ cls := "java/lang/String", name := "<init>", desc := "([C)V" } : Jvm.MethodName) jdk_42_method_3_code (2 : Nat) (Option.none : Option Jvm.ClassFile.FieldType)).before args0 about1 = true := code_word (m := ⟨7, 1⟩) (meth := k7m1) (c := k7c1) (by decide +kernel) rfl rfl rfl (by decide +kernel)
set_option maxRecDepth 65536 in
theorem w_c3 : (Jvm.Cond.code ({ cls := "java/lang/String", name := "<init>", desc := "([CIILjava/lang/Void;)V" } : Jvm.MethodName) jdk_42_method_149_code (6 : Nat) (Option.none : Option Jvm.ClassFile.FieldType)).before args0 about1 = true := code_word (m := ⟨7, 4⟩) (meth := k7m4) (c := k7c4) (by decide +kernel) rfl rfl rfl (by decide +kernel)
set_option maxRecDepth 65536 in
theorem w_c4 : (Jvm.Cond.code ({ cls := "java/lang/Object", name := "<init>", desc := "()V" } : Jvm.MethodName) object_method_1_code (1 : Nat) (Option.none : Option Jvm.ClassFile.FieldType)).before args0 about1 = true := code_word (m := ⟨0, 0⟩) (meth := k0m0) (c := k0c0) (by decide +kernel) rfl rfl rfl (by decide +kernel)
set_option maxRecDepth 65536 in
theorem w_c5 : (Jvm.Cond.code ({ cls := "java/lang/StringUTF16", name := "compress", desc := "([CII)[B" } : Jvm.MethodName) jdk_52_method_16_code (6 : Nat) (Option.some (Jvm.ClassFile.FieldType.array Jvm.ClassFile.FieldType.byte))).before args0 about1 = true := code_word (m := ⟨8, 2⟩) (meth := k8m2) (c := k8c2) (by decide +kernel) rfl rfl rfl (by decide +kernel)
set_option maxRecDepth 65536 in
theorem w_c6 : (Jvm.Cond.code ({ cls := "java/lang/StringUTF16", name := "compress", desc := "([CI[BII)I" } : Jvm.MethodName) jdk_52_method_21_code (7 : Nat) (Option.some Jvm.ClassFile.FieldType.int)).before args0 about1 = true := code_word (m := ⟨8, 3⟩) (meth := k8m3) (c := k8c3) (by decide +kernel) rfl rfl rfl (by decide +kernel)
set_option maxRecDepth 65536 in
theorem w_c7 : (Jvm.Cond.code ({ cls := "java/lang/StringUTF16", name := "coderFromArrayLen", desc := "([BI)B" } : Jvm.MethodName) jdk_52_method_15_code (2 : Nat) (Option.some Jvm.ClassFile.FieldType.byte)).before args0 about1 = true := code_word (m := ⟨8, 1⟩) (meth := k8m1) (c := k8c1) (by decide +kernel) rfl rfl rfl (by decide +kernel)
set_option maxRecDepth 65536 in
theorem w_c8 : (Jvm.Cond.code ({ cls := "com/example/gentle_rebalance/gentlerebalance/engine/TopicPartition", name := "<init>", desc := "(Ljava/lang/String;I)V" } : Jvm.MethodName) prog_35_method_1_code (3 : Nat) (Option.none : Option Jvm.ClassFile.FieldType)).before args0 about1 = true := code_word (m := ⟨9, 0⟩) (meth := k9m0) (c := k9c0) (by decide +kernel) rfl rfl rfl (by decide +kernel)
set_option maxRecDepth 65536 in
theorem w_c9 : (Jvm.Cond.code ({ cls := "java/util/Objects", name := "requireNonNull", desc := "(Ljava/lang/Object;Ljava/lang/String;)Ljava/lang/Object;" } : Jvm.MethodName) jdk_31_method_11_code (2 : Nat) (Option.some (Jvm.ClassFile.FieldType.object "java/lang/Object"))).before args0 about1 = true := code_word (m := ⟨10, 1⟩) (meth := k10m1) (c := k10c1) (by decide +kernel) rfl rfl rfl (by decide +kernel)
set_option maxRecDepth 65536 in
theorem w_c10 : (Jvm.Cond.code ({ cls := "java/lang/String", name := "isEmpty", desc := "()Z" } : Jvm.MethodName) jdk_42_method_55_code (1 : Nat) (Option.some Jvm.ClassFile.FieldType.boolean)).before args0 about1 = true := code_word (m := ⟨7, 2⟩) (meth := k7m2) (c := k7c2) (by decide +kernel) rfl rfl rfl (by decide +kernel)
set_option maxRecDepth 65536 in
theorem w_c11 : (Jvm.Cond.code ({ cls := "com/example/gentle_rebalance/gentlerebalance/engine/TopicPartition", name := "equals", desc := "(Ljava/lang/Object;)Z" } : Jvm.MethodName) prog_35_method_8_code (3 : Nat) (Option.some Jvm.ClassFile.FieldType.boolean)).before args0 about1 = true := code_word (m := ⟨9, 1⟩) (meth := k9m1) (c := k9c1) (by decide +kernel) rfl rfl rfl (by decide +kernel)
set_option maxRecDepth 65536 in
theorem w_c12 : (Jvm.Cond.code ({ cls := "java/lang/String", name := "equals", desc := "(Ljava/lang/Object;)Z" } : Jvm.MethodName) jdk_42_method_66_code (3 : Nat) (Option.some Jvm.ClassFile.FieldType.boolean)).before args0 about1 = true := code_word (m := ⟨7, 3⟩) (meth := k7m3) (c := k7c3) (by decide +kernel) rfl rfl rfl (by decide +kernel)
set_option maxRecDepth 65536 in
theorem w_c13 : (Jvm.Cond.code ({ cls := "java/lang/StringLatin1", name := "equals", desc := "([B[B)Z" } : Jvm.MethodName) jdk_43_method_13_code (3 : Nat) (Option.some Jvm.ClassFile.FieldType.boolean)).before args0 about1 = true := code_word (m := ⟨11, 1⟩) (meth := k11m1) (c := k11c1) (by decide +kernel) rfl rfl rfl (by decide +kernel)
def codes1 : List Jvm.Cond := [Jvm.Cond.code x code maxLocals ret, Jvm.Cond.code ({ cls := "com/example/gentle_rebalance/gentlerebalance/engine/TopicPartitionEqualsPinLaw", name := "makeTopic", desc := "(ICC)Ljava/lang/String;" } : Jvm.MethodName) method_2_code (3 : Nat) (Option.some (Jvm.ClassFile.FieldType.object "java/lang/String")), Jvm.Cond.code ({ cls := "java/lang/String", name := "<init>", desc := "([C)V" } : Jvm.MethodName) jdk_42_method_3_code (2 : Nat) (Option.none : Option Jvm.ClassFile.FieldType), Jvm.Cond.code ({ cls := "java/lang/String", name := "<init>", desc := "([CIILjava/lang/Void;)V" } : Jvm.MethodName) jdk_42_method_149_code (6 : Nat) (Option.none : Option Jvm.ClassFile.FieldType), Jvm.Cond.code ({ cls := "java/lang/Object", name := "<init>", desc := "()V" } : Jvm.MethodName) object_method_1_code (1 : Nat) (Option.none : Option Jvm.ClassFile.FieldType), Jvm.Cond.code ({ cls := "java/lang/StringUTF16", name := "compress", desc := "([CII)[B" } : Jvm.MethodName) jdk_52_method_16_code (6 : Nat) (Option.some (Jvm.ClassFile.FieldType.array Jvm.ClassFile.FieldType.byte)), Jvm.Cond.code ({ cls := "java/lang/StringUTF16", name := "compress", desc := "([CI[BII)I" } : Jvm.MethodName) jdk_52_method_21_code (7 : Nat) (Option.some Jvm.ClassFile.FieldType.int), Jvm.Cond.code ({ cls := "java/lang/StringUTF16", name := "coderFromArrayLen", desc := "([BI)B" } : Jvm.MethodName) jdk_52_method_15_code (2 : Nat) (Option.some Jvm.ClassFile.FieldType.byte), Jvm.Cond.code ({ cls := "com/example/gentle_rebalance/gentlerebalance/engine/TopicPartition", name := "<init>", desc := "(Ljava/lang/String;I)V" } : Jvm.MethodName) prog_35_method_1_code (3 : Nat) (Option.none : Option Jvm.ClassFile.FieldType), Jvm.Cond.code ({ cls := "java/util/Objects", name := "requireNonNull", desc := "(Ljava/lang/Object;Ljava/lang/String;)Ljava/lang/Object;" } : Jvm.MethodName) jdk_31_method_11_code (2 : Nat) (Option.some (Jvm.ClassFile.FieldType.object "java/lang/Object")), Jvm.Cond.code ({ cls := "java/lang/String", name := "isEmpty", desc := "()Z" } : Jvm.MethodName) jdk_42_method_55_code (1 : Nat) (Option.some Jvm.ClassFile.FieldType.boolean), Jvm.Cond.code ({ cls := "com/example/gentle_rebalance/gentlerebalance/engine/TopicPartition", name := "equals", desc := "(Ljava/lang/Object;)Z" } : Jvm.MethodName) prog_35_method_8_code (3 : Nat) (Option.some Jvm.ClassFile.FieldType.boolean), Jvm.Cond.code ({ cls := "java/lang/String", name := "equals", desc := "(Ljava/lang/Object;)Z" } : Jvm.MethodName) jdk_42_method_66_code (3 : Nat) (Option.some Jvm.ClassFile.FieldType.boolean), Jvm.Cond.code ({ cls := "java/lang/StringLatin1", name := "equals", desc := "([B[B)Z" } : Jvm.MethodName) jdk_43_method_13_code (3 : Nat) (Option.some Jvm.ClassFile.FieldType.boolean)]
set_option maxRecDepth 65536 in
theorem codes_eq : words1.filter isCode = codes1 := rfl
theorem w_codes : ∀ c ∈ words1.filter isCode, c.before args0 about1 = true := by
  rw [codes_eq]
  intro c hc
  simp only [codes1, List.mem_cons, List.not_mem_nil, or_false] at hc
  rcases hc with rfl | rfl | rfl | rfl | rfl | rfl | rfl | rfl | rfl | rfl | rfl | rfl | rfl | rfl
  · exact w_c0
  · exact w_c1
  · exact w_c2
  · exact w_c3
  · exact w_c4
  · exact w_c5
  · exact w_c6
  · exact w_c7
  · exact w_c8
  · exact w_c9
  · exact w_c10
  · exact w_c11
  · exact w_c12
  · exact w_c13
set_option maxRecDepth 65536 in
theorem w_t1 : (words1.take 24).all (fun c => isCode c || c.before args0 about1) = true := by decide +kernel
set_option maxRecDepth 65536 in
theorem w_t2 : ((words1.drop 24).take 24).all (fun c => isCode c || c.before args0 about1) = true := by decide +kernel
set_option maxRecDepth 65536 in
theorem w_t3 : (((words1.drop 24).drop 24).take 24).all (fun c => isCode c || c.before args0 about1) = true := by decide +kernel
set_option maxRecDepth 65536 in
theorem w_t4 : (((words1.drop 24).drop 24).drop 24).all (fun c => isCode c || c.before args0 about1) = true := by decide +kernel
theorem w_tables : (allAtoms (Jvm.Cond.code x code maxLocals ret :: tables_1)).before args0 about1 = true := by
  rw [allAtoms_all]
  show words1.all (fun c => c.before args0 about1) = true
  refine all_split ?_ w_codes
  rw [← List.take_append_drop 24 words1, List.all_append, w_t1, ← List.take_append_drop 24 (words1.drop 24), List.all_append, w_t2, ← List.take_append_drop 24 ((words1.drop 24).drop 24), List.all_append, w_t3, w_t4]
  rfl
set_option maxRecDepth 65536 in
theorem w_rest : rest_1_c.before args0 about1 = true := by decide +kernel
set_option maxRecDepth 65536 in
theorem w_case : (Jvm.Cond.and given_1 narrow_1).before args0 about1 = true := by decide +kernel
theorem w_applies : (headSpec (Jvm.Cond.code x code maxLocals ret :: tables_1) room_1).applies x e0.platform about1 = true :=
  (Spec.applies_iff w_frames).mpr ⟨w_running, w_runnable, w_alone, w_named, w_hears, w_ripe, w_room, w_tables⟩
theorem atStart : AtStart classFile x code maxLocals ret World_1 tables_1 room_1 Calls_1 rest_1 Pre_1 launch0 p0 e0 about1 theMethod args0 below0 :=
  ⟨lists_1, trivial, launch0.admits_env _ _ _, launch0.least_env, fairChoices_fair.cas, fairChoices_fair.clock, w_frames, w_args, w_heap, w_applies, trivial, w_rest, w_case⟩
end start1
theorem witness_1 : WitnessClaimed_1 := ⟨start1.p0, start1.e0, start1.about1, start1.theMethod, start1.args0, start1.below0, start1.atStart⟩
end Jvm.Pilot.@@N@@
