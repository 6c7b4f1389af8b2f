import JvmDerived
import JvmDerived.Pilot.@@N@@Statement
import JvmDerived.Pilot.@@N@@Code
set_option linter.unusedVariables false
set_option linter.unusedSimpArgs false
namespace Jvm.RoadKit
open Sem ClassFile Op Lib Jvm.Stand Jvm.Free Jvm.LawKit
section New
variable {p : Program} {l : Launch} {e : Env} {R : Room} {s : State} {m : MethodId} {args : Array Value} {below : List Frame} {meth : Method} {c : Code} {T : State} {locs : List Loc} {cells slots : Nat}
theorem retI (X : Stand p l e R s m args below meth c T locs cells slots) (hx : p.tables.exec = Jvm.exec) {pc : Nat} {Ls : Array Slot} {z : Int32} {rest : List Value} (hret : meth.sig.returnType = some .int) (hd : decode c.code pc = .ok (.ireturn, 1)) {fs : List Frame}
    (hl : ∀ (f : JFrame) (acts : List Action), f.method = m → f.locked = none → f.entered = [] → (doReturn e (T.setTop f) acts (some (.int z))).1 = T.setFrames fs) : Steps p.tables e below (T.setTop (mkF m pc Ls (.int z :: rest))) (T.setFrames fs) := by
  have hm' : T.vm.method? m = some meth := X.method'
  have hn : narrow .int (.int z) = .int z := rfl
  show Steps p.tables e below (T.setTop { method := m, pc := pc, locals := Ls, stack := _ :: rest, locked := none }) _
  jvm_step X.here [X.here.top, hx, hd, hm', hret, hn]
  first | (intro acts; rw [hl _ acts rfl rfl rfl]) | rw [hl _ _ rfl rfl rfl]
  exact Steps.refl _
end New
end Jvm.RoadKit
namespace Jvm.Pilot.@@N@@
open Jvm Jvm.ClassFile Sem Op Lib Jvm.Free Jvm.Stand Jvm.LawKit Jvm.RoadKit Bundle Jvm.Pilot.@@N@@.Jvm.D
abbrev own_un : Slot := Slot.unset
abbrev own_sd : Slot := Slot.second
abbrev own_jv (x : Int64) : Slot := Slot.val (.long x)
theorem own_lo {p : Program} {l : Launch} {e : Env} {R : Room} {s : State} {m : MethodId} {args : Array Value} {below : List Frame} {meth : Method} {c : Code} {T : State} {locs : List Loc} {cells slots n : Nat}
    (X : Stand p l e R s m args below meth c T locs cells slots) (N : Fr n locs) : ∃ lc, Stand p l e R s m args below meth c T lc cells slots ∧ Fr n lc := ⟨_, X, N⟩
/-- from this frame the run comes to its end, and Q is said of what it leaves -/
def own_Dn (p : Program) (e : Env) (below : List Frame) (s : State) (Q : Option Value → Heap → List Loc → Prop) (k n : Nat) (T : State) (g : JFrame) : Prop :=
  ∃ s₂ o, Steps p.tables e below (T.setTop g) s₂ ∧ s₂.status = .running ∧ Ended s₂ below o ∧ ∃ v L, o = .returned v ∧ Q v s₂.heap L ∧ FrameEnd s o s₂ L k n
theorem own_go {p : Program} {e : Env} {below : List Frame} {s : State} {Q : Option Value → Heap → List Loc → Prop} {k n : Nat} {T T' : State} {g g' : JFrame}
    (h : ∀ t, Steps p.tables e below (T'.setTop g') t → Steps p.tables e below (T.setTop g) t) (d : own_Dn p e below s Q k n T' g') : own_Dn p e below s Q k n T g := by
  obtain ⟨s₂, o, h1, h2⟩ := d
  exact ⟨s₂, o, h _ h1, h2⟩
theorem own_p {p : Program} {e : Env} {below : List Frame} {s : State} {Q : Option Value → Heap → List Loc → Prop} {k n : Nat} {T : State} {g g' : JFrame}
    (h : ∀ t, Steps p.tables e below (T.setTop g') t → Steps p.tables e below (T.setTop g) t) (d : own_Dn p e below s Q k n T g') : own_Dn p e below s Q k n T g := own_go h d
theorem own_as {p : Program} {e : Env} {below : List Frame} {s : State} {Q : Option Value → Heap → List Loc → Prop} {k n : Nat} {T : State} {g g' : JFrame}
    (h : g = g') (d : own_Dn p e below s Q k n T g') : own_Dn p e below s Q k n T g := h ▸ d
theorem own_ret {p : Program} {l : Launch} {e : Env} {R : Room} {s : State} {m : MethodId} {args : Array Value} {below : List Frame} {meth : Method} {c : Code} {T : State} {locs : List Loc} {cells slots : Nat}
    {Q : Option Value → Heap → List Loc → Prop} {k n : Nat} {g : JFrame} (X : Stand p l e R s m args below meth c T locs cells slots) (hlocks : meth.locks = false) (v : Option Value) (hv : meth.sig.returnType = none → v = none)
    (hr : ∀ fs : List Frame, (∀ (f : JFrame) (acts : List Action), f.method = m → f.locked = none → f.entered = [] → (doReturn e (T.setTop f) acts v).1 = T.setFrames fs) → Steps p.tables e below (T.setTop g) (T.setFrames fs))
    (hQ : Q v T.heap locs) (hk : cells ≤ k) (hn : slots ≤ n) : own_Dn p e below s Q k n T g := by
  obtain ⟨fs, h1, hrun, hended, hW, hsame⟩ := X.leave (v := v) hv hlocks
  exact ⟨_, _, hr fs h1, hrun, hended, _, _, rfl, hQ, ⟨_, rfl⟩, hW, hsame.mono hk hn⟩
theorem own_l0 : (0 : Int32).toInt = 0 := by decide
theorem own_l1 : (1 : Int32).toInt = 1 := by decide
theorem own_l2 : (2 : Int32).toInt = 2 := by decide
theorem own_l3 : (3 : Int32).toInt = 3 := by decide
theorem own_l4 : (4 : Int32).toInt = 4 := by decide
theorem own_l5 : (5 : Int32).toInt = 5 := by decide
theorem own_l6 : (6 : Int32).toInt = 6 := by decide
theorem own_l10 : (10 : Int32).toInt = 10 := by decide
theorem own_l15 : (15 : Int32).toInt = 15 := by decide
theorem own_l16 : (16 : Int32).toInt = 16 := by decide
theorem own_l31 : (31 : Int32).toInt = 31 := by decide
theorem own_l48 : (48 : Int32).toInt = 48 := by decide
theorem own_l57 : (57 : Int32).toInt = 57 := by decide
theorem own_l100 : (100 : Int32).toInt = 100 := by decide
theorem own_l255 : (255 : Int32).toInt = 255 := by decide
theorem own_l16777216 : (16777216 : Int32).toInt = 16777216 := by decide
theorem own_W {Z : State} {a0 : Array Value} (hw : ∀ d ∈ tables_1, d.before a0 Z = true) (i : Nat) {d : Jvm.Cond} (h : tables_1[i]? = some d) : d.before a0 Z = true := hw _ (List.mem_of_getElem? h)
abbrev oU : Slot := Slot.unset
abbrev own_y0 : MethodName := ⟨"com/example/carrier_name_resolver/carriernameresolver/card/PlmnEqualsPinLaw", "dig", "(II)C"⟩
abbrev own_y1 : MethodName := ⟨"com/example/carrier_name_resolver/carriernameresolver/card/PlmnEqualsPinLaw", "pick", "(IICI)C"⟩
abbrev own_y2 : MethodName := ⟨"java/lang/StringUTF16", "compress", "([CI[BII)I"⟩
abbrev own_y3 : MethodName := ⟨"java/lang/StringUTF16", "compress", "([CII)[B"⟩
abbrev own_y4 : MethodName := ⟨"java/lang/StringUTF16", "coderFromArrayLen", "([BI)B"⟩
abbrev own_y5 : MethodName := ⟨"java/lang/String", "<init>", "([CIILjava/lang/Void;)V"⟩
abbrev own_y6 : MethodName := ⟨"java/lang/String", "<init>", "([C)V"⟩
abbrev own_y7 : MethodName := ⟨"java/lang/String", "coder", "()B"⟩
abbrev own_y8 : MethodName := ⟨"java/lang/String", "isLatin1", "()Z"⟩
abbrev own_y9 : MethodName := ⟨"java/lang/String", "length", "()I"⟩
abbrev own_y10 : MethodName := ⟨"jdk/internal/util/Preconditions", "checkIndex", "(IILjava/util/function/BiFunction;)I"⟩
abbrev own_y11 : MethodName := ⟨"java/lang/String", "checkIndex", "(II)V"⟩
abbrev own_y12 : MethodName := ⟨"java/lang/StringLatin1", "charAt", "([BI)C"⟩
abbrev own_y13 : MethodName := ⟨"java/lang/String", "charAt", "(I)C"⟩
abbrev own_y14 : MethodName := ⟨"com/example/carrier_name_resolver/carriernameresolver/card/Plmn", "isDigits", "(Ljava/lang/String;II)Z"⟩
abbrev own_y15 : MethodName := ⟨"com/example/carrier_name_resolver/carriernameresolver/card/Plmn", "code", "(Ljava/lang/String;)I"⟩
abbrev own_y16 : MethodName := ⟨"java/lang/AbstractStringBuilder", "<init>", "(I)V"⟩
abbrev own_y17 : MethodName := ⟨"java/lang/StringBuilder", "<init>", "()V"⟩
abbrev own_y18 : MethodName := ⟨"java/lang/AbstractStringBuilder", "inflateIfNeededFor", "(Ljava/lang/String;)V"⟩
abbrev own_y19 : MethodName := ⟨"java/lang/AbstractStringBuilder", "ensureCapacityInternal", "(I)V"⟩
abbrev own_y20 : MethodName := ⟨"java/lang/String", "getBytes", "([BIB)V"⟩
abbrev own_y21 : MethodName := ⟨"java/lang/AbstractStringBuilder", "putStringAt", "(ILjava/lang/String;)V"⟩
abbrev own_y22 : MethodName := ⟨"java/lang/AbstractStringBuilder", "append", "(Ljava/lang/String;)Ljava/lang/AbstractStringBuilder;"⟩
abbrev own_y23 : MethodName := ⟨"java/lang/StringBuilder", "append", "(Ljava/lang/String;)Ljava/lang/StringBuilder;"⟩
abbrev own_y24 : MethodName := ⟨"java/lang/AbstractStringBuilder", "length", "()I"⟩
abbrev own_y25 : MethodName := ⟨"java/lang/StringBuilder", "length", "()I"⟩
abbrev own_y26 : MethodName := ⟨"java/lang/AbstractStringBuilder", "getValue", "()[B"⟩
abbrev own_y27 : MethodName := ⟨"java/lang/AbstractStringBuilder", "isLatin1", "()Z"⟩
abbrev own_y28 : MethodName := ⟨"java/util/Arrays", "checkLength", "(II)V"⟩
abbrev own_y29 : MethodName := ⟨"java/lang/Math", "min", "(II)I"⟩
abbrev own_y30 : MethodName := ⟨"java/util/Arrays", "copyOfRangeByte", "([BII)[B"⟩
abbrev own_y31 : MethodName := ⟨"java/util/Arrays", "copyOfRange", "([BII)[B"⟩
abbrev own_y32 : MethodName := ⟨"java/lang/String", "<init>", "(Ljava/lang/AbstractStringBuilder;Ljava/lang/Void;)V"⟩
abbrev own_y33 : MethodName := ⟨"java/lang/String", "<init>", "(Ljava/lang/StringBuilder;)V"⟩
abbrev own_y34 : MethodName := ⟨"java/lang/StringBuilder", "toString", "()Ljava/lang/String;"⟩
abbrev own_y35 : MethodName := ⟨"com/example/carrier_name_resolver/carriernameresolver/card/Plmn", "<init>", "(Ljava/lang/String;Ljava/lang/String;)V"⟩
abbrev own_y36 : MethodName := ⟨"com/example/carrier_name_resolver/carriernameresolver/card/Plmn", "equals", "(Ljava/lang/Object;)Z"⟩
theorem own_found {Z : State} {a0 : Array Value} {K : String} {n : Nat} (w : (Jvm.Cond.instantiable K n).before a0 Z = true) : ∃ t k, Z.vm.findClass K = some t ∧ Z.vm.classes[t]? = some k ∧ k.kind = .ordinary ∧ k.isInterface = false := by
  obtain ⟨t, k, h1, h2, h3, h4, -⟩ := Cond.instantiable_spec w
  exact ⟨t, k, h1, h2, h3, (Bool.or_eq_false_iff.mp h4).1⟩
theorem own_nsroot {Z : State} {a0 : Array Value} {O K : String} {n : Nat} (w : (Jvm.Cond.noSuperclass O).before a0 Z = true) (wk : (Jvm.Cond.instantiable K n).before a0 Z = true) (hn : O ≠ K) : NS Z O K := by
  obtain ⟨c, k, h1, h2, h3, -, -⟩ := Cond.noSuperclass_spec w
  obtain ⟨t, kt, g1, -⟩ := own_found wk
  have ne := ids_ne h1 g1 hn
  refine ⟨c, t, h1, g1, fun fuel => ?_⟩
  cases fuel with
  | zero => rfl
  | succ f => simp [Vm.isSubclassAux, ne, h2, h3]
theorem own_nsno {Z : State} {a0 : Array Value} {C S K : String} {n : Nat} (w : (Jvm.Cond.superclass C S).before a0 Z = true) (wk : (Jvm.Cond.instantiable K n).before a0 Z = true) (ns : NS Z C K) (hn : C ≠ K) : ∃ c t, Z.vm.findClass C = some c ∧ Z.vm.findClass K = some t ∧ Z.vm.assignable c t = false := by
  obtain ⟨c, t, h0, g0, n3⟩ := ns
  obtain ⟨p, k, kp, h1, h2, h3, h4, h5, -, h7⟩ := Cond.superclass_spec h0 w
  obtain ⟨t', k', g1, g2, g5, g7⟩ := own_found wk
  cases g0.symm.trans g1
  have ne := ids_ne h0 g0 hn
  refine ⟨c, t, h0, g0, ?_⟩
  show Z.vm.assignableAux (255 + 1) c t = false
  simp [Vm.assignableAux, ne, h2, g2, h5, g5, g7, Vm.isSubclass, n3]
theorem own_dec {Z : State} {a0 : Array Value} {y : MethodName} {bytes : ByteArray} {maxL : Nat} {ret : Option FieldType} (wi : (Cond.instanceMethod y).before a0 Z = true) (wc : (Cond.code y bytes maxL ret).before a0 Z = true) : (Cond.declares y).before a0 Z = true := by
  obtain ⟨mk, methM, hn, hm, hst, -⟩ := Cond.instanceMethod_spec wi
  obtain ⟨methM', cM, hm', -, -, -, -, -, -, hsig⟩ := Cond.code_spec hn wc
  cases hm.symm.trans hm'
  simp [Cond.before, Cond.holds, Cond.value, hn, hm, hst, hsig]
theorem own_nf {args : Array Value} {s : State} {C : String} {y y' : MethodName} (hc : y'.cls = y.cls) (ws : (Cond.selects C y' y').before args s = true) : NotFace s y := fun r0 h0 => by
  obtain ⟨c2, r2, m2, q1, q2, q3, q4, kP, hkP, hkPi⟩ := Cond.selects_spec ws
  have e1 := findClass_of_methodNamed h0
  have e2 := findClass_of_methodNamed q3
  rw [hc] at e2
  have e3 : r0.cls = m2.cls := Option.some.inj (e1.symm.trans e2)
  exact ⟨kP, by rw [e3]; exact hkP, hkPi⟩
theorem own_sm {Z : State} {a0 : Array Value} {C : String} {y y' : MethodName} (hc : y'.cls = y.cls) (wd : (Cond.declares y).before a0 Z = true) (ws : (Cond.selects C y' y').before a0 Z = true) (hy : y.cls ≠ "java/lang/invoke/MethodHandle" ∧ y.cls ≠ "java/lang/invoke/VarHandle") : (Cond.sameMethod y.cls y.cls y.name y.desc).before a0 Z = true := by
  obtain ⟨m, meth, hn, hm, -, -⟩ := Cond.declares_spec wd
  obtain ⟨c2, r2, m2, q1, q2, q3, q4, kP, hkP, hkPi⟩ := Cond.selects_spec ws
  have e1 := findClass_of_methodNamed hn
  have e2 := findClass_of_methodNamed q3
  rw [hc] at e2
  have e3 : m.cls = m2.cls := Option.some.inj (e1.symm.trans e2)
  have hf := State.methodFound?_of_named hn hy
  obtain ⟨yc, yn, yd⟩ := y
  dsimp only at *
  simp [Cond.before, Cond.holds, Cond.value, e1, hf, hn, e3, hkP, hkPi]
theorem own_c16 {x : Int32} (h : 0 ≤ x.toInt ∧ x.toInt ≤ 255) : x.toUInt32.toUInt16.toUInt32.toInt32 = x := by
  have h1 : ∀ u : UInt16, (u.toUInt32.toInt32).toInt = u.toNat := fun u => by
    have hu := u.toNat_lt
    show ((u.toUInt32).toBitVec).toInt = _
    have hm : (u.toUInt32).toBitVec.toNat = u.toNat := by
      show (u.toUInt32).toNat = _
      simp
    rw [BitVec.toInt_eq_toNat_cond, hm, if_pos (by omega)]
  rw [← Int32.toInt_inj, h1]
  have h2 : x.toInt = (x.toUInt32.toNat : Int) := by
    have q : x.toInt = x.toBitVec.toInt := rfl
    rw [q, BitVec.toInt_eq_toNat_cond] at h ⊢
    split at h
    · rw [if_pos ‹_›]; rfl
    · have := x.toBitVec.isLt; omega
  have h3 : x.toUInt32.toUInt16.toNat = x.toUInt32.toNat % 65536 := by simp
  rw [h3, h2]; omega
abbrev own_Dg (x : Int32) : Prop := 48 ≤ x.toInt ∧ x.toInt ≤ 57
theorem own_nat {x : Int32} (h : 0 ≤ x.toInt) : x.toInt = (x.toBitVec.toNat : Int) := by
  have q : x.toInt = x.toBitVec.toInt := rfl
  rw [q, BitVec.toInt_eq_toNat_cond] at h ⊢
  split at h
  · rw [if_pos ‹_›]
  · have := x.toBitVec.isLt; omega
theorem own_dgb {x : Int32} (h : own_Dg x) : x.toInt8.toInt32.toInt8.toInt32 = x := by
  rw [← Int32.toInt_inj]
  simp only [Int8.toInt_toInt32, Int32.toInt_toInt8, Int.bmod_def]
  obtain ⟨h1, h2⟩ := h
  omega
theorem own_and255 {x : Int32} (h : 0 ≤ x.toInt ∧ x.toInt ≤ 255) : x &&& (255 : Int32) = x := by
  have e := own_nat h.1
  apply Int32.toBitVec_inj.mp
  apply BitVec.eq_of_toNat_eq
  rw [Int32.toBitVec_and, BitVec.toNat_and]
  rw [show (255 : Int32).toBitVec.toNat = 2 ^ 8 - 1 from rfl, Nat.and_two_pow_sub_one_eq_mod]
  omega
theorem own_sh0 (x : Int32) : x >>> ((0 : Int32) &&& 31) = x := by
  rw [show ((0 : Int32) &&& 31) = 0 from by decide]
  simp
theorem own_dig (e : Int32) (h : 0 ≤ e.toInt ∧ e.toInt ≤ 15) : own_Dg ((48 : Int32) + e % (10 : Int32)) := by
  have h1 : (e % (10 : Int32)).toInt = e.toInt % 10 := by
    rw [Int32.toInt_mod, show (10 : Int32).toInt = 10 from rfl, Int.tmod_eq_emod_of_nonneg h.1]
  unfold own_Dg
  rw [Int32.toInt_add, h1, show (48 : Int32).toInt = 48 from rfl, Int.bmod_def]
  omega
theorem own_nib {z d : Int32} (hz : 0 ≤ z.toInt ∧ z.toInt < 16777216) (hd : 0 ≤ d.toInt ∧ d.toInt < 16) : ((z <<< ((4 : Int32) &&& 31)) ||| d).toInt = 16 * z.toInt + d.toInt := by
  have e1 := own_nat hz.1
  have e2 := own_nat hd.1
  have e3 : ((z <<< ((4 : Int32) &&& 31)) ||| d).toBitVec.toNat = 16 * z.toBitVec.toNat + d.toBitVec.toNat := by
    rw [show ((4 : Int32) &&& 31) = 4 from by decide]
    rw [Int32.toBitVec_or, BitVec.toNat_or, Int32.toBitVec_shiftLeft]
    rw [show ((4 : Int32).toBitVec.smod 32) = 4#32 from by decide]
    rw [BitVec.shiftLeft_eq', BitVec.toNat_shiftLeft, show (4#32 : BitVec 32).toNat = 4 from rfl]
    have : z.toBitVec.toNat <<< 4 % 2 ^ 32 = z.toBitVec.toNat <<< 4 := by
      rw [Nat.shiftLeft_eq]; omega
    rw [this, ← Nat.shiftLeft_add_eq_or_of_lt (by omega), Nat.shiftLeft_eq]
    omega
  have e4 : ((z <<< ((4 : Int32) &&& 31)) ||| d).toInt = ((z <<< ((4 : Int32) &&& 31)) ||| d).toBitVec.toInt := rfl
  rw [e4, BitVec.toInt_eq_toNat_cond, e3, if_pos (by omega)]
  omega
theorem own_hi {z : Int32} (hz : 0 ≤ z.toInt ∧ z.toInt < 16777216) : (z ||| (16777216 : Int32)).toInt = z.toInt + 16777216 := by
  have e1 := own_nat hz.1
  have e3 : (z ||| (16777216 : Int32)).toBitVec.toNat = 16777216 + z.toBitVec.toNat := by
    rw [Int32.toBitVec_or, BitVec.toNat_or, show (16777216 : Int32).toBitVec.toNat = 1 <<< 24 from rfl, Nat.or_comm, ← Nat.shiftLeft_add_eq_or_of_lt (by omega)]
    rfl
  have e4 : (z ||| (16777216 : Int32)).toInt = (z ||| (16777216 : Int32)).toBitVec.toInt := rfl
  rw [e4, BitVec.toInt_eq_toNat_cond, e3, if_pos (by omega)]
  omega
def own_cd (xs : List Int32) : Int32 := xs.foldl (fun z x => (z <<< ((4 : Int32) &&& 31)) ||| (x - (48 : Int32))) (0 : Int32)
theorem own_step {z x : Int32} (hz : 0 ≤ z.toInt ∧ z.toInt < 16777216) (hx : own_Dg x) : ((z <<< ((4 : Int32) &&& 31)) ||| (x - (48 : Int32))).toInt = 16 * z.toInt + (x.toInt - 48) := by
  have h : (x - (48 : Int32)).toInt = x.toInt - 48 := by
    unfold own_Dg at hx
    rw [Int32.toInt_sub, show (48 : Int32).toInt = 48 from rfl, Int.bmod_def]; omega
  unfold own_Dg at hx
  rw [own_nib hz (by omega), h]
theorem own_cd5 {a b c d e : Int32} (ha : own_Dg a) (hb : own_Dg b) (hc : own_Dg c) (hd : own_Dg d) (he : own_Dg e) : (own_cd [a, b, c, d, e]).toInt = 16 * (16 * (16 * (16 * (a.toInt - 48) + (b.toInt - 48)) + (c.toInt - 48)) + (d.toInt - 48)) + (e.toInt - 48) := by
  have z0 : (0 : Int32).toInt = 0 := rfl
  have h1 := own_step (z := 0) (by rw [z0]; decide) ha
  unfold own_Dg at *
  have h2 := own_step (by rw [h1, z0]; omega) hb
  have h3 := own_step (by rw [h2, h1, z0]; omega) hc
  have h4 := own_step (by rw [h3, h2, h1, z0]; omega) hd
  have h5 := own_step (by rw [h4, h3, h2, h1, z0]; omega) he
  show Int32.toInt _ = _
  simp only [own_cd, List.foldl]
  rw [h5, h4, h3, h2, h1, z0]; omega
theorem own_cd6 {a b c d e f : Int32} (ha : own_Dg a) (hb : own_Dg b) (hc : own_Dg c) (hd : own_Dg d) (he : own_Dg e) (hf : own_Dg f) : (own_cd [a, b, c, d, e, f] ||| (16777216 : Int32)).toInt = 16 * (16 * (16 * (16 * (16 * (a.toInt - 48) + (b.toInt - 48)) + (c.toInt - 48)) + (d.toInt - 48)) + (e.toInt - 48)) + (f.toInt - 48) + 16777216 := by
  have h5 := own_cd5 ha hb hc hd he
  unfold own_Dg at *
  have e1 : own_cd [a, b, c, d, e, f] = ((own_cd [a, b, c, d, e]) <<< ((4 : Int32) &&& 31)) ||| (f - (48 : Int32)) := rfl
  have h6 := own_step (by rw [h5]; omega) hf
  rw [own_hi (by rw [e1, h6, h5]; omega), e1, h6, h5]
theorem own_codes {z1 z2 p q a b c d e f a' b' c' d' e' f' : Int32} (i1 : z1.toInt = 0 ∨ z1.toInt = 1) (i2 : z2.toInt = 0 ∨ z2.toInt = 1)
    (ha : own_Dg a) (hb : own_Dg b) (hc : own_Dg c) (hd : own_Dg d) (he : own_Dg e) (hf : own_Dg f) (ga : own_Dg a') (gb : own_Dg b') (gc : own_Dg c') (gd : own_Dg d') (ge : own_Dg e') (gf : own_Dg f')
    (hp : (z1 = (0 : Int32) ∧ p = own_cd [a, b, c, d, e]) ∨ (¬ (z1 = (0 : Int32)) ∧ p = own_cd [a, b, c, d, e, f] ||| (16777216 : Int32)))
    (hq : (z2 = (0 : Int32) ∧ q = own_cd [a', b', c', d', e']) ∨ (¬ (z2 = (0 : Int32)) ∧ q = own_cd [a', b', c', d', e', f'] ||| (16777216 : Int32))) :
    p = q ↔ (z1 = z2 ∧ a = a' ∧ b = b' ∧ c = c' ∧ d = d' ∧ e = e' ∧ (z1 = (0 : Int32) ∨ f = f')) := by
  have p5 := own_cd5 ha hb hc hd he
  have p6 := own_cd6 ha hb hc hd he hf
  have q5 := own_cd5 ga gb gc gd ge
  have q6 := own_cd6 ga gb gc gd ge gf
  unfold own_Dg at *
  rcases hp with ⟨u, rfl⟩ | ⟨u, rfl⟩ <;> rcases hq with ⟨v, rfl⟩ | ⟨v, rfl⟩ <;> simp only [← Int32.toInt_inj, show (0 : Int32).toInt = 0 from rfl] at u v ⊢
  · rw [p5, q5]; clear p5 p6 q5 q6; omega
  · rw [p5, q6]; clear p5 p6 q5 q6; omega
  · rw [p6, q5]; clear p5 p6 q5 q6; omega
  · rw [p6, q6]; clear p5 p6 q5 q6; omega
theorem own_dn {c : Int32} (h : own_Dg c) : nar .char c = c := own_c16 ⟨Int.le_trans (by decide) h.1, Int.le_trans h.2 (by decide)⟩
theorem own_dr {c : Int32} (h : own_Dg c) : own_Dg (nar .char c) := by rw [own_dn h]; exact h
theorem own_dgl (e : Int32) : own_Dg (nar .char (((48 : Int32) + ((e &&& (15 : Int32)) % (10 : Int32))).toUInt32.toUInt16.toUInt32.toInt32)) := by
  have h1 := own_dig (e &&& (15 : Int32)) (c_and e (15 : Int32) (by decide))
  have h2 : ((48 : Int32) + ((e &&& (15 : Int32)) % (10 : Int32))).toUInt32.toUInt16.toUInt32.toInt32 = (48 : Int32) + ((e &&& (15 : Int32)) % (10 : Int32)) := own_dn h1
  rw [h2]; exact own_dr h1
theorem own_chd {x : Int32} (h : own_Dg x) : nar .char ((x &&& (255 : Int32)).toUInt32.toUInt16.toUInt32.toInt32) = x := by
  rw [own_and255 ⟨Int.le_trans (by decide) h.1, Int.le_trans h.2 (by decide)⟩]
  have h2 : x.toUInt32.toUInt16.toUInt32.toInt32 = x := own_dn h
  rw [h2, own_dn h]
theorem own_255 {x : Int32} (h : own_Dg x) : ¬ ((255 : Int32) < x) := by
  rw [Int32.lt_iff_toInt_lt, show (255 : Int32).toInt = 255 from rfl]; unfold own_Dg at h; omega
theorem own_d48 {x : Int32} (h : own_Dg x) : ¬ (x < (48 : Int32)) := by
  rw [Int32.lt_iff_toInt_lt, show (48 : Int32).toInt = 48 from rfl]; unfold own_Dg at h; omega
theorem own_d57 {x : Int32} (h : own_Dg x) : ¬ ((57 : Int32) < x) := by
  rw [Int32.lt_iff_toInt_lt, show (57 : Int32).toInt = 57 from rfl]; unfold own_Dg at h; omega
theorem own_d100 {x : Int32} (h : own_Dg x) : ¬ (x = (100 : Int32)) := by
  rw [← Int32.toInt_inj, show (100 : Int32).toInt = 100 from rfl]; unfold own_Dg at h; omega
theorem own_same {r z : Int32} {C : Prop} (h1 : (r = (1 : Int32) ∧ C) ∨ (r = (0 : Int32) ∧ ¬ C)) (h2 : (z = (1 : Int32) ∧ C) ∨ (z = (0 : Int32) ∧ ¬ C)) : r = z := by
  rcases h1 with ⟨a, b⟩ | ⟨a, b⟩ <;> rcases h2 with ⟨c, d⟩ | ⟨c, d⟩
  · rw [a, c]
  · exact absurd b d
  · exact absurd d b
  · rw [a, c]
theorem own_pad {Z : State} {h : Heap} {a : Addr} {k : ClassId} {ty : FieldType} {z : Int32} {vs ws : List Value} {d : Value} (hl : z.toNatClampNeg ≤ vs.length) (V : Arv Z h a k ty z vs d) : Arv Z h a k ty z (vs ++ ws) d := by
  obtain ⟨c, A, q, S, N, H, G⟩ := V
  have e : ∀ i, i < c.slots.size → (vs ++ ws).getD i d = vs.getD i d := fun i hi => by
    rw [List.getD_eq_getElem?_getD, List.getD_eq_getElem?_getD, List.getElem?_append_left (by omega)]
  exact ⟨c, A, q, S, N, fun i hi => by rw [e i hi]; exact H i hi, fun i hi => by rw [e i hi]; exact G i hi⟩
theorem own_cut {Z : State} {h : Heap} {a : Addr} {k : ClassId} {ty : FieldType} {z : Int32} {vs ws : List Value} {d : Value} (hl : z.toNatClampNeg ≤ vs.length) (V : Arv Z h a k ty z (vs ++ ws) d) : Arv Z h a k ty z vs d := by
  obtain ⟨c, A, q, S, N, H, G⟩ := V
  have e : ∀ i, i < c.slots.size → (vs ++ ws).getD i d = vs.getD i d := fun i hi => by
    rw [List.getD_eq_getElem?_getD, List.getD_eq_getElem?_getD, List.getElem?_append_left (by omega)]
  exact ⟨c, A, q, S, N, fun i hi => by rw [← e i hi]; exact H i hi, fun i hi => by rw [← e i hi]; exact G i hi⟩
theorem own_len {n y : Int32} {K : Nat} (hy : y.toInt = K) (h : ¬ (y < n)) : n.toNatClampNeg ≤ K := by
  rw [Int32.lt_iff_toInt_lt] at h
  simp only [Int32.toNatClampNeg]; omega
theorem own_pos0 {n : Int32} (h : (0 : Int32) < n) : ¬ n < 0 := by
  rw [Int32.lt_iff_toInt_lt] at h ⊢
  have e : (0 : Int32).toInt = 0 := rfl
  omega
theorem own_nz0 {n : Int32} (h : (0 : Int32) < n) : ¬ (n = (0 : Int32)) := fun q => by
  rw [q, Int32.lt_iff_toInt_lt] at h; omega
theorem own_cod (n : Int32) : nar .byte (((n - n).toUInt32 >>> ((31 : Int32) &&& 31).toUInt32).toInt32.toInt8.toInt32) = (0 : Int32) := by
  rw [Int32.sub_self]; decide
theorem own_notPL (Z : State) (a0 : Array Value) (hw : ∀ d ∈ tables_1, d.before a0 Z = true) : ∃ c t, Z.vm.findClass "java/lang/String" = some c ∧ Z.vm.findClass "com/example/carrier_name_resolver/carriernameresolver/card/Plmn" = some t ∧ Z.vm.assignable c t = false :=
  own_nsno (own_W hw 195 rfl) (own_W hw 38 rfl) (NS.step (own_W hw 195 rfl) (own_nsroot (own_W hw 196 rfl) (own_W hw 38 rfl) (by decide)) (by decide)) (by decide)
theorem own_dB0_0 : decode method_2_code 0 = .ok (.bipush 48, 2) := by decide +kernel
theorem own_dB0_2 : decode method_2_code 2 = .ok (.iload_n 0, 1) := by decide +kernel
theorem own_dB0_3 : decode method_2_code 3 = .ok (.iconst 4, 1) := by decide +kernel
theorem own_dB0_4 : decode method_2_code 4 = .ok (.iload_n 1, 1) := by decide +kernel
theorem own_dB0_5 : decode method_2_code 5 = .ok (.imul, 1) := by decide +kernel
theorem own_dB0_6 : decode method_2_code 6 = .ok (.iushr, 1) := by decide +kernel
theorem own_dB0_7 : decode method_2_code 7 = .ok (.bipush 15, 2) := by decide +kernel
theorem own_dB0_9 : decode method_2_code 9 = .ok (.iand, 1) := by decide +kernel
theorem own_dB0_10 : decode method_2_code 10 = .ok (.bipush 10, 2) := by decide +kernel
theorem own_dB0_12 : decode method_2_code 12 = .ok (.irem, 1) := by decide +kernel
theorem own_dB0_13 : decode method_2_code 13 = .ok (.iadd, 1) := by decide +kernel
theorem own_dB0_14 : decode method_2_code 14 = .ok (.i2c, 1) := by decide +kernel
theorem own_dB0_15 : decode method_2_code 15 = .ok (.ireturn, 1) := by decide +kernel
theorem own_pn1 : plainName "com/example/carrier_name_resolver/carriernameresolver/card/PlmnEqualsPinLaw" = true := by first | (simp [plainName, overriddenIn]; done) | decide +kernel
theorem own_ef1 (m : MethodId) (u : Int32) (t : Int32) : entryFrame m #[(.int u), (.int t)] 2 = mkF m 0 #[.val (.int u), .val (.int t)] [] := by first | (simp [entryFrame, mkF, argsToLocals, Value.category]; done) | rfl
def own_Q1 (Z : State) (u : Int32) (t : Int32) (h0 : Heap) (n0 : Nat) (v : Option Value) (h : Heap) (L : List Loc) : Prop := ∃ c : Int32, v = some (.int c) ∧ Fr n0 L ∧ h = h0 ∧ own_Dg c
set_option maxRecDepth 65536 in
set_option maxHeartbeats 40000000 in
theorem own_rm1 (l : Launch) (Z : State) (a0 : Array Value) (hw : ∀ d ∈ tables_1, d.before a0 Z = true) (ws : List Jvm.Cond) (u : Int32) (t : Int32) (h0 : Heap) (n0 : Nat) (Zs : n0 ≤ h0.size)  :
    MetFree l own_y0 (head1 (Jvm.Cond.code own_y0 method_2_code 2 (some .char) :: ws) ({ frames := 0, cells := 0, slots := 0, locals := 0 } : Room)) (fun aA_ U => aA_ = #[(.int u), (.int t)] ∧ Z.Warmed39 U.vm ∧ U.heap = h0) (fun _ _ _ _ _ => True) (fun _ U o U' => ∃ v L, o = .returned v ∧ own_Q1 Z u t h0 n0 v U'.heap L ∧ FrameEnd U o U' L ({ frames := 0, cells := 0, slots := 0, locals := 0 } : Room).cells ({ frames := 0, cells := 0, slots := 0, locals := 0 } : Room).slots) := by
  refine MetFree.of_bodySF (plainFor_of_name own_pn1) hisR ?_
  intro p e s m args below meth c s₁ Bd hml0 hP hK
  obtain ⟨rfl, hZ, hh⟩ := hP
  have hx := Bd.exec
  have hby := Bd.bytes
  have hml : c.maxLocals = 2 := hml0
  have hown : s.vm.findClass "com/example/carrier_name_resolver/carriernameresolver/card/PlmnEqualsPinLaw" = some m.cls := findClass_of_methodNamed Bd.named
  have hnm := (name_of_methodNamed Bd.named Bd.method).1
  have X0 : Stand p l e ({ frames := 0, cells := 0, slots := 0, locals := 0 } : Room) s m #[(.int u), (.int t)] below meth c s₁ [] 0 0 := Stand.of_body Bd
  have e0 : s₁.heap = h0 := by rw [← hh, Bd.state]; rfl
  have NF := Fr.nil n0
  rw [own_ef1 m u t]
  show own_Dn p e below s (own_Q1 Z u t h0 n0) 0 0 s₁ (mkF m 0 #[.val (.int u), .val (.int t)] [])
  refine own_p (g' := (mkF m 4 #[iv u, iv t] [(.int 4), (.int u), (.int 48)])) (fun _ k => XS.bipush X0.here hx rfl (hb hby own_dB0_0) (XS.iloadN X0.here hx rfl (hb hby own_dB0_2) rfl (XS.iconst X0.here hx rfl (hb hby own_dB0_3) k))) ?_
  refine own_p (g' := (mkF m 7 #[iv u, iv t] [(.int ((u.toUInt32 >>> (((4 : Int32) * t) &&& 31).toUInt32).toInt32)), (.int 48)])) (fun _ k => XS.iloadN X0.here hx rfl (hb hby own_dB0_4) rfl (XS.imul X0.here hx rfl (hb hby own_dB0_5) rfl (XS.iushr X0.here hx rfl (hb hby own_dB0_6) rfl k))) ?_
  refine own_p (g' := (mkF m 12 #[iv u, iv t] [(.int 10), (.int (((u.toUInt32 >>> (((4 : Int32) * t) &&& 31).toUInt32).toInt32) &&& (15 : Int32))), (.int 48)])) (fun _ k => XS.bipush X0.here hx rfl (hb hby own_dB0_7) (XS.iand X0.here hx rfl (hb hby own_dB0_9) rfl (XS.bipush X0.here hx rfl (hb hby own_dB0_10) k))) ?_
  refine own_p (g' := (mkF m 15 #[iv u, iv t] [(.int (((48 : Int32) + ((((u.toUInt32 >>> (((4 : Int32) * t) &&& 31).toUInt32).toInt32) &&& (15 : Int32)) % (10 : Int32))).toUInt32.toUInt16.toUInt32.toInt32))])) (fun _ k => iremM X0 hx rfl (hb hby own_dB0_12) rfl (by decide) (XS.iadd X0.here hx rfl (hb hby own_dB0_13) rfl (XS.i2c X0.here hx rfl (hb hby own_dB0_14) rfl k))) ?_
  refine own_ret X0 Bd.notSynchronized (some (.int (nar .char (((48 : Int32) + ((((u.toUInt32 >>> (((4 : Int32) * t) &&& 31).toUInt32).toInt32) &&& (15 : Int32)) % (10 : Int32))).toUInt32.toUInt16.toUInt32.toInt32)))) (fun h => by rw [Bd.returns] at h; cases h) (fun fs hr => retN X0 hx (t := .char) Bd.returns (by simp) (hb hby own_dB0_15) hr) ?_ (by decide) (by decide)
  show (own_Q1 Z u t h0 n0) (some (.int (nar .char (((48 : Int32) + ((((u.toUInt32 >>> (((4 : Int32) * t) &&& 31).toUInt32).toInt32) &&& (15 : Int32)) % (10 : Int32))).toUInt32.toUInt16.toUInt32.toInt32)))) s₁.heap _
  rw [e0]
  exact ⟨_, rfl, NF, rfl, own_dgl _⟩
theorem own_dB1_0 : decode method_3_code 0 = .ok (.iload_n 0, 1) := by decide +kernel
theorem own_dB1_1 : decode method_3_code 1 = .ok (.iload_n 1, 1) := by decide +kernel
theorem own_dB1_2 : decode method_3_code 2 = .ok (.iushr, 1) := by decide +kernel
theorem own_dB1_3 : decode method_3_code 3 = .ok (.iconst 1, 1) := by decide +kernel
theorem own_dB1_4 : decode method_3_code 4 = .ok (.iand, 1) := by decide +kernel
theorem own_dB1_5 : decode method_3_code 5 = .ok (.ifCond .ne 7, 3) := by decide +kernel
theorem own_dB1_8 : decode method_3_code 8 = .ok (.iload_n 2, 1) := by decide +kernel
theorem own_dB1_9 : decode method_3_code 9 = .ok (.goto 8, 3) := by decide +kernel
theorem own_dB1_12 : decode method_3_code 12 = .ok (.iload_n 3, 1) := by decide +kernel
theorem own_dB1_13 : decode method_3_code 13 = .ok (.iload_n 1, 1) := by decide +kernel
theorem own_dB1_14 : decode method_3_code 14 = .ok (.invokestatic 7, 3) := by decide +kernel
theorem own_dB1_17 : decode method_3_code 17 = .ok (.ireturn, 1) := by decide +kernel
theorem own_pn2 : plainName "com/example/carrier_name_resolver/carriernameresolver/card/PlmnEqualsPinLaw" = true := by first | (simp [plainName, overriddenIn]; done) | decide +kernel
theorem own_pd2_0 : parseMethodDescriptor "(II)C" = some ⟨[.int, .int], some .char⟩ := by decide +kernel
theorem own_ef2 (m : MethodId) (u : Int32) (t : Int32) (ch : Int32) (bb : Int32) : entryFrame m #[(.int u), (.int t), (.int ch), (.int bb)] 4 = mkF m 0 #[.val (.int u), .val (.int t), .val (.int ch), .val (.int bb)] [] := by first | (simp [entryFrame, mkF, argsToLocals, Value.category]; done) | rfl
def own_Q2 (Z : State) (u : Int32) (t : Int32) (ch : Int32) (bb : Int32) (h0 : Heap) (n0 : Nat) (v : Option Value) (h : Heap) (L : List Loc) : Prop := ∃ c : Int32, v = some (.int c) ∧ Fr n0 L ∧ h = h0 ∧ own_Dg c
set_option maxRecDepth 65536 in
set_option maxHeartbeats 40000000 in
theorem own_rm2 (l : Launch) (Z : State) (a0 : Array Value) (hw : ∀ d ∈ tables_1, d.before a0 Z = true) (ws : List Jvm.Cond) (u : Int32) (t : Int32) (ch : Int32) (bb : Int32) (h0 : Heap) (n0 : Nat) (Zs : n0 ≤ h0.size) (hd_ch : own_Dg ch) :
    MetFree l own_y1 (head1 (Jvm.Cond.code own_y1 method_3_code 4 (some .char) :: ws) ({ frames := 1, cells := 0, slots := 0, locals := 13 } : Room)) (fun aA_ U => aA_ = #[(.int u), (.int t), (.int ch), (.int bb)] ∧ Z.Warmed39 U.vm ∧ U.heap = h0) (fun _ _ _ _ _ => True) (fun _ U o U' => ∃ v L, o = .returned v ∧ own_Q2 Z u t ch bb h0 n0 v U'.heap L ∧ FrameEnd U o U' L ({ frames := 1, cells := 0, slots := 0, locals := 13 } : Room).cells ({ frames := 1, cells := 0, slots := 0, locals := 13 } : Room).slots) := by
  refine MetFree.of_bodySF (plainFor_of_name own_pn2) hisR ?_
  intro p e s m args below meth c s₁ Bd hml0 hP hK
  obtain ⟨rfl, hZ, hh⟩ := hP
  have hx := Bd.exec
  have hby := Bd.bytes
  have hml : c.maxLocals = 4 := hml0
  have hown : s.vm.findClass "com/example/carrier_name_resolver/carriernameresolver/card/PlmnEqualsPinLaw" = some m.cls := findClass_of_methodNamed Bd.named
  have hnm := (name_of_methodNamed Bd.named Bd.method).1
  have X0 : Stand p l e ({ frames := 1, cells := 0, slots := 0, locals := 13 } : Room) s m #[(.int u), (.int t), (.int ch), (.int bb)] below meth c s₁ [] 0 0 := Stand.of_body Bd
  have e0 : s₁.heap = h0 := by rw [← hh, Bd.state]; rfl
  have NF := Fr.nil n0
  rw [own_ef2 m u t ch bb]
  show own_Dn p e below s (own_Q2 Z u t ch bb h0 n0) 0 0 s₁ (mkF m 0 #[.val (.int u), .val (.int t), .val (.int ch), .val (.int bb)] [])
  refine own_p (g' := (mkF m 3 #[iv u, iv t, iv ch, iv bb] [(.int ((u.toUInt32 >>> (t &&& 31).toUInt32).toInt32))])) (fun _ k => XS.iloadN X0.here hx rfl (hb hby own_dB1_0) rfl (XS.iloadN X0.here hx rfl (hb hby own_dB1_1) rfl (XS.iushr X0.here hx rfl (hb hby own_dB1_2) rfl k))) ?_
  refine own_p (g' := (mkF m 5 #[iv u, iv t, iv ch, iv bb] [(.int (((u.toUInt32 >>> (t &&& 31).toUInt32).toInt32) &&& (1 : Int32)))])) (fun _ k => XS.iconst X0.here hx rfl (hb hby own_dB1_3) (XS.iand X0.here hx rfl (hb hby own_dB1_4) rfl k)) ?_
  by_cases c1 : (((u.toUInt32 >>> (t &&& 31).toUInt32).toInt32) &&& (1 : Int32)) = (0 : Int32)
  · refine own_p (g' := (mkF m 17 #[iv u, iv t, iv ch, iv bb] [(.int ch)])) (fun _ k => XS.ifNo X0.here hx rfl (hb hby own_dB1_5) rfl ((if0 _ _).trans (teq c1).2) (XS.iloadN X0.here hx rfl (hb hby own_dB1_8) rfl (XS.goto X0.here hx rfl (pc0 := 9) (pc' := 17) rfl (hb hby own_dB1_9) (by decide) (by decide) k))) ?_
    refine own_ret X0 Bd.notSynchronized (some (.int (nar .char ch))) (fun h => by rw [Bd.returns] at h; cases h) (fun fs hr => retN X0 hx (t := .char) Bd.returns (by simp) (hb hby own_dB1_17) hr) ?_ (by decide) (by decide)
    show (own_Q2 Z u t ch bb h0 n0) (some (.int (nar .char ch))) s₁.heap _
    rw [e0]
    exact ⟨_, rfl, NF, rfl, own_dr hd_ch⟩
  · refine own_p (g' := (mkF m 14 #[iv u, iv t, iv ch, iv bb] [(.int t), (.int bb)])) (fun _ k => XS.ifYes X0.here hx rfl (pc0 := 5) (pc' := 12) rfl (hb hby own_dB1_5) rfl ((if0 _ _).trans (feq c1).2) (by decide) (by decide) (XS.iloadN X0.here hx rfl (hb hby own_dB1_12) rfl (XS.iloadN X0.here hx rfl (hb hby own_dB1_13) rfl k))) ?_
    obtain ⟨_, _, ⟨T2, L2, k2, n2⟩, -, X2, ⟨Lc2, hQ2, l2, y2, z2⟩, st2⟩ := Jvm.LawKit.callS X0 hx (y := own_y0) hown (mvT hZ (own_W hw 0 rfl)) (mvT hZ (own_W hw 1 rfl)) (mvT hZ (own_W hw 2 rfl)) (mvT hZ (own_W hw 3 rfl)) (by decide) (backOf (W := 0) (own_rm1 l Z a0 hw [] bb t h0 n0 Zs ) hZ (own_W hw 3 rfl) (own_W hw 2 rfl) (by decide) (by decide)) (g := (mkF m 14 #[iv u, iv t, iv ch, iv bb] [(.int t), (.int bb)])) rfl (by rw [hml]; rfl) (argsL := [(.int bb), (.int t)]) (rest := []) (lenOf own_pd2_0 rfl) rfl (Nat.le_refl _) (hb hby own_dB1_14) (fun _ _ => ⟨rfl, e0, (by decide : 0 + 0 ≤ _), (by decide : 0 + 0 ≤ _)⟩)
    dsimp only [Pt.U, Pt.locs, Pt.cells, Pt.slots] at X2 l2 y2 z2 st2 hQ2
    subst l2 y2 z2
    obtain ⟨dg2, rfl, NQ2, eq2, hd_dg2⟩ := hQ2
    have NF := Fr.app NF NQ2
    refine own_go (T' := T2) (g' := (mkF m 17 #[iv u, iv t, iv ch, iv bb] [(.int dg2)])) (fun _ k => st2 _ k) ?_
    refine own_ret X2 Bd.notSynchronized (some (.int (nar .char dg2))) (fun h => by rw [Bd.returns] at h; cases h) (fun fs hr => retN X2 hx (t := .char) Bd.returns (by simp) (hb hby own_dB1_17) hr) ?_ (by decide) (by decide)
    show (own_Q2 Z u t ch bb h0 n0) (some (.int (nar .char dg2))) T2.heap _
    rw [eq2]
    exact ⟨_, rfl, NF, rfl, own_dr hd_dg2⟩
theorem own_dB2_0 : decode jdk_52_method_21_code 0 = .ok (.iconst 0, 1) := by decide +kernel
theorem own_dB2_1 : decode jdk_52_method_21_code 1 = .ok (.istore 5, 2) := by decide +kernel
theorem own_dB2_3 : decode jdk_52_method_21_code 3 = .ok (.iload 5, 2) := by decide +kernel
theorem own_dB2_5 : decode jdk_52_method_21_code 5 = .ok (.iload 4, 2) := by decide +kernel
theorem own_dB2_7 : decode jdk_52_method_21_code 7 = .ok (.if_icmp .ge 37, 3) := by decide +kernel
theorem own_dB2_10 : decode jdk_52_method_21_code 10 = .ok (.aload_n 0, 1) := by decide +kernel
theorem own_dB2_11 : decode jdk_52_method_21_code 11 = .ok (.iload_n 1, 1) := by decide +kernel
theorem own_dB2_12 : decode jdk_52_method_21_code 12 = .ok (.caload, 1) := by decide +kernel
theorem own_dB2_13 : decode jdk_52_method_21_code 13 = .ok (.istore 6, 2) := by decide +kernel
theorem own_dB2_15 : decode jdk_52_method_21_code 15 = .ok (.iload 6, 2) := by decide +kernel
theorem own_dB2_17 : decode jdk_52_method_21_code 17 = .ok (.sipush 255, 3) := by decide +kernel
theorem own_dB2_20 : decode jdk_52_method_21_code 20 = .ok (.if_icmp .le 6, 3) := by decide +kernel
theorem own_dB2_26 : decode jdk_52_method_21_code 26 = .ok (.aload_n 2, 1) := by decide +kernel
theorem own_dB2_27 : decode jdk_52_method_21_code 27 = .ok (.iload_n 3, 1) := by decide +kernel
theorem own_dB2_28 : decode jdk_52_method_21_code 28 = .ok (.iload 6, 2) := by decide +kernel
theorem own_dB2_30 : decode jdk_52_method_21_code 30 = .ok (.i2b, 1) := by decide +kernel
theorem own_dB2_31 : decode jdk_52_method_21_code 31 = .ok (.bastore, 1) := by decide +kernel
theorem own_dB2_32 : decode jdk_52_method_21_code 32 = .ok (.iinc 1 1, 3) := by decide +kernel
theorem own_dB2_35 : decode jdk_52_method_21_code 35 = .ok (.iinc 3 1, 3) := by decide +kernel
theorem own_dB2_38 : decode jdk_52_method_21_code 38 = .ok (.iinc 5 1, 3) := by decide +kernel
theorem own_dB2_41 : decode jdk_52_method_21_code 41 = .ok (.goto (-38), 3) := by decide +kernel
theorem own_dB2_44 : decode jdk_52_method_21_code 44 = .ok (.iload 4, 2) := by decide +kernel
theorem own_dB2_46 : decode jdk_52_method_21_code 46 = .ok (.ireturn, 1) := by decide +kernel
theorem own_pn3 : plainName "java/lang/StringUTF16" = true := by first | (simp [plainName, overriddenIn]; done) | decide +kernel
theorem own_ef3 (m : MethodId) (ca : Addr) (ba : Addr) (nn : Int32) : entryFrame m #[(.ref ca), (.int 0), (.ref ba), (.int 0), (.int nn)] 7 = mkF m 0 #[.val (.ref ca), .val (.int 0), .val (.ref ba), .val (.int 0), .val (.int nn), .unset, .unset] [] := by first | (simp [entryFrame, mkF, argsToLocals, Value.category]; done) | rfl
def own_Q3 (Z : State) (ca : Addr) (ba : Addr) (nn : Int32) (kc : ClassId) (kb : ClassId) (x0 : Int32) (x1 : Int32) (x2 : Int32) (x3 : Int32) (x4 : Int32) (x5 : Int32) (h0 : Heap) (n0 : Nat) (v : Option Value) (h : Heap) (L : List Loc) : Prop := v = some (.int nn) ∧ Fr n0 L ∧ Keep h0 h [ba] ∧ Arv Z h ba kb .byte nn [(.int x0), (.int x1), (.int x2), (.int x3), (.int x4), (.int x5)] (.int 0)
set_option maxRecDepth 65536 in
set_option maxHeartbeats 40000000 in
theorem own_rm3 (l : Launch) (Z : State) (a0 : Array Value) (hw : ∀ d ∈ tables_1, d.before a0 Z = true) (ws : List Jvm.Cond) (ca : Addr) (ba : Addr) (nn : Int32) (kc : ClassId) (kb : ClassId) (x0 : Int32) (x1 : Int32) (x2 : Int32) (x3 : Int32) (x4 : Int32) (x5 : Int32) (h0 : Heap) (n0 : Nat) (Zs : n0 ≤ h0.size) (hn0 : (0 : Int32) < nn) (hn6 : ¬ ((6 : Int32) < nn)) (V_ca : Arv Z h0 ca kc .char nn [(.int x0), (.int x1), (.int x2), (.int x3), (.int x4), (.int x5)] (.int 0)) (V_ba : Arv Z h0 ba kb .byte nn [(.int 0), (.int 0), (.int 0), (.int 0), (.int 0), (.int 0)] (.int 0)) (g_ba : n0 ≤ ba) (ne_ca_ba : ca ≠ ba) (hd_x0 : own_Dg x0) (hd_x1 : own_Dg x1) (hd_x2 : own_Dg x2) (hd_x3 : own_Dg x3) (hd_x4 : own_Dg x4) (hd_x5 : own_Dg x5) :
    MetFree l own_y2 (head1 (Jvm.Cond.code own_y2 jdk_52_method_21_code 7 (some .int) :: ws) ({ frames := 0, cells := 0, slots := 0, locals := 0 } : Room)) (fun aA_ U => aA_ = #[(.ref ca), (.int 0), (.ref ba), (.int 0), (.int nn)] ∧ Z.Warmed39 U.vm ∧ U.heap = h0) (fun _ _ _ _ _ => True) (fun _ U o U' => ∃ v L, o = .returned v ∧ own_Q3 Z ca ba nn kc kb x0 x1 x2 x3 x4 x5 h0 n0 v U'.heap L ∧ FrameEnd U o U' L ({ frames := 0, cells := 0, slots := 0, locals := 0 } : Room).cells ({ frames := 0, cells := 0, slots := 0, locals := 0 } : Room).slots) := by
  refine MetFree.of_bodySF (plainFor_of_name own_pn3) hisR ?_
  intro p e s m args below meth c s₁ Bd hml0 hP hK
  obtain ⟨rfl, hZ, hh⟩ := hP
  have hx := Bd.exec
  have hby := Bd.bytes
  have hml : c.maxLocals = 7 := hml0
  have hown : s.vm.findClass "java/lang/StringUTF16" = some m.cls := findClass_of_methodNamed Bd.named
  have hnm := (name_of_methodNamed Bd.named Bd.method).1
  have X0 : Stand p l e ({ frames := 0, cells := 0, slots := 0, locals := 0 } : Room) s m #[(.ref ca), (.int 0), (.ref ba), (.int 0), (.int nn)] below meth c s₁ [] 0 0 := Stand.of_body Bd
  have e0 : s₁.heap = h0 := by rw [← hh, Bd.state]; rfl
  have NF := Fr.nil n0
  rw [own_ef3 m ca ba nn]
  show own_Dn p e below s (own_Q3 Z ca ba nn kc kb x0 x1 x2 x3 x4 x5 h0 n0) 0 0 s₁ (mkF m 0 #[.val (.ref ca), .val (.int 0), .val (.ref ba), .val (.int 0), .val (.int nn), .unset, .unset] [])
  have KP := Keep.refl h0 [ba]
  have hl_x0 := own_255 hd_x0
  have hl_x1 := own_255 hd_x1
  have hl_x2 := own_255 hd_x2
  have hl_x3 := own_255 hd_x3
  have hl_x4 := own_255 hd_x4
  have hl_x5 := own_255 hd_x5
  refine own_p (g' := (mkF m 5 #[rv ca, iv 0, rv ba, iv 0, iv nn, iv 0, oU] [(.int 0)])) (fun _ k => XS.iconst X0.here hx rfl (hb hby own_dB2_0) (XS.istore X0.here hx rfl (hb hby own_dB2_1) rfl (l' := #[rv ca, iv 0, rv ba, iv 0, iv nn, iv 0, oU]) rfl (XS.iload X0.here hx rfl (hb hby own_dB2_3) rfl k))) ?_
  refine own_p (g' := (mkF m 11 #[rv ca, iv 0, rv ba, iv 0, iv nn, iv 0, oU] [(.ref ca)])) (fun _ k => XS.iload X0.here hx rfl (hb hby own_dB2_5) rfl (XS.icmpNo X0.here hx rfl (hb hby own_dB2_7) rfl (tlt hn0).2.1 (XS.aloadN X0.here hx rfl (hb hby own_dB2_10) rfl rfl k))) ?_
  refine own_p (g' := (mkF m 12 #[rv ca, iv 0, rv ba, iv 0, iv nn, iv 0, oU] [(.int 0), (.ref ca)])) (fun _ k => XS.iloadN X0.here hx rfl (hb hby own_dB2_11) rfl k) ?_
  obtain ⟨c_1, Ar_1, q_1, S_1, N_1, H_1, G_1⟩ := id V_ca
  have hin_1 : ¬ ((0 : Int32) < 0 ∨ c_1.slots.size ≤ ((0 : Int32)).toNatClampNeg) := inb_of S_1 ⟨by decide, hn0⟩
  have hat_1 : c_1.slots[((0 : Int32)).toNatClampNeg]? = some (.int x0) := H_1.at hin_1 rfl
  refine own_go (T' := s₁) (g' := (mkF m 13 #[rv ca, iv 0, rv ba, iv 0, iv nn, iv 0, oU] [(.int x0)])) (fun _ k => X0.caload hx (j := (0 : Int32)) (v := (.int x0)) (by rw [e0]; exact Ar_1.1) (State.isArrayOf_alike hZ.alike Ar_1.2.1) Ar_1.2.2 hin_1 hat_1 (g := (mkF m 12 #[rv ca, iv 0, rv ba, iv 0, iv nn, iv 0, oU] [(.int 0), (.ref ca)])) rfl rfl (hb hby own_dB2_12) _ k) ?_
  refine own_p (g' := (mkF m 20 #[rv ca, iv 0, rv ba, iv 0, iv nn, iv 0, iv x0] [(.int 255), (.int x0)])) (fun _ k => XS.istore X0.here hx rfl (hb hby own_dB2_13) rfl (l' := #[rv ca, iv 0, rv ba, iv 0, iv nn, iv 0, iv x0]) rfl (XS.iload X0.here hx rfl (hb hby own_dB2_15) rfl (XS.sipush X0.here hx rfl (hb hby own_dB2_17) k))) ?_
  refine own_p (g' := (mkF m 28 #[rv ca, iv 0, rv ba, iv 0, iv nn, iv 0, iv x0] [(.int 0), (.ref ba)])) (fun _ k => XS.icmpYes X0.here hx rfl (pc0 := 20) (pc' := 26) rfl (hb hby own_dB2_20) rfl (flt hl_x0).2.2.2 (by decide) (by decide) (XS.aloadN X0.here hx rfl (hb hby own_dB2_26) rfl rfl (XS.iloadN X0.here hx rfl (hb hby own_dB2_27) rfl k))) ?_
  refine own_p (g' := (mkF m 31 #[rv ca, iv 0, rv ba, iv 0, iv nn, iv 0, iv x0] [(.int (x0.toInt8.toInt32)), (.int 0), (.ref ba)])) (fun _ k => XS.iload X0.here hx rfl (hb hby own_dB2_28) rfl (XS.i2b X0.here hx rfl (hb hby own_dB2_30) rfl k)) ?_
  obtain ⟨c_2, Ar_2, q_2, S_2, N_2, H_2, G_2⟩ := id V_ba
  have hin_2 : ¬ ((0 : Int32) < 0 ∨ c_2.slots.size ≤ ((0 : Int32)).toNatClampNeg) := inb_of S_2 ⟨by decide, hn0⟩
  obtain ⟨T2, h2, X2, e2, W2, st2⟩ := stB X0 hx hZ e0 Ar_2 (j := (0 : Int32)) hin_2 (g := (mkF m 31 #[rv ca, iv 0, rv ba, iv 0, iv nn, iv 0, iv x0] [(.int (x0.toInt8.toInt32)), (.int 0), (.ref ba)])) rfl rfl (hb hby own_dB2_31)
  have V_ca := V_ca.other W2 ne_ca_ba
  have Zs := Nat.le_trans Zs (Keep.of_wr W2).1
  have V_ba := Arv.set Ar_2 q_2 S_2 N_2 H_2 G_2 (fits_nar_byte _) W2 0 rfl (Nat.le_of_ble_eq_true rfl)
  have KP := KP.wr W2 (Or.inl (by simp))
  have NF := Fr.snoc X2 NF g_ba
  refine own_go (T' := T2) (g' := (mkF m 32 #[rv ca, iv 0, rv ba, iv 0, iv nn, iv 0, iv x0] [])) (fun _ k => st2 _ k) ?_
  refine own_p (g' := (mkF m 41 #[rv ca, iv 1, rv ba, iv 1, iv nn, iv 1, iv x0] [])) (fun _ k => XS.iinc X2.here hx rfl (hb hby own_dB2_32) rfl (l' := #[rv ca, iv 1, rv ba, iv 0, iv nn, iv 0, iv x0]) rfl (XS.iinc X2.here hx rfl (hb hby own_dB2_35) rfl (l' := #[rv ca, iv 1, rv ba, iv 1, iv nn, iv 0, iv x0]) rfl (XS.iinc X2.here hx rfl (hb hby own_dB2_38) rfl (l' := #[rv ca, iv 1, rv ba, iv 1, iv nn, iv 1, iv x0]) rfl k))) ?_
  refine own_p (g' := (mkF m 7 #[rv ca, iv 1, rv ba, iv 1, iv nn, iv 1, iv x0] [(.int nn), (.int 1)])) (fun _ k => XS.goto X2.here hx rfl (pc0 := 41) (pc' := 3) rfl (hb hby own_dB2_41) (by decide) (by decide) (XS.iload X2.here hx rfl (hb hby own_dB2_3) rfl (XS.iload X2.here hx rfl (hb hby own_dB2_5) rfl k))) ?_
  by_cases c3 : (1 : Int32) < nn
  · refine own_p (g' := (mkF m 12 #[rv ca, iv 1, rv ba, iv 1, iv nn, iv 1, iv x0] [(.int 1), (.ref ca)])) (fun _ k => XS.icmpNo X2.here hx rfl (hb hby own_dB2_7) rfl (tlt c3).2.1 (XS.aloadN X2.here hx rfl (hb hby own_dB2_10) rfl rfl (XS.iloadN X2.here hx rfl (hb hby own_dB2_11) rfl k))) ?_
    obtain ⟨c_4, Ar_4, q_4, S_4, N_4, H_4, G_4⟩ := id V_ca
    have hin_4 : ¬ ((1 : Int32) < 0 ∨ c_4.slots.size ≤ ((1 : Int32)).toNatClampNeg) := inb_of S_4 ⟨by decide, c3⟩
    have hat_4 : c_4.slots[((1 : Int32)).toNatClampNeg]? = some (.int x1) := H_4.at hin_4 rfl
    refine own_go (T' := T2) (g' := (mkF m 13 #[rv ca, iv 1, rv ba, iv 1, iv nn, iv 1, iv x0] [(.int x1)])) (fun _ k => X2.caload hx (j := (1 : Int32)) (v := (.int x1)) (by rw [e2]; exact Ar_4.1) (State.isArrayOf_alike hZ.alike Ar_4.2.1) Ar_4.2.2 hin_4 hat_4 (g := (mkF m 12 #[rv ca, iv 1, rv ba, iv 1, iv nn, iv 1, iv x0] [(.int 1), (.ref ca)])) rfl rfl (hb hby own_dB2_12) _ k) ?_
    refine own_p (g' := (mkF m 20 #[rv ca, iv 1, rv ba, iv 1, iv nn, iv 1, iv x1] [(.int 255), (.int x1)])) (fun _ k => XS.istore X2.here hx rfl (hb hby own_dB2_13) rfl (l' := #[rv ca, iv 1, rv ba, iv 1, iv nn, iv 1, iv x1]) rfl (XS.iload X2.here hx rfl (hb hby own_dB2_15) rfl (XS.sipush X2.here hx rfl (hb hby own_dB2_17) k))) ?_
    refine own_p (g' := (mkF m 28 #[rv ca, iv 1, rv ba, iv 1, iv nn, iv 1, iv x1] [(.int 1), (.ref ba)])) (fun _ k => XS.icmpYes X2.here hx rfl (pc0 := 20) (pc' := 26) rfl (hb hby own_dB2_20) rfl (flt hl_x1).2.2.2 (by decide) (by decide) (XS.aloadN X2.here hx rfl (hb hby own_dB2_26) rfl rfl (XS.iloadN X2.here hx rfl (hb hby own_dB2_27) rfl k))) ?_
    refine own_p (g' := (mkF m 31 #[rv ca, iv 1, rv ba, iv 1, iv nn, iv 1, iv x1] [(.int (x1.toInt8.toInt32)), (.int 1), (.ref ba)])) (fun _ k => XS.iload X2.here hx rfl (hb hby own_dB2_28) rfl (XS.i2b X2.here hx rfl (hb hby own_dB2_30) rfl k)) ?_
    obtain ⟨c_5, Ar_5, q_5, S_5, N_5, H_5, G_5⟩ := id V_ba
    have hin_5 : ¬ ((1 : Int32) < 0 ∨ c_5.slots.size ≤ ((1 : Int32)).toNatClampNeg) := inb_of S_5 ⟨by decide, c3⟩
    obtain ⟨T5, h5, X5, e5, W5, st5⟩ := stB X2 hx hZ e2 Ar_5 (j := (1 : Int32)) hin_5 (g := (mkF m 31 #[rv ca, iv 1, rv ba, iv 1, iv nn, iv 1, iv x1] [(.int (x1.toInt8.toInt32)), (.int 1), (.ref ba)])) rfl rfl (hb hby own_dB2_31)
    have V_ca := V_ca.other W5 ne_ca_ba
    have Zs := Nat.le_trans Zs (Keep.of_wr W5).1
    have V_ba := Arv.set Ar_5 q_5 S_5 N_5 H_5 G_5 (fits_nar_byte _) W5 1 rfl (Nat.le_of_ble_eq_true rfl)
    have KP := KP.wr W5 (Or.inl (by simp))
    have NF := Fr.snoc X5 NF g_ba
    refine own_go (T' := T5) (g' := (mkF m 32 #[rv ca, iv 1, rv ba, iv 1, iv nn, iv 1, iv x1] [])) (fun _ k => st5 _ k) ?_
    refine own_p (g' := (mkF m 41 #[rv ca, iv 2, rv ba, iv 2, iv nn, iv 2, iv x1] [])) (fun _ k => XS.iinc X5.here hx rfl (hb hby own_dB2_32) rfl (l' := #[rv ca, iv 2, rv ba, iv 1, iv nn, iv 1, iv x1]) rfl (XS.iinc X5.here hx rfl (hb hby own_dB2_35) rfl (l' := #[rv ca, iv 2, rv ba, iv 2, iv nn, iv 1, iv x1]) rfl (XS.iinc X5.here hx rfl (hb hby own_dB2_38) rfl (l' := #[rv ca, iv 2, rv ba, iv 2, iv nn, iv 2, iv x1]) rfl k))) ?_
    refine own_p (g' := (mkF m 7 #[rv ca, iv 2, rv ba, iv 2, iv nn, iv 2, iv x1] [(.int nn), (.int 2)])) (fun _ k => XS.goto X5.here hx rfl (pc0 := 41) (pc' := 3) rfl (hb hby own_dB2_41) (by decide) (by decide) (XS.iload X5.here hx rfl (hb hby own_dB2_3) rfl (XS.iload X5.here hx rfl (hb hby own_dB2_5) rfl k))) ?_
    by_cases c6 : (2 : Int32) < nn
    · refine own_p (g' := (mkF m 12 #[rv ca, iv 2, rv ba, iv 2, iv nn, iv 2, iv x1] [(.int 2), (.ref ca)])) (fun _ k => XS.icmpNo X5.here hx rfl (hb hby own_dB2_7) rfl (tlt c6).2.1 (XS.aloadN X5.here hx rfl (hb hby own_dB2_10) rfl rfl (XS.iloadN X5.here hx rfl (hb hby own_dB2_11) rfl k))) ?_
      obtain ⟨c_7, Ar_7, q_7, S_7, N_7, H_7, G_7⟩ := id V_ca
      have hin_7 : ¬ ((2 : Int32) < 0 ∨ c_7.slots.size ≤ ((2 : Int32)).toNatClampNeg) := inb_of S_7 ⟨by decide, c6⟩
      have hat_7 : c_7.slots[((2 : Int32)).toNatClampNeg]? = some (.int x2) := H_7.at hin_7 rfl
      refine own_go (T' := T5) (g' := (mkF m 13 #[rv ca, iv 2, rv ba, iv 2, iv nn, iv 2, iv x1] [(.int x2)])) (fun _ k => X5.caload hx (j := (2 : Int32)) (v := (.int x2)) (by rw [e5]; exact Ar_7.1) (State.isArrayOf_alike hZ.alike Ar_7.2.1) Ar_7.2.2 hin_7 hat_7 (g := (mkF m 12 #[rv ca, iv 2, rv ba, iv 2, iv nn, iv 2, iv x1] [(.int 2), (.ref ca)])) rfl rfl (hb hby own_dB2_12) _ k) ?_
      refine own_p (g' := (mkF m 20 #[rv ca, iv 2, rv ba, iv 2, iv nn, iv 2, iv x2] [(.int 255), (.int x2)])) (fun _ k => XS.istore X5.here hx rfl (hb hby own_dB2_13) rfl (l' := #[rv ca, iv 2, rv ba, iv 2, iv nn, iv 2, iv x2]) rfl (XS.iload X5.here hx rfl (hb hby own_dB2_15) rfl (XS.sipush X5.here hx rfl (hb hby own_dB2_17) k))) ?_
      refine own_p (g' := (mkF m 28 #[rv ca, iv 2, rv ba, iv 2, iv nn, iv 2, iv x2] [(.int 2), (.ref ba)])) (fun _ k => XS.icmpYes X5.here hx rfl (pc0 := 20) (pc' := 26) rfl (hb hby own_dB2_20) rfl (flt hl_x2).2.2.2 (by decide) (by decide) (XS.aloadN X5.here hx rfl (hb hby own_dB2_26) rfl rfl (XS.iloadN X5.here hx rfl (hb hby own_dB2_27) rfl k))) ?_
      refine own_p (g' := (mkF m 31 #[rv ca, iv 2, rv ba, iv 2, iv nn, iv 2, iv x2] [(.int (x2.toInt8.toInt32)), (.int 2), (.ref ba)])) (fun _ k => XS.iload X5.here hx rfl (hb hby own_dB2_28) rfl (XS.i2b X5.here hx rfl (hb hby own_dB2_30) rfl k)) ?_
      obtain ⟨c_8, Ar_8, q_8, S_8, N_8, H_8, G_8⟩ := id V_ba
      have hin_8 : ¬ ((2 : Int32) < 0 ∨ c_8.slots.size ≤ ((2 : Int32)).toNatClampNeg) := inb_of S_8 ⟨by decide, c6⟩
      obtain ⟨T8, h8, X8, e8, W8, st8⟩ := stB X5 hx hZ e5 Ar_8 (j := (2 : Int32)) hin_8 (g := (mkF m 31 #[rv ca, iv 2, rv ba, iv 2, iv nn, iv 2, iv x2] [(.int (x2.toInt8.toInt32)), (.int 2), (.ref ba)])) rfl rfl (hb hby own_dB2_31)
      have V_ca := V_ca.other W8 ne_ca_ba
      have Zs := Nat.le_trans Zs (Keep.of_wr W8).1
      have V_ba := Arv.set Ar_8 q_8 S_8 N_8 H_8 G_8 (fits_nar_byte _) W8 2 rfl (Nat.le_of_ble_eq_true rfl)
      have KP := KP.wr W8 (Or.inl (by simp))
      have NF := Fr.snoc X8 NF g_ba
      refine own_go (T' := T8) (g' := (mkF m 32 #[rv ca, iv 2, rv ba, iv 2, iv nn, iv 2, iv x2] [])) (fun _ k => st8 _ k) ?_
      refine own_p (g' := (mkF m 41 #[rv ca, iv 3, rv ba, iv 3, iv nn, iv 3, iv x2] [])) (fun _ k => XS.iinc X8.here hx rfl (hb hby own_dB2_32) rfl (l' := #[rv ca, iv 3, rv ba, iv 2, iv nn, iv 2, iv x2]) rfl (XS.iinc X8.here hx rfl (hb hby own_dB2_35) rfl (l' := #[rv ca, iv 3, rv ba, iv 3, iv nn, iv 2, iv x2]) rfl (XS.iinc X8.here hx rfl (hb hby own_dB2_38) rfl (l' := #[rv ca, iv 3, rv ba, iv 3, iv nn, iv 3, iv x2]) rfl k))) ?_
      refine own_p (g' := (mkF m 7 #[rv ca, iv 3, rv ba, iv 3, iv nn, iv 3, iv x2] [(.int nn), (.int 3)])) (fun _ k => XS.goto X8.here hx rfl (pc0 := 41) (pc' := 3) rfl (hb hby own_dB2_41) (by decide) (by decide) (XS.iload X8.here hx rfl (hb hby own_dB2_3) rfl (XS.iload X8.here hx rfl (hb hby own_dB2_5) rfl k))) ?_
      by_cases c9 : (3 : Int32) < nn
      · refine own_p (g' := (mkF m 12 #[rv ca, iv 3, rv ba, iv 3, iv nn, iv 3, iv x2] [(.int 3), (.ref ca)])) (fun _ k => XS.icmpNo X8.here hx rfl (hb hby own_dB2_7) rfl (tlt c9).2.1 (XS.aloadN X8.here hx rfl (hb hby own_dB2_10) rfl rfl (XS.iloadN X8.here hx rfl (hb hby own_dB2_11) rfl k))) ?_
        obtain ⟨c_10, Ar_10, q_10, S_10, N_10, H_10, G_10⟩ := id V_ca
        have hin_10 : ¬ ((3 : Int32) < 0 ∨ c_10.slots.size ≤ ((3 : Int32)).toNatClampNeg) := inb_of S_10 ⟨by decide, c9⟩
        have hat_10 : c_10.slots[((3 : Int32)).toNatClampNeg]? = some (.int x3) := H_10.at hin_10 rfl
        refine own_go (T' := T8) (g' := (mkF m 13 #[rv ca, iv 3, rv ba, iv 3, iv nn, iv 3, iv x2] [(.int x3)])) (fun _ k => X8.caload hx (j := (3 : Int32)) (v := (.int x3)) (by rw [e8]; exact Ar_10.1) (State.isArrayOf_alike hZ.alike Ar_10.2.1) Ar_10.2.2 hin_10 hat_10 (g := (mkF m 12 #[rv ca, iv 3, rv ba, iv 3, iv nn, iv 3, iv x2] [(.int 3), (.ref ca)])) rfl rfl (hb hby own_dB2_12) _ k) ?_
        refine own_p (g' := (mkF m 20 #[rv ca, iv 3, rv ba, iv 3, iv nn, iv 3, iv x3] [(.int 255), (.int x3)])) (fun _ k => XS.istore X8.here hx rfl (hb hby own_dB2_13) rfl (l' := #[rv ca, iv 3, rv ba, iv 3, iv nn, iv 3, iv x3]) rfl (XS.iload X8.here hx rfl (hb hby own_dB2_15) rfl (XS.sipush X8.here hx rfl (hb hby own_dB2_17) k))) ?_
        refine own_p (g' := (mkF m 28 #[rv ca, iv 3, rv ba, iv 3, iv nn, iv 3, iv x3] [(.int 3), (.ref ba)])) (fun _ k => XS.icmpYes X8.here hx rfl (pc0 := 20) (pc' := 26) rfl (hb hby own_dB2_20) rfl (flt hl_x3).2.2.2 (by decide) (by decide) (XS.aloadN X8.here hx rfl (hb hby own_dB2_26) rfl rfl (XS.iloadN X8.here hx rfl (hb hby own_dB2_27) rfl k))) ?_
        refine own_p (g' := (mkF m 31 #[rv ca, iv 3, rv ba, iv 3, iv nn, iv 3, iv x3] [(.int (x3.toInt8.toInt32)), (.int 3), (.ref ba)])) (fun _ k => XS.iload X8.here hx rfl (hb hby own_dB2_28) rfl (XS.i2b X8.here hx rfl (hb hby own_dB2_30) rfl k)) ?_
        obtain ⟨c_11, Ar_11, q_11, S_11, N_11, H_11, G_11⟩ := id V_ba
        have hin_11 : ¬ ((3 : Int32) < 0 ∨ c_11.slots.size ≤ ((3 : Int32)).toNatClampNeg) := inb_of S_11 ⟨by decide, c9⟩
        obtain ⟨T11, h11, X11, e11, W11, st11⟩ := stB X8 hx hZ e8 Ar_11 (j := (3 : Int32)) hin_11 (g := (mkF m 31 #[rv ca, iv 3, rv ba, iv 3, iv nn, iv 3, iv x3] [(.int (x3.toInt8.toInt32)), (.int 3), (.ref ba)])) rfl rfl (hb hby own_dB2_31)
        have V_ca := V_ca.other W11 ne_ca_ba
        have Zs := Nat.le_trans Zs (Keep.of_wr W11).1
        have V_ba := Arv.set Ar_11 q_11 S_11 N_11 H_11 G_11 (fits_nar_byte _) W11 3 rfl (Nat.le_of_ble_eq_true rfl)
        have KP := KP.wr W11 (Or.inl (by simp))
        have NF := Fr.snoc X11 NF g_ba
        refine own_go (T' := T11) (g' := (mkF m 32 #[rv ca, iv 3, rv ba, iv 3, iv nn, iv 3, iv x3] [])) (fun _ k => st11 _ k) ?_
        refine own_p (g' := (mkF m 41 #[rv ca, iv 4, rv ba, iv 4, iv nn, iv 4, iv x3] [])) (fun _ k => XS.iinc X11.here hx rfl (hb hby own_dB2_32) rfl (l' := #[rv ca, iv 4, rv ba, iv 3, iv nn, iv 3, iv x3]) rfl (XS.iinc X11.here hx rfl (hb hby own_dB2_35) rfl (l' := #[rv ca, iv 4, rv ba, iv 4, iv nn, iv 3, iv x3]) rfl (XS.iinc X11.here hx rfl (hb hby own_dB2_38) rfl (l' := #[rv ca, iv 4, rv ba, iv 4, iv nn, iv 4, iv x3]) rfl k))) ?_
        refine own_p (g' := (mkF m 7 #[rv ca, iv 4, rv ba, iv 4, iv nn, iv 4, iv x3] [(.int nn), (.int 4)])) (fun _ k => XS.goto X11.here hx rfl (pc0 := 41) (pc' := 3) rfl (hb hby own_dB2_41) (by decide) (by decide) (XS.iload X11.here hx rfl (hb hby own_dB2_3) rfl (XS.iload X11.here hx rfl (hb hby own_dB2_5) rfl k))) ?_
        by_cases c12 : (4 : Int32) < nn
        · refine own_p (g' := (mkF m 12 #[rv ca, iv 4, rv ba, iv 4, iv nn, iv 4, iv x3] [(.int 4), (.ref ca)])) (fun _ k => XS.icmpNo X11.here hx rfl (hb hby own_dB2_7) rfl (tlt c12).2.1 (XS.aloadN X11.here hx rfl (hb hby own_dB2_10) rfl rfl (XS.iloadN X11.here hx rfl (hb hby own_dB2_11) rfl k))) ?_
          obtain ⟨c_13, Ar_13, q_13, S_13, N_13, H_13, G_13⟩ := id V_ca
          have hin_13 : ¬ ((4 : Int32) < 0 ∨ c_13.slots.size ≤ ((4 : Int32)).toNatClampNeg) := inb_of S_13 ⟨by decide, c12⟩
          have hat_13 : c_13.slots[((4 : Int32)).toNatClampNeg]? = some (.int x4) := H_13.at hin_13 rfl
          refine own_go (T' := T11) (g' := (mkF m 13 #[rv ca, iv 4, rv ba, iv 4, iv nn, iv 4, iv x3] [(.int x4)])) (fun _ k => X11.caload hx (j := (4 : Int32)) (v := (.int x4)) (by rw [e11]; exact Ar_13.1) (State.isArrayOf_alike hZ.alike Ar_13.2.1) Ar_13.2.2 hin_13 hat_13 (g := (mkF m 12 #[rv ca, iv 4, rv ba, iv 4, iv nn, iv 4, iv x3] [(.int 4), (.ref ca)])) rfl rfl (hb hby own_dB2_12) _ k) ?_
          refine own_p (g' := (mkF m 20 #[rv ca, iv 4, rv ba, iv 4, iv nn, iv 4, iv x4] [(.int 255), (.int x4)])) (fun _ k => XS.istore X11.here hx rfl (hb hby own_dB2_13) rfl (l' := #[rv ca, iv 4, rv ba, iv 4, iv nn, iv 4, iv x4]) rfl (XS.iload X11.here hx rfl (hb hby own_dB2_15) rfl (XS.sipush X11.here hx rfl (hb hby own_dB2_17) k))) ?_
          refine own_p (g' := (mkF m 28 #[rv ca, iv 4, rv ba, iv 4, iv nn, iv 4, iv x4] [(.int 4), (.ref ba)])) (fun _ k => XS.icmpYes X11.here hx rfl (pc0 := 20) (pc' := 26) rfl (hb hby own_dB2_20) rfl (flt hl_x4).2.2.2 (by decide) (by decide) (XS.aloadN X11.here hx rfl (hb hby own_dB2_26) rfl rfl (XS.iloadN X11.here hx rfl (hb hby own_dB2_27) rfl k))) ?_
          refine own_p (g' := (mkF m 31 #[rv ca, iv 4, rv ba, iv 4, iv nn, iv 4, iv x4] [(.int (x4.toInt8.toInt32)), (.int 4), (.ref ba)])) (fun _ k => XS.iload X11.here hx rfl (hb hby own_dB2_28) rfl (XS.i2b X11.here hx rfl (hb hby own_dB2_30) rfl k)) ?_
          obtain ⟨c_14, Ar_14, q_14, S_14, N_14, H_14, G_14⟩ := id V_ba
          have hin_14 : ¬ ((4 : Int32) < 0 ∨ c_14.slots.size ≤ ((4 : Int32)).toNatClampNeg) := inb_of S_14 ⟨by decide, c12⟩
          obtain ⟨T14, h14, X14, e14, W14, st14⟩ := stB X11 hx hZ e11 Ar_14 (j := (4 : Int32)) hin_14 (g := (mkF m 31 #[rv ca, iv 4, rv ba, iv 4, iv nn, iv 4, iv x4] [(.int (x4.toInt8.toInt32)), (.int 4), (.ref ba)])) rfl rfl (hb hby own_dB2_31)
          have V_ca := V_ca.other W14 ne_ca_ba
          have Zs := Nat.le_trans Zs (Keep.of_wr W14).1
          have V_ba := Arv.set Ar_14 q_14 S_14 N_14 H_14 G_14 (fits_nar_byte _) W14 4 rfl (Nat.le_of_ble_eq_true rfl)
          have KP := KP.wr W14 (Or.inl (by simp))
          have NF := Fr.snoc X14 NF g_ba
          refine own_go (T' := T14) (g' := (mkF m 32 #[rv ca, iv 4, rv ba, iv 4, iv nn, iv 4, iv x4] [])) (fun _ k => st14 _ k) ?_
          refine own_p (g' := (mkF m 41 #[rv ca, iv 5, rv ba, iv 5, iv nn, iv 5, iv x4] [])) (fun _ k => XS.iinc X14.here hx rfl (hb hby own_dB2_32) rfl (l' := #[rv ca, iv 5, rv ba, iv 4, iv nn, iv 4, iv x4]) rfl (XS.iinc X14.here hx rfl (hb hby own_dB2_35) rfl (l' := #[rv ca, iv 5, rv ba, iv 5, iv nn, iv 4, iv x4]) rfl (XS.iinc X14.here hx rfl (hb hby own_dB2_38) rfl (l' := #[rv ca, iv 5, rv ba, iv 5, iv nn, iv 5, iv x4]) rfl k))) ?_
          refine own_p (g' := (mkF m 7 #[rv ca, iv 5, rv ba, iv 5, iv nn, iv 5, iv x4] [(.int nn), (.int 5)])) (fun _ k => XS.goto X14.here hx rfl (pc0 := 41) (pc' := 3) rfl (hb hby own_dB2_41) (by decide) (by decide) (XS.iload X14.here hx rfl (hb hby own_dB2_3) rfl (XS.iload X14.here hx rfl (hb hby own_dB2_5) rfl k))) ?_
          by_cases c15 : (5 : Int32) < nn
          · refine own_p (g' := (mkF m 12 #[rv ca, iv 5, rv ba, iv 5, iv nn, iv 5, iv x4] [(.int 5), (.ref ca)])) (fun _ k => XS.icmpNo X14.here hx rfl (hb hby own_dB2_7) rfl (tlt c15).2.1 (XS.aloadN X14.here hx rfl (hb hby own_dB2_10) rfl rfl (XS.iloadN X14.here hx rfl (hb hby own_dB2_11) rfl k))) ?_
            obtain ⟨c_16, Ar_16, q_16, S_16, N_16, H_16, G_16⟩ := id V_ca
            have hin_16 : ¬ ((5 : Int32) < 0 ∨ c_16.slots.size ≤ ((5 : Int32)).toNatClampNeg) := inb_of S_16 ⟨by decide, c15⟩
            have hat_16 : c_16.slots[((5 : Int32)).toNatClampNeg]? = some (.int x5) := H_16.at hin_16 rfl
            refine own_go (T' := T14) (g' := (mkF m 13 #[rv ca, iv 5, rv ba, iv 5, iv nn, iv 5, iv x4] [(.int x5)])) (fun _ k => X14.caload hx (j := (5 : Int32)) (v := (.int x5)) (by rw [e14]; exact Ar_16.1) (State.isArrayOf_alike hZ.alike Ar_16.2.1) Ar_16.2.2 hin_16 hat_16 (g := (mkF m 12 #[rv ca, iv 5, rv ba, iv 5, iv nn, iv 5, iv x4] [(.int 5), (.ref ca)])) rfl rfl (hb hby own_dB2_12) _ k) ?_
            refine own_p (g' := (mkF m 20 #[rv ca, iv 5, rv ba, iv 5, iv nn, iv 5, iv x5] [(.int 255), (.int x5)])) (fun _ k => XS.istore X14.here hx rfl (hb hby own_dB2_13) rfl (l' := #[rv ca, iv 5, rv ba, iv 5, iv nn, iv 5, iv x5]) rfl (XS.iload X14.here hx rfl (hb hby own_dB2_15) rfl (XS.sipush X14.here hx rfl (hb hby own_dB2_17) k))) ?_
            refine own_p (g' := (mkF m 28 #[rv ca, iv 5, rv ba, iv 5, iv nn, iv 5, iv x5] [(.int 5), (.ref ba)])) (fun _ k => XS.icmpYes X14.here hx rfl (pc0 := 20) (pc' := 26) rfl (hb hby own_dB2_20) rfl (flt hl_x5).2.2.2 (by decide) (by decide) (XS.aloadN X14.here hx rfl (hb hby own_dB2_26) rfl rfl (XS.iloadN X14.here hx rfl (hb hby own_dB2_27) rfl k))) ?_
            refine own_p (g' := (mkF m 31 #[rv ca, iv 5, rv ba, iv 5, iv nn, iv 5, iv x5] [(.int (x5.toInt8.toInt32)), (.int 5), (.ref ba)])) (fun _ k => XS.iload X14.here hx rfl (hb hby own_dB2_28) rfl (XS.i2b X14.here hx rfl (hb hby own_dB2_30) rfl k)) ?_
            obtain ⟨c_17, Ar_17, q_17, S_17, N_17, H_17, G_17⟩ := id V_ba
            have hin_17 : ¬ ((5 : Int32) < 0 ∨ c_17.slots.size ≤ ((5 : Int32)).toNatClampNeg) := inb_of S_17 ⟨by decide, c15⟩
            obtain ⟨T17, h17, X17, e17, W17, st17⟩ := stB X14 hx hZ e14 Ar_17 (j := (5 : Int32)) hin_17 (g := (mkF m 31 #[rv ca, iv 5, rv ba, iv 5, iv nn, iv 5, iv x5] [(.int (x5.toInt8.toInt32)), (.int 5), (.ref ba)])) rfl rfl (hb hby own_dB2_31)
            have V_ca := V_ca.other W17 ne_ca_ba
            have Zs := Nat.le_trans Zs (Keep.of_wr W17).1
            have V_ba := Arv.set Ar_17 q_17 S_17 N_17 H_17 G_17 (fits_nar_byte _) W17 5 rfl (Nat.le_of_ble_eq_true rfl)
            have KP := KP.wr W17 (Or.inl (by simp))
            have NF := Fr.snoc X17 NF g_ba
            refine own_go (T' := T17) (g' := (mkF m 32 #[rv ca, iv 5, rv ba, iv 5, iv nn, iv 5, iv x5] [])) (fun _ k => st17 _ k) ?_
            refine own_p (g' := (mkF m 41 #[rv ca, iv 6, rv ba, iv 6, iv nn, iv 6, iv x5] [])) (fun _ k => XS.iinc X17.here hx rfl (hb hby own_dB2_32) rfl (l' := #[rv ca, iv 6, rv ba, iv 5, iv nn, iv 5, iv x5]) rfl (XS.iinc X17.here hx rfl (hb hby own_dB2_35) rfl (l' := #[rv ca, iv 6, rv ba, iv 6, iv nn, iv 5, iv x5]) rfl (XS.iinc X17.here hx rfl (hb hby own_dB2_38) rfl (l' := #[rv ca, iv 6, rv ba, iv 6, iv nn, iv 6, iv x5]) rfl k))) ?_
            refine own_p (g' := (mkF m 7 #[rv ca, iv 6, rv ba, iv 6, iv nn, iv 6, iv x5] [(.int nn), (.int 6)])) (fun _ k => XS.goto X17.here hx rfl (pc0 := 41) (pc' := 3) rfl (hb hby own_dB2_41) (by decide) (by decide) (XS.iload X17.here hx rfl (hb hby own_dB2_3) rfl (XS.iload X17.here hx rfl (hb hby own_dB2_5) rfl k))) ?_
            refine own_p (g' := (mkF m 46 #[rv ca, iv 6, rv ba, iv 6, iv nn, iv 6, iv x5] [(.int nn)])) (fun _ k => XS.icmpYes X17.here hx rfl (pc0 := 7) (pc' := 44) rfl (hb hby own_dB2_7) rfl (flt hn6).2.1 (by decide) (by decide) (XS.iload X17.here hx rfl (hb hby own_dB2_44) rfl k)) ?_
            refine own_ret X17 Bd.notSynchronized (some (.int nn)) (fun h => by rw [Bd.returns] at h; cases h) (fun fs hr => retI X17 hx Bd.returns (hb hby own_dB2_46) hr) ?_ (by decide) (by decide)
            show (own_Q3 Z ca ba nn kc kb x0 x1 x2 x3 x4 x5 h0 n0) (some (.int nn)) T17.heap _
            rw [e17]
            have q5 : Arv Z h17 ba kb .byte nn [(.int (x0.toInt8.toInt32.toInt8.toInt32)), (.int (x1.toInt8.toInt32.toInt8.toInt32)), (.int (x2.toInt8.toInt32.toInt8.toInt32)), (.int (x3.toInt8.toInt32.toInt8.toInt32)), (.int (x4.toInt8.toInt32.toInt8.toInt32)), (.int (x5.toInt8.toInt32.toInt8.toInt32))] (.int 0) := own_cut (vs := [(.int (x0.toInt8.toInt32.toInt8.toInt32)), (.int (x1.toInt8.toInt32.toInt8.toInt32)), (.int (x2.toInt8.toInt32.toInt8.toInt32)), (.int (x3.toInt8.toInt32.toInt8.toInt32)), (.int (x4.toInt8.toInt32.toInt8.toInt32)), (.int (x5.toInt8.toInt32.toInt8.toInt32))]) (ws := []) (own_len (K := 6) (by decide) hn6) V_ba
            simp only [own_dgb hd_x0, own_dgb hd_x1, own_dgb hd_x2, own_dgb hd_x3, own_dgb hd_x4, own_dgb hd_x5] at q5
            exact ⟨rfl, NF, KP, own_pad (ws := []) (own_len (K := 6) (by decide) hn6) q5⟩
          · refine own_p (g' := (mkF m 46 #[rv ca, iv 5, rv ba, iv 5, iv nn, iv 5, iv x4] [(.int nn)])) (fun _ k => XS.icmpYes X14.here hx rfl (pc0 := 7) (pc' := 44) rfl (hb hby own_dB2_7) rfl (flt c15).2.1 (by decide) (by decide) (XS.iload X14.here hx rfl (hb hby own_dB2_44) rfl k)) ?_
            refine own_ret X14 Bd.notSynchronized (some (.int nn)) (fun h => by rw [Bd.returns] at h; cases h) (fun fs hr => retI X14 hx Bd.returns (hb hby own_dB2_46) hr) ?_ (by decide) (by decide)
            show (own_Q3 Z ca ba nn kc kb x0 x1 x2 x3 x4 x5 h0 n0) (some (.int nn)) T14.heap _
            rw [e14]
            have q5 : Arv Z h14 ba kb .byte nn [(.int (x0.toInt8.toInt32.toInt8.toInt32)), (.int (x1.toInt8.toInt32.toInt8.toInt32)), (.int (x2.toInt8.toInt32.toInt8.toInt32)), (.int (x3.toInt8.toInt32.toInt8.toInt32)), (.int (x4.toInt8.toInt32.toInt8.toInt32))] (.int 0) := own_cut (vs := [(.int (x0.toInt8.toInt32.toInt8.toInt32)), (.int (x1.toInt8.toInt32.toInt8.toInt32)), (.int (x2.toInt8.toInt32.toInt8.toInt32)), (.int (x3.toInt8.toInt32.toInt8.toInt32)), (.int (x4.toInt8.toInt32.toInt8.toInt32))]) (ws := [(.int 0)]) (own_len (K := 5) (by decide) c15) V_ba
            simp only [own_dgb hd_x0, own_dgb hd_x1, own_dgb hd_x2, own_dgb hd_x3, own_dgb hd_x4] at q5
            exact ⟨rfl, NF, KP, own_pad (ws := [(.int x5)]) (own_len (K := 5) (by decide) c15) q5⟩
        · refine own_p (g' := (mkF m 46 #[rv ca, iv 4, rv ba, iv 4, iv nn, iv 4, iv x3] [(.int nn)])) (fun _ k => XS.icmpYes X11.here hx rfl (pc0 := 7) (pc' := 44) rfl (hb hby own_dB2_7) rfl (flt c12).2.1 (by decide) (by decide) (XS.iload X11.here hx rfl (hb hby own_dB2_44) rfl k)) ?_
          refine own_ret X11 Bd.notSynchronized (some (.int nn)) (fun h => by rw [Bd.returns] at h; cases h) (fun fs hr => retI X11 hx Bd.returns (hb hby own_dB2_46) hr) ?_ (by decide) (by decide)
          show (own_Q3 Z ca ba nn kc kb x0 x1 x2 x3 x4 x5 h0 n0) (some (.int nn)) T11.heap _
          rw [e11]
          have q5 : Arv Z h11 ba kb .byte nn [(.int (x0.toInt8.toInt32.toInt8.toInt32)), (.int (x1.toInt8.toInt32.toInt8.toInt32)), (.int (x2.toInt8.toInt32.toInt8.toInt32)), (.int (x3.toInt8.toInt32.toInt8.toInt32))] (.int 0) := own_cut (vs := [(.int (x0.toInt8.toInt32.toInt8.toInt32)), (.int (x1.toInt8.toInt32.toInt8.toInt32)), (.int (x2.toInt8.toInt32.toInt8.toInt32)), (.int (x3.toInt8.toInt32.toInt8.toInt32))]) (ws := [(.int 0), (.int 0)]) (own_len (K := 4) (by decide) c12) V_ba
          simp only [own_dgb hd_x0, own_dgb hd_x1, own_dgb hd_x2, own_dgb hd_x3] at q5
          exact ⟨rfl, NF, KP, own_pad (ws := [(.int x4), (.int x5)]) (own_len (K := 4) (by decide) c12) q5⟩
      · refine own_p (g' := (mkF m 46 #[rv ca, iv 3, rv ba, iv 3, iv nn, iv 3, iv x2] [(.int nn)])) (fun _ k => XS.icmpYes X8.here hx rfl (pc0 := 7) (pc' := 44) rfl (hb hby own_dB2_7) rfl (flt c9).2.1 (by decide) (by decide) (XS.iload X8.here hx rfl (hb hby own_dB2_44) rfl k)) ?_
        refine own_ret X8 Bd.notSynchronized (some (.int nn)) (fun h => by rw [Bd.returns] at h; cases h) (fun fs hr => retI X8 hx Bd.returns (hb hby own_dB2_46) hr) ?_ (by decide) (by decide)
        show (own_Q3 Z ca ba nn kc kb x0 x1 x2 x3 x4 x5 h0 n0) (some (.int nn)) T8.heap _
        rw [e8]
        have q5 : Arv Z h8 ba kb .byte nn [(.int (x0.toInt8.toInt32.toInt8.toInt32)), (.int (x1.toInt8.toInt32.toInt8.toInt32)), (.int (x2.toInt8.toInt32.toInt8.toInt32))] (.int 0) := own_cut (vs := [(.int (x0.toInt8.toInt32.toInt8.toInt32)), (.int (x1.toInt8.toInt32.toInt8.toInt32)), (.int (x2.toInt8.toInt32.toInt8.toInt32))]) (ws := [(.int 0), (.int 0), (.int 0)]) (own_len (K := 3) (by decide) c9) V_ba
        simp only [own_dgb hd_x0, own_dgb hd_x1, own_dgb hd_x2] at q5
        exact ⟨rfl, NF, KP, own_pad (ws := [(.int x3), (.int x4), (.int x5)]) (own_len (K := 3) (by decide) c9) q5⟩
    · refine own_p (g' := (mkF m 46 #[rv ca, iv 2, rv ba, iv 2, iv nn, iv 2, iv x1] [(.int nn)])) (fun _ k => XS.icmpYes X5.here hx rfl (pc0 := 7) (pc' := 44) rfl (hb hby own_dB2_7) rfl (flt c6).2.1 (by decide) (by decide) (XS.iload X5.here hx rfl (hb hby own_dB2_44) rfl k)) ?_
      refine own_ret X5 Bd.notSynchronized (some (.int nn)) (fun h => by rw [Bd.returns] at h; cases h) (fun fs hr => retI X5 hx Bd.returns (hb hby own_dB2_46) hr) ?_ (by decide) (by decide)
      show (own_Q3 Z ca ba nn kc kb x0 x1 x2 x3 x4 x5 h0 n0) (some (.int nn)) T5.heap _
      rw [e5]
      have q5 : Arv Z h5 ba kb .byte nn [(.int (x0.toInt8.toInt32.toInt8.toInt32)), (.int (x1.toInt8.toInt32.toInt8.toInt32))] (.int 0) := own_cut (vs := [(.int (x0.toInt8.toInt32.toInt8.toInt32)), (.int (x1.toInt8.toInt32.toInt8.toInt32))]) (ws := [(.int 0), (.int 0), (.int 0), (.int 0)]) (own_len (K := 2) (by decide) c6) V_ba
      simp only [own_dgb hd_x0, own_dgb hd_x1] at q5
      exact ⟨rfl, NF, KP, own_pad (ws := [(.int x2), (.int x3), (.int x4), (.int x5)]) (own_len (K := 2) (by decide) c6) q5⟩
  · refine own_p (g' := (mkF m 46 #[rv ca, iv 1, rv ba, iv 1, iv nn, iv 1, iv x0] [(.int nn)])) (fun _ k => XS.icmpYes X2.here hx rfl (pc0 := 7) (pc' := 44) rfl (hb hby own_dB2_7) rfl (flt c3).2.1 (by decide) (by decide) (XS.iload X2.here hx rfl (hb hby own_dB2_44) rfl k)) ?_
    refine own_ret X2 Bd.notSynchronized (some (.int nn)) (fun h => by rw [Bd.returns] at h; cases h) (fun fs hr => retI X2 hx Bd.returns (hb hby own_dB2_46) hr) ?_ (by decide) (by decide)
    show (own_Q3 Z ca ba nn kc kb x0 x1 x2 x3 x4 x5 h0 n0) (some (.int nn)) T2.heap _
    rw [e2]
    have q5 : Arv Z h2 ba kb .byte nn [(.int (x0.toInt8.toInt32.toInt8.toInt32))] (.int 0) := own_cut (vs := [(.int (x0.toInt8.toInt32.toInt8.toInt32))]) (ws := [(.int 0), (.int 0), (.int 0), (.int 0), (.int 0)]) (own_len (K := 1) (by decide) c3) V_ba
    simp only [own_dgb hd_x0] at q5
    exact ⟨rfl, NF, KP, own_pad (ws := [(.int x1), (.int x2), (.int x3), (.int x4), (.int x5)]) (own_len (K := 1) (by decide) c3) q5⟩
theorem own_dB3_0 : decode jdk_52_method_16_code 0 = .ok (.iload_n 2, 1) := by decide +kernel
theorem own_dB3_1 : decode jdk_52_method_16_code 1 = .ok (.newarray .byte, 2) := by decide +kernel
theorem own_dB3_3 : decode jdk_52_method_16_code 3 = .ok (.astore_n 3, 1) := by decide +kernel
theorem own_dB3_4 : decode jdk_52_method_16_code 4 = .ok (.aload_n 0, 1) := by decide +kernel
theorem own_dB3_5 : decode jdk_52_method_16_code 5 = .ok (.iload_n 1, 1) := by decide +kernel
theorem own_dB3_6 : decode jdk_52_method_16_code 6 = .ok (.aload_n 3, 1) := by decide +kernel
theorem own_dB3_7 : decode jdk_52_method_16_code 7 = .ok (.iconst 0, 1) := by decide +kernel
theorem own_dB3_8 : decode jdk_52_method_16_code 8 = .ok (.iload_n 2, 1) := by decide +kernel
theorem own_dB3_9 : decode jdk_52_method_16_code 9 = .ok (.invokestatic 115, 3) := by decide +kernel
theorem own_dB3_12 : decode jdk_52_method_16_code 12 = .ok (.istore 4, 2) := by decide +kernel
theorem own_dB3_14 : decode jdk_52_method_16_code 14 = .ok (.iload 4, 2) := by decide +kernel
theorem own_dB3_16 : decode jdk_52_method_16_code 16 = .ok (.iload_n 2, 1) := by decide +kernel
theorem own_dB3_17 : decode jdk_52_method_16_code 17 = .ok (.if_icmp .eq 40, 3) := by decide +kernel
theorem own_dB3_57 : decode jdk_52_method_16_code 57 = .ok (.aload_n 3, 1) := by decide +kernel
theorem own_dB3_58 : decode jdk_52_method_16_code 58 = .ok (.areturn, 1) := by decide +kernel
theorem own_pn4 : plainName "java/lang/StringUTF16" = true := by first | (simp [plainName, overriddenIn]; done) | decide +kernel
theorem own_pd4_0 : parseMethodDescriptor "([CI[BII)I" = some ⟨[(.array .char), .int, (.array .byte), .int, .int], some .int⟩ := by decide +kernel
theorem own_ef4 (m : MethodId) (ca : Addr) (nn : Int32) : entryFrame m #[(.ref ca), (.int 0), (.int nn)] 6 = mkF m 0 #[.val (.ref ca), .val (.int 0), .val (.int nn), .unset, .unset, .unset] [] := by first | (simp [entryFrame, mkF, argsToLocals, Value.category]; done) | rfl
def own_Q4 (Z : State) (ca : Addr) (nn : Int32) (kc : ClassId) (x0 : Int32) (x1 : Int32) (x2 : Int32) (x3 : Int32) (x4 : Int32) (x5 : Int32) (h0 : Heap) (n0 : Nat) (v : Option Value) (h : Heap) (L : List Loc) : Prop := Fr n0 L ∧ Keep h0 h [] ∧ (∃ (ba : Addr) (kb : ClassId), v = some (.ref ba) ∧ h0.size ≤ ba ∧ n0 ≤ ba ∧ Arv Z h ba kb .byte nn [(.int x0), (.int x1), (.int x2), (.int x3), (.int x4), (.int x5)] (.int 0))
set_option maxRecDepth 65536 in
set_option maxHeartbeats 40000000 in
theorem own_rm4 (l : Launch) (Z : State) (a0 : Array Value) (hw : ∀ d ∈ tables_1, d.before a0 Z = true) (ws : List Jvm.Cond) (ca : Addr) (nn : Int32) (kc : ClassId) (x0 : Int32) (x1 : Int32) (x2 : Int32) (x3 : Int32) (x4 : Int32) (x5 : Int32) (h0 : Heap) (n0 : Nat) (Zs : n0 ≤ h0.size) (hn0 : (0 : Int32) < nn) (hn6 : ¬ ((6 : Int32) < nn)) (V_ca : Arv Z h0 ca kc .char nn [(.int x0), (.int x1), (.int x2), (.int x3), (.int x4), (.int x5)] (.int 0)) (hd_x0 : own_Dg x0) (hd_x1 : own_Dg x1) (hd_x2 : own_Dg x2) (hd_x3 : own_Dg x3) (hd_x4 : own_Dg x4) (hd_x5 : own_Dg x5) :
    MetFree l own_y3 (head1 (Jvm.Cond.code own_y3 jdk_52_method_16_code 6 (some (.array .byte)) :: ws) ({ frames := 1, cells := 1, slots := 6, locals := 18 } : Room)) (fun aA_ U => aA_ = #[(.ref ca), (.int 0), (.int nn)] ∧ Z.Warmed39 U.vm ∧ U.heap = h0) (fun _ _ _ _ _ => True) (fun _ U o U' => ∃ v L, o = .returned v ∧ own_Q4 Z ca nn kc x0 x1 x2 x3 x4 x5 h0 n0 v U'.heap L ∧ FrameEnd U o U' L ({ frames := 1, cells := 1, slots := 6, locals := 18 } : Room).cells ({ frames := 1, cells := 1, slots := 6, locals := 18 } : Room).slots) := by
  refine MetFree.of_bodySF (plainFor_of_name own_pn4) hisR ?_
  intro p e s m args below meth c s₁ Bd hml0 hP hK
  obtain ⟨rfl, hZ, hh⟩ := hP
  have hx := Bd.exec
  have hby := Bd.bytes
  have hml : c.maxLocals = 6 := hml0
  have hown : s.vm.findClass "java/lang/StringUTF16" = some m.cls := findClass_of_methodNamed Bd.named
  have hnm := (name_of_methodNamed Bd.named Bd.method).1
  have X0 : Stand p l e ({ frames := 1, cells := 1, slots := 6, locals := 18 } : Room) s m #[(.ref ca), (.int 0), (.int nn)] below meth c s₁ [] 0 0 := Stand.of_body Bd
  have e0 : s₁.heap = h0 := by rw [← hh, Bd.state]; rfl
  have NF := Fr.nil n0
  rw [own_ef4 m ca nn]
  show own_Dn p e below s (own_Q4 Z ca nn kc x0 x1 x2 x3 x4 x5 h0 n0) 1 6 s₁ (mkF m 0 #[.val (.ref ca), .val (.int 0), .val (.int nn), .unset, .unset, .unset] [])
  have KP := Keep.refl h0 []
  have hnn := own_pos0 hn0
  have hc6 := own_len (K := 6) (by decide) hn6
  refine own_p (g' := (mkF m 1 #[rv ca, iv 0, iv nn, oU, oU, oU] [(.int nn)])) (fun _ k => XS.iloadN X0.here hx rfl (hb hby own_dB3_0) rfl k) ?_
  obtain ⟨T1, h1, k1, X1, e1, E1, A1, st1⟩ := newP X0 hx hZ (own_W hw 26 rfl) e0 (g := (mkF m 1 #[rv ca, iv 0, iv nn, oU, oU, oU] [(.int nn)])) rfl (hb hby own_dB3_1) rfl hnn (cap := 6) hc6 (by decide) (by decide) (by decide)
  obtain ⟨b1, g1⟩ : ∃ z, z = h0.size := ⟨_, rfl⟩
  rw [← g1] at A1 st1
  have ne_ca_b1 : ca ≠ b1 := Nat.ne_of_lt (Nat.lt_of_lt_of_le V_ca.lt (Nat.le_of_eq g1.symm))
  have g_b1 : n0 ≤ b1 := Nat.le_trans Zs (Nat.le_of_eq g1.symm)
  have sz_b1 : h0.size ≤ b1 := Nat.le_trans KP.1 (Nat.le_of_eq g1.symm)
  have V_ca := V_ca.ext E1
  have KP := KP.ext E1
  have Zs := Nat.le_trans Zs E1.1
  have V_b1 : Arv Z h1 b1 k1 .byte nn [] (.int 0) := Arv.new A1 hnn
  refine own_go (T' := T1) (g' := (mkF m 3 #[rv ca, iv 0, iv nn, oU, oU, oU] [(.ref b1)])) (fun _ k => st1 _ k) ?_
  have V_b1 := V_b1.pad (pad_rep [] (.int 0) 6)
  refine own_p (g' := (mkF m 6 #[rv ca, iv 0, iv nn, rv b1, oU, oU] [(.int 0), (.ref ca)])) (fun _ k => XS.astoreN X1.here hx rfl (hb hby own_dB3_3) rfl rfl (l' := #[rv ca, iv 0, iv nn, rv b1, oU, oU]) rfl (XS.aloadN X1.here hx rfl (hb hby own_dB3_4) rfl rfl (XS.iloadN X1.here hx rfl (hb hby own_dB3_5) rfl k))) ?_
  refine own_p (g' := (mkF m 9 #[rv ca, iv 0, iv nn, rv b1, oU, oU] [(.int nn), (.int 0), (.ref b1), (.int 0), (.ref ca)])) (fun _ k => XS.aloadN X1.here hx rfl (hb hby own_dB3_6) rfl rfl (XS.iconst X1.here hx rfl (hb hby own_dB3_7) (XS.iloadN X1.here hx rfl (hb hby own_dB3_8) rfl k))) ?_
  obtain ⟨_, _, ⟨T2, L2, k2, n2⟩, -, X2, ⟨Lc2, hQ2, l2, y2, z2⟩, st2⟩ := Jvm.LawKit.callS X1 hx (y := own_y2) hown (mvT hZ (own_W hw 27 rfl)) (mvT hZ (own_W hw 28 rfl)) (mvT hZ (own_W hw 24 rfl)) (mvT hZ (own_W hw 29 rfl)) (by decide) (backOf (W := 0) (own_rm3 l Z a0 hw [] ca b1 nn kc k1 x0 x1 x2 x3 x4 x5 h1 n0 Zs hn0 hn6 V_ca V_b1 g_b1 ne_ca_b1 hd_x0 hd_x1 hd_x2 hd_x3 hd_x4 hd_x5) hZ (own_W hw 29 rfl) (own_W hw 24 rfl) (by decide) (by decide)) (g := (mkF m 9 #[rv ca, iv 0, iv nn, rv b1, oU, oU] [(.int nn), (.int 0), (.ref b1), (.int 0), (.ref ca)])) rfl (by rw [hml]; rfl) (argsL := [(.ref ca), (.int 0), (.ref b1), (.int 0), (.int nn)]) (rest := []) (lenOf own_pd4_0 rfl) rfl (Nat.le_refl _) (hb hby own_dB3_9) (fun _ _ => ⟨rfl, e1, (by decide : 1 + 0 ≤ _), (by decide : 6 + 0 ≤ _)⟩)
  dsimp only [Pt.U, Pt.locs, Pt.cells, Pt.slots] at X2 l2 y2 z2 st2 hQ2
  subst l2 y2 z2
  obtain ⟨rfl, NQ2, K2, V_b1⟩ := hQ2
  have NF := Fr.app NF NQ2
  have V_ca := V_ca.keep K2 (ninS ne_ca_b1 nin0)
  have Zs := Nat.le_trans Zs K2.1
  have KP := KP.trans K2 ((allS (Or.inr sz_b1) all0))
  refine own_go (T' := T2) (g' := (mkF m 12 #[rv ca, iv 0, iv nn, rv b1, oU, oU] [(.int nn)])) (fun _ k => st2 _ k) ?_
  refine own_p (g' := (mkF m 17 #[rv ca, iv 0, iv nn, rv b1, iv nn, oU] [(.int nn), (.int nn)])) (fun _ k => XS.istore X2.here hx rfl (hb hby own_dB3_12) rfl (l' := #[rv ca, iv 0, iv nn, rv b1, iv nn, oU]) rfl (XS.iload X2.here hx rfl (hb hby own_dB3_14) rfl (XS.iloadN X2.here hx rfl (hb hby own_dB3_16) rfl k))) ?_
  refine own_p (g' := (mkF m 58 #[rv ca, iv 0, iv nn, rv b1, iv nn, oU] [(.ref b1)])) (fun _ k => XS.icmpYes X2.here hx rfl (pc0 := 17) (pc' := 57) rfl (hb hby own_dB3_17) rfl (teq (rfl : nn = nn)).1 (by decide) (by decide) (XS.aloadN X2.here hx rfl (hb hby own_dB3_57) rfl rfl k)) ?_
  refine own_ret X2 Bd.notSynchronized (some (.ref b1)) (fun h => by rw [Bd.returns] at h; cases h) (fun fs hr => retOut X2 hx (t := (.array .byte)) Bd.returns rfl (Or.inr (Or.inr (Or.inr (Or.inr ⟨rfl, rfl, rfl⟩)))) (hb hby own_dB3_58) hr) ?_ (by decide) (by decide)
  show (own_Q4 Z ca nn kc x0 x1 x2 x3 x4 x5 h0 n0) (some (.ref b1)) T2.heap _
  exact ⟨NF, KP, b1, k1, rfl, sz_b1, g_b1, V_b1⟩
theorem own_dB4_0 : decode jdk_52_method_15_code 0 = .ok (.iload_n 1, 1) := by decide +kernel
theorem own_dB4_1 : decode jdk_52_method_15_code 1 = .ok (.aload_n 0, 1) := by decide +kernel
theorem own_dB4_2 : decode jdk_52_method_15_code 2 = .ok (.arraylength, 1) := by decide +kernel
theorem own_dB4_3 : decode jdk_52_method_15_code 3 = .ok (.isub, 1) := by decide +kernel
theorem own_dB4_4 : decode jdk_52_method_15_code 4 = .ok (.bipush 31, 2) := by decide +kernel
theorem own_dB4_6 : decode jdk_52_method_15_code 6 = .ok (.iushr, 1) := by decide +kernel
theorem own_dB4_7 : decode jdk_52_method_15_code 7 = .ok (.i2b, 1) := by decide +kernel
theorem own_dB4_8 : decode jdk_52_method_15_code 8 = .ok (.ireturn, 1) := by decide +kernel
theorem own_pn5 : plainName "java/lang/StringUTF16" = true := by first | (simp [plainName, overriddenIn]; done) | decide +kernel
theorem own_ef5 (m : MethodId) (ba : Addr) (nn : Int32) : entryFrame m #[(.ref ba), (.int nn)] 2 = mkF m 0 #[.val (.ref ba), .val (.int nn)] [] := by first | (simp [entryFrame, mkF, argsToLocals, Value.category]; done) | rfl
def own_Q5 (Z : State) (ba : Addr) (nn : Int32) (kb : ClassId) (vs : List Value) (h0 : Heap) (n0 : Nat) (v : Option Value) (h : Heap) (L : List Loc) : Prop := v = some (.int 0) ∧ Fr n0 L ∧ h = h0
set_option maxRecDepth 65536 in
set_option maxHeartbeats 40000000 in
theorem own_rm5 (l : Launch) (Z : State) (a0 : Array Value) (hw : ∀ d ∈ tables_1, d.before a0 Z = true) (ws : List Jvm.Cond) (ba : Addr) (nn : Int32) (kb : ClassId) (vs : List Value) (h0 : Heap) (n0 : Nat) (Zs : n0 ≤ h0.size) (V_ba : Arv Z h0 ba kb .byte nn vs (.int 0)) :
    MetFree l own_y4 (head1 (Jvm.Cond.code own_y4 jdk_52_method_15_code 2 (some .byte) :: ws) ({ frames := 0, cells := 0, slots := 0, locals := 0 } : Room)) (fun aA_ U => aA_ = #[(.ref ba), (.int nn)] ∧ Z.Warmed39 U.vm ∧ U.heap = h0) (fun _ _ _ _ _ => True) (fun _ U o U' => ∃ v L, o = .returned v ∧ own_Q5 Z ba nn kb vs h0 n0 v U'.heap L ∧ FrameEnd U o U' L ({ frames := 0, cells := 0, slots := 0, locals := 0 } : Room).cells ({ frames := 0, cells := 0, slots := 0, locals := 0 } : Room).slots) := by
  refine MetFree.of_bodySF (plainFor_of_name own_pn5) hisR ?_
  intro p e s m args below meth c s₁ Bd hml0 hP hK
  obtain ⟨rfl, hZ, hh⟩ := hP
  have hx := Bd.exec
  have hby := Bd.bytes
  have hml : c.maxLocals = 2 := hml0
  have hown : s.vm.findClass "java/lang/StringUTF16" = some m.cls := findClass_of_methodNamed Bd.named
  have hnm := (name_of_methodNamed Bd.named Bd.method).1
  have X0 : Stand p l e ({ frames := 0, cells := 0, slots := 0, locals := 0 } : Room) s m #[(.ref ba), (.int nn)] below meth c s₁ [] 0 0 := Stand.of_body Bd
  have e0 : s₁.heap = h0 := by rw [← hh, Bd.state]; rfl
  have NF := Fr.nil n0
  rw [own_ef5 m ba nn]
  show own_Dn p e below s (own_Q5 Z ba nn kb vs h0 n0) 0 0 s₁ (mkF m 0 #[.val (.ref ba), .val (.int nn)] [])
  refine own_p (g' := (mkF m 2 #[rv ba, iv nn] [(.ref ba), (.int nn)])) (fun _ k => XS.iloadN X0.here hx rfl (hb hby own_dB4_0) rfl (XS.aloadN X0.here hx rfl (hb hby own_dB4_1) rfl rfl k)) ?_
  obtain ⟨c_1, Ar_1, q_1, S_1, N_1, H_1, G_1⟩ := id V_ba
  refine own_go (T' := s₁) (g' := (mkF m 3 #[rv ba, iv nn] [(.int nn), (.int nn)])) (fun _ k => X0.arraylength hx (by rw [e0]; exact Ar_1.1) (State.isArrayOf_alike hZ.alike Ar_1.2.1) (g := (mkF m 2 #[rv ba, iv nn] [(.ref ba), (.int nn)])) rfl rfl (hb hby own_dB4_2) _ (by rw [len_of S_1 N_1]; exact k)) ?_
  refine own_p (g' := (mkF m 7 #[rv ba, iv nn] [(.int (((nn - nn).toUInt32 >>> ((31 : Int32) &&& 31).toUInt32).toInt32))])) (fun _ k => XS.isub X0.here hx rfl (hb hby own_dB4_3) rfl (XS.bipush X0.here hx rfl (hb hby own_dB4_4) (XS.iushr X0.here hx rfl (hb hby own_dB4_6) rfl k))) ?_
  refine own_p (g' := (mkF m 8 #[rv ba, iv nn] [(.int ((((nn - nn).toUInt32 >>> ((31 : Int32) &&& 31).toUInt32).toInt32).toInt8.toInt32))])) (fun _ k => XS.i2b X0.here hx rfl (hb hby own_dB4_7) rfl k) ?_
  refine own_ret X0 Bd.notSynchronized (some (.int (nar .byte ((((nn - nn).toUInt32 >>> ((31 : Int32) &&& 31).toUInt32).toInt32).toInt8.toInt32)))) (fun h => by rw [Bd.returns] at h; cases h) (fun fs hr => retN X0 hx (t := .byte) Bd.returns (by simp) (hb hby own_dB4_8) hr) ?_ (by decide) (by decide)
  show (own_Q5 Z ba nn kb vs h0 n0) (some (.int (nar .byte ((((nn - nn).toUInt32 >>> ((31 : Int32) &&& 31).toUInt32).toInt32).toInt8.toInt32)))) s₁.heap _
  rw [e0]
  exact ⟨congrArg (fun z => some (Value.int z)) (own_cod nn), NF, rfl⟩
theorem own_dB5_0 : decode jdk_42_method_149_code 0 = .ok (.aload_n 0, 1) := by decide +kernel
theorem own_dB5_1 : decode jdk_42_method_149_code 1 = .ok (.invokespecial 1, 3) := by decide +kernel
theorem own_dB5_4 : decode jdk_42_method_149_code 4 = .ok (.iload_n 3, 1) := by decide +kernel
theorem own_dB5_5 : decode jdk_42_method_149_code 5 = .ok (.ifCond .ne 22, 3) := by decide +kernel
theorem own_dB5_27 : decode jdk_42_method_149_code 27 = .ok (.getstatic 38, 3) := by decide +kernel
theorem own_dB5_30 : decode jdk_42_method_149_code 30 = .ok (.ifCond .eq 28, 3) := by decide +kernel
theorem own_dB5_33 : decode jdk_42_method_149_code 33 = .ok (.aload_n 1, 1) := by decide +kernel
theorem own_dB5_34 : decode jdk_42_method_149_code 34 = .ok (.iload_n 2, 1) := by decide +kernel
theorem own_dB5_35 : decode jdk_42_method_149_code 35 = .ok (.iload_n 3, 1) := by decide +kernel
theorem own_dB5_36 : decode jdk_42_method_149_code 36 = .ok (.invokestatic 177, 3) := by decide +kernel
theorem own_dB5_39 : decode jdk_42_method_149_code 39 = .ok (.astore 5, 2) := by decide +kernel
theorem own_dB5_41 : decode jdk_42_method_149_code 41 = .ok (.aload_n 0, 1) := by decide +kernel
theorem own_dB5_42 : decode jdk_42_method_149_code 42 = .ok (.aload 5, 2) := by decide +kernel
theorem own_dB5_44 : decode jdk_42_method_149_code 44 = .ok (.iload_n 3, 1) := by decide +kernel
theorem own_dB5_45 : decode jdk_42_method_149_code 45 = .ok (.invokestatic 47, 3) := by decide +kernel
theorem own_dB5_48 : decode jdk_42_method_149_code 48 = .ok (.putfield 15, 3) := by decide +kernel
theorem own_dB5_51 : decode jdk_42_method_149_code 51 = .ok (.aload_n 0, 1) := by decide +kernel
theorem own_dB5_52 : decode jdk_42_method_149_code 52 = .ok (.aload 5, 2) := by decide +kernel
theorem own_dB5_54 : decode jdk_42_method_149_code 54 = .ok (.putfield 9, 3) := by decide +kernel
theorem own_dB5_57 : decode jdk_42_method_149_code 57 = .ok (.return_, 1) := by decide +kernel
theorem own_pn6 : plainName "java/lang/String" = true := by first | (simp [plainName, overriddenIn]; done) | decide +kernel
theorem own_pd6_0 : parseMethodDescriptor "([CII)[B" = some ⟨[(.array .char), .int, .int], some (.array .byte)⟩ := by decide +kernel
theorem own_pd6_1 : parseMethodDescriptor "([BI)B" = some ⟨[(.array .byte), .int], some .byte⟩ := by decide +kernel
theorem own_ef6 (m : MethodId) (a : Addr) (ca : Addr) (nn : Int32) : entryFrame m #[(.ref a), (.ref ca), (.int 0), (.int nn), .null] 6 = mkF m 0 #[.val (.ref a), .val (.ref ca), .val (.int 0), .val (.int nn), .val .null, .unset] [] := by first | (simp [entryFrame, mkF, argsToLocals, Value.category]; done) | rfl
def own_Q6 (Z : State) (a : Addr) (ca : Addr) (nn : Int32) (cs : Int32) (fo : Value) (kc : ClassId) (x0 : Int32) (x1 : Int32) (x2 : Int32) (x3 : Int32) (x4 : Int32) (x5 : Int32) (h0 : Heap) (n0 : Nat) (v : Option Value) (h : Heap) (L : List Loc) : Prop := v = none ∧ Fr n0 L ∧ Keep h0 h [a] ∧ Exa Z h a "java/lang/String" ∧ (∃ (ba : Addr) (kb : ClassId), h0.size ≤ ba ∧ n0 ≤ ba ∧ Arv Z h ba kb .byte nn [(.int x0), (.int x1), (.int x2), (.int x3), (.int x4), (.int x5)] (.int 0) ∧ Fld Z h a "java/lang/String" "value" "[B" (.ref ba) ∧ Fld Z h a "java/lang/String" "coder" "B" (.int 0))
set_option maxRecDepth 65536 in
set_option maxHeartbeats 40000000 in
theorem own_rm6 (l : Launch) (Z : State) (a0 : Array Value) (hw : ∀ d ∈ tables_1, d.before a0 Z = true) (ws : List Jvm.Cond) (a : Addr) (ca : Addr) (nn : Int32) (cs : Int32) (fo : Value) (kc : ClassId) (x0 : Int32) (x1 : Int32) (x2 : Int32) (x3 : Int32) (x4 : Int32) (x5 : Int32) (h0 : Heap) (n0 : Nat) (Zs : n0 ≤ h0.size) (OL : Old Z n0 h0) (S_cs : Sta Z Z.heap "java/lang/String" "COMPACT_STRINGS" "Z" (.int cs)) (hcs : ¬ (cs = (0 : Int32))) (S_fo : Sta Z Z.heap "jdk/internal/util/Preconditions" "SIOOBE_FORMATTER" "Ljava/util/function/BiFunction;" fo) (hfo : fo.isRef = true) (hn0 : (0 : Int32) < nn) (hn6 : ¬ ((6 : Int32) < nn)) (F_a_value : Fld Z h0 a "java/lang/String" "value" "[B" .null) (F_a_coder : Fld Z h0 a "java/lang/String" "coder" "B" (.int 0)) (E_a : Exa Z h0 a "java/lang/String") (g_a : n0 ≤ a) (V_ca : Arv Z h0 ca kc .char nn [(.int x0), (.int x1), (.int x2), (.int x3), (.int x4), (.int x5)] (.int 0)) (ne_a_ca : a ≠ ca) (hd_x0 : own_Dg x0) (hd_x1 : own_Dg x1) (hd_x2 : own_Dg x2) (hd_x3 : own_Dg x3) (hd_x4 : own_Dg x4) (hd_x5 : own_Dg x5) :
    MetFree l own_y5 (head1 (Jvm.Cond.code own_y5 jdk_42_method_149_code 6 none :: ws) ({ frames := 2, cells := 1, slots := 6, locals := 35 } : Room)) (fun aA_ U => aA_ = #[(.ref a), (.ref ca), (.int 0), (.int nn), .null] ∧ Z.Warmed39 U.vm ∧ U.heap = h0) (fun _ _ _ _ _ => True) (fun _ U o U' => ∃ v L, o = .returned v ∧ own_Q6 Z a ca nn cs fo kc x0 x1 x2 x3 x4 x5 h0 n0 v U'.heap L ∧ FrameEnd U o U' L ({ frames := 2, cells := 1, slots := 6, locals := 35 } : Room).cells ({ frames := 2, cells := 1, slots := 6, locals := 35 } : Room).slots) := by
  refine MetFree.of_bodySF (plainFor_of_name own_pn6) hisR ?_
  intro p e s m args below meth c s₁ Bd hml0 hP hK
  obtain ⟨rfl, hZ, hh⟩ := hP
  have hx := Bd.exec
  have hby := Bd.bytes
  have hml : c.maxLocals = 6 := hml0
  have hown : s.vm.findClass "java/lang/String" = some m.cls := findClass_of_methodNamed Bd.named
  have hnm := (name_of_methodNamed Bd.named Bd.method).1
  have X0 : Stand p l e ({ frames := 2, cells := 1, slots := 6, locals := 35 } : Room) s m #[(.ref a), (.ref ca), (.int 0), (.int nn), .null] below meth c s₁ [] 0 0 := Stand.of_body Bd
  have e0 : s₁.heap = h0 := by rw [← hh, Bd.state]; rfl
  have NF := Fr.nil n0
  rw [own_ef6 m a ca nn]
  show own_Dn p e below s (own_Q6 Z a ca nn cs fo kc x0 x1 x2 x3 x4 x5 h0 n0) 1 6 s₁ (mkF m 0 #[.val (.ref a), .val (.ref ca), .val (.int 0), .val (.int nn), .val .null, .unset] [])
  have KP := Keep.refl h0 [a]
  have hz0 := own_nz0 hn0
  refine own_p (g' := (mkF m 1 #[rv a, rv ca, iv 0, iv nn, Slot.val .null, oU] [(.ref a)])) (fun _ k => XS.aloadN X0.here hx rfl (hb hby own_dB5_0) rfl rfl k) ?_
  obtain ⟨T1, X1, e1, st1⟩ := initO X0 hx hZ hown (own_W hw 18 rfl) (own_W hw 19 rfl) (own_W hw 20 rfl) e0 (g := (mkF m 1 #[rv a, rv ca, iv 0, iv nn, Slot.val .null, oU] [(.ref a)])) rfl (by rw [hml]; rfl) rfl (hb hby own_dB5_1) (by decide) (W := 0) (Nat.le_refl _) (by decide)
  refine own_go (T' := T1) (g' := (mkF m 4 #[rv a, rv ca, iv 0, iv nn, Slot.val .null, oU] [])) (fun _ k => st1 _ k) ?_
  refine own_p (g' := (mkF m 27 #[rv a, rv ca, iv 0, iv nn, Slot.val .null, oU] [])) (fun _ k => XS.iloadN X1.here hx rfl (hb hby own_dB5_4) rfl (XS.ifYes X1.here hx rfl (pc0 := 5) (pc' := 27) rfl (hb hby own_dB5_5) rfl ((if0 _ _).trans (feq hz0).2) (by decide) (by decide) k)) ?_
  obtain ⟨T2, X2, e2, st2⟩ := getS2 X1 hx hZ hown (host := "") (Or.inl (own_W hw 21 rfl)) Via.refl e1 (S_cs.ext OL.2) (g := (mkF m 27 #[rv a, rv ca, iv 0, iv nn, Slot.val .null, oU] [])) rfl (hb hby own_dB5_27)
  refine own_go (T' := T2) (g' := (mkF m 30 #[rv a, rv ca, iv 0, iv nn, Slot.val .null, oU] [(.int cs)])) (fun _ k => st2 _ k) ?_
  refine own_p (g' := (mkF m 35 #[rv a, rv ca, iv 0, iv nn, Slot.val .null, oU] [(.int 0), (.ref ca)])) (fun _ k => XS.ifNo X2.here hx rfl (hb hby own_dB5_30) rfl ((if0 _ _).trans (feq hcs).1) (XS.aloadN X2.here hx rfl (hb hby own_dB5_33) rfl rfl (XS.iloadN X2.here hx rfl (hb hby own_dB5_34) rfl k))) ?_
  refine own_p (g' := (mkF m 36 #[rv a, rv ca, iv 0, iv nn, Slot.val .null, oU] [(.int nn), (.int 0), (.ref ca)])) (fun _ k => XS.iloadN X2.here hx rfl (hb hby own_dB5_35) rfl k) ?_
  have lt_a := E_a.lt
  have lt_ca := V_ca.lt
  have KPo := KP
  obtain ⟨_, _, ⟨T3, L3, k3, n3⟩, -, X3, ⟨Lc3, hQ3, l3, y3, z3⟩, st3⟩ := Jvm.LawKit.callS X2 hx (y := own_y3) hown (mvT hZ (own_W hw 22 rfl)) (mvT hZ (own_W hw 23 rfl)) (mvT hZ (own_W hw 24 rfl)) (mvT hZ (own_W hw 25 rfl)) (by decide) (backOf (W := 0) (own_rm4 l Z a0 hw [] ca nn kc x0 x1 x2 x3 x4 x5 h0 n0 Zs hn0 hn6 V_ca hd_x0 hd_x1 hd_x2 hd_x3 hd_x4 hd_x5) hZ (own_W hw 25 rfl) (own_W hw 24 rfl) (by decide) (by decide)) (g := (mkF m 36 #[rv a, rv ca, iv 0, iv nn, Slot.val .null, oU] [(.int nn), (.int 0), (.ref ca)])) rfl (by rw [hml]; rfl) (argsL := [(.ref ca), (.int 0), (.int nn)]) (rest := []) (lenOf own_pd6_0 rfl) rfl (Nat.le_refl _) (hb hby own_dB5_36) (fun _ _ => ⟨rfl, e2, (by decide : 0 + 1 ≤ _), (by decide : 0 + 6 ≤ _)⟩)
  dsimp only [Pt.U, Pt.locs, Pt.cells, Pt.slots] at X3 l3 y3 z3 st3 hQ3
  subst l3 y3 z3
  obtain ⟨NQ3, K3, ba3, kb3, rfl, ge_ba3, g_ba3, V_ba3⟩ := hQ3
  have NF := Fr.app NF NQ3
  have E_a := E_a.keep K3
  have F_a_value := F_a_value.keep K3 nin0
  have F_a_coder := F_a_coder.keep K3 nin0
  have V_ca := V_ca.keep K3 nin0
  have OL := OL.keep K3 all0
  have Zs := Nat.le_trans Zs K3.1
  have KP := KP.trans K3 (all0)
  have ne_a_ba3 : a ≠ ba3 := Nat.ne_of_lt (Nat.lt_of_lt_of_le lt_a ge_ba3)
  have ne_ca_ba3 : ca ≠ ba3 := Nat.ne_of_lt (Nat.lt_of_lt_of_le lt_ca ge_ba3)
  have sz_ba3 : h0.size ≤ ba3 := Nat.le_trans KPo.1 ge_ba3
  refine own_go (T' := T3) (g' := (mkF m 39 #[rv a, rv ca, iv 0, iv nn, Slot.val .null, oU] [(.ref ba3)])) (fun _ k => st3 _ k) ?_
  refine own_p (g' := (mkF m 44 #[rv a, rv ca, iv 0, iv nn, Slot.val .null, rv ba3] [(.ref ba3), (.ref a)])) (fun _ k => XS.astore X3.here hx rfl (hb hby own_dB5_39) rfl rfl (l' := #[rv a, rv ca, iv 0, iv nn, Slot.val .null, rv ba3]) rfl (XS.aloadN X3.here hx rfl (hb hby own_dB5_41) rfl rfl (XS.aload X3.here hx rfl (hb hby own_dB5_42) rfl rfl k))) ?_
  refine own_p (g' := (mkF m 45 #[rv a, rv ca, iv 0, iv nn, Slot.val .null, rv ba3] [(.int nn), (.ref ba3), (.ref a)])) (fun _ k => XS.iloadN X3.here hx rfl (hb hby own_dB5_44) rfl k) ?_
  obtain ⟨_, _, ⟨T4, L4, k4, n4⟩, -, X4, ⟨Lc4, hQ4, l4, y4, z4⟩, st4⟩ := Jvm.LawKit.callS X3 hx (y := own_y4) hown (mvT hZ (own_W hw 30 rfl)) (mvT hZ (own_W hw 31 rfl)) (mvT hZ (own_W hw 24 rfl)) (mvT hZ (own_W hw 32 rfl)) (by decide) (backOf (W := 1) (own_rm5 l Z a0 hw [] ba3 nn kb3 [(.int x0), (.int x1), (.int x2), (.int x3), (.int x4), (.int x5)] T3.heap n0 Zs V_ba3) hZ (own_W hw 32 rfl) (own_W hw 24 rfl) (by decide) (by decide)) (g := (mkF m 45 #[rv a, rv ca, iv 0, iv nn, Slot.val .null, rv ba3] [(.int nn), (.ref ba3), (.ref a)])) rfl (by rw [hml]; rfl) (argsL := [(.ref ba3), (.int nn)]) (rest := [(.ref a)]) (lenOf own_pd6_1 rfl) rfl (Nat.le_refl _) (hb hby own_dB5_45) (fun _ _ => ⟨rfl, rfl, (by decide : 1 + 0 ≤ _), (by decide : 6 + 0 ≤ _)⟩)
  dsimp only [Pt.U, Pt.locs, Pt.cells, Pt.slots] at X4 l4 y4 z4 st4 hQ4
  subst l4 y4 z4
  obtain ⟨rfl, NQ4, eq4⟩ := hQ4
  have NF := Fr.app NF NQ4
  refine own_go (T' := T4) (g' := (mkF m 48 #[rv a, rv ca, iv 0, iv nn, Slot.val .null, rv ba3] [(.int 0), (.ref a)])) (fun _ k => st4 _ k) ?_
  obtain ⟨T5, h5, X5, e5, W5, st5⟩ := putFN X4 hx hZ hown (own_W hw 33 rfl) Via.refl eq4 F_a_coder E_a (Or.inr ⟨(own_W hw 34 rfl), rfl, hnm⟩) (own_W hw 9 rfl) (ty := .byte) (v' := (.int 0)) (by decide) rfl (by decide) (g := (mkF m 48 #[rv a, rv ca, iv 0, iv nn, Slot.val .null, rv ba3] [(.int 0), (.ref a)])) rfl rfl (hb hby own_dB5_48)
  have E_a := E_a.wr W5
  have F_a_value := F_a_value.other W5 (Or.inr (slot_ne (Or.inr (own_W hw 36 rfl)) (Or.inr (own_W hw 34 rfl)) (by decide) (t := (.array .byte)) (t' := .byte) (by decide) (by decide)))
  have V_ca := V_ca.other W5 (Ne.symm ne_a_ca)
  have OL := OL.wr W5 g_a
  have V_ba3 := V_ba3.other W5 (Ne.symm ne_a_ba3)
  have Zs := Nat.le_trans Zs (Keep.of_wr W5).1
  have F_a_coder := F_a_coder.same W5
  have KP := KP.wr W5 (Or.inl (by simp))
  have NF := Fr.snoc X5 NF g_a
  refine own_go (T' := T5) (g' := (mkF m 51 #[rv a, rv ca, iv 0, iv nn, Slot.val .null, rv ba3] [])) (fun _ k => st5 _ k) ?_
  refine own_p (g' := (mkF m 54 #[rv a, rv ca, iv 0, iv nn, Slot.val .null, rv ba3] [(.ref ba3), (.ref a)])) (fun _ k => XS.aloadN X5.here hx rfl (hb hby own_dB5_51) rfl rfl (XS.aload X5.here hx rfl (hb hby own_dB5_52) rfl rfl k)) ?_
  obtain ⟨T6, h6, X6, e6, W6, st6⟩ := putF X5 hx hZ hown (host := "") (Or.inl (own_W hw 35 rfl)) Via.refl e5 F_a_value E_a (Or.inr ⟨(own_W hw 36 rfl), rfl, hnm⟩) (own_W hw 9 rfl) (ty := (.array .byte)) (by decide) rfl rfl (g := (mkF m 54 #[rv a, rv ca, iv 0, iv nn, Slot.val .null, rv ba3] [(.ref ba3), (.ref a)])) rfl rfl (hb hby own_dB5_54)
  have E_a := E_a.wr W6
  have V_ca := V_ca.other W6 (Ne.symm ne_a_ca)
  have OL := OL.wr W6 g_a
  have V_ba3 := V_ba3.other W6 (Ne.symm ne_a_ba3)
  have F_a_coder := F_a_coder.other W6 (Or.inr (slot_ne (Or.inr (own_W hw 34 rfl)) (Or.inr (own_W hw 36 rfl)) (by decide) (t := .byte) (t' := (.array .byte)) (by decide) (by decide)))
  have Zs := Nat.le_trans Zs (Keep.of_wr W6).1
  have F_a_value := F_a_value.same W6
  have KP := KP.wr W6 (Or.inl (by simp))
  have NF := Fr.snoc X6 NF g_a
  refine own_go (T' := T6) (g' := (mkF m 57 #[rv a, rv ca, iv 0, iv nn, Slot.val .null, rv ba3] [])) (fun _ k => st6 _ k) ?_
  refine own_ret X6 Bd.notSynchronized none (fun _ => rfl) (fun fs hr => X6.returnOut hx Bd.returns (hb hby own_dB5_57) hr) ?_ (by decide) (by decide)
  show (own_Q6 Z a ca nn cs fo kc x0 x1 x2 x3 x4 x5 h0 n0) none T6.heap _
  rw [e6]
  exact ⟨rfl, NF, KP, E_a, ba3, kb3, sz_ba3, g_ba3, V_ba3, F_a_value, F_a_coder⟩
theorem own_dB6_0 : decode jdk_42_method_3_code 0 = .ok (.aload_n 0, 1) := by decide +kernel
theorem own_dB6_1 : decode jdk_42_method_3_code 1 = .ok (.aload_n 1, 1) := by decide +kernel
theorem own_dB6_2 : decode jdk_42_method_3_code 2 = .ok (.iconst 0, 1) := by decide +kernel
theorem own_dB6_3 : decode jdk_42_method_3_code 3 = .ok (.aload_n 1, 1) := by decide +kernel
theorem own_dB6_4 : decode jdk_42_method_3_code 4 = .ok (.arraylength, 1) := by decide +kernel
theorem own_dB6_5 : decode jdk_42_method_3_code 5 = .ok (.aconst_null, 1) := by decide +kernel
theorem own_dB6_6 : decode jdk_42_method_3_code 6 = .ok (.invokespecial 27, 3) := by decide +kernel
theorem own_dB6_9 : decode jdk_42_method_3_code 9 = .ok (.return_, 1) := by decide +kernel
theorem own_pn7 : plainName "java/lang/String" = true := by first | (simp [plainName, overriddenIn]; done) | decide +kernel
theorem own_pd7_0 : parseMethodDescriptor "([CIILjava/lang/Void;)V" = some ⟨[(.array .char), .int, .int, (.object "java/lang/Void")], none⟩ := by decide +kernel
theorem own_ef7 (m : MethodId) (a : Addr) (ca : Addr) : entryFrame m #[(.ref a), (.ref ca)] 2 = mkF m 0 #[.val (.ref a), .val (.ref ca)] [] := by first | (simp [entryFrame, mkF, argsToLocals, Value.category]; done) | rfl
def own_Q7 (Z : State) (a : Addr) (ca : Addr) (cs : Int32) (fo : Value) (kc : ClassId) (nn : Int32) (x0 : Int32) (x1 : Int32) (x2 : Int32) (x3 : Int32) (x4 : Int32) (x5 : Int32) (h0 : Heap) (n0 : Nat) (v : Option Value) (h : Heap) (L : List Loc) : Prop := v = none ∧ Fr n0 L ∧ Keep h0 h [a] ∧ Exa Z h a "java/lang/String" ∧ (∃ (ba : Addr) (kb : ClassId), h0.size ≤ ba ∧ n0 ≤ ba ∧ Arv Z h ba kb .byte nn [(.int x0), (.int x1), (.int x2), (.int x3), (.int x4), (.int x5)] (.int 0) ∧ Fld Z h a "java/lang/String" "value" "[B" (.ref ba) ∧ Fld Z h a "java/lang/String" "coder" "B" (.int 0))
set_option maxRecDepth 65536 in
set_option maxHeartbeats 40000000 in
theorem own_rm7 (l : Launch) (Z : State) (a0 : Array Value) (hw : ∀ d ∈ tables_1, d.before a0 Z = true) (ws : List Jvm.Cond) (a : Addr) (ca : Addr) (cs : Int32) (fo : Value) (kc : ClassId) (nn : Int32) (x0 : Int32) (x1 : Int32) (x2 : Int32) (x3 : Int32) (x4 : Int32) (x5 : Int32) (h0 : Heap) (n0 : Nat) (Zs : n0 ≤ h0.size) (OL : Old Z n0 h0) (S_cs : Sta Z Z.heap "java/lang/String" "COMPACT_STRINGS" "Z" (.int cs)) (hcs : ¬ (cs = (0 : Int32))) (S_fo : Sta Z Z.heap "jdk/internal/util/Preconditions" "SIOOBE_FORMATTER" "Ljava/util/function/BiFunction;" fo) (hfo : fo.isRef = true) (hn0 : (0 : Int32) < nn) (hn6 : ¬ ((6 : Int32) < nn)) (F_a_value : Fld Z h0 a "java/lang/String" "value" "[B" .null) (F_a_coder : Fld Z h0 a "java/lang/String" "coder" "B" (.int 0)) (E_a : Exa Z h0 a "java/lang/String") (g_a : n0 ≤ a) (V_ca : Arv Z h0 ca kc .char nn [(.int x0), (.int x1), (.int x2), (.int x3), (.int x4), (.int x5)] (.int 0)) (ne_a_ca : a ≠ ca) (hd_x0 : own_Dg x0) (hd_x1 : own_Dg x1) (hd_x2 : own_Dg x2) (hd_x3 : own_Dg x3) (hd_x4 : own_Dg x4) (hd_x5 : own_Dg x5) :
    MetFree l own_y6 (head1 (Jvm.Cond.code own_y6 jdk_42_method_3_code 2 none :: ws) ({ frames := 3, cells := 1, slots := 6, locals := 52 } : Room)) (fun aA_ U => aA_ = #[(.ref a), (.ref ca)] ∧ Z.Warmed39 U.vm ∧ U.heap = h0) (fun _ _ _ _ _ => True) (fun _ U o U' => ∃ v L, o = .returned v ∧ own_Q7 Z a ca cs fo kc nn x0 x1 x2 x3 x4 x5 h0 n0 v U'.heap L ∧ FrameEnd U o U' L ({ frames := 3, cells := 1, slots := 6, locals := 52 } : Room).cells ({ frames := 3, cells := 1, slots := 6, locals := 52 } : Room).slots) := by
  refine MetFree.of_bodySF (plainFor_of_name own_pn7) hisR ?_
  intro p e s m args below meth c s₁ Bd hml0 hP hK
  obtain ⟨rfl, hZ, hh⟩ := hP
  have hx := Bd.exec
  have hby := Bd.bytes
  have hml : c.maxLocals = 2 := hml0
  have hown : s.vm.findClass "java/lang/String" = some m.cls := findClass_of_methodNamed Bd.named
  have hnm := (name_of_methodNamed Bd.named Bd.method).1
  have X0 : Stand p l e ({ frames := 3, cells := 1, slots := 6, locals := 52 } : Room) s m #[(.ref a), (.ref ca)] below meth c s₁ [] 0 0 := Stand.of_body Bd
  have e0 : s₁.heap = h0 := by rw [← hh, Bd.state]; rfl
  have NF := Fr.nil n0
  rw [own_ef7 m a ca]
  show own_Dn p e below s (own_Q7 Z a ca cs fo kc nn x0 x1 x2 x3 x4 x5 h0 n0) 1 6 s₁ (mkF m 0 #[.val (.ref a), .val (.ref ca)] [])
  have KP := Keep.refl h0 [a]
  have hz0 := own_nz0 hn0
  refine own_p (g' := (mkF m 3 #[rv a, rv ca] [(.int 0), (.ref ca), (.ref a)])) (fun _ k => XS.aloadN X0.here hx rfl (hb hby own_dB6_0) rfl rfl (XS.aloadN X0.here hx rfl (hb hby own_dB6_1) rfl rfl (XS.iconst X0.here hx rfl (hb hby own_dB6_2) k))) ?_
  refine own_p (g' := (mkF m 4 #[rv a, rv ca] [(.ref ca), (.int 0), (.ref ca), (.ref a)])) (fun _ k => XS.aloadN X0.here hx rfl (hb hby own_dB6_3) rfl rfl k) ?_
  obtain ⟨c_1, Ar_1, q_1, S_1, N_1, H_1, G_1⟩ := id V_ca
  refine own_go (T' := s₁) (g' := (mkF m 5 #[rv a, rv ca] [(.int nn), (.int 0), (.ref ca), (.ref a)])) (fun _ k => X0.arraylength hx (by rw [e0]; exact Ar_1.1) (State.isArrayOf_alike hZ.alike Ar_1.2.1) (g := (mkF m 4 #[rv a, rv ca] [(.ref ca), (.int 0), (.ref ca), (.ref a)])) rfl rfl (hb hby own_dB6_4) _ (by rw [len_of S_1 N_1]; exact k)) ?_
  refine own_p (g' := (mkF m 6 #[rv a, rv ca] [.null, (.int nn), (.int 0), (.ref ca), (.ref a)])) (fun _ k => XS.aconstNull X0.here hx rfl (hb hby own_dB6_5) k) ?_
  have lt_a := E_a.lt
  have lt_ca := V_ca.lt
  have KPo := KP
  obtain ⟨_, _, ⟨T2, L2, k2, n2⟩, -, X2, ⟨Lc2, hQ2, l2, y2, z2⟩, st2⟩ := X0.specialBack hx (y := own_y5) rfl hown (mvT hZ (own_W hw 14 rfl)) (mvT hZ (own_W hw 15 rfl)) (mvT hZ (own_W hw 17 rfl)) (by decide) (backOf (W := 0) (own_rm6 l Z a0 hw [] a ca nn cs fo kc x0 x1 x2 x3 x4 x5 h0 n0 Zs OL S_cs hcs S_fo hfo hn0 hn6 F_a_value F_a_coder E_a g_a V_ca ne_a_ca hd_x0 hd_x1 hd_x2 hd_x3 hd_x4 hd_x5) hZ (own_W hw 17 rfl) (own_W hw 10 rfl) (by decide) (by decide)) (g := (mkF m 6 #[rv a, rv ca] [.null, (.int nn), (.int 0), (.ref ca), (.ref a)])) rfl (by rw [hml]; rfl) (Steps.refl _) (a := a) (argsL := [(.ref ca), (.int 0), (.int nn), .null]) (rest := []) (lenOf own_pd7_0 rfl) rfl (Nat.le_refl _) (hb hby own_dB6_6) (fun _ _ => ⟨rfl, e0, (by decide : 0 + 1 ≤ _), (by decide : 0 + 6 ≤ _)⟩)
  dsimp only [Pt.U, Pt.locs, Pt.cells, Pt.slots] at X2 l2 y2 z2 st2 hQ2
  subst l2 y2 z2
  obtain ⟨rfl, NQ2, K2, E_a, ba2, kb2, ge_ba2, g_ba2, V_ba2, F_a_value, F_a_coder⟩ := hQ2
  have NF := Fr.app NF NQ2
  have V_ca := V_ca.keep K2 (ninS (Ne.symm ne_a_ca) nin0)
  have OL := OL.keep K2 (allS g_a all0)
  have Zs := Nat.le_trans Zs K2.1
  have KP := KP.trans K2 ((allS (Or.inl (by simp)) all0))
  have ne_a_ba2 : a ≠ ba2 := Nat.ne_of_lt (Nat.lt_of_lt_of_le lt_a ge_ba2)
  have ne_ca_ba2 : ca ≠ ba2 := Nat.ne_of_lt (Nat.lt_of_lt_of_le lt_ca ge_ba2)
  have sz_ba2 : h0.size ≤ ba2 := Nat.le_trans KPo.1 ge_ba2
  refine own_go (T' := T2) (g' := (mkF m 9 #[rv a, rv ca] [])) (fun _ k => st2.trans k) ?_
  refine own_ret X2 Bd.notSynchronized none (fun _ => rfl) (fun fs hr => X2.returnOut hx Bd.returns (hb hby own_dB6_9) hr) ?_ (by decide) (by decide)
  show (own_Q7 Z a ca cs fo kc nn x0 x1 x2 x3 x4 x5 h0 n0) none T2.heap _
  exact ⟨rfl, NF, KP, E_a, ba2, kb2, sz_ba2, g_ba2, V_ba2, F_a_value, F_a_coder⟩
theorem own_dB7_0 : decode jdk_42_method_152_code 0 = .ok (.getstatic 38, 3) := by decide +kernel
theorem own_dB7_3 : decode jdk_42_method_152_code 3 = .ok (.ifCond .eq 10, 3) := by decide +kernel
theorem own_dB7_6 : decode jdk_42_method_152_code 6 = .ok (.aload_n 0, 1) := by decide +kernel
theorem own_dB7_7 : decode jdk_42_method_152_code 7 = .ok (.getfield 15, 3) := by decide +kernel
theorem own_dB7_10 : decode jdk_42_method_152_code 10 = .ok (.goto 4, 3) := by decide +kernel
theorem own_dB7_14 : decode jdk_42_method_152_code 14 = .ok (.ireturn, 1) := by decide +kernel
theorem own_pn8 : plainName "java/lang/String" = true := by first | (simp [plainName, overriddenIn]; done) | decide +kernel
theorem own_ef8 (m : MethodId) (a : Addr) : entryFrame m #[(.ref a)] 1 = mkF m 0 #[.val (.ref a)] [] := by first | (simp [entryFrame, mkF, argsToLocals, Value.category]; done) | rfl
def own_Q8 (Z : State) (a : Addr) (cs : Int32) (fo : Value) (h0 : Heap) (n0 : Nat) (v : Option Value) (h : Heap) (L : List Loc) : Prop := v = some (.int 0) ∧ Fr n0 L ∧ h = h0
set_option maxRecDepth 65536 in
set_option maxHeartbeats 40000000 in
theorem own_rm8 (l : Launch) (Z : State) (a0 : Array Value) (hw : ∀ d ∈ tables_1, d.before a0 Z = true) (ws : List Jvm.Cond) (a : Addr) (cs : Int32) (fo : Value) (h0 : Heap) (n0 : Nat) (Zs : n0 ≤ h0.size) (OL : Old Z n0 h0) (S_cs : Sta Z Z.heap "java/lang/String" "COMPACT_STRINGS" "Z" (.int cs)) (hcs : ¬ (cs = (0 : Int32))) (S_fo : Sta Z Z.heap "jdk/internal/util/Preconditions" "SIOOBE_FORMATTER" "Ljava/util/function/BiFunction;" fo) (hfo : fo.isRef = true) (F_a_coder : Fld Z h0 a "java/lang/String" "coder" "B" (.int 0)) :
    MetFree l own_y7 (head1 (Jvm.Cond.code own_y7 jdk_42_method_152_code 1 (some .byte) :: ws) ({ frames := 0, cells := 0, slots := 0, locals := 0 } : Room)) (fun aA_ U => aA_ = #[(.ref a)] ∧ Z.Warmed39 U.vm ∧ U.heap = h0) (fun _ _ _ _ _ => True) (fun _ U o U' => ∃ v L, o = .returned v ∧ own_Q8 Z a cs fo h0 n0 v U'.heap L ∧ FrameEnd U o U' L ({ frames := 0, cells := 0, slots := 0, locals := 0 } : Room).cells ({ frames := 0, cells := 0, slots := 0, locals := 0 } : Room).slots) := by
  refine MetFree.of_bodySF (plainFor_of_name own_pn8) hisR ?_
  intro p e s m args below meth c s₁ Bd hml0 hP hK
  obtain ⟨rfl, hZ, hh⟩ := hP
  have hx := Bd.exec
  have hby := Bd.bytes
  have hml : c.maxLocals = 1 := hml0
  have hown : s.vm.findClass "java/lang/String" = some m.cls := findClass_of_methodNamed Bd.named
  have hnm := (name_of_methodNamed Bd.named Bd.method).1
  have X0 : Stand p l e ({ frames := 0, cells := 0, slots := 0, locals := 0 } : Room) s m #[(.ref a)] below meth c s₁ [] 0 0 := Stand.of_body Bd
  have e0 : s₁.heap = h0 := by rw [← hh, Bd.state]; rfl
  have NF := Fr.nil n0
  rw [own_ef8 m a]
  show own_Dn p e below s (own_Q8 Z a cs fo h0 n0) 0 0 s₁ (mkF m 0 #[.val (.ref a)] [])
  obtain ⟨T1, X1, e1, st1⟩ := getS2 X0 hx hZ hown (host := "") (Or.inl (own_W hw 21 rfl)) Via.refl e0 (S_cs.ext OL.2) (g := (mkF m 0 #[rv a] [])) rfl (hb hby own_dB7_0)
  refine own_go (T' := T1) (g' := (mkF m 3 #[rv a] [(.int cs)])) (fun _ k => st1 _ k) ?_
  refine own_p (g' := (mkF m 7 #[rv a] [(.ref a)])) (fun _ k => XS.ifNo X1.here hx rfl (hb hby own_dB7_3) rfl ((if0 _ _).trans (feq hcs).1) (XS.aloadN X1.here hx rfl (hb hby own_dB7_6) rfl rfl k)) ?_
  obtain ⟨T2, X2, e2, st2⟩ := getF X1 hx hZ hown (host := "") (Or.inl (own_W hw 33 rfl)) Via.refl e1 F_a_coder (g := (mkF m 7 #[rv a] [(.ref a)])) rfl rfl (hb hby own_dB7_7)
  refine own_go (T' := T2) (g' := (mkF m 10 #[rv a] [(.int 0)])) (fun _ k => st2 _ k) ?_
  refine own_p (g' := (mkF m 14 #[rv a] [(.int 0)])) (fun _ k => XS.goto X2.here hx rfl (pc0 := 10) (pc' := 14) rfl (hb hby own_dB7_10) (by decide) (by decide) k) ?_
  refine own_ret X2 Bd.notSynchronized (some (.int 0)) (fun h => by rw [Bd.returns] at h; cases h) (fun fs hr => retN X2 hx (t := .byte) Bd.returns (by simp) (hb hby own_dB7_14) hr) ?_ (by decide) (by decide)
  show (own_Q8 Z a cs fo h0 n0) (some (.int 0)) T2.heap _
  rw [e2]
  exact ⟨rfl, NF, rfl⟩
theorem own_dB8_0 : decode jdk_42_method_154_code 0 = .ok (.getstatic 38, 3) := by decide +kernel
theorem own_dB8_3 : decode jdk_42_method_154_code 3 = .ok (.ifCond .eq 14, 3) := by decide +kernel
theorem own_dB8_6 : decode jdk_42_method_154_code 6 = .ok (.aload_n 0, 1) := by decide +kernel
theorem own_dB8_7 : decode jdk_42_method_154_code 7 = .ok (.getfield 15, 3) := by decide +kernel
theorem own_dB8_10 : decode jdk_42_method_154_code 10 = .ok (.ifCond .ne 7, 3) := by decide +kernel
theorem own_dB8_13 : decode jdk_42_method_154_code 13 = .ok (.iconst 1, 1) := by decide +kernel
theorem own_dB8_14 : decode jdk_42_method_154_code 14 = .ok (.goto 4, 3) := by decide +kernel
theorem own_dB8_18 : decode jdk_42_method_154_code 18 = .ok (.ireturn, 1) := by decide +kernel
theorem own_pn9 : plainName "java/lang/String" = true := by first | (simp [plainName, overriddenIn]; done) | decide +kernel
theorem own_ef9 (m : MethodId) (a : Addr) : entryFrame m #[(.ref a)] 1 = mkF m 0 #[.val (.ref a)] [] := by first | (simp [entryFrame, mkF, argsToLocals, Value.category]; done) | rfl
def own_Q9 (Z : State) (a : Addr) (cs : Int32) (fo : Value) (h0 : Heap) (n0 : Nat) (v : Option Value) (h : Heap) (L : List Loc) : Prop := v = some (.int 1) ∧ Fr n0 L ∧ h = h0
set_option maxRecDepth 65536 in
set_option maxHeartbeats 40000000 in
theorem own_rm9 (l : Launch) (Z : State) (a0 : Array Value) (hw : ∀ d ∈ tables_1, d.before a0 Z = true) (ws : List Jvm.Cond) (a : Addr) (cs : Int32) (fo : Value) (h0 : Heap) (n0 : Nat) (Zs : n0 ≤ h0.size) (OL : Old Z n0 h0) (S_cs : Sta Z Z.heap "java/lang/String" "COMPACT_STRINGS" "Z" (.int cs)) (hcs : ¬ (cs = (0 : Int32))) (S_fo : Sta Z Z.heap "jdk/internal/util/Preconditions" "SIOOBE_FORMATTER" "Ljava/util/function/BiFunction;" fo) (hfo : fo.isRef = true) (F_a_coder : Fld Z h0 a "java/lang/String" "coder" "B" (.int 0)) :
    MetFree l own_y8 (head1 (Jvm.Cond.code own_y8 jdk_42_method_154_code 1 (some .boolean) :: ws) ({ frames := 0, cells := 0, slots := 0, locals := 0 } : Room)) (fun aA_ U => aA_ = #[(.ref a)] ∧ Z.Warmed39 U.vm ∧ U.heap = h0) (fun _ _ _ _ _ => True) (fun _ U o U' => ∃ v L, o = .returned v ∧ own_Q9 Z a cs fo h0 n0 v U'.heap L ∧ FrameEnd U o U' L ({ frames := 0, cells := 0, slots := 0, locals := 0 } : Room).cells ({ frames := 0, cells := 0, slots := 0, locals := 0 } : Room).slots) := by
  refine MetFree.of_bodySF (plainFor_of_name own_pn9) hisR ?_
  intro p e s m args below meth c s₁ Bd hml0 hP hK
  obtain ⟨rfl, hZ, hh⟩ := hP
  have hx := Bd.exec
  have hby := Bd.bytes
  have hml : c.maxLocals = 1 := hml0
  have hown : s.vm.findClass "java/lang/String" = some m.cls := findClass_of_methodNamed Bd.named
  have hnm := (name_of_methodNamed Bd.named Bd.method).1
  have X0 : Stand p l e ({ frames := 0, cells := 0, slots := 0, locals := 0 } : Room) s m #[(.ref a)] below meth c s₁ [] 0 0 := Stand.of_body Bd
  have e0 : s₁.heap = h0 := by rw [← hh, Bd.state]; rfl
  have NF := Fr.nil n0
  rw [own_ef9 m a]
  show own_Dn p e below s (own_Q9 Z a cs fo h0 n0) 0 0 s₁ (mkF m 0 #[.val (.ref a)] [])
  obtain ⟨T1, X1, e1, st1⟩ := getS2 X0 hx hZ hown (host := "") (Or.inl (own_W hw 21 rfl)) Via.refl e0 (S_cs.ext OL.2) (g := (mkF m 0 #[rv a] [])) rfl (hb hby own_dB8_0)
  refine own_go (T' := T1) (g' := (mkF m 3 #[rv a] [(.int cs)])) (fun _ k => st1 _ k) ?_
  refine own_p (g' := (mkF m 7 #[rv a] [(.ref a)])) (fun _ k => XS.ifNo X1.here hx rfl (hb hby own_dB8_3) rfl ((if0 _ _).trans (feq hcs).1) (XS.aloadN X1.here hx rfl (hb hby own_dB8_6) rfl rfl k)) ?_
  obtain ⟨T2, X2, e2, st2⟩ := getF X1 hx hZ hown (host := "") (Or.inl (own_W hw 33 rfl)) Via.refl e1 F_a_coder (g := (mkF m 7 #[rv a] [(.ref a)])) rfl rfl (hb hby own_dB8_7)
  refine own_go (T' := T2) (g' := (mkF m 10 #[rv a] [(.int 0)])) (fun _ k => st2 _ k) ?_
  refine own_p (g' := (mkF m 18 #[rv a] [(.int 1)])) (fun _ k => XS.ifNo X2.here hx rfl (hb hby own_dB8_10) rfl (by decide) (XS.iconst X2.here hx rfl (hb hby own_dB8_13) (XS.goto X2.here hx rfl (pc0 := 14) (pc' := 18) rfl (hb hby own_dB8_14) (by decide) (by decide) k))) ?_
  refine own_ret X2 Bd.notSynchronized (some (.int 1)) (fun h => by rw [Bd.returns] at h; cases h) (fun fs hr => retN X2 hx (t := .boolean) Bd.returns (by simp) (hb hby own_dB8_18) hr) ?_ (by decide) (by decide)
  show (own_Q9 Z a cs fo h0 n0) (some (.int 1)) T2.heap _
  rw [e2]
  exact ⟨rfl, NF, rfl⟩
theorem own_dB9_0 : decode jdk_42_method_54_code 0 = .ok (.aload_n 0, 1) := by decide +kernel
theorem own_dB9_1 : decode jdk_42_method_54_code 1 = .ok (.getfield 9, 3) := by decide +kernel
theorem own_dB9_4 : decode jdk_42_method_54_code 4 = .ok (.arraylength, 1) := by decide +kernel
theorem own_dB9_5 : decode jdk_42_method_54_code 5 = .ok (.aload_n 0, 1) := by decide +kernel
theorem own_dB9_6 : decode jdk_42_method_54_code 6 = .ok (.invokevirtual 335, 3) := by decide +kernel
theorem own_dB9_9 : decode jdk_42_method_54_code 9 = .ok (.ishr, 1) := by decide +kernel
theorem own_dB9_10 : decode jdk_42_method_54_code 10 = .ok (.ireturn, 1) := by decide +kernel
theorem own_pn10 : plainName "java/lang/String" = true := by first | (simp [plainName, overriddenIn]; done) | decide +kernel
theorem own_pd10_0 : parseMethodDescriptor "()B" = some ⟨[], some .byte⟩ := by decide +kernel
theorem own_ef10 (m : MethodId) (a : Addr) : entryFrame m #[(.ref a)] 1 = mkF m 0 #[.val (.ref a)] [] := by first | (simp [entryFrame, mkF, argsToLocals, Value.category]; done) | rfl
def own_Q10 (Z : State) (a : Addr) (cs : Int32) (fo : Value) (va : Addr) (kv : ClassId) (nn : Int32) (vs : List Value) (h0 : Heap) (n0 : Nat) (v : Option Value) (h : Heap) (L : List Loc) : Prop := v = some (.int nn) ∧ Fr n0 L ∧ h = h0
set_option maxRecDepth 65536 in
set_option maxHeartbeats 40000000 in
theorem own_rm10 (l : Launch) (Z : State) (a0 : Array Value) (hw : ∀ d ∈ tables_1, d.before a0 Z = true) (ws : List Jvm.Cond) (a : Addr) (cs : Int32) (fo : Value) (va : Addr) (kv : ClassId) (nn : Int32) (vs : List Value) (h0 : Heap) (n0 : Nat) (Zs : n0 ≤ h0.size) (OL : Old Z n0 h0) (S_cs : Sta Z Z.heap "java/lang/String" "COMPACT_STRINGS" "Z" (.int cs)) (hcs : ¬ (cs = (0 : Int32))) (S_fo : Sta Z Z.heap "jdk/internal/util/Preconditions" "SIOOBE_FORMATTER" "Ljava/util/function/BiFunction;" fo) (hfo : fo.isRef = true) (E_a : Exa Z h0 a "java/lang/String") (F_a_value : Fld Z h0 a "java/lang/String" "value" "[B" (.ref va)) (F_a_coder : Fld Z h0 a "java/lang/String" "coder" "B" (.int 0)) (V_va : Arv Z h0 va kv .byte nn vs (.int 0)) :
    MetFree l own_y9 (head1 (Jvm.Cond.code own_y9 jdk_42_method_54_code 1 (some .int) :: ws) ({ frames := 1, cells := 0, slots := 0, locals := 13 } : Room)) (fun aA_ U => aA_ = #[(.ref a)] ∧ Z.Warmed39 U.vm ∧ U.heap = h0) (fun _ _ _ _ _ => True) (fun _ U o U' => ∃ v L, o = .returned v ∧ own_Q10 Z a cs fo va kv nn vs h0 n0 v U'.heap L ∧ FrameEnd U o U' L ({ frames := 1, cells := 0, slots := 0, locals := 13 } : Room).cells ({ frames := 1, cells := 0, slots := 0, locals := 13 } : Room).slots) := by
  refine MetFree.of_bodySF (plainFor_of_name own_pn10) hisR ?_
  intro p e s m args below meth c s₁ Bd hml0 hP hK
  obtain ⟨rfl, hZ, hh⟩ := hP
  have hx := Bd.exec
  have hby := Bd.bytes
  have hml : c.maxLocals = 1 := hml0
  have hown : s.vm.findClass "java/lang/String" = some m.cls := findClass_of_methodNamed Bd.named
  have hnm := (name_of_methodNamed Bd.named Bd.method).1
  have X0 : Stand p l e ({ frames := 1, cells := 0, slots := 0, locals := 13 } : Room) s m #[(.ref a)] below meth c s₁ [] 0 0 := Stand.of_body Bd
  have e0 : s₁.heap = h0 := by rw [← hh, Bd.state]; rfl
  have NF := Fr.nil n0
  rw [own_ef10 m a]
  show own_Dn p e below s (own_Q10 Z a cs fo va kv nn vs h0 n0) 0 0 s₁ (mkF m 0 #[.val (.ref a)] [])
  refine own_p (g' := (mkF m 1 #[rv a] [(.ref a)])) (fun _ k => XS.aloadN X0.here hx rfl (hb hby own_dB9_0) rfl rfl k) ?_
  obtain ⟨T1, X1, e1, st1⟩ := getF X0 hx hZ hown (host := "") (Or.inl (own_W hw 35 rfl)) Via.refl e0 F_a_value (g := (mkF m 1 #[rv a] [(.ref a)])) rfl rfl (hb hby own_dB9_1)
  refine own_go (T' := T1) (g' := (mkF m 4 #[rv a] [(.ref va)])) (fun _ k => st1 _ k) ?_
  obtain ⟨c_2, Ar_2, q_2, S_2, N_2, H_2, G_2⟩ := id V_va
  refine own_go (T' := T1) (g' := (mkF m 5 #[rv a] [(.int nn)])) (fun _ k => X1.arraylength hx (by rw [e1]; exact Ar_2.1) (State.isArrayOf_alike hZ.alike Ar_2.2.1) (g := (mkF m 4 #[rv a] [(.ref va)])) rfl rfl (hb hby own_dB9_4) _ (by rw [len_of S_2 N_2]; exact k)) ?_
  refine own_p (g' := (mkF m 6 #[rv a] [(.ref a), (.int nn)])) (fun _ k => XS.aloadN X1.here hx rfl (hb hby own_dB9_5) rfl rfl k) ?_
  obtain ⟨cq3, kq3, q3a, q3b, q3c⟩ := isOf hZ e1 E_a
  obtain ⟨_, _, ⟨T3, L3, k3, n3⟩, -, X3, ⟨Lc3, hQ3, l3, y3, z3⟩, st3⟩ := X1.virtualBack hx (y := own_y7) (z := own_y7) hown (mvT hZ (own_W hw 52 rfl)) (mvT hZ (own_W hw 53 rfl)) (notFace_of_selects (args := #[]) (mvT hZ (own_W hw 55 rfl))) (mvT hZ (own_W hw 55 rfl)) (mvT hZ (own_W hw 54 rfl)) (by decide) (backOf (W := 1) (own_rm8 l Z a0 hw [] a cs fo h0 n0 Zs OL S_cs hcs S_fo hfo F_a_coder) hZ (own_W hw 56 rfl) (own_W hw 10 rfl) (by decide) (by decide)) q3a q3c (g := (mkF m 6 #[rv a] [(.ref a), (.int nn)])) rfl (by rw [hml]; rfl) (Steps.refl _) (argsL := []) (rest := [(.int nn)]) (lenOf own_pd10_0 rfl) rfl (Nat.le_refl _) (hb hby own_dB9_6) (fun _ _ => ⟨rfl, e1, (by decide : 0 + 0 ≤ _), (by decide : 0 + 0 ≤ _)⟩)
  dsimp only [Pt.U, Pt.locs, Pt.cells, Pt.slots] at X3 l3 y3 z3 st3 hQ3
  subst l3 y3 z3
  obtain ⟨rfl, NQ3, eq3⟩ := hQ3
  have NF := Fr.app NF NQ3
  refine own_go (T' := T3) (g' := (mkF m 9 #[rv a] [(.int 0), (.int nn)])) (fun _ k => st3.trans k) ?_
  refine own_p (g' := (mkF m 10 #[rv a] [(.int (nn >>> ((0 : Int32) &&& 31)))])) (fun _ k => XS.ishr X3.here hx rfl (hb hby own_dB9_9) rfl k) ?_
  refine own_ret X3 Bd.notSynchronized (some (.int (nn >>> ((0 : Int32) &&& 31)))) (fun h => by rw [Bd.returns] at h; cases h) (fun fs hr => retI X3 hx Bd.returns (hb hby own_dB9_10) hr) ?_ (by decide) (by decide)
  show (own_Q10 Z a cs fo va kv nn vs h0 n0) (some (.int (nn >>> ((0 : Int32) &&& 31)))) T3.heap _
  rw [eq3]
  exact ⟨congrArg (fun z => some (Value.int z)) (own_sh0 nn), NF, rfl⟩
theorem own_dB10_0 : decode jdk_41_method_11_code 0 = .ok (.iload_n 0, 1) := by decide +kernel
theorem own_dB10_1 : decode jdk_41_method_11_code 1 = .ok (.ifCond .lt 8, 3) := by decide +kernel
theorem own_dB10_4 : decode jdk_41_method_11_code 4 = .ok (.iload_n 0, 1) := by decide +kernel
theorem own_dB10_5 : decode jdk_41_method_11_code 5 = .ok (.iload_n 1, 1) := by decide +kernel
theorem own_dB10_6 : decode jdk_41_method_11_code 6 = .ok (.if_icmp .lt 10, 3) := by decide +kernel
theorem own_dB10_16 : decode jdk_41_method_11_code 16 = .ok (.iload_n 0, 1) := by decide +kernel
theorem own_dB10_17 : decode jdk_41_method_11_code 17 = .ok (.ireturn, 1) := by decide +kernel
theorem own_pn11n : plainName "jdk/internal/util/Preconditions" = true := by first | (simp [plainName, overriddenIn]; done) | decide +kernel
theorem own_ef11n (m : MethodId) (u : Int32) (t : Int32) : entryFrame m #[(.int u), (.int t), .null] 3 = mkF m 0 #[.val (.int u), .val (.int t), .val .null] [] := by first | (simp [entryFrame, mkF, argsToLocals, Value.category]; done) | rfl
def own_Q11n (Z : State) (u : Int32) (t : Int32) (h0 : Heap) (n0 : Nat) (v : Option Value) (h : Heap) (L : List Loc) : Prop := v = some (.int u) ∧ Fr n0 L ∧ h = h0
set_option maxRecDepth 65536 in
set_option maxHeartbeats 40000000 in
theorem own_rm11n (l : Launch) (Z : State) (a0 : Array Value) (hw : ∀ d ∈ tables_1, d.before a0 Z = true) (ws : List Jvm.Cond) (u : Int32) (t : Int32) (h0 : Heap) (n0 : Nat) (Zs : n0 ≤ h0.size) (h1 : ¬ (u < (0 : Int32))) (h2 : u < t) :
    MetFree l own_y10 (head1 (Jvm.Cond.code own_y10 jdk_41_method_11_code 3 (some .int) :: ws) ({ frames := 0, cells := 0, slots := 0, locals := 0 } : Room)) (fun aA_ U => aA_ = #[(.int u), (.int t), .null] ∧ Z.Warmed39 U.vm ∧ U.heap = h0) (fun _ _ _ _ _ => True) (fun _ U o U' => ∃ v L, o = .returned v ∧ own_Q11n Z u t h0 n0 v U'.heap L ∧ FrameEnd U o U' L ({ frames := 0, cells := 0, slots := 0, locals := 0 } : Room).cells ({ frames := 0, cells := 0, slots := 0, locals := 0 } : Room).slots) := by
  refine MetFree.of_bodySF (plainFor_of_name own_pn11n) hisR ?_
  intro p e s m args below meth c s₁ Bd hml0 hP hK
  obtain ⟨rfl, hZ, hh⟩ := hP
  have hx := Bd.exec
  have hby := Bd.bytes
  have hml : c.maxLocals = 3 := hml0
  have hown : s.vm.findClass "jdk/internal/util/Preconditions" = some m.cls := findClass_of_methodNamed Bd.named
  have hnm := (name_of_methodNamed Bd.named Bd.method).1
  have X0 : Stand p l e ({ frames := 0, cells := 0, slots := 0, locals := 0 } : Room) s m #[(.int u), (.int t), .null] below meth c s₁ [] 0 0 := Stand.of_body Bd
  have e0 : s₁.heap = h0 := by rw [← hh, Bd.state]; rfl
  have NF := Fr.nil n0
  rw [own_ef11n m u t]
  show own_Dn p e below s (own_Q11n Z u t h0 n0) 0 0 s₁ (mkF m 0 #[.val (.int u), .val (.int t), .val .null] [])
  refine own_p (g' := (mkF m 5 #[iv u, iv t, Slot.val .null] [(.int u)])) (fun _ k => XS.iloadN X0.here hx rfl (hb hby own_dB10_0) rfl (XS.ifNo X0.here hx rfl (hb hby own_dB10_1) rfl ((if0 _ _).trans (flt h1).1) (XS.iloadN X0.here hx rfl (hb hby own_dB10_4) rfl k))) ?_
  refine own_p (g' := (mkF m 17 #[iv u, iv t, Slot.val .null] [(.int u)])) (fun _ k => XS.iloadN X0.here hx rfl (hb hby own_dB10_5) rfl (XS.icmpYes X0.here hx rfl (pc0 := 6) (pc' := 16) rfl (hb hby own_dB10_6) rfl (tlt h2).1 (by decide) (by decide) (XS.iloadN X0.here hx rfl (hb hby own_dB10_16) rfl k))) ?_
  refine own_ret X0 Bd.notSynchronized (some (.int u)) (fun h => by rw [Bd.returns] at h; cases h) (fun fs hr => retI X0 hx Bd.returns (hb hby own_dB10_17) hr) ?_ (by decide) (by decide)
  show (own_Q11n Z u t h0 n0) (some (.int u)) s₁.heap _
  rw [e0]
  exact ⟨rfl, NF, rfl⟩
theorem own_pn11r : plainName "jdk/internal/util/Preconditions" = true := by first | (simp [plainName, overriddenIn]; done) | decide +kernel
theorem own_ef11r (m : MethodId) (u : Int32) (t : Int32) (fa : Addr) : entryFrame m #[(.int u), (.int t), (.ref fa)] 3 = mkF m 0 #[.val (.int u), .val (.int t), .val (.ref fa)] [] := by first | (simp [entryFrame, mkF, argsToLocals, Value.category]; done) | rfl
def own_Q11r (Z : State) (u : Int32) (t : Int32) (fa : Addr) (h0 : Heap) (n0 : Nat) (v : Option Value) (h : Heap) (L : List Loc) : Prop := v = some (.int u) ∧ Fr n0 L ∧ h = h0
set_option maxRecDepth 65536 in
set_option maxHeartbeats 40000000 in
theorem own_rm11r (l : Launch) (Z : State) (a0 : Array Value) (hw : ∀ d ∈ tables_1, d.before a0 Z = true) (ws : List Jvm.Cond) (u : Int32) (t : Int32) (fa : Addr) (h0 : Heap) (n0 : Nat) (Zs : n0 ≤ h0.size) (h1 : ¬ (u < (0 : Int32))) (h2 : u < t) :
    MetFree l own_y10 (head1 (Jvm.Cond.code own_y10 jdk_41_method_11_code 3 (some .int) :: ws) ({ frames := 0, cells := 0, slots := 0, locals := 0 } : Room)) (fun aA_ U => aA_ = #[(.int u), (.int t), (.ref fa)] ∧ Z.Warmed39 U.vm ∧ U.heap = h0) (fun _ _ _ _ _ => True) (fun _ U o U' => ∃ v L, o = .returned v ∧ own_Q11r Z u t fa h0 n0 v U'.heap L ∧ FrameEnd U o U' L ({ frames := 0, cells := 0, slots := 0, locals := 0 } : Room).cells ({ frames := 0, cells := 0, slots := 0, locals := 0 } : Room).slots) := by
  refine MetFree.of_bodySF (plainFor_of_name own_pn11r) hisR ?_
  intro p e s m args below meth c s₁ Bd hml0 hP hK
  obtain ⟨rfl, hZ, hh⟩ := hP
  have hx := Bd.exec
  have hby := Bd.bytes
  have hml : c.maxLocals = 3 := hml0
  have hown : s.vm.findClass "jdk/internal/util/Preconditions" = some m.cls := findClass_of_methodNamed Bd.named
  have hnm := (name_of_methodNamed Bd.named Bd.method).1
  have X0 : Stand p l e ({ frames := 0, cells := 0, slots := 0, locals := 0 } : Room) s m #[(.int u), (.int t), (.ref fa)] below meth c s₁ [] 0 0 := Stand.of_body Bd
  have e0 : s₁.heap = h0 := by rw [← hh, Bd.state]; rfl
  have NF := Fr.nil n0
  rw [own_ef11r m u t fa]
  show own_Dn p e below s (own_Q11r Z u t fa h0 n0) 0 0 s₁ (mkF m 0 #[.val (.int u), .val (.int t), .val (.ref fa)] [])
  refine own_p (g' := (mkF m 5 #[iv u, iv t, rv fa] [(.int u)])) (fun _ k => XS.iloadN X0.here hx rfl (hb hby own_dB10_0) rfl (XS.ifNo X0.here hx rfl (hb hby own_dB10_1) rfl ((if0 _ _).trans (flt h1).1) (XS.iloadN X0.here hx rfl (hb hby own_dB10_4) rfl k))) ?_
  refine own_p (g' := (mkF m 17 #[iv u, iv t, rv fa] [(.int u)])) (fun _ k => XS.iloadN X0.here hx rfl (hb hby own_dB10_5) rfl (XS.icmpYes X0.here hx rfl (pc0 := 6) (pc' := 16) rfl (hb hby own_dB10_6) rfl (tlt h2).1 (by decide) (by decide) (XS.iloadN X0.here hx rfl (hb hby own_dB10_16) rfl k))) ?_
  refine own_ret X0 Bd.notSynchronized (some (.int u)) (fun h => by rw [Bd.returns] at h; cases h) (fun fs hr => retI X0 hx Bd.returns (hb hby own_dB10_17) hr) ?_ (by decide) (by decide)
  show (own_Q11r Z u t fa h0 n0) (some (.int u)) s₁.heap _
  rw [e0]
  exact ⟨rfl, NF, rfl⟩
theorem own_dB11_0 : decode jdk_42_method_155_code 0 = .ok (.iload_n 0, 1) := by decide +kernel
theorem own_dB11_1 : decode jdk_42_method_155_code 1 = .ok (.iload_n 1, 1) := by decide +kernel
theorem own_dB11_2 : decode jdk_42_method_155_code 2 = .ok (.getstatic 1053, 3) := by decide +kernel
theorem own_dB11_5 : decode jdk_42_method_155_code 5 = .ok (.invokestatic 1059, 3) := by decide +kernel
theorem own_dB11_8 : decode jdk_42_method_155_code 8 = .ok (.pop, 1) := by decide +kernel
theorem own_dB11_9 : decode jdk_42_method_155_code 9 = .ok (.return_, 1) := by decide +kernel
theorem own_pn12 : plainName "java/lang/String" = true := by first | (simp [plainName, overriddenIn]; done) | decide +kernel
theorem own_pd12_0 : parseMethodDescriptor "(IILjava/util/function/BiFunction;)I" = some ⟨[.int, .int, (.object "java/util/function/BiFunction")], some .int⟩ := by decide +kernel
theorem own_ef12 (m : MethodId) (u : Int32) (t : Int32) : entryFrame m #[(.int u), (.int t)] 2 = mkF m 0 #[.val (.int u), .val (.int t)] [] := by first | (simp [entryFrame, mkF, argsToLocals, Value.category]; done) | rfl
def own_Q12 (Z : State) (u : Int32) (t : Int32) (cs : Int32) (fo : Value) (h0 : Heap) (n0 : Nat) (v : Option Value) (h : Heap) (L : List Loc) : Prop := v = none ∧ Fr n0 L ∧ h = h0
set_option maxRecDepth 65536 in
set_option maxHeartbeats 40000000 in
theorem own_rm12 (l : Launch) (Z : State) (a0 : Array Value) (hw : ∀ d ∈ tables_1, d.before a0 Z = true) (ws : List Jvm.Cond) (u : Int32) (t : Int32) (cs : Int32) (fo : Value) (h0 : Heap) (n0 : Nat) (Zs : n0 ≤ h0.size) (OL : Old Z n0 h0) (S_cs : Sta Z Z.heap "java/lang/String" "COMPACT_STRINGS" "Z" (.int cs)) (hcs : ¬ (cs = (0 : Int32))) (S_fo : Sta Z Z.heap "jdk/internal/util/Preconditions" "SIOOBE_FORMATTER" "Ljava/util/function/BiFunction;" fo) (hfo : fo.isRef = true) (h1 : ¬ (u < (0 : Int32))) (h2 : u < t) :
    MetFree l own_y11 (head1 (Jvm.Cond.code own_y11 jdk_42_method_155_code 2 none :: ws) ({ frames := 1, cells := 0, slots := 0, locals := 14 } : Room)) (fun aA_ U => aA_ = #[(.int u), (.int t)] ∧ Z.Warmed39 U.vm ∧ U.heap = h0) (fun _ _ _ _ _ => True) (fun _ U o U' => ∃ v L, o = .returned v ∧ own_Q12 Z u t cs fo h0 n0 v U'.heap L ∧ FrameEnd U o U' L ({ frames := 1, cells := 0, slots := 0, locals := 14 } : Room).cells ({ frames := 1, cells := 0, slots := 0, locals := 14 } : Room).slots) := by
  refine MetFree.of_bodySF (plainFor_of_name own_pn12) hisR ?_
  intro p e s m args below meth c s₁ Bd hml0 hP hK
  obtain ⟨rfl, hZ, hh⟩ := hP
  have hx := Bd.exec
  have hby := Bd.bytes
  have hml : c.maxLocals = 2 := hml0
  have hown : s.vm.findClass "java/lang/String" = some m.cls := findClass_of_methodNamed Bd.named
  have hnm := (name_of_methodNamed Bd.named Bd.method).1
  have X0 : Stand p l e ({ frames := 1, cells := 0, slots := 0, locals := 14 } : Room) s m #[(.int u), (.int t)] below meth c s₁ [] 0 0 := Stand.of_body Bd
  have e0 : s₁.heap = h0 := by rw [← hh, Bd.state]; rfl
  have NF := Fr.nil n0
  rw [own_ef12 m u t]
  show own_Dn p e below s (own_Q12 Z u t cs fo h0 n0) 0 0 s₁ (mkF m 0 #[.val (.int u), .val (.int t)] [])
  refine own_p (g' := (mkF m 2 #[iv u, iv t] [(.int t), (.int u)])) (fun _ k => XS.iloadN X0.here hx rfl (hb hby own_dB11_0) rfl (XS.iloadN X0.here hx rfl (hb hby own_dB11_1) rfl k)) ?_
  rcases ref_cases hfo with efo | ⟨fa, efo⟩
  · rw [efo] at S_fo
    obtain ⟨T1, X1, e1, st1⟩ := getS2 X0 hx hZ hown (host := "") (Or.inl (own_W hw 74 rfl)) Via.refl e0 (S_fo.ext OL.2) (g := (mkF m 2 #[iv u, iv t] [(.int t), (.int u)])) rfl (hb hby own_dB11_2)
    refine own_go (T' := T1) (g' := (mkF m 5 #[iv u, iv t] [.null, (.int t), (.int u)])) (fun _ k => st1 _ k) ?_
    obtain ⟨_, _, ⟨T2, L2, k2, n2⟩, -, X2, ⟨Lc2, hQ2, l2, y2, z2⟩, st2⟩ := Jvm.LawKit.callS X1 hx (y := own_y10) hown (mvT hZ (own_W hw 76 rfl)) (mvT hZ (own_W hw 77 rfl)) (mvT hZ (own_W hw 75 rfl)) (mvT hZ (own_W hw 78 rfl)) (by decide) (backOf (W := 0) (own_rm11n l Z a0 hw [] u t h0 n0 Zs h1 h2) hZ (own_W hw 78 rfl) (own_W hw 75 rfl) (by decide) (by decide)) (g := (mkF m 5 #[iv u, iv t] [.null, (.int t), (.int u)])) rfl (by rw [hml]; rfl) (argsL := [(.int u), (.int t), .null]) (rest := []) (lenOf own_pd12_0 rfl) rfl (Nat.le_refl _) (hb hby own_dB11_5) (fun _ _ => ⟨rfl, e1, (by decide : 0 + 0 ≤ _), (by decide : 0 + 0 ≤ _)⟩)
    dsimp only [Pt.U, Pt.locs, Pt.cells, Pt.slots] at X2 l2 y2 z2 st2 hQ2
    subst l2 y2 z2
    obtain ⟨rfl, NQ2, eq2⟩ := hQ2
    have NF := Fr.app NF NQ2
    refine own_go (T' := T2) (g' := (mkF m 8 #[iv u, iv t] [(.int u)])) (fun _ k => st2 _ k) ?_
    refine own_p (g' := (mkF m 9 #[iv u, iv t] [])) (fun _ k => XS.pop X2.here hx rfl (hb hby own_dB11_8) rfl rfl k) ?_
    refine own_ret X2 Bd.notSynchronized none (fun _ => rfl) (fun fs hr => X2.returnOut hx Bd.returns (hb hby own_dB11_9) hr) ?_ (by decide) (by decide)
    show (own_Q12 Z u t cs fo h0 n0) none T2.heap _
    rw [eq2]
    exact ⟨rfl, NF, rfl⟩
  · rw [efo] at S_fo
    obtain ⟨T3, X3, e3, st3⟩ := getS2 X0 hx hZ hown (host := "") (Or.inl (own_W hw 74 rfl)) Via.refl e0 (S_fo.ext OL.2) (g := (mkF m 2 #[iv u, iv t] [(.int t), (.int u)])) rfl (hb hby own_dB11_2)
    refine own_go (T' := T3) (g' := (mkF m 5 #[iv u, iv t] [(.ref fa), (.int t), (.int u)])) (fun _ k => st3 _ k) ?_
    obtain ⟨_, _, ⟨T4, L4, k4, n4⟩, -, X4, ⟨Lc4, hQ4, l4, y4, z4⟩, st4⟩ := Jvm.LawKit.callS X3 hx (y := own_y10) hown (mvT hZ (own_W hw 76 rfl)) (mvT hZ (own_W hw 77 rfl)) (mvT hZ (own_W hw 75 rfl)) (mvT hZ (own_W hw 78 rfl)) (by decide) (backOf (W := 0) (own_rm11r l Z a0 hw [] u t fa h0 n0 Zs h1 h2) hZ (own_W hw 78 rfl) (own_W hw 75 rfl) (by decide) (by decide)) (g := (mkF m 5 #[iv u, iv t] [(.ref fa), (.int t), (.int u)])) rfl (by rw [hml]; rfl) (argsL := [(.int u), (.int t), (.ref fa)]) (rest := []) (lenOf own_pd12_0 rfl) rfl (Nat.le_refl _) (hb hby own_dB11_5) (fun _ _ => ⟨rfl, e3, (by decide : 0 + 0 ≤ _), (by decide : 0 + 0 ≤ _)⟩)
    dsimp only [Pt.U, Pt.locs, Pt.cells, Pt.slots] at X4 l4 y4 z4 st4 hQ4
    subst l4 y4 z4
    obtain ⟨rfl, NQ4, eq4⟩ := hQ4
    have NF := Fr.app NF NQ4
    refine own_go (T' := T4) (g' := (mkF m 8 #[iv u, iv t] [(.int u)])) (fun _ k => st4 _ k) ?_
    refine own_p (g' := (mkF m 9 #[iv u, iv t] [])) (fun _ k => XS.pop X4.here hx rfl (hb hby own_dB11_8) rfl rfl k) ?_
    refine own_ret X4 Bd.notSynchronized none (fun _ => rfl) (fun fs hr => X4.returnOut hx Bd.returns (hb hby own_dB11_9) hr) ?_ (by decide) (by decide)
    show (own_Q12 Z u t cs fo h0 n0) none T4.heap _
    rw [eq4]
    exact ⟨rfl, NF, rfl⟩
theorem own_dB12_0 : decode jdk_43_method_2_code 0 = .ok (.iload_n 1, 1) := by decide +kernel
theorem own_dB12_1 : decode jdk_43_method_2_code 1 = .ok (.aload_n 0, 1) := by decide +kernel
theorem own_dB12_2 : decode jdk_43_method_2_code 2 = .ok (.arraylength, 1) := by decide +kernel
theorem own_dB12_3 : decode jdk_43_method_2_code 3 = .ok (.invokestatic 9, 3) := by decide +kernel
theorem own_dB12_6 : decode jdk_43_method_2_code 6 = .ok (.aload_n 0, 1) := by decide +kernel
theorem own_dB12_7 : decode jdk_43_method_2_code 7 = .ok (.iload_n 1, 1) := by decide +kernel
theorem own_dB12_8 : decode jdk_43_method_2_code 8 = .ok (.baload, 1) := by decide +kernel
theorem own_dB12_9 : decode jdk_43_method_2_code 9 = .ok (.sipush 255, 3) := by decide +kernel
theorem own_dB12_12 : decode jdk_43_method_2_code 12 = .ok (.iand, 1) := by decide +kernel
theorem own_dB12_13 : decode jdk_43_method_2_code 13 = .ok (.i2c, 1) := by decide +kernel
theorem own_dB12_14 : decode jdk_43_method_2_code 14 = .ok (.ireturn, 1) := by decide +kernel
theorem own_pn13 : plainName "java/lang/StringLatin1" = true := by first | (simp [plainName, overriddenIn]; done) | decide +kernel
theorem own_pd13_0 : parseMethodDescriptor "(II)V" = some ⟨[.int, .int], none⟩ := by decide +kernel
theorem own_ef13 (m : MethodId) (va : Addr) (ix : Int32) : entryFrame m #[(.ref va), (.int ix)] 2 = mkF m 0 #[.val (.ref va), .val (.int ix)] [] := by first | (simp [entryFrame, mkF, argsToLocals, Value.category]; done) | rfl
def own_Q13 (Z : State) (va : Addr) (ix : Int32) (cs : Int32) (fo : Value) (kv : ClassId) (nn : Int32) (vs : List Value) (x : Int32) (h0 : Heap) (n0 : Nat) (v : Option Value) (h : Heap) (L : List Loc) : Prop := v = some (.int x) ∧ Fr n0 L ∧ h = h0
set_option maxRecDepth 65536 in
set_option maxHeartbeats 40000000 in
theorem own_rm13 (l : Launch) (Z : State) (a0 : Array Value) (hw : ∀ d ∈ tables_1, d.before a0 Z = true) (ws : List Jvm.Cond) (va : Addr) (ix : Int32) (cs : Int32) (fo : Value) (kv : ClassId) (nn : Int32) (vs : List Value) (x : Int32) (h0 : Heap) (n0 : Nat) (Zs : n0 ≤ h0.size) (OL : Old Z n0 h0) (S_cs : Sta Z Z.heap "java/lang/String" "COMPACT_STRINGS" "Z" (.int cs)) (hcs : ¬ (cs = (0 : Int32))) (S_fo : Sta Z Z.heap "jdk/internal/util/Preconditions" "SIOOBE_FORMATTER" "Ljava/util/function/BiFunction;" fo) (hfo : fo.isRef = true) (V_va : Arv Z h0 va kv .byte nn vs (.int 0)) (hi0 : ¬ (ix < (0 : Int32))) (hin : ix < nn) (hv : vs.getD ix.toNatClampNeg (.int 0) = .int x) (hd_x : own_Dg x) :
    MetFree l own_y12 (head1 (Jvm.Cond.code own_y12 jdk_43_method_2_code 2 (some .char) :: ws) ({ frames := 2, cells := 0, slots := 0, locals := 27 } : Room)) (fun aA_ U => aA_ = #[(.ref va), (.int ix)] ∧ Z.Warmed39 U.vm ∧ U.heap = h0) (fun _ _ _ _ _ => True) (fun _ U o U' => ∃ v L, o = .returned v ∧ own_Q13 Z va ix cs fo kv nn vs x h0 n0 v U'.heap L ∧ FrameEnd U o U' L ({ frames := 2, cells := 0, slots := 0, locals := 27 } : Room).cells ({ frames := 2, cells := 0, slots := 0, locals := 27 } : Room).slots) := by
  refine MetFree.of_bodySF (plainFor_of_name own_pn13) hisR ?_
  intro p e s m args below meth c s₁ Bd hml0 hP hK
  obtain ⟨rfl, hZ, hh⟩ := hP
  have hx := Bd.exec
  have hby := Bd.bytes
  have hml : c.maxLocals = 2 := hml0
  have hown : s.vm.findClass "java/lang/StringLatin1" = some m.cls := findClass_of_methodNamed Bd.named
  have hnm := (name_of_methodNamed Bd.named Bd.method).1
  have X0 : Stand p l e ({ frames := 2, cells := 0, slots := 0, locals := 27 } : Room) s m #[(.ref va), (.int ix)] below meth c s₁ [] 0 0 := Stand.of_body Bd
  have e0 : s₁.heap = h0 := by rw [← hh, Bd.state]; rfl
  have NF := Fr.nil n0
  rw [own_ef13 m va ix]
  show own_Dn p e below s (own_Q13 Z va ix cs fo kv nn vs x h0 n0) 0 0 s₁ (mkF m 0 #[.val (.ref va), .val (.int ix)] [])
  refine own_p (g' := (mkF m 2 #[rv va, iv ix] [(.ref va), (.int ix)])) (fun _ k => XS.iloadN X0.here hx rfl (hb hby own_dB12_0) rfl (XS.aloadN X0.here hx rfl (hb hby own_dB12_1) rfl rfl k)) ?_
  obtain ⟨c_1, Ar_1, q_1, S_1, N_1, H_1, G_1⟩ := id V_va
  refine own_go (T' := s₁) (g' := (mkF m 3 #[rv va, iv ix] [(.int nn), (.int ix)])) (fun _ k => X0.arraylength hx (by rw [e0]; exact Ar_1.1) (State.isArrayOf_alike hZ.alike Ar_1.2.1) (g := (mkF m 2 #[rv va, iv ix] [(.ref va), (.int ix)])) rfl rfl (hb hby own_dB12_2) _ (by rw [len_of S_1 N_1]; exact k)) ?_
  obtain ⟨_, _, ⟨T2, L2, k2, n2⟩, -, X2, ⟨Lc2, hQ2, l2, y2, z2⟩, st2⟩ := Jvm.LawKit.callS X0 hx (y := own_y11) hown (mvT hZ (own_W hw 71 rfl)) (mvT hZ (own_W hw 72 rfl)) (mvT hZ (own_W hw 10 rfl)) (mvT hZ (own_W hw 73 rfl)) (by decide) (backOf (W := 0) (own_rm12 l Z a0 hw [] ix nn cs fo h0 n0 Zs OL S_cs hcs S_fo hfo hi0 hin) hZ (own_W hw 73 rfl) (own_W hw 10 rfl) (by decide) (by decide)) (g := (mkF m 3 #[rv va, iv ix] [(.int nn), (.int ix)])) rfl (by rw [hml]; rfl) (argsL := [(.int ix), (.int nn)]) (rest := []) (lenOf own_pd13_0 rfl) rfl (Nat.le_refl _) (hb hby own_dB12_3) (fun _ _ => ⟨rfl, e0, (by decide : 0 + 0 ≤ _), (by decide : 0 + 0 ≤ _)⟩)
  dsimp only [Pt.U, Pt.locs, Pt.cells, Pt.slots] at X2 l2 y2 z2 st2 hQ2
  subst l2 y2 z2
  obtain ⟨rfl, NQ2, eq2⟩ := hQ2
  have NF := Fr.app NF NQ2
  refine own_go (T' := T2) (g' := (mkF m 6 #[rv va, iv ix] [])) (fun _ k => st2 _ k) ?_
  refine own_p (g' := (mkF m 8 #[rv va, iv ix] [(.int ix), (.ref va)])) (fun _ k => XS.aloadN X2.here hx rfl (hb hby own_dB12_6) rfl rfl (XS.iloadN X2.here hx rfl (hb hby own_dB12_7) rfl k)) ?_
  obtain ⟨c_3, Ar_3, q_3, S_3, N_3, H_3, G_3⟩ := id V_va
  have hin_3 : ¬ (ix < 0 ∨ c_3.slots.size ≤ (ix).toNatClampNeg) := inb_of S_3 ⟨hi0, hin⟩
  have hat_3 : c_3.slots[(ix).toNatClampNeg]? = some (.int x) := H_3.at hin_3 hv
  refine own_go (T' := T2) (g' := (mkF m 9 #[rv va, iv ix] [(.int x)])) (fun _ k => X2.baloadBytes hx (j := ix) (v := (.int x)) (by rw [eq2]; exact Ar_3.1) (State.isArrayOf_alike hZ.alike Ar_3.2.1) Ar_3.2.2 hin_3 hat_3 (g := (mkF m 8 #[rv va, iv ix] [(.int ix), (.ref va)])) rfl rfl (hb hby own_dB12_8) _ k) ?_
  refine own_p (g' := (mkF m 14 #[rv va, iv ix] [(.int ((x &&& (255 : Int32)).toUInt32.toUInt16.toUInt32.toInt32))])) (fun _ k => XS.sipush X2.here hx rfl (hb hby own_dB12_9) (XS.iand X2.here hx rfl (hb hby own_dB12_12) rfl (XS.i2c X2.here hx rfl (hb hby own_dB12_13) rfl k))) ?_
  refine own_ret X2 Bd.notSynchronized (some (.int (nar .char ((x &&& (255 : Int32)).toUInt32.toUInt16.toUInt32.toInt32)))) (fun h => by rw [Bd.returns] at h; cases h) (fun fs hr => retN X2 hx (t := .char) Bd.returns (by simp) (hb hby own_dB12_14) hr) ?_ (by decide) (by decide)
  show (own_Q13 Z va ix cs fo kv nn vs x h0 n0) (some (.int (nar .char ((x &&& (255 : Int32)).toUInt32.toUInt16.toUInt32.toInt32)))) T2.heap _
  rw [eq2]
  exact ⟨congrArg (fun z => some (Value.int z)) (own_chd hd_x), NF, rfl⟩
theorem own_dB13_0 : decode jdk_42_method_56_code 0 = .ok (.aload_n 0, 1) := by decide +kernel
theorem own_dB13_1 : decode jdk_42_method_56_code 1 = .ok (.invokevirtual 492, 3) := by decide +kernel
theorem own_dB13_4 : decode jdk_42_method_56_code 4 = .ok (.ifCond .eq 12, 3) := by decide +kernel
theorem own_dB13_7 : decode jdk_42_method_56_code 7 = .ok (.aload_n 0, 1) := by decide +kernel
theorem own_dB13_8 : decode jdk_42_method_56_code 8 = .ok (.getfield 9, 3) := by decide +kernel
theorem own_dB13_11 : decode jdk_42_method_56_code 11 = .ok (.iload_n 1, 1) := by decide +kernel
theorem own_dB13_12 : decode jdk_42_method_56_code 12 = .ok (.invokestatic 495, 3) := by decide +kernel
theorem own_dB13_15 : decode jdk_42_method_56_code 15 = .ok (.ireturn, 1) := by decide +kernel
theorem own_pn14 : plainName "java/lang/String" = true := by first | (simp [plainName, overriddenIn]; done) | decide +kernel
theorem own_pd14_0 : parseMethodDescriptor "()Z" = some ⟨[], some .boolean⟩ := by decide +kernel
theorem own_pd14_1 : parseMethodDescriptor "([BI)C" = some ⟨[(.array .byte), .int], some .char⟩ := by decide +kernel
theorem own_ef14 (m : MethodId) (a : Addr) (ix : Int32) : entryFrame m #[(.ref a), (.int ix)] 2 = mkF m 0 #[.val (.ref a), .val (.int ix)] [] := by first | (simp [entryFrame, mkF, argsToLocals, Value.category]; done) | rfl
def own_Q14 (Z : State) (a : Addr) (ix : Int32) (cs : Int32) (fo : Value) (va : Addr) (kv : ClassId) (nn : Int32) (vs : List Value) (x : Int32) (h0 : Heap) (n0 : Nat) (v : Option Value) (h : Heap) (L : List Loc) : Prop := v = some (.int x) ∧ Fr n0 L ∧ h = h0
set_option maxRecDepth 65536 in
set_option maxHeartbeats 40000000 in
theorem own_rm14 (l : Launch) (Z : State) (a0 : Array Value) (hw : ∀ d ∈ tables_1, d.before a0 Z = true) (ws : List Jvm.Cond) (a : Addr) (ix : Int32) (cs : Int32) (fo : Value) (va : Addr) (kv : ClassId) (nn : Int32) (vs : List Value) (x : Int32) (h0 : Heap) (n0 : Nat) (Zs : n0 ≤ h0.size) (OL : Old Z n0 h0) (S_cs : Sta Z Z.heap "java/lang/String" "COMPACT_STRINGS" "Z" (.int cs)) (hcs : ¬ (cs = (0 : Int32))) (S_fo : Sta Z Z.heap "jdk/internal/util/Preconditions" "SIOOBE_FORMATTER" "Ljava/util/function/BiFunction;" fo) (hfo : fo.isRef = true) (E_a : Exa Z h0 a "java/lang/String") (F_a_value : Fld Z h0 a "java/lang/String" "value" "[B" (.ref va)) (F_a_coder : Fld Z h0 a "java/lang/String" "coder" "B" (.int 0)) (V_va : Arv Z h0 va kv .byte nn vs (.int 0)) (hi0 : ¬ (ix < (0 : Int32))) (hin : ix < nn) (hv : vs.getD ix.toNatClampNeg (.int 0) = .int x) (hd_x : own_Dg x) :
    MetFree l own_y13 (head1 (Jvm.Cond.code own_y13 jdk_42_method_56_code 2 (some .char) :: ws) ({ frames := 3, cells := 0, slots := 0, locals := 40 } : Room)) (fun aA_ U => aA_ = #[(.ref a), (.int ix)] ∧ Z.Warmed39 U.vm ∧ U.heap = h0) (fun _ _ _ _ _ => True) (fun _ U o U' => ∃ v L, o = .returned v ∧ own_Q14 Z a ix cs fo va kv nn vs x h0 n0 v U'.heap L ∧ FrameEnd U o U' L ({ frames := 3, cells := 0, slots := 0, locals := 40 } : Room).cells ({ frames := 3, cells := 0, slots := 0, locals := 40 } : Room).slots) := by
  refine MetFree.of_bodySF (plainFor_of_name own_pn14) hisR ?_
  intro p e s m args below meth c s₁ Bd hml0 hP hK
  obtain ⟨rfl, hZ, hh⟩ := hP
  have hx := Bd.exec
  have hby := Bd.bytes
  have hml : c.maxLocals = 2 := hml0
  have hown : s.vm.findClass "java/lang/String" = some m.cls := findClass_of_methodNamed Bd.named
  have hnm := (name_of_methodNamed Bd.named Bd.method).1
  have X0 : Stand p l e ({ frames := 3, cells := 0, slots := 0, locals := 40 } : Room) s m #[(.ref a), (.int ix)] below meth c s₁ [] 0 0 := Stand.of_body Bd
  have e0 : s₁.heap = h0 := by rw [← hh, Bd.state]; rfl
  have NF := Fr.nil n0
  rw [own_ef14 m a ix]
  show own_Dn p e below s (own_Q14 Z a ix cs fo va kv nn vs x h0 n0) 0 0 s₁ (mkF m 0 #[.val (.ref a), .val (.int ix)] [])
  refine own_p (g' := (mkF m 1 #[rv a, iv ix] [(.ref a)])) (fun _ k => XS.aloadN X0.here hx rfl (hb hby own_dB13_0) rfl rfl k) ?_
  obtain ⟨cq1, kq1, q1a, q1b, q1c⟩ := isOf hZ e0 E_a
  obtain ⟨_, _, ⟨T1, L1, k1, n1⟩, -, X1, ⟨Lc1, hQ1, l1, y1, z1⟩, st1⟩ := X0.virtualBack hx (y := own_y8) (z := own_y8) hown (mvT hZ (own_W hw 62 rfl)) (mvT hZ (own_W hw 63 rfl)) (notFace_of_selects (args := #[]) (mvT hZ (own_W hw 65 rfl))) (mvT hZ (own_W hw 65 rfl)) (mvT hZ (own_W hw 64 rfl)) (by decide) (backOf (W := 0) (own_rm9 l Z a0 hw [] a cs fo h0 n0 Zs OL S_cs hcs S_fo hfo F_a_coder) hZ (own_W hw 66 rfl) (own_W hw 10 rfl) (by decide) (by decide)) q1a q1c (g := (mkF m 1 #[rv a, iv ix] [(.ref a)])) rfl (by rw [hml]; rfl) (Steps.refl _) (argsL := []) (rest := []) (lenOf own_pd14_0 rfl) rfl (Nat.le_refl _) (hb hby own_dB13_1) (fun _ _ => ⟨rfl, e0, (by decide : 0 + 0 ≤ _), (by decide : 0 + 0 ≤ _)⟩)
  dsimp only [Pt.U, Pt.locs, Pt.cells, Pt.slots] at X1 l1 y1 z1 st1 hQ1
  subst l1 y1 z1
  obtain ⟨rfl, NQ1, eq1⟩ := hQ1
  have NF := Fr.app NF NQ1
  refine own_go (T' := T1) (g' := (mkF m 4 #[rv a, iv ix] [(.int 1)])) (fun _ k => st1.trans k) ?_
  refine own_p (g' := (mkF m 8 #[rv a, iv ix] [(.ref a)])) (fun _ k => XS.ifNo X1.here hx rfl (hb hby own_dB13_4) rfl (by decide) (XS.aloadN X1.here hx rfl (hb hby own_dB13_7) rfl rfl k)) ?_
  obtain ⟨T2, X2, e2, st2⟩ := getF X1 hx hZ hown (host := "") (Or.inl (own_W hw 35 rfl)) Via.refl eq1 F_a_value (g := (mkF m 8 #[rv a, iv ix] [(.ref a)])) rfl rfl (hb hby own_dB13_8)
  refine own_go (T' := T2) (g' := (mkF m 11 #[rv a, iv ix] [(.ref va)])) (fun _ k => st2 _ k) ?_
  refine own_p (g' := (mkF m 12 #[rv a, iv ix] [(.int ix), (.ref va)])) (fun _ k => XS.iloadN X2.here hx rfl (hb hby own_dB13_11) rfl k) ?_
  obtain ⟨_, _, ⟨T3, L3, k3, n3⟩, -, X3, ⟨Lc3, hQ3, l3, y3, z3⟩, st3⟩ := Jvm.LawKit.callS X2 hx (y := own_y12) hown (mvT hZ (own_W hw 67 rfl)) (mvT hZ (own_W hw 68 rfl)) (mvT hZ (own_W hw 69 rfl)) (mvT hZ (own_W hw 70 rfl)) (by decide) (backOf (W := 0) (own_rm13 l Z a0 hw [] va ix cs fo kv nn vs x h0 n0 Zs OL S_cs hcs S_fo hfo V_va hi0 hin hv hd_x) hZ (own_W hw 70 rfl) (own_W hw 69 rfl) (by decide) (by decide)) (g := (mkF m 12 #[rv a, iv ix] [(.int ix), (.ref va)])) rfl (by rw [hml]; rfl) (argsL := [(.ref va), (.int ix)]) (rest := []) (lenOf own_pd14_1 rfl) rfl (Nat.le_refl _) (hb hby own_dB13_12) (fun _ _ => ⟨rfl, e2, (by decide : 0 + 0 ≤ _), (by decide : 0 + 0 ≤ _)⟩)
  dsimp only [Pt.U, Pt.locs, Pt.cells, Pt.slots] at X3 l3 y3 z3 st3 hQ3
  subst l3 y3 z3
  obtain ⟨rfl, NQ3, eq3⟩ := hQ3
  have NF := Fr.app NF NQ3
  refine own_go (T' := T3) (g' := (mkF m 15 #[rv a, iv ix] [(.int x)])) (fun _ k => st3 _ k) ?_
  refine own_ret X3 Bd.notSynchronized (some (.int (nar .char x))) (fun h => by rw [Bd.returns] at h; cases h) (fun fs hr => retN X3 hx (t := .char) Bd.returns (by simp) (hb hby own_dB13_15) hr) ?_ (by decide) (by decide)
  show (own_Q14 Z a ix cs fo va kv nn vs x h0 n0) (some (.int (nar .char x))) T3.heap _
  rw [eq3]
  exact ⟨congrArg (fun z => some (Value.int z)) (own_dn hd_x), NF, rfl⟩
theorem own_dB14_0 : decode prog_21_method_15_code 0 = .ok (.aload_n 0, 1) := by decide +kernel
theorem own_dB14_1 : decode prog_21_method_15_code 1 = .ok (.invokevirtual 67, 3) := by decide +kernel
theorem own_dB14_4 : decode prog_21_method_15_code 4 = .ok (.iload_n 1, 1) := by decide +kernel
theorem own_dB14_5 : decode prog_21_method_15_code 5 = .ok (.if_icmp .lt 15, 3) := by decide +kernel
theorem own_dB14_8 : decode prog_21_method_15_code 8 = .ok (.aload_n 0, 1) := by decide +kernel
theorem own_dB14_9 : decode prog_21_method_15_code 9 = .ok (.invokevirtual 67, 3) := by decide +kernel
theorem own_dB14_12 : decode prog_21_method_15_code 12 = .ok (.iload_n 2, 1) := by decide +kernel
theorem own_dB14_13 : decode prog_21_method_15_code 13 = .ok (.if_icmp .gt 7, 3) := by decide +kernel
theorem own_dB14_16 : decode prog_21_method_15_code 16 = .ok (.iconst 1, 1) := by decide +kernel
theorem own_dB14_17 : decode prog_21_method_15_code 17 = .ok (.goto 4, 3) := by decide +kernel
theorem own_dB14_21 : decode prog_21_method_15_code 21 = .ok (.istore_n 3, 1) := by decide +kernel
theorem own_dB14_22 : decode prog_21_method_15_code 22 = .ok (.iconst 0, 1) := by decide +kernel
theorem own_dB14_23 : decode prog_21_method_15_code 23 = .ok (.istore 4, 2) := by decide +kernel
theorem own_dB14_25 : decode prog_21_method_15_code 25 = .ok (.iload_n 3, 1) := by decide +kernel
theorem own_dB14_26 : decode prog_21_method_15_code 26 = .ok (.ifCond .eq 46, 3) := by decide +kernel
theorem own_dB14_29 : decode prog_21_method_15_code 29 = .ok (.iload 4, 2) := by decide +kernel
theorem own_dB14_31 : decode prog_21_method_15_code 31 = .ok (.aload_n 0, 1) := by decide +kernel
theorem own_dB14_32 : decode prog_21_method_15_code 32 = .ok (.invokevirtual 67, 3) := by decide +kernel
theorem own_dB14_35 : decode prog_21_method_15_code 35 = .ok (.if_icmp .ge 37, 3) := by decide +kernel
theorem own_dB14_38 : decode prog_21_method_15_code 38 = .ok (.aload_n 0, 1) := by decide +kernel
theorem own_dB14_39 : decode prog_21_method_15_code 39 = .ok (.iload 4, 2) := by decide +kernel
theorem own_dB14_41 : decode prog_21_method_15_code 41 = .ok (.invokevirtual 71, 3) := by decide +kernel
theorem own_dB14_44 : decode prog_21_method_15_code 44 = .ok (.istore 5, 2) := by decide +kernel
theorem own_dB14_46 : decode prog_21_method_15_code 46 = .ok (.iload 5, 2) := by decide +kernel
theorem own_dB14_48 : decode prog_21_method_15_code 48 = .ok (.bipush 48, 2) := by decide +kernel
theorem own_dB14_50 : decode prog_21_method_15_code 50 = .ok (.if_icmp .lt 14, 3) := by decide +kernel
theorem own_dB14_53 : decode prog_21_method_15_code 53 = .ok (.iload 5, 2) := by decide +kernel
theorem own_dB14_55 : decode prog_21_method_15_code 55 = .ok (.bipush 57, 2) := by decide +kernel
theorem own_dB14_57 : decode prog_21_method_15_code 57 = .ok (.if_icmp .gt 7, 3) := by decide +kernel
theorem own_dB14_60 : decode prog_21_method_15_code 60 = .ok (.iconst 1, 1) := by decide +kernel
theorem own_dB14_61 : decode prog_21_method_15_code 61 = .ok (.goto 4, 3) := by decide +kernel
theorem own_dB14_65 : decode prog_21_method_15_code 65 = .ok (.istore_n 3, 1) := by decide +kernel
theorem own_dB14_66 : decode prog_21_method_15_code 66 = .ok (.iinc 4 1, 3) := by decide +kernel
theorem own_dB14_69 : decode prog_21_method_15_code 69 = .ok (.goto (-44), 3) := by decide +kernel
theorem own_dB14_72 : decode prog_21_method_15_code 72 = .ok (.iload_n 3, 1) := by decide +kernel
theorem own_dB14_73 : decode prog_21_method_15_code 73 = .ok (.ireturn, 1) := by decide +kernel
theorem own_pn15_2 : plainName "com/example/carrier_name_resolver/carriernameresolver/card/Plmn" = true := by first | (simp [plainName, overriddenIn]; done) | decide +kernel
theorem own_pd15_2_0 : parseMethodDescriptor "()I" = some ⟨[], some .int⟩ := by decide +kernel
theorem own_pd15_2_1 : parseMethodDescriptor "(I)C" = some ⟨[.int], some .char⟩ := by decide +kernel
theorem own_ef15_2 (m : MethodId) (a : Addr) (lo : Int32) : entryFrame m #[(.ref a), (.int lo), (.int 3)] 6 = mkF m 0 #[.val (.ref a), .val (.int lo), .val (.int 3), .unset, .unset, .unset] [] := by first | (simp [entryFrame, mkF, argsToLocals, Value.category]; done) | rfl
def own_Q15_2 (Z : State) (a : Addr) (lo : Int32) (cs : Int32) (fo : Value) (va : Addr) (kv : ClassId) (x0 : Int32) (x1 : Int32) (h0 : Heap) (n0 : Nat) (v : Option Value) (h : Heap) (L : List Loc) : Prop := v = some (.int 1) ∧ Fr n0 L ∧ h = h0
set_option maxRecDepth 65536 in
set_option maxHeartbeats 40000000 in
theorem own_rm15_2 (l : Launch) (Z : State) (a0 : Array Value) (hw : ∀ d ∈ tables_1, d.before a0 Z = true) (ws : List Jvm.Cond) (a : Addr) (lo : Int32) (cs : Int32) (fo : Value) (va : Addr) (kv : ClassId) (x0 : Int32) (x1 : Int32) (h0 : Heap) (n0 : Nat) (Zs : n0 ≤ h0.size) (OL : Old Z n0 h0) (S_cs : Sta Z Z.heap "java/lang/String" "COMPACT_STRINGS" "Z" (.int cs)) (hcs : ¬ (cs = (0 : Int32))) (S_fo : Sta Z Z.heap "jdk/internal/util/Preconditions" "SIOOBE_FORMATTER" "Ljava/util/function/BiFunction;" fo) (hfo : fo.isRef = true) (hlo : ¬ ((2 : Int32) < lo)) (E_a : Exa Z h0 a "java/lang/String") (F_a_value : Fld Z h0 a "java/lang/String" "value" "[B" (.ref va)) (F_a_coder : Fld Z h0 a "java/lang/String" "coder" "B" (.int 0)) (V_va : Arv Z h0 va kv .byte (2 : Int32) [(.int x0), (.int x1)] (.int 0)) (hd_x0 : own_Dg x0) (hd_x1 : own_Dg x1) :
    MetFree l own_y14 (head1 (Jvm.Cond.code own_y14 prog_21_method_15_code 6 (some .boolean) :: ws) ({ frames := 4, cells := 0, slots := 0, locals := 53 } : Room)) (fun aA_ U => aA_ = #[(.ref a), (.int lo), (.int 3)] ∧ Z.Warmed39 U.vm ∧ U.heap = h0) (fun _ _ _ _ _ => True) (fun _ U o U' => ∃ v L, o = .returned v ∧ own_Q15_2 Z a lo cs fo va kv x0 x1 h0 n0 v U'.heap L ∧ FrameEnd U o U' L ({ frames := 4, cells := 0, slots := 0, locals := 53 } : Room).cells ({ frames := 4, cells := 0, slots := 0, locals := 53 } : Room).slots) := by
  refine MetFree.of_bodySF (plainFor_of_name own_pn15_2) hisR ?_
  intro p e s m args below meth c s₁ Bd hml0 hP hK
  obtain ⟨rfl, hZ, hh⟩ := hP
  have hx := Bd.exec
  have hby := Bd.bytes
  have hml : c.maxLocals = 6 := hml0
  have hown : s.vm.findClass "com/example/carrier_name_resolver/carriernameresolver/card/Plmn" = some m.cls := findClass_of_methodNamed Bd.named
  have hnm := (name_of_methodNamed Bd.named Bd.method).1
  have X0 : Stand p l e ({ frames := 4, cells := 0, slots := 0, locals := 53 } : Room) s m #[(.ref a), (.int lo), (.int 3)] below meth c s₁ [] 0 0 := Stand.of_body Bd
  have e0 : s₁.heap = h0 := by rw [← hh, Bd.state]; rfl
  have NF := Fr.nil n0
  rw [own_ef15_2 m a lo]
  show own_Dn p e below s (own_Q15_2 Z a lo cs fo va kv x0 x1 h0 n0) 0 0 s₁ (mkF m 0 #[.val (.ref a), .val (.int lo), .val (.int 3), .unset, .unset, .unset] [])
  have hl_x0 := own_d48 hd_x0
  have hu_x0 := own_d57 hd_x0
  have hk_x0 := own_d100 hd_x0
  have hl_x1 := own_d48 hd_x1
  have hu_x1 := own_d57 hd_x1
  have hk_x1 := own_d100 hd_x1
  refine own_p (g' := (mkF m 1 #[rv a, iv lo, iv 3, oU, oU, oU] [(.ref a)])) (fun _ k => XS.aloadN X0.here hx rfl (hb hby own_dB14_0) rfl rfl k) ?_
  obtain ⟨cq1, kq1, q1a, q1b, q1c⟩ := isOf hZ e0 E_a
  obtain ⟨_, _, ⟨T1, L1, k1, n1⟩, -, X1, ⟨Lc1, hQ1, l1, y1, z1⟩, st1⟩ := X0.virtualBack hx (y := own_y9) (z := own_y9) hown (mvT hZ (own_W hw 47 rfl)) (mvT hZ (own_W hw 48 rfl)) (notFace_of_selects (args := #[]) (mvT hZ (own_W hw 50 rfl))) (mvT hZ (own_W hw 50 rfl)) (mvT hZ (own_W hw 49 rfl)) (by decide) (backOf (W := 0) (own_rm10 l Z a0 hw [] a cs fo va kv (2 : Int32) [(.int x0), (.int x1)] h0 n0 Zs OL S_cs hcs S_fo hfo E_a F_a_value F_a_coder V_va) hZ (own_W hw 51 rfl) (own_W hw 10 rfl) (by decide) (by decide)) q1a q1c (g := (mkF m 1 #[rv a, iv lo, iv 3, oU, oU, oU] [(.ref a)])) rfl (by rw [hml]; rfl) (Steps.refl _) (argsL := []) (rest := []) (lenOf own_pd15_2_0 rfl) rfl (Nat.le_refl _) (hb hby own_dB14_1) (fun _ _ => ⟨rfl, e0, (by decide : 0 + 0 ≤ _), (by decide : 0 + 0 ≤ _)⟩)
  dsimp only [Pt.U, Pt.locs, Pt.cells, Pt.slots] at X1 l1 y1 z1 st1 hQ1
  subst l1 y1 z1
  obtain ⟨rfl, NQ1, eq1⟩ := hQ1
  have NF := Fr.app NF NQ1
  refine own_go (T' := T1) (g' := (mkF m 4 #[rv a, iv lo, iv 3, oU, oU, oU] [(.int 2)])) (fun _ k => st1.trans k) ?_
  refine own_p (g' := (mkF m 9 #[rv a, iv lo, iv 3, oU, oU, oU] [(.ref a)])) (fun _ k => XS.iloadN X1.here hx rfl (hb hby own_dB14_4) rfl (XS.icmpNo X1.here hx rfl (hb hby own_dB14_5) rfl (flt hlo).1 (XS.aloadN X1.here hx rfl (hb hby own_dB14_8) rfl rfl k))) ?_
  obtain ⟨cq2, kq2, q2a, q2b, q2c⟩ := isOf hZ eq1 E_a
  obtain ⟨_, _, ⟨T2, L2, k2, n2⟩, -, X2, ⟨Lc2, hQ2, l2, y2, z2⟩, st2⟩ := X1.virtualBack hx (y := own_y9) (z := own_y9) hown (mvT hZ (own_W hw 47 rfl)) (mvT hZ (own_W hw 48 rfl)) (notFace_of_selects (args := #[]) (mvT hZ (own_W hw 50 rfl))) (mvT hZ (own_W hw 50 rfl)) (mvT hZ (own_W hw 49 rfl)) (by decide) (backOf (W := 0) (own_rm10 l Z a0 hw [] a cs fo va kv (2 : Int32) [(.int x0), (.int x1)] h0 n0 Zs OL S_cs hcs S_fo hfo E_a F_a_value F_a_coder V_va) hZ (own_W hw 51 rfl) (own_W hw 10 rfl) (by decide) (by decide)) q2a q2c (g := (mkF m 9 #[rv a, iv lo, iv 3, oU, oU, oU] [(.ref a)])) rfl (by rw [hml]; rfl) (Steps.refl _) (argsL := []) (rest := []) (lenOf own_pd15_2_0 rfl) rfl (Nat.le_refl _) (hb hby own_dB14_9) (fun _ _ => ⟨rfl, eq1, (by decide : 0 + 0 ≤ _), (by decide : 0 + 0 ≤ _)⟩)
  dsimp only [Pt.U, Pt.locs, Pt.cells, Pt.slots] at X2 l2 y2 z2 st2 hQ2
  subst l2 y2 z2
  obtain ⟨rfl, NQ2, eq2⟩ := hQ2
  have NF := Fr.app NF NQ2
  refine own_go (T' := T2) (g' := (mkF m 12 #[rv a, iv lo, iv 3, oU, oU, oU] [(.int 2)])) (fun _ k => st2.trans k) ?_
  refine own_p (g' := (mkF m 17 #[rv a, iv lo, iv 3, oU, oU, oU] [(.int 1)])) (fun _ k => XS.iloadN X2.here hx rfl (hb hby own_dB14_12) rfl (XS.icmpNo X2.here hx rfl (hb hby own_dB14_13) rfl (by decide) (XS.iconst X2.here hx rfl (hb hby own_dB14_16) k))) ?_
  refine own_p (g' := (mkF m 23 #[rv a, iv lo, iv 3, iv 1, oU, oU] [(.int 0)])) (fun _ k => XS.goto X2.here hx rfl (pc0 := 17) (pc' := 21) rfl (hb hby own_dB14_17) (by decide) (by decide) (XS.istoreN X2.here hx rfl (hb hby own_dB14_21) rfl (l' := #[rv a, iv lo, iv 3, iv 1, oU, oU]) rfl (XS.iconst X2.here hx rfl (hb hby own_dB14_22) k))) ?_
  refine own_p (g' := (mkF m 29 #[rv a, iv lo, iv 3, iv 1, iv 0, oU] [])) (fun _ k => XS.istore X2.here hx rfl (hb hby own_dB14_23) rfl (l' := #[rv a, iv lo, iv 3, iv 1, iv 0, oU]) rfl (XS.iloadN X2.here hx rfl (hb hby own_dB14_25) rfl (XS.ifNo X2.here hx rfl (hb hby own_dB14_26) rfl (by decide) k))) ?_
  refine own_p (g' := (mkF m 32 #[rv a, iv lo, iv 3, iv 1, iv 0, oU] [(.ref a), (.int 0)])) (fun _ k => XS.iload X2.here hx rfl (hb hby own_dB14_29) rfl (XS.aloadN X2.here hx rfl (hb hby own_dB14_31) rfl rfl k)) ?_
  obtain ⟨cq3, kq3, q3a, q3b, q3c⟩ := isOf hZ eq2 E_a
  obtain ⟨_, _, ⟨T3, L3, k3, n3⟩, -, X3, ⟨Lc3, hQ3, l3, y3, z3⟩, st3⟩ := X2.virtualBack hx (y := own_y9) (z := own_y9) hown (mvT hZ (own_W hw 47 rfl)) (mvT hZ (own_W hw 48 rfl)) (notFace_of_selects (args := #[]) (mvT hZ (own_W hw 50 rfl))) (mvT hZ (own_W hw 50 rfl)) (mvT hZ (own_W hw 49 rfl)) (by decide) (backOf (W := 1) (own_rm10 l Z a0 hw [] a cs fo va kv (2 : Int32) [(.int x0), (.int x1)] h0 n0 Zs OL S_cs hcs S_fo hfo E_a F_a_value F_a_coder V_va) hZ (own_W hw 51 rfl) (own_W hw 10 rfl) (by decide) (by decide)) q3a q3c (g := (mkF m 32 #[rv a, iv lo, iv 3, iv 1, iv 0, oU] [(.ref a), (.int 0)])) rfl (by rw [hml]; rfl) (Steps.refl _) (argsL := []) (rest := [(.int 0)]) (lenOf own_pd15_2_0 rfl) rfl (Nat.le_refl _) (hb hby own_dB14_32) (fun _ _ => ⟨rfl, eq2, (by decide : 0 + 0 ≤ _), (by decide : 0 + 0 ≤ _)⟩)
  dsimp only [Pt.U, Pt.locs, Pt.cells, Pt.slots] at X3 l3 y3 z3 st3 hQ3
  subst l3 y3 z3
  obtain ⟨rfl, NQ3, eq3⟩ := hQ3
  have NF := Fr.app NF NQ3
  refine own_go (T' := T3) (g' := (mkF m 35 #[rv a, iv lo, iv 3, iv 1, iv 0, oU] [(.int 2), (.int 0)])) (fun _ k => st3.trans k) ?_
  refine own_p (g' := (mkF m 41 #[rv a, iv lo, iv 3, iv 1, iv 0, oU] [(.int 0), (.ref a)])) (fun _ k => XS.icmpNo X3.here hx rfl (hb hby own_dB14_35) rfl (by decide) (XS.aloadN X3.here hx rfl (hb hby own_dB14_38) rfl rfl (XS.iload X3.here hx rfl (hb hby own_dB14_39) rfl k))) ?_
  obtain ⟨cq4, kq4, q4a, q4b, q4c⟩ := isOf hZ eq3 E_a
  obtain ⟨_, _, ⟨T4, L4, k4, n4⟩, -, X4, ⟨Lc4, hQ4, l4, y4, z4⟩, st4⟩ := X3.virtualBack hx (y := own_y13) (z := own_y13) hown (mvT hZ (own_W hw 57 rfl)) (mvT hZ (own_W hw 58 rfl)) (notFace_of_selects (args := #[]) (mvT hZ (own_W hw 60 rfl))) (mvT hZ (own_W hw 60 rfl)) (mvT hZ (own_W hw 59 rfl)) (by decide) (backOf (W := 0) (own_rm14 l Z a0 hw [] a (0 : Int32) cs fo va kv (2 : Int32) [(.int x0), (.int x1)] x0 h0 n0 Zs OL S_cs hcs S_fo hfo E_a F_a_value F_a_coder V_va (by decide) (by decide) rfl hd_x0) hZ (own_W hw 61 rfl) (own_W hw 10 rfl) (by decide) (by decide)) q4a q4c (g := (mkF m 41 #[rv a, iv lo, iv 3, iv 1, iv 0, oU] [(.int 0), (.ref a)])) rfl (by rw [hml]; rfl) (Steps.refl _) (argsL := [(.int 0)]) (rest := []) (lenOf own_pd15_2_1 rfl) rfl (Nat.le_refl _) (hb hby own_dB14_41) (fun _ _ => ⟨rfl, eq3, (by decide : 0 + 0 ≤ _), (by decide : 0 + 0 ≤ _)⟩)
  dsimp only [Pt.U, Pt.locs, Pt.cells, Pt.slots] at X4 l4 y4 z4 st4 hQ4
  subst l4 y4 z4
  obtain ⟨rfl, NQ4, eq4⟩ := hQ4
  have NF := Fr.app NF NQ4
  refine own_go (T' := T4) (g' := (mkF m 44 #[rv a, iv lo, iv 3, iv 1, iv 0, oU] [(.int x0)])) (fun _ k => st4.trans k) ?_
  refine own_p (g' := (mkF m 50 #[rv a, iv lo, iv 3, iv 1, iv 0, iv x0] [(.int 48), (.int x0)])) (fun _ k => XS.istore X4.here hx rfl (hb hby own_dB14_44) rfl (l' := #[rv a, iv lo, iv 3, iv 1, iv 0, iv x0]) rfl (XS.iload X4.here hx rfl (hb hby own_dB14_46) rfl (XS.bipush X4.here hx rfl (hb hby own_dB14_48) k))) ?_
  refine own_p (g' := (mkF m 57 #[rv a, iv lo, iv 3, iv 1, iv 0, iv x0] [(.int 57), (.int x0)])) (fun _ k => XS.icmpNo X4.here hx rfl (hb hby own_dB14_50) rfl (flt hl_x0).1 (XS.iload X4.here hx rfl (hb hby own_dB14_53) rfl (XS.bipush X4.here hx rfl (hb hby own_dB14_55) k))) ?_
  refine own_p (g' := (mkF m 65 #[rv a, iv lo, iv 3, iv 1, iv 0, iv x0] [(.int 1)])) (fun _ k => XS.icmpNo X4.here hx rfl (hb hby own_dB14_57) rfl (flt hu_x0).2.2.1 (XS.iconst X4.here hx rfl (hb hby own_dB14_60) (XS.goto X4.here hx rfl (pc0 := 61) (pc' := 65) rfl (hb hby own_dB14_61) (by decide) (by decide) k))) ?_
  refine own_p (g' := (mkF m 25 #[rv a, iv lo, iv 3, iv 1, iv 1, iv x0] [])) (fun _ k => XS.istoreN X4.here hx rfl (hb hby own_dB14_65) rfl (l' := #[rv a, iv lo, iv 3, iv 1, iv 0, iv x0]) rfl (XS.iinc X4.here hx rfl (hb hby own_dB14_66) rfl (l' := #[rv a, iv lo, iv 3, iv 1, iv 1, iv x0]) rfl (XS.goto X4.here hx rfl (pc0 := 69) (pc' := 25) rfl (hb hby own_dB14_69) (by decide) (by decide) k))) ?_
  refine own_p (g' := (mkF m 31 #[rv a, iv lo, iv 3, iv 1, iv 1, iv x0] [(.int 1)])) (fun _ k => XS.iloadN X4.here hx rfl (hb hby own_dB14_25) rfl (XS.ifNo X4.here hx rfl (hb hby own_dB14_26) rfl (by decide) (XS.iload X4.here hx rfl (hb hby own_dB14_29) rfl k))) ?_
  refine own_p (g' := (mkF m 32 #[rv a, iv lo, iv 3, iv 1, iv 1, iv x0] [(.ref a), (.int 1)])) (fun _ k => XS.aloadN X4.here hx rfl (hb hby own_dB14_31) rfl rfl k) ?_
  obtain ⟨cq5, kq5, q5a, q5b, q5c⟩ := isOf hZ eq4 E_a
  obtain ⟨_, _, ⟨T5, L5, k5, n5⟩, -, X5, ⟨Lc5, hQ5, l5, y5, z5⟩, st5⟩ := X4.virtualBack hx (y := own_y9) (z := own_y9) hown (mvT hZ (own_W hw 47 rfl)) (mvT hZ (own_W hw 48 rfl)) (notFace_of_selects (args := #[]) (mvT hZ (own_W hw 50 rfl))) (mvT hZ (own_W hw 50 rfl)) (mvT hZ (own_W hw 49 rfl)) (by decide) (backOf (W := 1) (own_rm10 l Z a0 hw [] a cs fo va kv (2 : Int32) [(.int x0), (.int x1)] h0 n0 Zs OL S_cs hcs S_fo hfo E_a F_a_value F_a_coder V_va) hZ (own_W hw 51 rfl) (own_W hw 10 rfl) (by decide) (by decide)) q5a q5c (g := (mkF m 32 #[rv a, iv lo, iv 3, iv 1, iv 1, iv x0] [(.ref a), (.int 1)])) rfl (by rw [hml]; rfl) (Steps.refl _) (argsL := []) (rest := [(.int 1)]) (lenOf own_pd15_2_0 rfl) rfl (Nat.le_refl _) (hb hby own_dB14_32) (fun _ _ => ⟨rfl, eq4, (by decide : 0 + 0 ≤ _), (by decide : 0 + 0 ≤ _)⟩)
  dsimp only [Pt.U, Pt.locs, Pt.cells, Pt.slots] at X5 l5 y5 z5 st5 hQ5
  subst l5 y5 z5
  obtain ⟨rfl, NQ5, eq5⟩ := hQ5
  have NF := Fr.app NF NQ5
  refine own_go (T' := T5) (g' := (mkF m 35 #[rv a, iv lo, iv 3, iv 1, iv 1, iv x0] [(.int 2), (.int 1)])) (fun _ k => st5.trans k) ?_
  refine own_p (g' := (mkF m 41 #[rv a, iv lo, iv 3, iv 1, iv 1, iv x0] [(.int 1), (.ref a)])) (fun _ k => XS.icmpNo X5.here hx rfl (hb hby own_dB14_35) rfl (by decide) (XS.aloadN X5.here hx rfl (hb hby own_dB14_38) rfl rfl (XS.iload X5.here hx rfl (hb hby own_dB14_39) rfl k))) ?_
  obtain ⟨cq6, kq6, q6a, q6b, q6c⟩ := isOf hZ eq5 E_a
  obtain ⟨_, _, ⟨T6, L6, k6, n6⟩, -, X6, ⟨Lc6, hQ6, l6, y6, z6⟩, st6⟩ := X5.virtualBack hx (y := own_y13) (z := own_y13) hown (mvT hZ (own_W hw 57 rfl)) (mvT hZ (own_W hw 58 rfl)) (notFace_of_selects (args := #[]) (mvT hZ (own_W hw 60 rfl))) (mvT hZ (own_W hw 60 rfl)) (mvT hZ (own_W hw 59 rfl)) (by decide) (backOf (W := 0) (own_rm14 l Z a0 hw [] a (1 : Int32) cs fo va kv (2 : Int32) [(.int x0), (.int x1)] x1 h0 n0 Zs OL S_cs hcs S_fo hfo E_a F_a_value F_a_coder V_va (by decide) (by decide) rfl hd_x1) hZ (own_W hw 61 rfl) (own_W hw 10 rfl) (by decide) (by decide)) q6a q6c (g := (mkF m 41 #[rv a, iv lo, iv 3, iv 1, iv 1, iv x0] [(.int 1), (.ref a)])) rfl (by rw [hml]; rfl) (Steps.refl _) (argsL := [(.int 1)]) (rest := []) (lenOf own_pd15_2_1 rfl) rfl (Nat.le_refl _) (hb hby own_dB14_41) (fun _ _ => ⟨rfl, eq5, (by decide : 0 + 0 ≤ _), (by decide : 0 + 0 ≤ _)⟩)
  dsimp only [Pt.U, Pt.locs, Pt.cells, Pt.slots] at X6 l6 y6 z6 st6 hQ6
  subst l6 y6 z6
  obtain ⟨rfl, NQ6, eq6⟩ := hQ6
  have NF := Fr.app NF NQ6
  refine own_go (T' := T6) (g' := (mkF m 44 #[rv a, iv lo, iv 3, iv 1, iv 1, iv x0] [(.int x1)])) (fun _ k => st6.trans k) ?_
  refine own_p (g' := (mkF m 50 #[rv a, iv lo, iv 3, iv 1, iv 1, iv x1] [(.int 48), (.int x1)])) (fun _ k => XS.istore X6.here hx rfl (hb hby own_dB14_44) rfl (l' := #[rv a, iv lo, iv 3, iv 1, iv 1, iv x1]) rfl (XS.iload X6.here hx rfl (hb hby own_dB14_46) rfl (XS.bipush X6.here hx rfl (hb hby own_dB14_48) k))) ?_
  refine own_p (g' := (mkF m 57 #[rv a, iv lo, iv 3, iv 1, iv 1, iv x1] [(.int 57), (.int x1)])) (fun _ k => XS.icmpNo X6.here hx rfl (hb hby own_dB14_50) rfl (flt hl_x1).1 (XS.iload X6.here hx rfl (hb hby own_dB14_53) rfl (XS.bipush X6.here hx rfl (hb hby own_dB14_55) k))) ?_
  refine own_p (g' := (mkF m 65 #[rv a, iv lo, iv 3, iv 1, iv 1, iv x1] [(.int 1)])) (fun _ k => XS.icmpNo X6.here hx rfl (hb hby own_dB14_57) rfl (flt hu_x1).2.2.1 (XS.iconst X6.here hx rfl (hb hby own_dB14_60) (XS.goto X6.here hx rfl (pc0 := 61) (pc' := 65) rfl (hb hby own_dB14_61) (by decide) (by decide) k))) ?_
  refine own_p (g' := (mkF m 25 #[rv a, iv lo, iv 3, iv 1, iv 2, iv x1] [])) (fun _ k => XS.istoreN X6.here hx rfl (hb hby own_dB14_65) rfl (l' := #[rv a, iv lo, iv 3, iv 1, iv 1, iv x1]) rfl (XS.iinc X6.here hx rfl (hb hby own_dB14_66) rfl (l' := #[rv a, iv lo, iv 3, iv 1, iv 2, iv x1]) rfl (XS.goto X6.here hx rfl (pc0 := 69) (pc' := 25) rfl (hb hby own_dB14_69) (by decide) (by decide) k))) ?_
  refine own_p (g' := (mkF m 31 #[rv a, iv lo, iv 3, iv 1, iv 2, iv x1] [(.int 2)])) (fun _ k => XS.iloadN X6.here hx rfl (hb hby own_dB14_25) rfl (XS.ifNo X6.here hx rfl (hb hby own_dB14_26) rfl (by decide) (XS.iload X6.here hx rfl (hb hby own_dB14_29) rfl k))) ?_
  refine own_p (g' := (mkF m 32 #[rv a, iv lo, iv 3, iv 1, iv 2, iv x1] [(.ref a), (.int 2)])) (fun _ k => XS.aloadN X6.here hx rfl (hb hby own_dB14_31) rfl rfl k) ?_
  obtain ⟨cq7, kq7, q7a, q7b, q7c⟩ := isOf hZ eq6 E_a
  obtain ⟨_, _, ⟨T7, L7, k7, n7⟩, -, X7, ⟨Lc7, hQ7, l7, y7, z7⟩, st7⟩ := X6.virtualBack hx (y := own_y9) (z := own_y9) hown (mvT hZ (own_W hw 47 rfl)) (mvT hZ (own_W hw 48 rfl)) (notFace_of_selects (args := #[]) (mvT hZ (own_W hw 50 rfl))) (mvT hZ (own_W hw 50 rfl)) (mvT hZ (own_W hw 49 rfl)) (by decide) (backOf (W := 1) (own_rm10 l Z a0 hw [] a cs fo va kv (2 : Int32) [(.int x0), (.int x1)] h0 n0 Zs OL S_cs hcs S_fo hfo E_a F_a_value F_a_coder V_va) hZ (own_W hw 51 rfl) (own_W hw 10 rfl) (by decide) (by decide)) q7a q7c (g := (mkF m 32 #[rv a, iv lo, iv 3, iv 1, iv 2, iv x1] [(.ref a), (.int 2)])) rfl (by rw [hml]; rfl) (Steps.refl _) (argsL := []) (rest := [(.int 2)]) (lenOf own_pd15_2_0 rfl) rfl (Nat.le_refl _) (hb hby own_dB14_32) (fun _ _ => ⟨rfl, eq6, (by decide : 0 + 0 ≤ _), (by decide : 0 + 0 ≤ _)⟩)
  dsimp only [Pt.U, Pt.locs, Pt.cells, Pt.slots] at X7 l7 y7 z7 st7 hQ7
  subst l7 y7 z7
  obtain ⟨rfl, NQ7, eq7⟩ := hQ7
  have NF := Fr.app NF NQ7
  refine own_go (T' := T7) (g' := (mkF m 35 #[rv a, iv lo, iv 3, iv 1, iv 2, iv x1] [(.int 2), (.int 2)])) (fun _ k => st7.trans k) ?_
  refine own_p (g' := (mkF m 73 #[rv a, iv lo, iv 3, iv 1, iv 2, iv x1] [(.int 1)])) (fun _ k => XS.icmpYes X7.here hx rfl (pc0 := 35) (pc' := 72) rfl (hb hby own_dB14_35) rfl (by decide) (by decide) (by decide) (XS.iloadN X7.here hx rfl (hb hby own_dB14_72) rfl k)) ?_
  refine own_ret X7 Bd.notSynchronized (some (.int 1)) (fun h => by rw [Bd.returns] at h; cases h) (fun fs hr => retN X7 hx (t := .boolean) Bd.returns (by simp) (hb hby own_dB14_73) hr) ?_ (by decide) (by decide)
  show (own_Q15_2 Z a lo cs fo va kv x0 x1 h0 n0) (some (.int 1)) T7.heap _
  rw [eq7]
  exact ⟨rfl, NF, rfl⟩
theorem own_pn15_3 : plainName "com/example/carrier_name_resolver/carriernameresolver/card/Plmn" = true := by first | (simp [plainName, overriddenIn]; done) | decide +kernel
theorem own_pd15_3_0 : parseMethodDescriptor "()I" = some ⟨[], some .int⟩ := by decide +kernel
theorem own_pd15_3_1 : parseMethodDescriptor "(I)C" = some ⟨[.int], some .char⟩ := by decide +kernel
theorem own_ef15_3 (m : MethodId) (a : Addr) (lo : Int32) : entryFrame m #[(.ref a), (.int lo), (.int 3)] 6 = mkF m 0 #[.val (.ref a), .val (.int lo), .val (.int 3), .unset, .unset, .unset] [] := by first | (simp [entryFrame, mkF, argsToLocals, Value.category]; done) | rfl
def own_Q15_3 (Z : State) (a : Addr) (lo : Int32) (cs : Int32) (fo : Value) (va : Addr) (kv : ClassId) (x0 : Int32) (x1 : Int32) (x2 : Int32) (h0 : Heap) (n0 : Nat) (v : Option Value) (h : Heap) (L : List Loc) : Prop := v = some (.int 1) ∧ Fr n0 L ∧ h = h0
set_option maxRecDepth 65536 in
set_option maxHeartbeats 40000000 in
theorem own_rm15_3 (l : Launch) (Z : State) (a0 : Array Value) (hw : ∀ d ∈ tables_1, d.before a0 Z = true) (ws : List Jvm.Cond) (a : Addr) (lo : Int32) (cs : Int32) (fo : Value) (va : Addr) (kv : ClassId) (x0 : Int32) (x1 : Int32) (x2 : Int32) (h0 : Heap) (n0 : Nat) (Zs : n0 ≤ h0.size) (OL : Old Z n0 h0) (S_cs : Sta Z Z.heap "java/lang/String" "COMPACT_STRINGS" "Z" (.int cs)) (hcs : ¬ (cs = (0 : Int32))) (S_fo : Sta Z Z.heap "jdk/internal/util/Preconditions" "SIOOBE_FORMATTER" "Ljava/util/function/BiFunction;" fo) (hfo : fo.isRef = true) (hlo : ¬ ((3 : Int32) < lo)) (E_a : Exa Z h0 a "java/lang/String") (F_a_value : Fld Z h0 a "java/lang/String" "value" "[B" (.ref va)) (F_a_coder : Fld Z h0 a "java/lang/String" "coder" "B" (.int 0)) (V_va : Arv Z h0 va kv .byte (3 : Int32) [(.int x0), (.int x1), (.int x2)] (.int 0)) (hd_x0 : own_Dg x0) (hd_x1 : own_Dg x1) (hd_x2 : own_Dg x2) :
    MetFree l own_y14 (head1 (Jvm.Cond.code own_y14 prog_21_method_15_code 6 (some .boolean) :: ws) ({ frames := 4, cells := 0, slots := 0, locals := 53 } : Room)) (fun aA_ U => aA_ = #[(.ref a), (.int lo), (.int 3)] ∧ Z.Warmed39 U.vm ∧ U.heap = h0) (fun _ _ _ _ _ => True) (fun _ U o U' => ∃ v L, o = .returned v ∧ own_Q15_3 Z a lo cs fo va kv x0 x1 x2 h0 n0 v U'.heap L ∧ FrameEnd U o U' L ({ frames := 4, cells := 0, slots := 0, locals := 53 } : Room).cells ({ frames := 4, cells := 0, slots := 0, locals := 53 } : Room).slots) := by
  refine MetFree.of_bodySF (plainFor_of_name own_pn15_3) hisR ?_
  intro p e s m args below meth c s₁ Bd hml0 hP hK
  obtain ⟨rfl, hZ, hh⟩ := hP
  have hx := Bd.exec
  have hby := Bd.bytes
  have hml : c.maxLocals = 6 := hml0
  have hown : s.vm.findClass "com/example/carrier_name_resolver/carriernameresolver/card/Plmn" = some m.cls := findClass_of_methodNamed Bd.named
  have hnm := (name_of_methodNamed Bd.named Bd.method).1
  have X0 : Stand p l e ({ frames := 4, cells := 0, slots := 0, locals := 53 } : Room) s m #[(.ref a), (.int lo), (.int 3)] below meth c s₁ [] 0 0 := Stand.of_body Bd
  have e0 : s₁.heap = h0 := by rw [← hh, Bd.state]; rfl
  have NF := Fr.nil n0
  rw [own_ef15_3 m a lo]
  show own_Dn p e below s (own_Q15_3 Z a lo cs fo va kv x0 x1 x2 h0 n0) 0 0 s₁ (mkF m 0 #[.val (.ref a), .val (.int lo), .val (.int 3), .unset, .unset, .unset] [])
  have hl_x0 := own_d48 hd_x0
  have hu_x0 := own_d57 hd_x0
  have hk_x0 := own_d100 hd_x0
  have hl_x1 := own_d48 hd_x1
  have hu_x1 := own_d57 hd_x1
  have hk_x1 := own_d100 hd_x1
  have hl_x2 := own_d48 hd_x2
  have hu_x2 := own_d57 hd_x2
  have hk_x2 := own_d100 hd_x2
  refine own_p (g' := (mkF m 1 #[rv a, iv lo, iv 3, oU, oU, oU] [(.ref a)])) (fun _ k => XS.aloadN X0.here hx rfl (hb hby own_dB14_0) rfl rfl k) ?_
  obtain ⟨cq1, kq1, q1a, q1b, q1c⟩ := isOf hZ e0 E_a
  obtain ⟨_, _, ⟨T1, L1, k1, n1⟩, -, X1, ⟨Lc1, hQ1, l1, y1, z1⟩, st1⟩ := X0.virtualBack hx (y := own_y9) (z := own_y9) hown (mvT hZ (own_W hw 47 rfl)) (mvT hZ (own_W hw 48 rfl)) (notFace_of_selects (args := #[]) (mvT hZ (own_W hw 50 rfl))) (mvT hZ (own_W hw 50 rfl)) (mvT hZ (own_W hw 49 rfl)) (by decide) (backOf (W := 0) (own_rm10 l Z a0 hw [] a cs fo va kv (3 : Int32) [(.int x0), (.int x1), (.int x2)] h0 n0 Zs OL S_cs hcs S_fo hfo E_a F_a_value F_a_coder V_va) hZ (own_W hw 51 rfl) (own_W hw 10 rfl) (by decide) (by decide)) q1a q1c (g := (mkF m 1 #[rv a, iv lo, iv 3, oU, oU, oU] [(.ref a)])) rfl (by rw [hml]; rfl) (Steps.refl _) (argsL := []) (rest := []) (lenOf own_pd15_3_0 rfl) rfl (Nat.le_refl _) (hb hby own_dB14_1) (fun _ _ => ⟨rfl, e0, (by decide : 0 + 0 ≤ _), (by decide : 0 + 0 ≤ _)⟩)
  dsimp only [Pt.U, Pt.locs, Pt.cells, Pt.slots] at X1 l1 y1 z1 st1 hQ1
  subst l1 y1 z1
  obtain ⟨rfl, NQ1, eq1⟩ := hQ1
  have NF := Fr.app NF NQ1
  refine own_go (T' := T1) (g' := (mkF m 4 #[rv a, iv lo, iv 3, oU, oU, oU] [(.int 3)])) (fun _ k => st1.trans k) ?_
  refine own_p (g' := (mkF m 9 #[rv a, iv lo, iv 3, oU, oU, oU] [(.ref a)])) (fun _ k => XS.iloadN X1.here hx rfl (hb hby own_dB14_4) rfl (XS.icmpNo X1.here hx rfl (hb hby own_dB14_5) rfl (flt hlo).1 (XS.aloadN X1.here hx rfl (hb hby own_dB14_8) rfl rfl k))) ?_
  obtain ⟨cq2, kq2, q2a, q2b, q2c⟩ := isOf hZ eq1 E_a
  obtain ⟨_, _, ⟨T2, L2, k2, n2⟩, -, X2, ⟨Lc2, hQ2, l2, y2, z2⟩, st2⟩ := X1.virtualBack hx (y := own_y9) (z := own_y9) hown (mvT hZ (own_W hw 47 rfl)) (mvT hZ (own_W hw 48 rfl)) (notFace_of_selects (args := #[]) (mvT hZ (own_W hw 50 rfl))) (mvT hZ (own_W hw 50 rfl)) (mvT hZ (own_W hw 49 rfl)) (by decide) (backOf (W := 0) (own_rm10 l Z a0 hw [] a cs fo va kv (3 : Int32) [(.int x0), (.int x1), (.int x2)] h0 n0 Zs OL S_cs hcs S_fo hfo E_a F_a_value F_a_coder V_va) hZ (own_W hw 51 rfl) (own_W hw 10 rfl) (by decide) (by decide)) q2a q2c (g := (mkF m 9 #[rv a, iv lo, iv 3, oU, oU, oU] [(.ref a)])) rfl (by rw [hml]; rfl) (Steps.refl _) (argsL := []) (rest := []) (lenOf own_pd15_3_0 rfl) rfl (Nat.le_refl _) (hb hby own_dB14_9) (fun _ _ => ⟨rfl, eq1, (by decide : 0 + 0 ≤ _), (by decide : 0 + 0 ≤ _)⟩)
  dsimp only [Pt.U, Pt.locs, Pt.cells, Pt.slots] at X2 l2 y2 z2 st2 hQ2
  subst l2 y2 z2
  obtain ⟨rfl, NQ2, eq2⟩ := hQ2
  have NF := Fr.app NF NQ2
  refine own_go (T' := T2) (g' := (mkF m 12 #[rv a, iv lo, iv 3, oU, oU, oU] [(.int 3)])) (fun _ k => st2.trans k) ?_
  refine own_p (g' := (mkF m 17 #[rv a, iv lo, iv 3, oU, oU, oU] [(.int 1)])) (fun _ k => XS.iloadN X2.here hx rfl (hb hby own_dB14_12) rfl (XS.icmpNo X2.here hx rfl (hb hby own_dB14_13) rfl (by decide) (XS.iconst X2.here hx rfl (hb hby own_dB14_16) k))) ?_
  refine own_p (g' := (mkF m 23 #[rv a, iv lo, iv 3, iv 1, oU, oU] [(.int 0)])) (fun _ k => XS.goto X2.here hx rfl (pc0 := 17) (pc' := 21) rfl (hb hby own_dB14_17) (by decide) (by decide) (XS.istoreN X2.here hx rfl (hb hby own_dB14_21) rfl (l' := #[rv a, iv lo, iv 3, iv 1, oU, oU]) rfl (XS.iconst X2.here hx rfl (hb hby own_dB14_22) k))) ?_
  refine own_p (g' := (mkF m 29 #[rv a, iv lo, iv 3, iv 1, iv 0, oU] [])) (fun _ k => XS.istore X2.here hx rfl (hb hby own_dB14_23) rfl (l' := #[rv a, iv lo, iv 3, iv 1, iv 0, oU]) rfl (XS.iloadN X2.here hx rfl (hb hby own_dB14_25) rfl (XS.ifNo X2.here hx rfl (hb hby own_dB14_26) rfl (by decide) k))) ?_
  refine own_p (g' := (mkF m 32 #[rv a, iv lo, iv 3, iv 1, iv 0, oU] [(.ref a), (.int 0)])) (fun _ k => XS.iload X2.here hx rfl (hb hby own_dB14_29) rfl (XS.aloadN X2.here hx rfl (hb hby own_dB14_31) rfl rfl k)) ?_
  obtain ⟨cq3, kq3, q3a, q3b, q3c⟩ := isOf hZ eq2 E_a
  obtain ⟨_, _, ⟨T3, L3, k3, n3⟩, -, X3, ⟨Lc3, hQ3, l3, y3, z3⟩, st3⟩ := X2.virtualBack hx (y := own_y9) (z := own_y9) hown (mvT hZ (own_W hw 47 rfl)) (mvT hZ (own_W hw 48 rfl)) (notFace_of_selects (args := #[]) (mvT hZ (own_W hw 50 rfl))) (mvT hZ (own_W hw 50 rfl)) (mvT hZ (own_W hw 49 rfl)) (by decide) (backOf (W := 1) (own_rm10 l Z a0 hw [] a cs fo va kv (3 : Int32) [(.int x0), (.int x1), (.int x2)] h0 n0 Zs OL S_cs hcs S_fo hfo E_a F_a_value F_a_coder V_va) hZ (own_W hw 51 rfl) (own_W hw 10 rfl) (by decide) (by decide)) q3a q3c (g := (mkF m 32 #[rv a, iv lo, iv 3, iv 1, iv 0, oU] [(.ref a), (.int 0)])) rfl (by rw [hml]; rfl) (Steps.refl _) (argsL := []) (rest := [(.int 0)]) (lenOf own_pd15_3_0 rfl) rfl (Nat.le_refl _) (hb hby own_dB14_32) (fun _ _ => ⟨rfl, eq2, (by decide : 0 + 0 ≤ _), (by decide : 0 + 0 ≤ _)⟩)
  dsimp only [Pt.U, Pt.locs, Pt.cells, Pt.slots] at X3 l3 y3 z3 st3 hQ3
  subst l3 y3 z3
  obtain ⟨rfl, NQ3, eq3⟩ := hQ3
  have NF := Fr.app NF NQ3
  refine own_go (T' := T3) (g' := (mkF m 35 #[rv a, iv lo, iv 3, iv 1, iv 0, oU] [(.int 3), (.int 0)])) (fun _ k => st3.trans k) ?_
  refine own_p (g' := (mkF m 41 #[rv a, iv lo, iv 3, iv 1, iv 0, oU] [(.int 0), (.ref a)])) (fun _ k => XS.icmpNo X3.here hx rfl (hb hby own_dB14_35) rfl (by decide) (XS.aloadN X3.here hx rfl (hb hby own_dB14_38) rfl rfl (XS.iload X3.here hx rfl (hb hby own_dB14_39) rfl k))) ?_
  obtain ⟨cq4, kq4, q4a, q4b, q4c⟩ := isOf hZ eq3 E_a
  obtain ⟨_, _, ⟨T4, L4, k4, n4⟩, -, X4, ⟨Lc4, hQ4, l4, y4, z4⟩, st4⟩ := X3.virtualBack hx (y := own_y13) (z := own_y13) hown (mvT hZ (own_W hw 57 rfl)) (mvT hZ (own_W hw 58 rfl)) (notFace_of_selects (args := #[]) (mvT hZ (own_W hw 60 rfl))) (mvT hZ (own_W hw 60 rfl)) (mvT hZ (own_W hw 59 rfl)) (by decide) (backOf (W := 0) (own_rm14 l Z a0 hw [] a (0 : Int32) cs fo va kv (3 : Int32) [(.int x0), (.int x1), (.int x2)] x0 h0 n0 Zs OL S_cs hcs S_fo hfo E_a F_a_value F_a_coder V_va (by decide) (by decide) rfl hd_x0) hZ (own_W hw 61 rfl) (own_W hw 10 rfl) (by decide) (by decide)) q4a q4c (g := (mkF m 41 #[rv a, iv lo, iv 3, iv 1, iv 0, oU] [(.int 0), (.ref a)])) rfl (by rw [hml]; rfl) (Steps.refl _) (argsL := [(.int 0)]) (rest := []) (lenOf own_pd15_3_1 rfl) rfl (Nat.le_refl _) (hb hby own_dB14_41) (fun _ _ => ⟨rfl, eq3, (by decide : 0 + 0 ≤ _), (by decide : 0 + 0 ≤ _)⟩)
  dsimp only [Pt.U, Pt.locs, Pt.cells, Pt.slots] at X4 l4 y4 z4 st4 hQ4
  subst l4 y4 z4
  obtain ⟨rfl, NQ4, eq4⟩ := hQ4
  have NF := Fr.app NF NQ4
  refine own_go (T' := T4) (g' := (mkF m 44 #[rv a, iv lo, iv 3, iv 1, iv 0, oU] [(.int x0)])) (fun _ k => st4.trans k) ?_
  refine own_p (g' := (mkF m 50 #[rv a, iv lo, iv 3, iv 1, iv 0, iv x0] [(.int 48), (.int x0)])) (fun _ k => XS.istore X4.here hx rfl (hb hby own_dB14_44) rfl (l' := #[rv a, iv lo, iv 3, iv 1, iv 0, iv x0]) rfl (XS.iload X4.here hx rfl (hb hby own_dB14_46) rfl (XS.bipush X4.here hx rfl (hb hby own_dB14_48) k))) ?_
  refine own_p (g' := (mkF m 57 #[rv a, iv lo, iv 3, iv 1, iv 0, iv x0] [(.int 57), (.int x0)])) (fun _ k => XS.icmpNo X4.here hx rfl (hb hby own_dB14_50) rfl (flt hl_x0).1 (XS.iload X4.here hx rfl (hb hby own_dB14_53) rfl (XS.bipush X4.here hx rfl (hb hby own_dB14_55) k))) ?_
  refine own_p (g' := (mkF m 65 #[rv a, iv lo, iv 3, iv 1, iv 0, iv x0] [(.int 1)])) (fun _ k => XS.icmpNo X4.here hx rfl (hb hby own_dB14_57) rfl (flt hu_x0).2.2.1 (XS.iconst X4.here hx rfl (hb hby own_dB14_60) (XS.goto X4.here hx rfl (pc0 := 61) (pc' := 65) rfl (hb hby own_dB14_61) (by decide) (by decide) k))) ?_
  refine own_p (g' := (mkF m 25 #[rv a, iv lo, iv 3, iv 1, iv 1, iv x0] [])) (fun _ k => XS.istoreN X4.here hx rfl (hb hby own_dB14_65) rfl (l' := #[rv a, iv lo, iv 3, iv 1, iv 0, iv x0]) rfl (XS.iinc X4.here hx rfl (hb hby own_dB14_66) rfl (l' := #[rv a, iv lo, iv 3, iv 1, iv 1, iv x0]) rfl (XS.goto X4.here hx rfl (pc0 := 69) (pc' := 25) rfl (hb hby own_dB14_69) (by decide) (by decide) k))) ?_
  refine own_p (g' := (mkF m 31 #[rv a, iv lo, iv 3, iv 1, iv 1, iv x0] [(.int 1)])) (fun _ k => XS.iloadN X4.here hx rfl (hb hby own_dB14_25) rfl (XS.ifNo X4.here hx rfl (hb hby own_dB14_26) rfl (by decide) (XS.iload X4.here hx rfl (hb hby own_dB14_29) rfl k))) ?_
  refine own_p (g' := (mkF m 32 #[rv a, iv lo, iv 3, iv 1, iv 1, iv x0] [(.ref a), (.int 1)])) (fun _ k => XS.aloadN X4.here hx rfl (hb hby own_dB14_31) rfl rfl k) ?_
  obtain ⟨cq5, kq5, q5a, q5b, q5c⟩ := isOf hZ eq4 E_a
  obtain ⟨_, _, ⟨T5, L5, k5, n5⟩, -, X5, ⟨Lc5, hQ5, l5, y5, z5⟩, st5⟩ := X4.virtualBack hx (y := own_y9) (z := own_y9) hown (mvT hZ (own_W hw 47 rfl)) (mvT hZ (own_W hw 48 rfl)) (notFace_of_selects (args := #[]) (mvT hZ (own_W hw 50 rfl))) (mvT hZ (own_W hw 50 rfl)) (mvT hZ (own_W hw 49 rfl)) (by decide) (backOf (W := 1) (own_rm10 l Z a0 hw [] a cs fo va kv (3 : Int32) [(.int x0), (.int x1), (.int x2)] h0 n0 Zs OL S_cs hcs S_fo hfo E_a F_a_value F_a_coder V_va) hZ (own_W hw 51 rfl) (own_W hw 10 rfl) (by decide) (by decide)) q5a q5c (g := (mkF m 32 #[rv a, iv lo, iv 3, iv 1, iv 1, iv x0] [(.ref a), (.int 1)])) rfl (by rw [hml]; rfl) (Steps.refl _) (argsL := []) (rest := [(.int 1)]) (lenOf own_pd15_3_0 rfl) rfl (Nat.le_refl _) (hb hby own_dB14_32) (fun _ _ => ⟨rfl, eq4, (by decide : 0 + 0 ≤ _), (by decide : 0 + 0 ≤ _)⟩)
  dsimp only [Pt.U, Pt.locs, Pt.cells, Pt.slots] at X5 l5 y5 z5 st5 hQ5
  subst l5 y5 z5
  obtain ⟨rfl, NQ5, eq5⟩ := hQ5
  have NF := Fr.app NF NQ5
  refine own_go (T' := T5) (g' := (mkF m 35 #[rv a, iv lo, iv 3, iv 1, iv 1, iv x0] [(.int 3), (.int 1)])) (fun _ k => st5.trans k) ?_
  refine own_p (g' := (mkF m 41 #[rv a, iv lo, iv 3, iv 1, iv 1, iv x0] [(.int 1), (.ref a)])) (fun _ k => XS.icmpNo X5.here hx rfl (hb hby own_dB14_35) rfl (by decide) (XS.aloadN X5.here hx rfl (hb hby own_dB14_38) rfl rfl (XS.iload X5.here hx rfl (hb hby own_dB14_39) rfl k))) ?_
  obtain ⟨cq6, kq6, q6a, q6b, q6c⟩ := isOf hZ eq5 E_a
  obtain ⟨_, _, ⟨T6, L6, k6, n6⟩, -, X6, ⟨Lc6, hQ6, l6, y6, z6⟩, st6⟩ := X5.virtualBack hx (y := own_y13) (z := own_y13) hown (mvT hZ (own_W hw 57 rfl)) (mvT hZ (own_W hw 58 rfl)) (notFace_of_selects (args := #[]) (mvT hZ (own_W hw 60 rfl))) (mvT hZ (own_W hw 60 rfl)) (mvT hZ (own_W hw 59 rfl)) (by decide) (backOf (W := 0) (own_rm14 l Z a0 hw [] a (1 : Int32) cs fo va kv (3 : Int32) [(.int x0), (.int x1), (.int x2)] x1 h0 n0 Zs OL S_cs hcs S_fo hfo E_a F_a_value F_a_coder V_va (by decide) (by decide) rfl hd_x1) hZ (own_W hw 61 rfl) (own_W hw 10 rfl) (by decide) (by decide)) q6a q6c (g := (mkF m 41 #[rv a, iv lo, iv 3, iv 1, iv 1, iv x0] [(.int 1), (.ref a)])) rfl (by rw [hml]; rfl) (Steps.refl _) (argsL := [(.int 1)]) (rest := []) (lenOf own_pd15_3_1 rfl) rfl (Nat.le_refl _) (hb hby own_dB14_41) (fun _ _ => ⟨rfl, eq5, (by decide : 0 + 0 ≤ _), (by decide : 0 + 0 ≤ _)⟩)
  dsimp only [Pt.U, Pt.locs, Pt.cells, Pt.slots] at X6 l6 y6 z6 st6 hQ6
  subst l6 y6 z6
  obtain ⟨rfl, NQ6, eq6⟩ := hQ6
  have NF := Fr.app NF NQ6
  refine own_go (T' := T6) (g' := (mkF m 44 #[rv a, iv lo, iv 3, iv 1, iv 1, iv x0] [(.int x1)])) (fun _ k => st6.trans k) ?_
  refine own_p (g' := (mkF m 50 #[rv a, iv lo, iv 3, iv 1, iv 1, iv x1] [(.int 48), (.int x1)])) (fun _ k => XS.istore X6.here hx rfl (hb hby own_dB14_44) rfl (l' := #[rv a, iv lo, iv 3, iv 1, iv 1, iv x1]) rfl (XS.iload X6.here hx rfl (hb hby own_dB14_46) rfl (XS.bipush X6.here hx rfl (hb hby own_dB14_48) k))) ?_
  refine own_p (g' := (mkF m 57 #[rv a, iv lo, iv 3, iv 1, iv 1, iv x1] [(.int 57), (.int x1)])) (fun _ k => XS.icmpNo X6.here hx rfl (hb hby own_dB14_50) rfl (flt hl_x1).1 (XS.iload X6.here hx rfl (hb hby own_dB14_53) rfl (XS.bipush X6.here hx rfl (hb hby own_dB14_55) k))) ?_
  refine own_p (g' := (mkF m 65 #[rv a, iv lo, iv 3, iv 1, iv 1, iv x1] [(.int 1)])) (fun _ k => XS.icmpNo X6.here hx rfl (hb hby own_dB14_57) rfl (flt hu_x1).2.2.1 (XS.iconst X6.here hx rfl (hb hby own_dB14_60) (XS.goto X6.here hx rfl (pc0 := 61) (pc' := 65) rfl (hb hby own_dB14_61) (by decide) (by decide) k))) ?_
  refine own_p (g' := (mkF m 25 #[rv a, iv lo, iv 3, iv 1, iv 2, iv x1] [])) (fun _ k => XS.istoreN X6.here hx rfl (hb hby own_dB14_65) rfl (l' := #[rv a, iv lo, iv 3, iv 1, iv 1, iv x1]) rfl (XS.iinc X6.here hx rfl (hb hby own_dB14_66) rfl (l' := #[rv a, iv lo, iv 3, iv 1, iv 2, iv x1]) rfl (XS.goto X6.here hx rfl (pc0 := 69) (pc' := 25) rfl (hb hby own_dB14_69) (by decide) (by decide) k))) ?_
  refine own_p (g' := (mkF m 31 #[rv a, iv lo, iv 3, iv 1, iv 2, iv x1] [(.int 2)])) (fun _ k => XS.iloadN X6.here hx rfl (hb hby own_dB14_25) rfl (XS.ifNo X6.here hx rfl (hb hby own_dB14_26) rfl (by decide) (XS.iload X6.here hx rfl (hb hby own_dB14_29) rfl k))) ?_
  refine own_p (g' := (mkF m 32 #[rv a, iv lo, iv 3, iv 1, iv 2, iv x1] [(.ref a), (.int 2)])) (fun _ k => XS.aloadN X6.here hx rfl (hb hby own_dB14_31) rfl rfl k) ?_
  obtain ⟨cq7, kq7, q7a, q7b, q7c⟩ := isOf hZ eq6 E_a
  obtain ⟨_, _, ⟨T7, L7, k7, n7⟩, -, X7, ⟨Lc7, hQ7, l7, y7, z7⟩, st7⟩ := X6.virtualBack hx (y := own_y9) (z := own_y9) hown (mvT hZ (own_W hw 47 rfl)) (mvT hZ (own_W hw 48 rfl)) (notFace_of_selects (args := #[]) (mvT hZ (own_W hw 50 rfl))) (mvT hZ (own_W hw 50 rfl)) (mvT hZ (own_W hw 49 rfl)) (by decide) (backOf (W := 1) (own_rm10 l Z a0 hw [] a cs fo va kv (3 : Int32) [(.int x0), (.int x1), (.int x2)] h0 n0 Zs OL S_cs hcs S_fo hfo E_a F_a_value F_a_coder V_va) hZ (own_W hw 51 rfl) (own_W hw 10 rfl) (by decide) (by decide)) q7a q7c (g := (mkF m 32 #[rv a, iv lo, iv 3, iv 1, iv 2, iv x1] [(.ref a), (.int 2)])) rfl (by rw [hml]; rfl) (Steps.refl _) (argsL := []) (rest := [(.int 2)]) (lenOf own_pd15_3_0 rfl) rfl (Nat.le_refl _) (hb hby own_dB14_32) (fun _ _ => ⟨rfl, eq6, (by decide : 0 + 0 ≤ _), (by decide : 0 + 0 ≤ _)⟩)
  dsimp only [Pt.U, Pt.locs, Pt.cells, Pt.slots] at X7 l7 y7 z7 st7 hQ7
  subst l7 y7 z7
  obtain ⟨rfl, NQ7, eq7⟩ := hQ7
  have NF := Fr.app NF NQ7
  refine own_go (T' := T7) (g' := (mkF m 35 #[rv a, iv lo, iv 3, iv 1, iv 2, iv x1] [(.int 3), (.int 2)])) (fun _ k => st7.trans k) ?_
  refine own_p (g' := (mkF m 41 #[rv a, iv lo, iv 3, iv 1, iv 2, iv x1] [(.int 2), (.ref a)])) (fun _ k => XS.icmpNo X7.here hx rfl (hb hby own_dB14_35) rfl (by decide) (XS.aloadN X7.here hx rfl (hb hby own_dB14_38) rfl rfl (XS.iload X7.here hx rfl (hb hby own_dB14_39) rfl k))) ?_
  obtain ⟨cq8, kq8, q8a, q8b, q8c⟩ := isOf hZ eq7 E_a
  obtain ⟨_, _, ⟨T8, L8, k8, n8⟩, -, X8, ⟨Lc8, hQ8, l8, y8, z8⟩, st8⟩ := X7.virtualBack hx (y := own_y13) (z := own_y13) hown (mvT hZ (own_W hw 57 rfl)) (mvT hZ (own_W hw 58 rfl)) (notFace_of_selects (args := #[]) (mvT hZ (own_W hw 60 rfl))) (mvT hZ (own_W hw 60 rfl)) (mvT hZ (own_W hw 59 rfl)) (by decide) (backOf (W := 0) (own_rm14 l Z a0 hw [] a (2 : Int32) cs fo va kv (3 : Int32) [(.int x0), (.int x1), (.int x2)] x2 h0 n0 Zs OL S_cs hcs S_fo hfo E_a F_a_value F_a_coder V_va (by decide) (by decide) rfl hd_x2) hZ (own_W hw 61 rfl) (own_W hw 10 rfl) (by decide) (by decide)) q8a q8c (g := (mkF m 41 #[rv a, iv lo, iv 3, iv 1, iv 2, iv x1] [(.int 2), (.ref a)])) rfl (by rw [hml]; rfl) (Steps.refl _) (argsL := [(.int 2)]) (rest := []) (lenOf own_pd15_3_1 rfl) rfl (Nat.le_refl _) (hb hby own_dB14_41) (fun _ _ => ⟨rfl, eq7, (by decide : 0 + 0 ≤ _), (by decide : 0 + 0 ≤ _)⟩)
  dsimp only [Pt.U, Pt.locs, Pt.cells, Pt.slots] at X8 l8 y8 z8 st8 hQ8
  subst l8 y8 z8
  obtain ⟨rfl, NQ8, eq8⟩ := hQ8
  have NF := Fr.app NF NQ8
  refine own_go (T' := T8) (g' := (mkF m 44 #[rv a, iv lo, iv 3, iv 1, iv 2, iv x1] [(.int x2)])) (fun _ k => st8.trans k) ?_
  refine own_p (g' := (mkF m 50 #[rv a, iv lo, iv 3, iv 1, iv 2, iv x2] [(.int 48), (.int x2)])) (fun _ k => XS.istore X8.here hx rfl (hb hby own_dB14_44) rfl (l' := #[rv a, iv lo, iv 3, iv 1, iv 2, iv x2]) rfl (XS.iload X8.here hx rfl (hb hby own_dB14_46) rfl (XS.bipush X8.here hx rfl (hb hby own_dB14_48) k))) ?_
  refine own_p (g' := (mkF m 57 #[rv a, iv lo, iv 3, iv 1, iv 2, iv x2] [(.int 57), (.int x2)])) (fun _ k => XS.icmpNo X8.here hx rfl (hb hby own_dB14_50) rfl (flt hl_x2).1 (XS.iload X8.here hx rfl (hb hby own_dB14_53) rfl (XS.bipush X8.here hx rfl (hb hby own_dB14_55) k))) ?_
  refine own_p (g' := (mkF m 65 #[rv a, iv lo, iv 3, iv 1, iv 2, iv x2] [(.int 1)])) (fun _ k => XS.icmpNo X8.here hx rfl (hb hby own_dB14_57) rfl (flt hu_x2).2.2.1 (XS.iconst X8.here hx rfl (hb hby own_dB14_60) (XS.goto X8.here hx rfl (pc0 := 61) (pc' := 65) rfl (hb hby own_dB14_61) (by decide) (by decide) k))) ?_
  refine own_p (g' := (mkF m 25 #[rv a, iv lo, iv 3, iv 1, iv 3, iv x2] [])) (fun _ k => XS.istoreN X8.here hx rfl (hb hby own_dB14_65) rfl (l' := #[rv a, iv lo, iv 3, iv 1, iv 2, iv x2]) rfl (XS.iinc X8.here hx rfl (hb hby own_dB14_66) rfl (l' := #[rv a, iv lo, iv 3, iv 1, iv 3, iv x2]) rfl (XS.goto X8.here hx rfl (pc0 := 69) (pc' := 25) rfl (hb hby own_dB14_69) (by decide) (by decide) k))) ?_
  refine own_p (g' := (mkF m 31 #[rv a, iv lo, iv 3, iv 1, iv 3, iv x2] [(.int 3)])) (fun _ k => XS.iloadN X8.here hx rfl (hb hby own_dB14_25) rfl (XS.ifNo X8.here hx rfl (hb hby own_dB14_26) rfl (by decide) (XS.iload X8.here hx rfl (hb hby own_dB14_29) rfl k))) ?_
  refine own_p (g' := (mkF m 32 #[rv a, iv lo, iv 3, iv 1, iv 3, iv x2] [(.ref a), (.int 3)])) (fun _ k => XS.aloadN X8.here hx rfl (hb hby own_dB14_31) rfl rfl k) ?_
  obtain ⟨cq9, kq9, q9a, q9b, q9c⟩ := isOf hZ eq8 E_a
  obtain ⟨_, _, ⟨T9, L9, k9, n9⟩, -, X9, ⟨Lc9, hQ9, l9, y9, z9⟩, st9⟩ := X8.virtualBack hx (y := own_y9) (z := own_y9) hown (mvT hZ (own_W hw 47 rfl)) (mvT hZ (own_W hw 48 rfl)) (notFace_of_selects (args := #[]) (mvT hZ (own_W hw 50 rfl))) (mvT hZ (own_W hw 50 rfl)) (mvT hZ (own_W hw 49 rfl)) (by decide) (backOf (W := 1) (own_rm10 l Z a0 hw [] a cs fo va kv (3 : Int32) [(.int x0), (.int x1), (.int x2)] h0 n0 Zs OL S_cs hcs S_fo hfo E_a F_a_value F_a_coder V_va) hZ (own_W hw 51 rfl) (own_W hw 10 rfl) (by decide) (by decide)) q9a q9c (g := (mkF m 32 #[rv a, iv lo, iv 3, iv 1, iv 3, iv x2] [(.ref a), (.int 3)])) rfl (by rw [hml]; rfl) (Steps.refl _) (argsL := []) (rest := [(.int 3)]) (lenOf own_pd15_3_0 rfl) rfl (Nat.le_refl _) (hb hby own_dB14_32) (fun _ _ => ⟨rfl, eq8, (by decide : 0 + 0 ≤ _), (by decide : 0 + 0 ≤ _)⟩)
  dsimp only [Pt.U, Pt.locs, Pt.cells, Pt.slots] at X9 l9 y9 z9 st9 hQ9
  subst l9 y9 z9
  obtain ⟨rfl, NQ9, eq9⟩ := hQ9
  have NF := Fr.app NF NQ9
  refine own_go (T' := T9) (g' := (mkF m 35 #[rv a, iv lo, iv 3, iv 1, iv 3, iv x2] [(.int 3), (.int 3)])) (fun _ k => st9.trans k) ?_
  refine own_p (g' := (mkF m 73 #[rv a, iv lo, iv 3, iv 1, iv 3, iv x2] [(.int 1)])) (fun _ k => XS.icmpYes X9.here hx rfl (pc0 := 35) (pc' := 72) rfl (hb hby own_dB14_35) rfl (by decide) (by decide) (by decide) (XS.iloadN X9.here hx rfl (hb hby own_dB14_72) rfl k)) ?_
  refine own_ret X9 Bd.notSynchronized (some (.int 1)) (fun h => by rw [Bd.returns] at h; cases h) (fun fs hr => retN X9 hx (t := .boolean) Bd.returns (by simp) (hb hby own_dB14_73) hr) ?_ (by decide) (by decide)
  show (own_Q15_3 Z a lo cs fo va kv x0 x1 x2 h0 n0) (some (.int 1)) T9.heap _
  rw [eq9]
  exact ⟨rfl, NF, rfl⟩
theorem own_dB15_0 : decode prog_21_method_6_code 0 = .ok (.iconst 0, 1) := by decide +kernel
theorem own_dB15_1 : decode prog_21_method_6_code 1 = .ok (.istore_n 1, 1) := by decide +kernel
theorem own_dB15_2 : decode prog_21_method_6_code 2 = .ok (.iconst 0, 1) := by decide +kernel
theorem own_dB15_3 : decode prog_21_method_6_code 3 = .ok (.istore_n 2, 1) := by decide +kernel
theorem own_dB15_4 : decode prog_21_method_6_code 4 = .ok (.iload_n 2, 1) := by decide +kernel
theorem own_dB15_5 : decode prog_21_method_6_code 5 = .ok (.aload_n 0, 1) := by decide +kernel
theorem own_dB15_6 : decode prog_21_method_6_code 6 = .ok (.invokevirtual 67, 3) := by decide +kernel
theorem own_dB15_9 : decode prog_21_method_6_code 9 = .ok (.if_icmp .ge 35, 3) := by decide +kernel
theorem own_dB15_12 : decode prog_21_method_6_code 12 = .ok (.aload_n 0, 1) := by decide +kernel
theorem own_dB15_13 : decode prog_21_method_6_code 13 = .ok (.iload_n 2, 1) := by decide +kernel
theorem own_dB15_14 : decode prog_21_method_6_code 14 = .ok (.invokevirtual 71, 3) := by decide +kernel
theorem own_dB15_17 : decode prog_21_method_6_code 17 = .ok (.istore_n 3, 1) := by decide +kernel
theorem own_dB15_18 : decode prog_21_method_6_code 18 = .ok (.iload_n 1, 1) := by decide +kernel
theorem own_dB15_19 : decode prog_21_method_6_code 19 = .ok (.iconst 4, 1) := by decide +kernel
theorem own_dB15_20 : decode prog_21_method_6_code 20 = .ok (.ishl, 1) := by decide +kernel
theorem own_dB15_21 : decode prog_21_method_6_code 21 = .ok (.iload_n 3, 1) := by decide +kernel
theorem own_dB15_22 : decode prog_21_method_6_code 22 = .ok (.bipush 100, 2) := by decide +kernel
theorem own_dB15_24 : decode prog_21_method_6_code 24 = .ok (.if_icmp .ne 8, 3) := by decide +kernel
theorem own_dB15_32 : decode prog_21_method_6_code 32 = .ok (.iload_n 3, 1) := by decide +kernel
theorem own_dB15_33 : decode prog_21_method_6_code 33 = .ok (.bipush 48, 2) := by decide +kernel
theorem own_dB15_35 : decode prog_21_method_6_code 35 = .ok (.isub, 1) := by decide +kernel
theorem own_dB15_36 : decode prog_21_method_6_code 36 = .ok (.ior, 1) := by decide +kernel
theorem own_dB15_37 : decode prog_21_method_6_code 37 = .ok (.istore_n 1, 1) := by decide +kernel
theorem own_dB15_38 : decode prog_21_method_6_code 38 = .ok (.iinc 2 1, 3) := by decide +kernel
theorem own_dB15_41 : decode prog_21_method_6_code 41 = .ok (.goto (-37), 3) := by decide +kernel
theorem own_dB15_44 : decode prog_21_method_6_code 44 = .ok (.aload_n 0, 1) := by decide +kernel
theorem own_dB15_45 : decode prog_21_method_6_code 45 = .ok (.invokevirtual 67, 3) := by decide +kernel
theorem own_dB15_48 : decode prog_21_method_6_code 48 = .ok (.bipush 6, 2) := by decide +kernel
theorem own_dB15_50 : decode prog_21_method_6_code 50 = .ok (.if_icmp .ne 10, 3) := by decide +kernel
theorem own_dB15_60 : decode prog_21_method_6_code 60 = .ok (.iload_n 1, 1) := by decide +kernel
theorem own_dB15_61 : decode prog_21_method_6_code 61 = .ok (.ireturn, 1) := by decide +kernel
theorem own_pn16_5 : plainName "com/example/carrier_name_resolver/carriernameresolver/card/Plmn" = true := by first | (simp [plainName, overriddenIn]; done) | decide +kernel
theorem own_pd16_5_0 : parseMethodDescriptor "()I" = some ⟨[], some .int⟩ := by decide +kernel
theorem own_pd16_5_1 : parseMethodDescriptor "(I)C" = some ⟨[.int], some .char⟩ := by decide +kernel
theorem own_ef16_5 (m : MethodId) (a : Addr) : entryFrame m #[(.ref a)] 4 = mkF m 0 #[.val (.ref a), .unset, .unset, .unset] [] := by first | (simp [entryFrame, mkF, argsToLocals, Value.category]; done) | rfl
def own_Q16_5 (Z : State) (a : Addr) (cs : Int32) (fo : Value) (va : Addr) (kv : ClassId) (x0 : Int32) (x1 : Int32) (x2 : Int32) (x3 : Int32) (x4 : Int32) (h0 : Heap) (n0 : Nat) (v : Option Value) (h : Heap) (L : List Loc) : Prop := v = some (.int (own_cd [x0, x1, x2, x3, x4])) ∧ Fr n0 L ∧ h = h0
set_option maxRecDepth 65536 in
set_option maxHeartbeats 40000000 in
theorem own_rm16_5 (l : Launch) (Z : State) (a0 : Array Value) (hw : ∀ d ∈ tables_1, d.before a0 Z = true) (ws : List Jvm.Cond) (a : Addr) (cs : Int32) (fo : Value) (va : Addr) (kv : ClassId) (x0 : Int32) (x1 : Int32) (x2 : Int32) (x3 : Int32) (x4 : Int32) (h0 : Heap) (n0 : Nat) (Zs : n0 ≤ h0.size) (OL : Old Z n0 h0) (S_cs : Sta Z Z.heap "java/lang/String" "COMPACT_STRINGS" "Z" (.int cs)) (hcs : ¬ (cs = (0 : Int32))) (S_fo : Sta Z Z.heap "jdk/internal/util/Preconditions" "SIOOBE_FORMATTER" "Ljava/util/function/BiFunction;" fo) (hfo : fo.isRef = true) (E_a : Exa Z h0 a "java/lang/String") (F_a_value : Fld Z h0 a "java/lang/String" "value" "[B" (.ref va)) (F_a_coder : Fld Z h0 a "java/lang/String" "coder" "B" (.int 0)) (V_va : Arv Z h0 va kv .byte (5 : Int32) [(.int x0), (.int x1), (.int x2), (.int x3), (.int x4)] (.int 0)) (hd_x0 : own_Dg x0) (hd_x1 : own_Dg x1) (hd_x2 : own_Dg x2) (hd_x3 : own_Dg x3) (hd_x4 : own_Dg x4) :
    MetFree l own_y15 (head1 (Jvm.Cond.code own_y15 prog_21_method_6_code 4 (some .int) :: ws) ({ frames := 4, cells := 0, slots := 0, locals := 53 } : Room)) (fun aA_ U => aA_ = #[(.ref a)] ∧ Z.Warmed39 U.vm ∧ U.heap = h0) (fun _ _ _ _ _ => True) (fun _ U o U' => ∃ v L, o = .returned v ∧ own_Q16_5 Z a cs fo va kv x0 x1 x2 x3 x4 h0 n0 v U'.heap L ∧ FrameEnd U o U' L ({ frames := 4, cells := 0, slots := 0, locals := 53 } : Room).cells ({ frames := 4, cells := 0, slots := 0, locals := 53 } : Room).slots) := by
  refine MetFree.of_bodySF (plainFor_of_name own_pn16_5) hisR ?_
  intro p e s m args below meth c s₁ Bd hml0 hP hK
  obtain ⟨rfl, hZ, hh⟩ := hP
  have hx := Bd.exec
  have hby := Bd.bytes
  have hml : c.maxLocals = 4 := hml0
  have hown : s.vm.findClass "com/example/carrier_name_resolver/carriernameresolver/card/Plmn" = some m.cls := findClass_of_methodNamed Bd.named
  have hnm := (name_of_methodNamed Bd.named Bd.method).1
  have X0 : Stand p l e ({ frames := 4, cells := 0, slots := 0, locals := 53 } : Room) s m #[(.ref a)] below meth c s₁ [] 0 0 := Stand.of_body Bd
  have e0 : s₁.heap = h0 := by rw [← hh, Bd.state]; rfl
  have NF := Fr.nil n0
  rw [own_ef16_5 m a]
  show own_Dn p e below s (own_Q16_5 Z a cs fo va kv x0 x1 x2 x3 x4 h0 n0) 0 0 s₁ (mkF m 0 #[.val (.ref a), .unset, .unset, .unset] [])
  have hl_x0 := own_d48 hd_x0
  have hu_x0 := own_d57 hd_x0
  have hk_x0 := own_d100 hd_x0
  have hl_x1 := own_d48 hd_x1
  have hu_x1 := own_d57 hd_x1
  have hk_x1 := own_d100 hd_x1
  have hl_x2 := own_d48 hd_x2
  have hu_x2 := own_d57 hd_x2
  have hk_x2 := own_d100 hd_x2
  have hl_x3 := own_d48 hd_x3
  have hu_x3 := own_d57 hd_x3
  have hk_x3 := own_d100 hd_x3
  have hl_x4 := own_d48 hd_x4
  have hu_x4 := own_d57 hd_x4
  have hk_x4 := own_d100 hd_x4
  refine own_p (g' := (mkF m 3 #[rv a, iv 0, oU, oU] [(.int 0)])) (fun _ k => XS.iconst X0.here hx rfl (hb hby own_dB15_0) (XS.istoreN X0.here hx rfl (hb hby own_dB15_1) rfl (l' := #[rv a, iv 0, oU, oU]) rfl (XS.iconst X0.here hx rfl (hb hby own_dB15_2) k))) ?_
  refine own_p (g' := (mkF m 6 #[rv a, iv 0, iv 0, oU] [(.ref a), (.int 0)])) (fun _ k => XS.istoreN X0.here hx rfl (hb hby own_dB15_3) rfl (l' := #[rv a, iv 0, iv 0, oU]) rfl (XS.iloadN X0.here hx rfl (hb hby own_dB15_4) rfl (XS.aloadN X0.here hx rfl (hb hby own_dB15_5) rfl rfl k))) ?_
  obtain ⟨cq1, kq1, q1a, q1b, q1c⟩ := isOf hZ e0 E_a
  obtain ⟨_, _, ⟨T1, L1, k1, n1⟩, -, X1, ⟨Lc1, hQ1, l1, y1, z1⟩, st1⟩ := X0.virtualBack hx (y := own_y9) (z := own_y9) hown (mvT hZ (own_W hw 47 rfl)) (mvT hZ (own_W hw 48 rfl)) (notFace_of_selects (args := #[]) (mvT hZ (own_W hw 50 rfl))) (mvT hZ (own_W hw 50 rfl)) (mvT hZ (own_W hw 49 rfl)) (by decide) (backOf (W := 1) (own_rm10 l Z a0 hw [] a cs fo va kv (5 : Int32) [(.int x0), (.int x1), (.int x2), (.int x3), (.int x4)] h0 n0 Zs OL S_cs hcs S_fo hfo E_a F_a_value F_a_coder V_va) hZ (own_W hw 51 rfl) (own_W hw 10 rfl) (by decide) (by decide)) q1a q1c (g := (mkF m 6 #[rv a, iv 0, iv 0, oU] [(.ref a), (.int 0)])) rfl (by rw [hml]; rfl) (Steps.refl _) (argsL := []) (rest := [(.int 0)]) (lenOf own_pd16_5_0 rfl) rfl (Nat.le_refl _) (hb hby own_dB15_6) (fun _ _ => ⟨rfl, e0, (by decide : 0 + 0 ≤ _), (by decide : 0 + 0 ≤ _)⟩)
  dsimp only [Pt.U, Pt.locs, Pt.cells, Pt.slots] at X1 l1 y1 z1 st1 hQ1
  subst l1 y1 z1
  obtain ⟨rfl, NQ1, eq1⟩ := hQ1
  have NF := Fr.app NF NQ1
  refine own_go (T' := T1) (g' := (mkF m 9 #[rv a, iv 0, iv 0, oU] [(.int 5), (.int 0)])) (fun _ k => st1.trans k) ?_
  refine own_p (g' := (mkF m 14 #[rv a, iv 0, iv 0, oU] [(.int 0), (.ref a)])) (fun _ k => XS.icmpNo X1.here hx rfl (hb hby own_dB15_9) rfl (by decide) (XS.aloadN X1.here hx rfl (hb hby own_dB15_12) rfl rfl (XS.iloadN X1.here hx rfl (hb hby own_dB15_13) rfl k))) ?_
  obtain ⟨cq2, kq2, q2a, q2b, q2c⟩ := isOf hZ eq1 E_a
  obtain ⟨_, _, ⟨T2, L2, k2, n2⟩, -, X2, ⟨Lc2, hQ2, l2, y2, z2⟩, st2⟩ := X1.virtualBack hx (y := own_y13) (z := own_y13) hown (mvT hZ (own_W hw 57 rfl)) (mvT hZ (own_W hw 58 rfl)) (notFace_of_selects (args := #[]) (mvT hZ (own_W hw 60 rfl))) (mvT hZ (own_W hw 60 rfl)) (mvT hZ (own_W hw 59 rfl)) (by decide) (backOf (W := 0) (own_rm14 l Z a0 hw [] a (0 : Int32) cs fo va kv (5 : Int32) [(.int x0), (.int x1), (.int x2), (.int x3), (.int x4)] x0 h0 n0 Zs OL S_cs hcs S_fo hfo E_a F_a_value F_a_coder V_va (by decide) (by decide) rfl hd_x0) hZ (own_W hw 61 rfl) (own_W hw 10 rfl) (by decide) (by decide)) q2a q2c (g := (mkF m 14 #[rv a, iv 0, iv 0, oU] [(.int 0), (.ref a)])) rfl (by rw [hml]; rfl) (Steps.refl _) (argsL := [(.int 0)]) (rest := []) (lenOf own_pd16_5_1 rfl) rfl (Nat.le_refl _) (hb hby own_dB15_14) (fun _ _ => ⟨rfl, eq1, (by decide : 0 + 0 ≤ _), (by decide : 0 + 0 ≤ _)⟩)
  dsimp only [Pt.U, Pt.locs, Pt.cells, Pt.slots] at X2 l2 y2 z2 st2 hQ2
  subst l2 y2 z2
  obtain ⟨rfl, NQ2, eq2⟩ := hQ2
  have NF := Fr.app NF NQ2
  refine own_go (T' := T2) (g' := (mkF m 17 #[rv a, iv 0, iv 0, oU] [(.int x0)])) (fun _ k => st2.trans k) ?_
  refine own_p (g' := (mkF m 20 #[rv a, iv 0, iv 0, iv x0] [(.int 4), (.int 0)])) (fun _ k => XS.istoreN X2.here hx rfl (hb hby own_dB15_17) rfl (l' := #[rv a, iv 0, iv 0, iv x0]) rfl (XS.iloadN X2.here hx rfl (hb hby own_dB15_18) rfl (XS.iconst X2.here hx rfl (hb hby own_dB15_19) k))) ?_
  refine own_p (g' := (mkF m 24 #[rv a, iv 0, iv 0, iv x0] [(.int 100), (.int x0), (.int ((0 : Int32) <<< ((4 : Int32) &&& 31)))])) (fun _ k => XS.ishl X2.here hx rfl (hb hby own_dB15_20) rfl (XS.iloadN X2.here hx rfl (hb hby own_dB15_21) rfl (XS.bipush X2.here hx rfl (hb hby own_dB15_22) k))) ?_
  refine own_p (g' := (mkF m 35 #[rv a, iv 0, iv 0, iv x0] [(.int 48), (.int x0), (.int ((0 : Int32) <<< ((4 : Int32) &&& 31)))])) (fun _ k => XS.icmpYes X2.here hx rfl (pc0 := 24) (pc' := 32) rfl (hb hby own_dB15_24) rfl (feq hk_x0).2 (by decide) (by decide) (XS.iloadN X2.here hx rfl (hb hby own_dB15_32) rfl (XS.bipush X2.here hx rfl (hb hby own_dB15_33) k))) ?_
  refine own_p (g' := (mkF m 38 #[rv a, iv (((0 : Int32) <<< ((4 : Int32) &&& 31)) ||| (x0 - (48 : Int32))), iv 0, iv x0] [])) (fun _ k => XS.isub X2.here hx rfl (hb hby own_dB15_35) rfl (XS.ior X2.here hx rfl (hb hby own_dB15_36) rfl (XS.istoreN X2.here hx rfl (hb hby own_dB15_37) rfl (l' := #[rv a, iv (((0 : Int32) <<< ((4 : Int32) &&& 31)) ||| (x0 - (48 : Int32))), iv 0, iv x0]) rfl k))) ?_
  show own_Dn p e below s (own_Q16_5 Z a cs fo va kv x0 x1 x2 x3 x4 h0 n0) 0 0 T2 (mkF m 38 #[rv a, iv (own_cd [x0]), iv 0, iv x0] [])
  refine own_p (g' := (mkF m 5 #[rv a, iv (own_cd [x0]), iv 1, iv x0] [(.int 1)])) (fun _ k => XS.iinc X2.here hx rfl (hb hby own_dB15_38) rfl (l' := #[rv a, iv (own_cd [x0]), iv 1, iv x0]) rfl (XS.goto X2.here hx rfl (pc0 := 41) (pc' := 4) rfl (hb hby own_dB15_41) (by decide) (by decide) (XS.iloadN X2.here hx rfl (hb hby own_dB15_4) rfl k))) ?_
  refine own_p (g' := (mkF m 6 #[rv a, iv (own_cd [x0]), iv 1, iv x0] [(.ref a), (.int 1)])) (fun _ k => XS.aloadN X2.here hx rfl (hb hby own_dB15_5) rfl rfl k) ?_
  obtain ⟨cq3, kq3, q3a, q3b, q3c⟩ := isOf hZ eq2 E_a
  obtain ⟨_, _, ⟨T3, L3, k3, n3⟩, -, X3, ⟨Lc3, hQ3, l3, y3, z3⟩, st3⟩ := X2.virtualBack hx (y := own_y9) (z := own_y9) hown (mvT hZ (own_W hw 47 rfl)) (mvT hZ (own_W hw 48 rfl)) (notFace_of_selects (args := #[]) (mvT hZ (own_W hw 50 rfl))) (mvT hZ (own_W hw 50 rfl)) (mvT hZ (own_W hw 49 rfl)) (by decide) (backOf (W := 1) (own_rm10 l Z a0 hw [] a cs fo va kv (5 : Int32) [(.int x0), (.int x1), (.int x2), (.int x3), (.int x4)] h0 n0 Zs OL S_cs hcs S_fo hfo E_a F_a_value F_a_coder V_va) hZ (own_W hw 51 rfl) (own_W hw 10 rfl) (by decide) (by decide)) q3a q3c (g := (mkF m 6 #[rv a, iv (own_cd [x0]), iv 1, iv x0] [(.ref a), (.int 1)])) rfl (by rw [hml]; rfl) (Steps.refl _) (argsL := []) (rest := [(.int 1)]) (lenOf own_pd16_5_0 rfl) rfl (Nat.le_refl _) (hb hby own_dB15_6) (fun _ _ => ⟨rfl, eq2, (by decide : 0 + 0 ≤ _), (by decide : 0 + 0 ≤ _)⟩)
  dsimp only [Pt.U, Pt.locs, Pt.cells, Pt.slots] at X3 l3 y3 z3 st3 hQ3
  subst l3 y3 z3
  obtain ⟨rfl, NQ3, eq3⟩ := hQ3
  have NF := Fr.app NF NQ3
  refine own_go (T' := T3) (g' := (mkF m 9 #[rv a, iv (own_cd [x0]), iv 1, iv x0] [(.int 5), (.int 1)])) (fun _ k => st3.trans k) ?_
  refine own_p (g' := (mkF m 14 #[rv a, iv (own_cd [x0]), iv 1, iv x0] [(.int 1), (.ref a)])) (fun _ k => XS.icmpNo X3.here hx rfl (hb hby own_dB15_9) rfl (by decide) (XS.aloadN X3.here hx rfl (hb hby own_dB15_12) rfl rfl (XS.iloadN X3.here hx rfl (hb hby own_dB15_13) rfl k))) ?_
  obtain ⟨cq4, kq4, q4a, q4b, q4c⟩ := isOf hZ eq3 E_a
  obtain ⟨_, _, ⟨T4, L4, k4, n4⟩, -, X4, ⟨Lc4, hQ4, l4, y4, z4⟩, st4⟩ := X3.virtualBack hx (y := own_y13) (z := own_y13) hown (mvT hZ (own_W hw 57 rfl)) (mvT hZ (own_W hw 58 rfl)) (notFace_of_selects (args := #[]) (mvT hZ (own_W hw 60 rfl))) (mvT hZ (own_W hw 60 rfl)) (mvT hZ (own_W hw 59 rfl)) (by decide) (backOf (W := 0) (own_rm14 l Z a0 hw [] a (1 : Int32) cs fo va kv (5 : Int32) [(.int x0), (.int x1), (.int x2), (.int x3), (.int x4)] x1 h0 n0 Zs OL S_cs hcs S_fo hfo E_a F_a_value F_a_coder V_va (by decide) (by decide) rfl hd_x1) hZ (own_W hw 61 rfl) (own_W hw 10 rfl) (by decide) (by decide)) q4a q4c (g := (mkF m 14 #[rv a, iv (own_cd [x0]), iv 1, iv x0] [(.int 1), (.ref a)])) rfl (by rw [hml]; rfl) (Steps.refl _) (argsL := [(.int 1)]) (rest := []) (lenOf own_pd16_5_1 rfl) rfl (Nat.le_refl _) (hb hby own_dB15_14) (fun _ _ => ⟨rfl, eq3, (by decide : 0 + 0 ≤ _), (by decide : 0 + 0 ≤ _)⟩)
  dsimp only [Pt.U, Pt.locs, Pt.cells, Pt.slots] at X4 l4 y4 z4 st4 hQ4
  subst l4 y4 z4
  obtain ⟨rfl, NQ4, eq4⟩ := hQ4
  have NF := Fr.app NF NQ4
  refine own_go (T' := T4) (g' := (mkF m 17 #[rv a, iv (own_cd [x0]), iv 1, iv x0] [(.int x1)])) (fun _ k => st4.trans k) ?_
  refine own_p (g' := (mkF m 20 #[rv a, iv (own_cd [x0]), iv 1, iv x1] [(.int 4), (.int (own_cd [x0]))])) (fun _ k => XS.istoreN X4.here hx rfl (hb hby own_dB15_17) rfl (l' := #[rv a, iv (own_cd [x0]), iv 1, iv x1]) rfl (XS.iloadN X4.here hx rfl (hb hby own_dB15_18) rfl (XS.iconst X4.here hx rfl (hb hby own_dB15_19) k))) ?_
  refine own_p (g' := (mkF m 24 #[rv a, iv (own_cd [x0]), iv 1, iv x1] [(.int 100), (.int x1), (.int ((own_cd [x0]) <<< ((4 : Int32) &&& 31)))])) (fun _ k => XS.ishl X4.here hx rfl (hb hby own_dB15_20) rfl (XS.iloadN X4.here hx rfl (hb hby own_dB15_21) rfl (XS.bipush X4.here hx rfl (hb hby own_dB15_22) k))) ?_
  refine own_p (g' := (mkF m 35 #[rv a, iv (own_cd [x0]), iv 1, iv x1] [(.int 48), (.int x1), (.int ((own_cd [x0]) <<< ((4 : Int32) &&& 31)))])) (fun _ k => XS.icmpYes X4.here hx rfl (pc0 := 24) (pc' := 32) rfl (hb hby own_dB15_24) rfl (feq hk_x1).2 (by decide) (by decide) (XS.iloadN X4.here hx rfl (hb hby own_dB15_32) rfl (XS.bipush X4.here hx rfl (hb hby own_dB15_33) k))) ?_
  refine own_p (g' := (mkF m 38 #[rv a, iv (((own_cd [x0]) <<< ((4 : Int32) &&& 31)) ||| (x1 - (48 : Int32))), iv 1, iv x1] [])) (fun _ k => XS.isub X4.here hx rfl (hb hby own_dB15_35) rfl (XS.ior X4.here hx rfl (hb hby own_dB15_36) rfl (XS.istoreN X4.here hx rfl (hb hby own_dB15_37) rfl (l' := #[rv a, iv (((own_cd [x0]) <<< ((4 : Int32) &&& 31)) ||| (x1 - (48 : Int32))), iv 1, iv x1]) rfl k))) ?_
  show own_Dn p e below s (own_Q16_5 Z a cs fo va kv x0 x1 x2 x3 x4 h0 n0) 0 0 T4 (mkF m 38 #[rv a, iv (own_cd [x0, x1]), iv 1, iv x1] [])
  refine own_p (g' := (mkF m 5 #[rv a, iv (own_cd [x0, x1]), iv 2, iv x1] [(.int 2)])) (fun _ k => XS.iinc X4.here hx rfl (hb hby own_dB15_38) rfl (l' := #[rv a, iv (own_cd [x0, x1]), iv 2, iv x1]) rfl (XS.goto X4.here hx rfl (pc0 := 41) (pc' := 4) rfl (hb hby own_dB15_41) (by decide) (by decide) (XS.iloadN X4.here hx rfl (hb hby own_dB15_4) rfl k))) ?_
  refine own_p (g' := (mkF m 6 #[rv a, iv (own_cd [x0, x1]), iv 2, iv x1] [(.ref a), (.int 2)])) (fun _ k => XS.aloadN X4.here hx rfl (hb hby own_dB15_5) rfl rfl k) ?_
  obtain ⟨cq5, kq5, q5a, q5b, q5c⟩ := isOf hZ eq4 E_a
  obtain ⟨_, _, ⟨T5, L5, k5, n5⟩, -, X5, ⟨Lc5, hQ5, l5, y5, z5⟩, st5⟩ := X4.virtualBack hx (y := own_y9) (z := own_y9) hown (mvT hZ (own_W hw 47 rfl)) (mvT hZ (own_W hw 48 rfl)) (notFace_of_selects (args := #[]) (mvT hZ (own_W hw 50 rfl))) (mvT hZ (own_W hw 50 rfl)) (mvT hZ (own_W hw 49 rfl)) (by decide) (backOf (W := 1) (own_rm10 l Z a0 hw [] a cs fo va kv (5 : Int32) [(.int x0), (.int x1), (.int x2), (.int x3), (.int x4)] h0 n0 Zs OL S_cs hcs S_fo hfo E_a F_a_value F_a_coder V_va) hZ (own_W hw 51 rfl) (own_W hw 10 rfl) (by decide) (by decide)) q5a q5c (g := (mkF m 6 #[rv a, iv (own_cd [x0, x1]), iv 2, iv x1] [(.ref a), (.int 2)])) rfl (by rw [hml]; rfl) (Steps.refl _) (argsL := []) (rest := [(.int 2)]) (lenOf own_pd16_5_0 rfl) rfl (Nat.le_refl _) (hb hby own_dB15_6) (fun _ _ => ⟨rfl, eq4, (by decide : 0 + 0 ≤ _), (by decide : 0 + 0 ≤ _)⟩)
  dsimp only [Pt.U, Pt.locs, Pt.cells, Pt.slots] at X5 l5 y5 z5 st5 hQ5
  subst l5 y5 z5
  obtain ⟨rfl, NQ5, eq5⟩ := hQ5
  have NF := Fr.app NF NQ5
  refine own_go (T' := T5) (g' := (mkF m 9 #[rv a, iv (own_cd [x0, x1]), iv 2, iv x1] [(.int 5), (.int 2)])) (fun _ k => st5.trans k) ?_
  refine own_p (g' := (mkF m 14 #[rv a, iv (own_cd [x0, x1]), iv 2, iv x1] [(.int 2), (.ref a)])) (fun _ k => XS.icmpNo X5.here hx rfl (hb hby own_dB15_9) rfl (by decide) (XS.aloadN X5.here hx rfl (hb hby own_dB15_12) rfl rfl (XS.iloadN X5.here hx rfl (hb hby own_dB15_13) rfl k))) ?_
  obtain ⟨cq6, kq6, q6a, q6b, q6c⟩ := isOf hZ eq5 E_a
  obtain ⟨_, _, ⟨T6, L6, k6, n6⟩, -, X6, ⟨Lc6, hQ6, l6, y6, z6⟩, st6⟩ := X5.virtualBack hx (y := own_y13) (z := own_y13) hown (mvT hZ (own_W hw 57 rfl)) (mvT hZ (own_W hw 58 rfl)) (notFace_of_selects (args := #[]) (mvT hZ (own_W hw 60 rfl))) (mvT hZ (own_W hw 60 rfl)) (mvT hZ (own_W hw 59 rfl)) (by decide) (backOf (W := 0) (own_rm14 l Z a0 hw [] a (2 : Int32) cs fo va kv (5 : Int32) [(.int x0), (.int x1), (.int x2), (.int x3), (.int x4)] x2 h0 n0 Zs OL S_cs hcs S_fo hfo E_a F_a_value F_a_coder V_va (by decide) (by decide) rfl hd_x2) hZ (own_W hw 61 rfl) (own_W hw 10 rfl) (by decide) (by decide)) q6a q6c (g := (mkF m 14 #[rv a, iv (own_cd [x0, x1]), iv 2, iv x1] [(.int 2), (.ref a)])) rfl (by rw [hml]; rfl) (Steps.refl _) (argsL := [(.int 2)]) (rest := []) (lenOf own_pd16_5_1 rfl) rfl (Nat.le_refl _) (hb hby own_dB15_14) (fun _ _ => ⟨rfl, eq5, (by decide : 0 + 0 ≤ _), (by decide : 0 + 0 ≤ _)⟩)
  dsimp only [Pt.U, Pt.locs, Pt.cells, Pt.slots] at X6 l6 y6 z6 st6 hQ6
  subst l6 y6 z6
  obtain ⟨rfl, NQ6, eq6⟩ := hQ6
  have NF := Fr.app NF NQ6
  refine own_go (T' := T6) (g' := (mkF m 17 #[rv a, iv (own_cd [x0, x1]), iv 2, iv x1] [(.int x2)])) (fun _ k => st6.trans k) ?_
  refine own_p (g' := (mkF m 20 #[rv a, iv (own_cd [x0, x1]), iv 2, iv x2] [(.int 4), (.int (own_cd [x0, x1]))])) (fun _ k => XS.istoreN X6.here hx rfl (hb hby own_dB15_17) rfl (l' := #[rv a, iv (own_cd [x0, x1]), iv 2, iv x2]) rfl (XS.iloadN X6.here hx rfl (hb hby own_dB15_18) rfl (XS.iconst X6.here hx rfl (hb hby own_dB15_19) k))) ?_
  refine own_p (g' := (mkF m 24 #[rv a, iv (own_cd [x0, x1]), iv 2, iv x2] [(.int 100), (.int x2), (.int ((own_cd [x0, x1]) <<< ((4 : Int32) &&& 31)))])) (fun _ k => XS.ishl X6.here hx rfl (hb hby own_dB15_20) rfl (XS.iloadN X6.here hx rfl (hb hby own_dB15_21) rfl (XS.bipush X6.here hx rfl (hb hby own_dB15_22) k))) ?_
  refine own_p (g' := (mkF m 35 #[rv a, iv (own_cd [x0, x1]), iv 2, iv x2] [(.int 48), (.int x2), (.int ((own_cd [x0, x1]) <<< ((4 : Int32) &&& 31)))])) (fun _ k => XS.icmpYes X6.here hx rfl (pc0 := 24) (pc' := 32) rfl (hb hby own_dB15_24) rfl (feq hk_x2).2 (by decide) (by decide) (XS.iloadN X6.here hx rfl (hb hby own_dB15_32) rfl (XS.bipush X6.here hx rfl (hb hby own_dB15_33) k))) ?_
  refine own_p (g' := (mkF m 38 #[rv a, iv (((own_cd [x0, x1]) <<< ((4 : Int32) &&& 31)) ||| (x2 - (48 : Int32))), iv 2, iv x2] [])) (fun _ k => XS.isub X6.here hx rfl (hb hby own_dB15_35) rfl (XS.ior X6.here hx rfl (hb hby own_dB15_36) rfl (XS.istoreN X6.here hx rfl (hb hby own_dB15_37) rfl (l' := #[rv a, iv (((own_cd [x0, x1]) <<< ((4 : Int32) &&& 31)) ||| (x2 - (48 : Int32))), iv 2, iv x2]) rfl k))) ?_
  show own_Dn p e below s (own_Q16_5 Z a cs fo va kv x0 x1 x2 x3 x4 h0 n0) 0 0 T6 (mkF m 38 #[rv a, iv (own_cd [x0, x1, x2]), iv 2, iv x2] [])
  refine own_p (g' := (mkF m 5 #[rv a, iv (own_cd [x0, x1, x2]), iv 3, iv x2] [(.int 3)])) (fun _ k => XS.iinc X6.here hx rfl (hb hby own_dB15_38) rfl (l' := #[rv a, iv (own_cd [x0, x1, x2]), iv 3, iv x2]) rfl (XS.goto X6.here hx rfl (pc0 := 41) (pc' := 4) rfl (hb hby own_dB15_41) (by decide) (by decide) (XS.iloadN X6.here hx rfl (hb hby own_dB15_4) rfl k))) ?_
  refine own_p (g' := (mkF m 6 #[rv a, iv (own_cd [x0, x1, x2]), iv 3, iv x2] [(.ref a), (.int 3)])) (fun _ k => XS.aloadN X6.here hx rfl (hb hby own_dB15_5) rfl rfl k) ?_
  obtain ⟨cq7, kq7, q7a, q7b, q7c⟩ := isOf hZ eq6 E_a
  obtain ⟨_, _, ⟨T7, L7, k7, n7⟩, -, X7, ⟨Lc7, hQ7, l7, y7, z7⟩, st7⟩ := X6.virtualBack hx (y := own_y9) (z := own_y9) hown (mvT hZ (own_W hw 47 rfl)) (mvT hZ (own_W hw 48 rfl)) (notFace_of_selects (args := #[]) (mvT hZ (own_W hw 50 rfl))) (mvT hZ (own_W hw 50 rfl)) (mvT hZ (own_W hw 49 rfl)) (by decide) (backOf (W := 1) (own_rm10 l Z a0 hw [] a cs fo va kv (5 : Int32) [(.int x0), (.int x1), (.int x2), (.int x3), (.int x4)] h0 n0 Zs OL S_cs hcs S_fo hfo E_a F_a_value F_a_coder V_va) hZ (own_W hw 51 rfl) (own_W hw 10 rfl) (by decide) (by decide)) q7a q7c (g := (mkF m 6 #[rv a, iv (own_cd [x0, x1, x2]), iv 3, iv x2] [(.ref a), (.int 3)])) rfl (by rw [hml]; rfl) (Steps.refl _) (argsL := []) (rest := [(.int 3)]) (lenOf own_pd16_5_0 rfl) rfl (Nat.le_refl _) (hb hby own_dB15_6) (fun _ _ => ⟨rfl, eq6, (by decide : 0 + 0 ≤ _), (by decide : 0 + 0 ≤ _)⟩)
  dsimp only [Pt.U, Pt.locs, Pt.cells, Pt.slots] at X7 l7 y7 z7 st7 hQ7
  subst l7 y7 z7
  obtain ⟨rfl, NQ7, eq7⟩ := hQ7
  have NF := Fr.app NF NQ7
  refine own_go (T' := T7) (g' := (mkF m 9 #[rv a, iv (own_cd [x0, x1, x2]), iv 3, iv x2] [(.int 5), (.int 3)])) (fun _ k => st7.trans k) ?_
  refine own_p (g' := (mkF m 14 #[rv a, iv (own_cd [x0, x1, x2]), iv 3, iv x2] [(.int 3), (.ref a)])) (fun _ k => XS.icmpNo X7.here hx rfl (hb hby own_dB15_9) rfl (by decide) (XS.aloadN X7.here hx rfl (hb hby own_dB15_12) rfl rfl (XS.iloadN X7.here hx rfl (hb hby own_dB15_13) rfl k))) ?_
  obtain ⟨cq8, kq8, q8a, q8b, q8c⟩ := isOf hZ eq7 E_a
  obtain ⟨_, _, ⟨T8, L8, k8, n8⟩, -, X8, ⟨Lc8, hQ8, l8, y8, z8⟩, st8⟩ := X7.virtualBack hx (y := own_y13) (z := own_y13) hown (mvT hZ (own_W hw 57 rfl)) (mvT hZ (own_W hw 58 rfl)) (notFace_of_selects (args := #[]) (mvT hZ (own_W hw 60 rfl))) (mvT hZ (own_W hw 60 rfl)) (mvT hZ (own_W hw 59 rfl)) (by decide) (backOf (W := 0) (own_rm14 l Z a0 hw [] a (3 : Int32) cs fo va kv (5 : Int32) [(.int x0), (.int x1), (.int x2), (.int x3), (.int x4)] x3 h0 n0 Zs OL S_cs hcs S_fo hfo E_a F_a_value F_a_coder V_va (by decide) (by decide) rfl hd_x3) hZ (own_W hw 61 rfl) (own_W hw 10 rfl) (by decide) (by decide)) q8a q8c (g := (mkF m 14 #[rv a, iv (own_cd [x0, x1, x2]), iv 3, iv x2] [(.int 3), (.ref a)])) rfl (by rw [hml]; rfl) (Steps.refl _) (argsL := [(.int 3)]) (rest := []) (lenOf own_pd16_5_1 rfl) rfl (Nat.le_refl _) (hb hby own_dB15_14) (fun _ _ => ⟨rfl, eq7, (by decide : 0 + 0 ≤ _), (by decide : 0 + 0 ≤ _)⟩)
  dsimp only [Pt.U, Pt.locs, Pt.cells, Pt.slots] at X8 l8 y8 z8 st8 hQ8
  subst l8 y8 z8
  obtain ⟨rfl, NQ8, eq8⟩ := hQ8
  have NF := Fr.app NF NQ8
  refine own_go (T' := T8) (g' := (mkF m 17 #[rv a, iv (own_cd [x0, x1, x2]), iv 3, iv x2] [(.int x3)])) (fun _ k => st8.trans k) ?_
  refine own_p (g' := (mkF m 20 #[rv a, iv (own_cd [x0, x1, x2]), iv 3, iv x3] [(.int 4), (.int (own_cd [x0, x1, x2]))])) (fun _ k => XS.istoreN X8.here hx rfl (hb hby own_dB15_17) rfl (l' := #[rv a, iv (own_cd [x0, x1, x2]), iv 3, iv x3]) rfl (XS.iloadN X8.here hx rfl (hb hby own_dB15_18) rfl (XS.iconst X8.here hx rfl (hb hby own_dB15_19) k))) ?_
  refine own_p (g' := (mkF m 24 #[rv a, iv (own_cd [x0, x1, x2]), iv 3, iv x3] [(.int 100), (.int x3), (.int ((own_cd [x0, x1, x2]) <<< ((4 : Int32) &&& 31)))])) (fun _ k => XS.ishl X8.here hx rfl (hb hby own_dB15_20) rfl (XS.iloadN X8.here hx rfl (hb hby own_dB15_21) rfl (XS.bipush X8.here hx rfl (hb hby own_dB15_22) k))) ?_
  refine own_p (g' := (mkF m 35 #[rv a, iv (own_cd [x0, x1, x2]), iv 3, iv x3] [(.int 48), (.int x3), (.int ((own_cd [x0, x1, x2]) <<< ((4 : Int32) &&& 31)))])) (fun _ k => XS.icmpYes X8.here hx rfl (pc0 := 24) (pc' := 32) rfl (hb hby own_dB15_24) rfl (feq hk_x3).2 (by decide) (by decide) (XS.iloadN X8.here hx rfl (hb hby own_dB15_32) rfl (XS.bipush X8.here hx rfl (hb hby own_dB15_33) k))) ?_
  refine own_p (g' := (mkF m 38 #[rv a, iv (((own_cd [x0, x1, x2]) <<< ((4 : Int32) &&& 31)) ||| (x3 - (48 : Int32))), iv 3, iv x3] [])) (fun _ k => XS.isub X8.here hx rfl (hb hby own_dB15_35) rfl (XS.ior X8.here hx rfl (hb hby own_dB15_36) rfl (XS.istoreN X8.here hx rfl (hb hby own_dB15_37) rfl (l' := #[rv a, iv (((own_cd [x0, x1, x2]) <<< ((4 : Int32) &&& 31)) ||| (x3 - (48 : Int32))), iv 3, iv x3]) rfl k))) ?_
  show own_Dn p e below s (own_Q16_5 Z a cs fo va kv x0 x1 x2 x3 x4 h0 n0) 0 0 T8 (mkF m 38 #[rv a, iv (own_cd [x0, x1, x2, x3]), iv 3, iv x3] [])
  refine own_p (g' := (mkF m 5 #[rv a, iv (own_cd [x0, x1, x2, x3]), iv 4, iv x3] [(.int 4)])) (fun _ k => XS.iinc X8.here hx rfl (hb hby own_dB15_38) rfl (l' := #[rv a, iv (own_cd [x0, x1, x2, x3]), iv 4, iv x3]) rfl (XS.goto X8.here hx rfl (pc0 := 41) (pc' := 4) rfl (hb hby own_dB15_41) (by decide) (by decide) (XS.iloadN X8.here hx rfl (hb hby own_dB15_4) rfl k))) ?_
  refine own_p (g' := (mkF m 6 #[rv a, iv (own_cd [x0, x1, x2, x3]), iv 4, iv x3] [(.ref a), (.int 4)])) (fun _ k => XS.aloadN X8.here hx rfl (hb hby own_dB15_5) rfl rfl k) ?_
  obtain ⟨cq9, kq9, q9a, q9b, q9c⟩ := isOf hZ eq8 E_a
  obtain ⟨_, _, ⟨T9, L9, k9, n9⟩, -, X9, ⟨Lc9, hQ9, l9, y9, z9⟩, st9⟩ := X8.virtualBack hx (y := own_y9) (z := own_y9) hown (mvT hZ (own_W hw 47 rfl)) (mvT hZ (own_W hw 48 rfl)) (notFace_of_selects (args := #[]) (mvT hZ (own_W hw 50 rfl))) (mvT hZ (own_W hw 50 rfl)) (mvT hZ (own_W hw 49 rfl)) (by decide) (backOf (W := 1) (own_rm10 l Z a0 hw [] a cs fo va kv (5 : Int32) [(.int x0), (.int x1), (.int x2), (.int x3), (.int x4)] h0 n0 Zs OL S_cs hcs S_fo hfo E_a F_a_value F_a_coder V_va) hZ (own_W hw 51 rfl) (own_W hw 10 rfl) (by decide) (by decide)) q9a q9c (g := (mkF m 6 #[rv a, iv (own_cd [x0, x1, x2, x3]), iv 4, iv x3] [(.ref a), (.int 4)])) rfl (by rw [hml]; rfl) (Steps.refl _) (argsL := []) (rest := [(.int 4)]) (lenOf own_pd16_5_0 rfl) rfl (Nat.le_refl _) (hb hby own_dB15_6) (fun _ _ => ⟨rfl, eq8, (by decide : 0 + 0 ≤ _), (by decide : 0 + 0 ≤ _)⟩)
  dsimp only [Pt.U, Pt.locs, Pt.cells, Pt.slots] at X9 l9 y9 z9 st9 hQ9
  subst l9 y9 z9
  obtain ⟨rfl, NQ9, eq9⟩ := hQ9
  have NF := Fr.app NF NQ9
  refine own_go (T' := T9) (g' := (mkF m 9 #[rv a, iv (own_cd [x0, x1, x2, x3]), iv 4, iv x3] [(.int 5), (.int 4)])) (fun _ k => st9.trans k) ?_
  refine own_p (g' := (mkF m 14 #[rv a, iv (own_cd [x0, x1, x2, x3]), iv 4, iv x3] [(.int 4), (.ref a)])) (fun _ k => XS.icmpNo X9.here hx rfl (hb hby own_dB15_9) rfl (by decide) (XS.aloadN X9.here hx rfl (hb hby own_dB15_12) rfl rfl (XS.iloadN X9.here hx rfl (hb hby own_dB15_13) rfl k))) ?_
  obtain ⟨cq10, kq10, q10a, q10b, q10c⟩ := isOf hZ eq9 E_a
  obtain ⟨_, _, ⟨T10, L10, k10, n10⟩, -, X10, ⟨Lc10, hQ10, l10, y10, z10⟩, st10⟩ := X9.virtualBack hx (y := own_y13) (z := own_y13) hown (mvT hZ (own_W hw 57 rfl)) (mvT hZ (own_W hw 58 rfl)) (notFace_of_selects (args := #[]) (mvT hZ (own_W hw 60 rfl))) (mvT hZ (own_W hw 60 rfl)) (mvT hZ (own_W hw 59 rfl)) (by decide) (backOf (W := 0) (own_rm14 l Z a0 hw [] a (4 : Int32) cs fo va kv (5 : Int32) [(.int x0), (.int x1), (.int x2), (.int x3), (.int x4)] x4 h0 n0 Zs OL S_cs hcs S_fo hfo E_a F_a_value F_a_coder V_va (by decide) (by decide) rfl hd_x4) hZ (own_W hw 61 rfl) (own_W hw 10 rfl) (by decide) (by decide)) q10a q10c (g := (mkF m 14 #[rv a, iv (own_cd [x0, x1, x2, x3]), iv 4, iv x3] [(.int 4), (.ref a)])) rfl (by rw [hml]; rfl) (Steps.refl _) (argsL := [(.int 4)]) (rest := []) (lenOf own_pd16_5_1 rfl) rfl (Nat.le_refl _) (hb hby own_dB15_14) (fun _ _ => ⟨rfl, eq9, (by decide : 0 + 0 ≤ _), (by decide : 0 + 0 ≤ _)⟩)
  dsimp only [Pt.U, Pt.locs, Pt.cells, Pt.slots] at X10 l10 y10 z10 st10 hQ10
  subst l10 y10 z10
  obtain ⟨rfl, NQ10, eq10⟩ := hQ10
  have NF := Fr.app NF NQ10
  refine own_go (T' := T10) (g' := (mkF m 17 #[rv a, iv (own_cd [x0, x1, x2, x3]), iv 4, iv x3] [(.int x4)])) (fun _ k => st10.trans k) ?_
  refine own_p (g' := (mkF m 20 #[rv a, iv (own_cd [x0, x1, x2, x3]), iv 4, iv x4] [(.int 4), (.int (own_cd [x0, x1, x2, x3]))])) (fun _ k => XS.istoreN X10.here hx rfl (hb hby own_dB15_17) rfl (l' := #[rv a, iv (own_cd [x0, x1, x2, x3]), iv 4, iv x4]) rfl (XS.iloadN X10.here hx rfl (hb hby own_dB15_18) rfl (XS.iconst X10.here hx rfl (hb hby own_dB15_19) k))) ?_
  refine own_p (g' := (mkF m 24 #[rv a, iv (own_cd [x0, x1, x2, x3]), iv 4, iv x4] [(.int 100), (.int x4), (.int ((own_cd [x0, x1, x2, x3]) <<< ((4 : Int32) &&& 31)))])) (fun _ k => XS.ishl X10.here hx rfl (hb hby own_dB15_20) rfl (XS.iloadN X10.here hx rfl (hb hby own_dB15_21) rfl (XS.bipush X10.here hx rfl (hb hby own_dB15_22) k))) ?_
  refine own_p (g' := (mkF m 35 #[rv a, iv (own_cd [x0, x1, x2, x3]), iv 4, iv x4] [(.int 48), (.int x4), (.int ((own_cd [x0, x1, x2, x3]) <<< ((4 : Int32) &&& 31)))])) (fun _ k => XS.icmpYes X10.here hx rfl (pc0 := 24) (pc' := 32) rfl (hb hby own_dB15_24) rfl (feq hk_x4).2 (by decide) (by decide) (XS.iloadN X10.here hx rfl (hb hby own_dB15_32) rfl (XS.bipush X10.here hx rfl (hb hby own_dB15_33) k))) ?_
  refine own_p (g' := (mkF m 38 #[rv a, iv (((own_cd [x0, x1, x2, x3]) <<< ((4 : Int32) &&& 31)) ||| (x4 - (48 : Int32))), iv 4, iv x4] [])) (fun _ k => XS.isub X10.here hx rfl (hb hby own_dB15_35) rfl (XS.ior X10.here hx rfl (hb hby own_dB15_36) rfl (XS.istoreN X10.here hx rfl (hb hby own_dB15_37) rfl (l' := #[rv a, iv (((own_cd [x0, x1, x2, x3]) <<< ((4 : Int32) &&& 31)) ||| (x4 - (48 : Int32))), iv 4, iv x4]) rfl k))) ?_
  show own_Dn p e below s (own_Q16_5 Z a cs fo va kv x0 x1 x2 x3 x4 h0 n0) 0 0 T10 (mkF m 38 #[rv a, iv (own_cd [x0, x1, x2, x3, x4]), iv 4, iv x4] [])
  refine own_p (g' := (mkF m 5 #[rv a, iv (own_cd [x0, x1, x2, x3, x4]), iv 5, iv x4] [(.int 5)])) (fun _ k => XS.iinc X10.here hx rfl (hb hby own_dB15_38) rfl (l' := #[rv a, iv (own_cd [x0, x1, x2, x3, x4]), iv 5, iv x4]) rfl (XS.goto X10.here hx rfl (pc0 := 41) (pc' := 4) rfl (hb hby own_dB15_41) (by decide) (by decide) (XS.iloadN X10.here hx rfl (hb hby own_dB15_4) rfl k))) ?_
  refine own_p (g' := (mkF m 6 #[rv a, iv (own_cd [x0, x1, x2, x3, x4]), iv 5, iv x4] [(.ref a), (.int 5)])) (fun _ k => XS.aloadN X10.here hx rfl (hb hby own_dB15_5) rfl rfl k) ?_
  obtain ⟨cq11, kq11, q11a, q11b, q11c⟩ := isOf hZ eq10 E_a
  obtain ⟨_, _, ⟨T11, L11, k11, n11⟩, -, X11, ⟨Lc11, hQ11, l11, y11, z11⟩, st11⟩ := X10.virtualBack hx (y := own_y9) (z := own_y9) hown (mvT hZ (own_W hw 47 rfl)) (mvT hZ (own_W hw 48 rfl)) (notFace_of_selects (args := #[]) (mvT hZ (own_W hw 50 rfl))) (mvT hZ (own_W hw 50 rfl)) (mvT hZ (own_W hw 49 rfl)) (by decide) (backOf (W := 1) (own_rm10 l Z a0 hw [] a cs fo va kv (5 : Int32) [(.int x0), (.int x1), (.int x2), (.int x3), (.int x4)] h0 n0 Zs OL S_cs hcs S_fo hfo E_a F_a_value F_a_coder V_va) hZ (own_W hw 51 rfl) (own_W hw 10 rfl) (by decide) (by decide)) q11a q11c (g := (mkF m 6 #[rv a, iv (own_cd [x0, x1, x2, x3, x4]), iv 5, iv x4] [(.ref a), (.int 5)])) rfl (by rw [hml]; rfl) (Steps.refl _) (argsL := []) (rest := [(.int 5)]) (lenOf own_pd16_5_0 rfl) rfl (Nat.le_refl _) (hb hby own_dB15_6) (fun _ _ => ⟨rfl, eq10, (by decide : 0 + 0 ≤ _), (by decide : 0 + 0 ≤ _)⟩)
  dsimp only [Pt.U, Pt.locs, Pt.cells, Pt.slots] at X11 l11 y11 z11 st11 hQ11
  subst l11 y11 z11
  obtain ⟨rfl, NQ11, eq11⟩ := hQ11
  have NF := Fr.app NF NQ11
  refine own_go (T' := T11) (g' := (mkF m 9 #[rv a, iv (own_cd [x0, x1, x2, x3, x4]), iv 5, iv x4] [(.int 5), (.int 5)])) (fun _ k => st11.trans k) ?_
  refine own_p (g' := (mkF m 45 #[rv a, iv (own_cd [x0, x1, x2, x3, x4]), iv 5, iv x4] [(.ref a)])) (fun _ k => XS.icmpYes X11.here hx rfl (pc0 := 9) (pc' := 44) rfl (hb hby own_dB15_9) rfl (by decide) (by decide) (by decide) (XS.aloadN X11.here hx rfl (hb hby own_dB15_44) rfl rfl k)) ?_
  obtain ⟨cq12, kq12, q12a, q12b, q12c⟩ := isOf hZ eq11 E_a
  obtain ⟨_, _, ⟨T12, L12, k12, n12⟩, -, X12, ⟨Lc12, hQ12, l12, y12, z12⟩, st12⟩ := X11.virtualBack hx (y := own_y9) (z := own_y9) hown (mvT hZ (own_W hw 47 rfl)) (mvT hZ (own_W hw 48 rfl)) (notFace_of_selects (args := #[]) (mvT hZ (own_W hw 50 rfl))) (mvT hZ (own_W hw 50 rfl)) (mvT hZ (own_W hw 49 rfl)) (by decide) (backOf (W := 0) (own_rm10 l Z a0 hw [] a cs fo va kv (5 : Int32) [(.int x0), (.int x1), (.int x2), (.int x3), (.int x4)] h0 n0 Zs OL S_cs hcs S_fo hfo E_a F_a_value F_a_coder V_va) hZ (own_W hw 51 rfl) (own_W hw 10 rfl) (by decide) (by decide)) q12a q12c (g := (mkF m 45 #[rv a, iv (own_cd [x0, x1, x2, x3, x4]), iv 5, iv x4] [(.ref a)])) rfl (by rw [hml]; rfl) (Steps.refl _) (argsL := []) (rest := []) (lenOf own_pd16_5_0 rfl) rfl (Nat.le_refl _) (hb hby own_dB15_45) (fun _ _ => ⟨rfl, eq11, (by decide : 0 + 0 ≤ _), (by decide : 0 + 0 ≤ _)⟩)
  dsimp only [Pt.U, Pt.locs, Pt.cells, Pt.slots] at X12 l12 y12 z12 st12 hQ12
  subst l12 y12 z12
  obtain ⟨rfl, NQ12, eq12⟩ := hQ12
  have NF := Fr.app NF NQ12
  refine own_go (T' := T12) (g' := (mkF m 48 #[rv a, iv (own_cd [x0, x1, x2, x3, x4]), iv 5, iv x4] [(.int 5)])) (fun _ k => st12.trans k) ?_
  refine own_p (g' := (mkF m 61 #[rv a, iv (own_cd [x0, x1, x2, x3, x4]), iv 5, iv x4] [(.int (own_cd [x0, x1, x2, x3, x4]))])) (fun _ k => XS.bipush X12.here hx rfl (hb hby own_dB15_48) (XS.icmpYes X12.here hx rfl (pc0 := 50) (pc' := 60) rfl (hb hby own_dB15_50) rfl (by decide) (by decide) (by decide) (XS.iloadN X12.here hx rfl (hb hby own_dB15_60) rfl k))) ?_
  refine own_ret X12 Bd.notSynchronized (some (.int (own_cd [x0, x1, x2, x3, x4]))) (fun h => by rw [Bd.returns] at h; cases h) (fun fs hr => retI X12 hx Bd.returns (hb hby own_dB15_61) hr) ?_ (by decide) (by decide)
  show (own_Q16_5 Z a cs fo va kv x0 x1 x2 x3 x4 h0 n0) (some (.int (own_cd [x0, x1, x2, x3, x4]))) T12.heap _
  rw [eq12]
  exact ⟨rfl, NF, rfl⟩
theorem own_dB15_53 : decode prog_21_method_6_code 53 = .ok (.iload_n 1, 1) := by decide +kernel
theorem own_dB15_54 : decode prog_21_method_6_code 54 = .ok (.ldc 75, 2) := by decide +kernel
theorem own_dB15_56 : decode prog_21_method_6_code 56 = .ok (.ior, 1) := by decide +kernel
theorem own_dB15_57 : decode prog_21_method_6_code 57 = .ok (.goto 4, 3) := by decide +kernel
theorem own_pn16_6 : plainName "com/example/carrier_name_resolver/carriernameresolver/card/Plmn" = true := by first | (simp [plainName, overriddenIn]; done) | decide +kernel
theorem own_pd16_6_0 : parseMethodDescriptor "()I" = some ⟨[], some .int⟩ := by decide +kernel
theorem own_pd16_6_1 : parseMethodDescriptor "(I)C" = some ⟨[.int], some .char⟩ := by decide +kernel
theorem own_ef16_6 (m : MethodId) (a : Addr) : entryFrame m #[(.ref a)] 4 = mkF m 0 #[.val (.ref a), .unset, .unset, .unset] [] := by first | (simp [entryFrame, mkF, argsToLocals, Value.category]; done) | rfl
def own_Q16_6 (Z : State) (a : Addr) (cs : Int32) (fo : Value) (va : Addr) (kv : ClassId) (x0 : Int32) (x1 : Int32) (x2 : Int32) (x3 : Int32) (x4 : Int32) (x5 : Int32) (h0 : Heap) (n0 : Nat) (v : Option Value) (h : Heap) (L : List Loc) : Prop := v = some (.int (own_cd [x0, x1, x2, x3, x4, x5] ||| (16777216 : Int32))) ∧ Fr n0 L ∧ h = h0
set_option maxRecDepth 65536 in
set_option maxHeartbeats 40000000 in
theorem own_rm16_6 (l : Launch) (Z : State) (a0 : Array Value) (hw : ∀ d ∈ tables_1, d.before a0 Z = true) (ws : List Jvm.Cond) (a : Addr) (cs : Int32) (fo : Value) (va : Addr) (kv : ClassId) (x0 : Int32) (x1 : Int32) (x2 : Int32) (x3 : Int32) (x4 : Int32) (x5 : Int32) (h0 : Heap) (n0 : Nat) (Zs : n0 ≤ h0.size) (OL : Old Z n0 h0) (S_cs : Sta Z Z.heap "java/lang/String" "COMPACT_STRINGS" "Z" (.int cs)) (hcs : ¬ (cs = (0 : Int32))) (S_fo : Sta Z Z.heap "jdk/internal/util/Preconditions" "SIOOBE_FORMATTER" "Ljava/util/function/BiFunction;" fo) (hfo : fo.isRef = true) (E_a : Exa Z h0 a "java/lang/String") (F_a_value : Fld Z h0 a "java/lang/String" "value" "[B" (.ref va)) (F_a_coder : Fld Z h0 a "java/lang/String" "coder" "B" (.int 0)) (V_va : Arv Z h0 va kv .byte (6 : Int32) [(.int x0), (.int x1), (.int x2), (.int x3), (.int x4), (.int x5)] (.int 0)) (hd_x0 : own_Dg x0) (hd_x1 : own_Dg x1) (hd_x2 : own_Dg x2) (hd_x3 : own_Dg x3) (hd_x4 : own_Dg x4) (hd_x5 : own_Dg x5) :
    MetFree l own_y15 (head1 (Jvm.Cond.code own_y15 prog_21_method_6_code 4 (some .int) :: ws) ({ frames := 4, cells := 0, slots := 0, locals := 53 } : Room)) (fun aA_ U => aA_ = #[(.ref a)] ∧ Z.Warmed39 U.vm ∧ U.heap = h0) (fun _ _ _ _ _ => True) (fun _ U o U' => ∃ v L, o = .returned v ∧ own_Q16_6 Z a cs fo va kv x0 x1 x2 x3 x4 x5 h0 n0 v U'.heap L ∧ FrameEnd U o U' L ({ frames := 4, cells := 0, slots := 0, locals := 53 } : Room).cells ({ frames := 4, cells := 0, slots := 0, locals := 53 } : Room).slots) := by
  refine MetFree.of_bodySF (plainFor_of_name own_pn16_6) hisR ?_
  intro p e s m args below meth c s₁ Bd hml0 hP hK
  obtain ⟨rfl, hZ, hh⟩ := hP
  have hx := Bd.exec
  have hby := Bd.bytes
  have hml : c.maxLocals = 4 := hml0
  have hown : s.vm.findClass "com/example/carrier_name_resolver/carriernameresolver/card/Plmn" = some m.cls := findClass_of_methodNamed Bd.named
  have hnm := (name_of_methodNamed Bd.named Bd.method).1
  have X0 : Stand p l e ({ frames := 4, cells := 0, slots := 0, locals := 53 } : Room) s m #[(.ref a)] below meth c s₁ [] 0 0 := Stand.of_body Bd
  have e0 : s₁.heap = h0 := by rw [← hh, Bd.state]; rfl
  have NF := Fr.nil n0
  rw [own_ef16_6 m a]
  show own_Dn p e below s (own_Q16_6 Z a cs fo va kv x0 x1 x2 x3 x4 x5 h0 n0) 0 0 s₁ (mkF m 0 #[.val (.ref a), .unset, .unset, .unset] [])
  have hl_x0 := own_d48 hd_x0
  have hu_x0 := own_d57 hd_x0
  have hk_x0 := own_d100 hd_x0
  have hl_x1 := own_d48 hd_x1
  have hu_x1 := own_d57 hd_x1
  have hk_x1 := own_d100 hd_x1
  have hl_x2 := own_d48 hd_x2
  have hu_x2 := own_d57 hd_x2
  have hk_x2 := own_d100 hd_x2
  have hl_x3 := own_d48 hd_x3
  have hu_x3 := own_d57 hd_x3
  have hk_x3 := own_d100 hd_x3
  have hl_x4 := own_d48 hd_x4
  have hu_x4 := own_d57 hd_x4
  have hk_x4 := own_d100 hd_x4
  have hl_x5 := own_d48 hd_x5
  have hu_x5 := own_d57 hd_x5
  have hk_x5 := own_d100 hd_x5
  refine own_p (g' := (mkF m 3 #[rv a, iv 0, oU, oU] [(.int 0)])) (fun _ k => XS.iconst X0.here hx rfl (hb hby own_dB15_0) (XS.istoreN X0.here hx rfl (hb hby own_dB15_1) rfl (l' := #[rv a, iv 0, oU, oU]) rfl (XS.iconst X0.here hx rfl (hb hby own_dB15_2) k))) ?_
  refine own_p (g' := (mkF m 6 #[rv a, iv 0, iv 0, oU] [(.ref a), (.int 0)])) (fun _ k => XS.istoreN X0.here hx rfl (hb hby own_dB15_3) rfl (l' := #[rv a, iv 0, iv 0, oU]) rfl (XS.iloadN X0.here hx rfl (hb hby own_dB15_4) rfl (XS.aloadN X0.here hx rfl (hb hby own_dB15_5) rfl rfl k))) ?_
  obtain ⟨cq1, kq1, q1a, q1b, q1c⟩ := isOf hZ e0 E_a
  obtain ⟨_, _, ⟨T1, L1, k1, n1⟩, -, X1, ⟨Lc1, hQ1, l1, y1, z1⟩, st1⟩ := X0.virtualBack hx (y := own_y9) (z := own_y9) hown (mvT hZ (own_W hw 47 rfl)) (mvT hZ (own_W hw 48 rfl)) (notFace_of_selects (args := #[]) (mvT hZ (own_W hw 50 rfl))) (mvT hZ (own_W hw 50 rfl)) (mvT hZ (own_W hw 49 rfl)) (by decide) (backOf (W := 1) (own_rm10 l Z a0 hw [] a cs fo va kv (6 : Int32) [(.int x0), (.int x1), (.int x2), (.int x3), (.int x4), (.int x5)] h0 n0 Zs OL S_cs hcs S_fo hfo E_a F_a_value F_a_coder V_va) hZ (own_W hw 51 rfl) (own_W hw 10 rfl) (by decide) (by decide)) q1a q1c (g := (mkF m 6 #[rv a, iv 0, iv 0, oU] [(.ref a), (.int 0)])) rfl (by rw [hml]; rfl) (Steps.refl _) (argsL := []) (rest := [(.int 0)]) (lenOf own_pd16_6_0 rfl) rfl (Nat.le_refl _) (hb hby own_dB15_6) (fun _ _ => ⟨rfl, e0, (by decide : 0 + 0 ≤ _), (by decide : 0 + 0 ≤ _)⟩)
  dsimp only [Pt.U, Pt.locs, Pt.cells, Pt.slots] at X1 l1 y1 z1 st1 hQ1
  subst l1 y1 z1
  obtain ⟨rfl, NQ1, eq1⟩ := hQ1
  have NF := Fr.app NF NQ1
  refine own_go (T' := T1) (g' := (mkF m 9 #[rv a, iv 0, iv 0, oU] [(.int 6), (.int 0)])) (fun _ k => st1.trans k) ?_
  refine own_p (g' := (mkF m 14 #[rv a, iv 0, iv 0, oU] [(.int 0), (.ref a)])) (fun _ k => XS.icmpNo X1.here hx rfl (hb hby own_dB15_9) rfl (by decide) (XS.aloadN X1.here hx rfl (hb hby own_dB15_12) rfl rfl (XS.iloadN X1.here hx rfl (hb hby own_dB15_13) rfl k))) ?_
  obtain ⟨cq2, kq2, q2a, q2b, q2c⟩ := isOf hZ eq1 E_a
  obtain ⟨_, _, ⟨T2, L2, k2, n2⟩, -, X2, ⟨Lc2, hQ2, l2, y2, z2⟩, st2⟩ := X1.virtualBack hx (y := own_y13) (z := own_y13) hown (mvT hZ (own_W hw 57 rfl)) (mvT hZ (own_W hw 58 rfl)) (notFace_of_selects (args := #[]) (mvT hZ (own_W hw 60 rfl))) (mvT hZ (own_W hw 60 rfl)) (mvT hZ (own_W hw 59 rfl)) (by decide) (backOf (W := 0) (own_rm14 l Z a0 hw [] a (0 : Int32) cs fo va kv (6 : Int32) [(.int x0), (.int x1), (.int x2), (.int x3), (.int x4), (.int x5)] x0 h0 n0 Zs OL S_cs hcs S_fo hfo E_a F_a_value F_a_coder V_va (by decide) (by decide) rfl hd_x0) hZ (own_W hw 61 rfl) (own_W hw 10 rfl) (by decide) (by decide)) q2a q2c (g := (mkF m 14 #[rv a, iv 0, iv 0, oU] [(.int 0), (.ref a)])) rfl (by rw [hml]; rfl) (Steps.refl _) (argsL := [(.int 0)]) (rest := []) (lenOf own_pd16_6_1 rfl) rfl (Nat.le_refl _) (hb hby own_dB15_14) (fun _ _ => ⟨rfl, eq1, (by decide : 0 + 0 ≤ _), (by decide : 0 + 0 ≤ _)⟩)
  dsimp only [Pt.U, Pt.locs, Pt.cells, Pt.slots] at X2 l2 y2 z2 st2 hQ2
  subst l2 y2 z2
  obtain ⟨rfl, NQ2, eq2⟩ := hQ2
  have NF := Fr.app NF NQ2
  refine own_go (T' := T2) (g' := (mkF m 17 #[rv a, iv 0, iv 0, oU] [(.int x0)])) (fun _ k => st2.trans k) ?_
  refine own_p (g' := (mkF m 20 #[rv a, iv 0, iv 0, iv x0] [(.int 4), (.int 0)])) (fun _ k => XS.istoreN X2.here hx rfl (hb hby own_dB15_17) rfl (l' := #[rv a, iv 0, iv 0, iv x0]) rfl (XS.iloadN X2.here hx rfl (hb hby own_dB15_18) rfl (XS.iconst X2.here hx rfl (hb hby own_dB15_19) k))) ?_
  refine own_p (g' := (mkF m 24 #[rv a, iv 0, iv 0, iv x0] [(.int 100), (.int x0), (.int ((0 : Int32) <<< ((4 : Int32) &&& 31)))])) (fun _ k => XS.ishl X2.here hx rfl (hb hby own_dB15_20) rfl (XS.iloadN X2.here hx rfl (hb hby own_dB15_21) rfl (XS.bipush X2.here hx rfl (hb hby own_dB15_22) k))) ?_
  refine own_p (g' := (mkF m 35 #[rv a, iv 0, iv 0, iv x0] [(.int 48), (.int x0), (.int ((0 : Int32) <<< ((4 : Int32) &&& 31)))])) (fun _ k => XS.icmpYes X2.here hx rfl (pc0 := 24) (pc' := 32) rfl (hb hby own_dB15_24) rfl (feq hk_x0).2 (by decide) (by decide) (XS.iloadN X2.here hx rfl (hb hby own_dB15_32) rfl (XS.bipush X2.here hx rfl (hb hby own_dB15_33) k))) ?_
  refine own_p (g' := (mkF m 38 #[rv a, iv (((0 : Int32) <<< ((4 : Int32) &&& 31)) ||| (x0 - (48 : Int32))), iv 0, iv x0] [])) (fun _ k => XS.isub X2.here hx rfl (hb hby own_dB15_35) rfl (XS.ior X2.here hx rfl (hb hby own_dB15_36) rfl (XS.istoreN X2.here hx rfl (hb hby own_dB15_37) rfl (l' := #[rv a, iv (((0 : Int32) <<< ((4 : Int32) &&& 31)) ||| (x0 - (48 : Int32))), iv 0, iv x0]) rfl k))) ?_
  show own_Dn p e below s (own_Q16_6 Z a cs fo va kv x0 x1 x2 x3 x4 x5 h0 n0) 0 0 T2 (mkF m 38 #[rv a, iv (own_cd [x0]), iv 0, iv x0] [])
  refine own_p (g' := (mkF m 5 #[rv a, iv (own_cd [x0]), iv 1, iv x0] [(.int 1)])) (fun _ k => XS.iinc X2.here hx rfl (hb hby own_dB15_38) rfl (l' := #[rv a, iv (own_cd [x0]), iv 1, iv x0]) rfl (XS.goto X2.here hx rfl (pc0 := 41) (pc' := 4) rfl (hb hby own_dB15_41) (by decide) (by decide) (XS.iloadN X2.here hx rfl (hb hby own_dB15_4) rfl k))) ?_
  refine own_p (g' := (mkF m 6 #[rv a, iv (own_cd [x0]), iv 1, iv x0] [(.ref a), (.int 1)])) (fun _ k => XS.aloadN X2.here hx rfl (hb hby own_dB15_5) rfl rfl k) ?_
  obtain ⟨cq3, kq3, q3a, q3b, q3c⟩ := isOf hZ eq2 E_a
  obtain ⟨_, _, ⟨T3, L3, k3, n3⟩, -, X3, ⟨Lc3, hQ3, l3, y3, z3⟩, st3⟩ := X2.virtualBack hx (y := own_y9) (z := own_y9) hown (mvT hZ (own_W hw 47 rfl)) (mvT hZ (own_W hw 48 rfl)) (notFace_of_selects (args := #[]) (mvT hZ (own_W hw 50 rfl))) (mvT hZ (own_W hw 50 rfl)) (mvT hZ (own_W hw 49 rfl)) (by decide) (backOf (W := 1) (own_rm10 l Z a0 hw [] a cs fo va kv (6 : Int32) [(.int x0), (.int x1), (.int x2), (.int x3), (.int x4), (.int x5)] h0 n0 Zs OL S_cs hcs S_fo hfo E_a F_a_value F_a_coder V_va) hZ (own_W hw 51 rfl) (own_W hw 10 rfl) (by decide) (by decide)) q3a q3c (g := (mkF m 6 #[rv a, iv (own_cd [x0]), iv 1, iv x0] [(.ref a), (.int 1)])) rfl (by rw [hml]; rfl) (Steps.refl _) (argsL := []) (rest := [(.int 1)]) (lenOf own_pd16_6_0 rfl) rfl (Nat.le_refl _) (hb hby own_dB15_6) (fun _ _ => ⟨rfl, eq2, (by decide : 0 + 0 ≤ _), (by decide : 0 + 0 ≤ _)⟩)
  dsimp only [Pt.U, Pt.locs, Pt.cells, Pt.slots] at X3 l3 y3 z3 st3 hQ3
  subst l3 y3 z3
  obtain ⟨rfl, NQ3, eq3⟩ := hQ3
  have NF := Fr.app NF NQ3
  refine own_go (T' := T3) (g' := (mkF m 9 #[rv a, iv (own_cd [x0]), iv 1, iv x0] [(.int 6), (.int 1)])) (fun _ k => st3.trans k) ?_
  refine own_p (g' := (mkF m 14 #[rv a, iv (own_cd [x0]), iv 1, iv x0] [(.int 1), (.ref a)])) (fun _ k => XS.icmpNo X3.here hx rfl (hb hby own_dB15_9) rfl (by decide) (XS.aloadN X3.here hx rfl (hb hby own_dB15_12) rfl rfl (XS.iloadN X3.here hx rfl (hb hby own_dB15_13) rfl k))) ?_
  obtain ⟨cq4, kq4, q4a, q4b, q4c⟩ := isOf hZ eq3 E_a
  obtain ⟨_, _, ⟨T4, L4, k4, n4⟩, -, X4, ⟨Lc4, hQ4, l4, y4, z4⟩, st4⟩ := X3.virtualBack hx (y := own_y13) (z := own_y13) hown (mvT hZ (own_W hw 57 rfl)) (mvT hZ (own_W hw 58 rfl)) (notFace_of_selects (args := #[]) (mvT hZ (own_W hw 60 rfl))) (mvT hZ (own_W hw 60 rfl)) (mvT hZ (own_W hw 59 rfl)) (by decide) (backOf (W := 0) (own_rm14 l Z a0 hw [] a (1 : Int32) cs fo va kv (6 : Int32) [(.int x0), (.int x1), (.int x2), (.int x3), (.int x4), (.int x5)] x1 h0 n0 Zs OL S_cs hcs S_fo hfo E_a F_a_value F_a_coder V_va (by decide) (by decide) rfl hd_x1) hZ (own_W hw 61 rfl) (own_W hw 10 rfl) (by decide) (by decide)) q4a q4c (g := (mkF m 14 #[rv a, iv (own_cd [x0]), iv 1, iv x0] [(.int 1), (.ref a)])) rfl (by rw [hml]; rfl) (Steps.refl _) (argsL := [(.int 1)]) (rest := []) (lenOf own_pd16_6_1 rfl) rfl (Nat.le_refl _) (hb hby own_dB15_14) (fun _ _ => ⟨rfl, eq3, (by decide : 0 + 0 ≤ _), (by decide : 0 + 0 ≤ _)⟩)
  dsimp only [Pt.U, Pt.locs, Pt.cells, Pt.slots] at X4 l4 y4 z4 st4 hQ4
  subst l4 y4 z4
  obtain ⟨rfl, NQ4, eq4⟩ := hQ4
  have NF := Fr.app NF NQ4
  refine own_go (T' := T4) (g' := (mkF m 17 #[rv a, iv (own_cd [x0]), iv 1, iv x0] [(.int x1)])) (fun _ k => st4.trans k) ?_
  refine own_p (g' := (mkF m 20 #[rv a, iv (own_cd [x0]), iv 1, iv x1] [(.int 4), (.int (own_cd [x0]))])) (fun _ k => XS.istoreN X4.here hx rfl (hb hby own_dB15_17) rfl (l' := #[rv a, iv (own_cd [x0]), iv 1, iv x1]) rfl (XS.iloadN X4.here hx rfl (hb hby own_dB15_18) rfl (XS.iconst X4.here hx rfl (hb hby own_dB15_19) k))) ?_
  refine own_p (g' := (mkF m 24 #[rv a, iv (own_cd [x0]), iv 1, iv x1] [(.int 100), (.int x1), (.int ((own_cd [x0]) <<< ((4 : Int32) &&& 31)))])) (fun _ k => XS.ishl X4.here hx rfl (hb hby own_dB15_20) rfl (XS.iloadN X4.here hx rfl (hb hby own_dB15_21) rfl (XS.bipush X4.here hx rfl (hb hby own_dB15_22) k))) ?_
  refine own_p (g' := (mkF m 35 #[rv a, iv (own_cd [x0]), iv 1, iv x1] [(.int 48), (.int x1), (.int ((own_cd [x0]) <<< ((4 : Int32) &&& 31)))])) (fun _ k => XS.icmpYes X4.here hx rfl (pc0 := 24) (pc' := 32) rfl (hb hby own_dB15_24) rfl (feq hk_x1).2 (by decide) (by decide) (XS.iloadN X4.here hx rfl (hb hby own_dB15_32) rfl (XS.bipush X4.here hx rfl (hb hby own_dB15_33) k))) ?_
  refine own_p (g' := (mkF m 38 #[rv a, iv (((own_cd [x0]) <<< ((4 : Int32) &&& 31)) ||| (x1 - (48 : Int32))), iv 1, iv x1] [])) (fun _ k => XS.isub X4.here hx rfl (hb hby own_dB15_35) rfl (XS.ior X4.here hx rfl (hb hby own_dB15_36) rfl (XS.istoreN X4.here hx rfl (hb hby own_dB15_37) rfl (l' := #[rv a, iv (((own_cd [x0]) <<< ((4 : Int32) &&& 31)) ||| (x1 - (48 : Int32))), iv 1, iv x1]) rfl k))) ?_
  show own_Dn p e below s (own_Q16_6 Z a cs fo va kv x0 x1 x2 x3 x4 x5 h0 n0) 0 0 T4 (mkF m 38 #[rv a, iv (own_cd [x0, x1]), iv 1, iv x1] [])
  refine own_p (g' := (mkF m 5 #[rv a, iv (own_cd [x0, x1]), iv 2, iv x1] [(.int 2)])) (fun _ k => XS.iinc X4.here hx rfl (hb hby own_dB15_38) rfl (l' := #[rv a, iv (own_cd [x0, x1]), iv 2, iv x1]) rfl (XS.goto X4.here hx rfl (pc0 := 41) (pc' := 4) rfl (hb hby own_dB15_41) (by decide) (by decide) (XS.iloadN X4.here hx rfl (hb hby own_dB15_4) rfl k))) ?_
  refine own_p (g' := (mkF m 6 #[rv a, iv (own_cd [x0, x1]), iv 2, iv x1] [(.ref a), (.int 2)])) (fun _ k => XS.aloadN X4.here hx rfl (hb hby own_dB15_5) rfl rfl k) ?_
  obtain ⟨cq5, kq5, q5a, q5b, q5c⟩ := isOf hZ eq4 E_a
  obtain ⟨_, _, ⟨T5, L5, k5, n5⟩, -, X5, ⟨Lc5, hQ5, l5, y5, z5⟩, st5⟩ := X4.virtualBack hx (y := own_y9) (z := own_y9) hown (mvT hZ (own_W hw 47 rfl)) (mvT hZ (own_W hw 48 rfl)) (notFace_of_selects (args := #[]) (mvT hZ (own_W hw 50 rfl))) (mvT hZ (own_W hw 50 rfl)) (mvT hZ (own_W hw 49 rfl)) (by decide) (backOf (W := 1) (own_rm10 l Z a0 hw [] a cs fo va kv (6 : Int32) [(.int x0), (.int x1), (.int x2), (.int x3), (.int x4), (.int x5)] h0 n0 Zs OL S_cs hcs S_fo hfo E_a F_a_value F_a_coder V_va) hZ (own_W hw 51 rfl) (own_W hw 10 rfl) (by decide) (by decide)) q5a q5c (g := (mkF m 6 #[rv a, iv (own_cd [x0, x1]), iv 2, iv x1] [(.ref a), (.int 2)])) rfl (by rw [hml]; rfl) (Steps.refl _) (argsL := []) (rest := [(.int 2)]) (lenOf own_pd16_6_0 rfl) rfl (Nat.le_refl _) (hb hby own_dB15_6) (fun _ _ => ⟨rfl, eq4, (by decide : 0 + 0 ≤ _), (by decide : 0 + 0 ≤ _)⟩)
  dsimp only [Pt.U, Pt.locs, Pt.cells, Pt.slots] at X5 l5 y5 z5 st5 hQ5
  subst l5 y5 z5
  obtain ⟨rfl, NQ5, eq5⟩ := hQ5
  have NF := Fr.app NF NQ5
  refine own_go (T' := T5) (g' := (mkF m 9 #[rv a, iv (own_cd [x0, x1]), iv 2, iv x1] [(.int 6), (.int 2)])) (fun _ k => st5.trans k) ?_
  refine own_p (g' := (mkF m 14 #[rv a, iv (own_cd [x0, x1]), iv 2, iv x1] [(.int 2), (.ref a)])) (fun _ k => XS.icmpNo X5.here hx rfl (hb hby own_dB15_9) rfl (by decide) (XS.aloadN X5.here hx rfl (hb hby own_dB15_12) rfl rfl (XS.iloadN X5.here hx rfl (hb hby own_dB15_13) rfl k))) ?_
  obtain ⟨cq6, kq6, q6a, q6b, q6c⟩ := isOf hZ eq5 E_a
  obtain ⟨_, _, ⟨T6, L6, k6, n6⟩, -, X6, ⟨Lc6, hQ6, l6, y6, z6⟩, st6⟩ := X5.virtualBack hx (y := own_y13) (z := own_y13) hown (mvT hZ (own_W hw 57 rfl)) (mvT hZ (own_W hw 58 rfl)) (notFace_of_selects (args := #[]) (mvT hZ (own_W hw 60 rfl))) (mvT hZ (own_W hw 60 rfl)) (mvT hZ (own_W hw 59 rfl)) (by decide) (backOf (W := 0) (own_rm14 l Z a0 hw [] a (2 : Int32) cs fo va kv (6 : Int32) [(.int x0), (.int x1), (.int x2), (.int x3), (.int x4), (.int x5)] x2 h0 n0 Zs OL S_cs hcs S_fo hfo E_a F_a_value F_a_coder V_va (by decide) (by decide) rfl hd_x2) hZ (own_W hw 61 rfl) (own_W hw 10 rfl) (by decide) (by decide)) q6a q6c (g := (mkF m 14 #[rv a, iv (own_cd [x0, x1]), iv 2, iv x1] [(.int 2), (.ref a)])) rfl (by rw [hml]; rfl) (Steps.refl _) (argsL := [(.int 2)]) (rest := []) (lenOf own_pd16_6_1 rfl) rfl (Nat.le_refl _) (hb hby own_dB15_14) (fun _ _ => ⟨rfl, eq5, (by decide : 0 + 0 ≤ _), (by decide : 0 + 0 ≤ _)⟩)
  dsimp only [Pt.U, Pt.locs, Pt.cells, Pt.slots] at X6 l6 y6 z6 st6 hQ6
  subst l6 y6 z6
  obtain ⟨rfl, NQ6, eq6⟩ := hQ6
  have NF := Fr.app NF NQ6
  refine own_go (T' := T6) (g' := (mkF m 17 #[rv a, iv (own_cd [x0, x1]), iv 2, iv x1] [(.int x2)])) (fun _ k => st6.trans k) ?_
  refine own_p (g' := (mkF m 20 #[rv a, iv (own_cd [x0, x1]), iv 2, iv x2] [(.int 4), (.int (own_cd [x0, x1]))])) (fun _ k => XS.istoreN X6.here hx rfl (hb hby own_dB15_17) rfl (l' := #[rv a, iv (own_cd [x0, x1]), iv 2, iv x2]) rfl (XS.iloadN X6.here hx rfl (hb hby own_dB15_18) rfl (XS.iconst X6.here hx rfl (hb hby own_dB15_19) k))) ?_
  refine own_p (g' := (mkF m 24 #[rv a, iv (own_cd [x0, x1]), iv 2, iv x2] [(.int 100), (.int x2), (.int ((own_cd [x0, x1]) <<< ((4 : Int32) &&& 31)))])) (fun _ k => XS.ishl X6.here hx rfl (hb hby own_dB15_20) rfl (XS.iloadN X6.here hx rfl (hb hby own_dB15_21) rfl (XS.bipush X6.here hx rfl (hb hby own_dB15_22) k))) ?_
  refine own_p (g' := (mkF m 35 #[rv a, iv (own_cd [x0, x1]), iv 2, iv x2] [(.int 48), (.int x2), (.int ((own_cd [x0, x1]) <<< ((4 : Int32) &&& 31)))])) (fun _ k => XS.icmpYes X6.here hx rfl (pc0 := 24) (pc' := 32) rfl (hb hby own_dB15_24) rfl (feq hk_x2).2 (by decide) (by decide) (XS.iloadN X6.here hx rfl (hb hby own_dB15_32) rfl (XS.bipush X6.here hx rfl (hb hby own_dB15_33) k))) ?_
  refine own_p (g' := (mkF m 38 #[rv a, iv (((own_cd [x0, x1]) <<< ((4 : Int32) &&& 31)) ||| (x2 - (48 : Int32))), iv 2, iv x2] [])) (fun _ k => XS.isub X6.here hx rfl (hb hby own_dB15_35) rfl (XS.ior X6.here hx rfl (hb hby own_dB15_36) rfl (XS.istoreN X6.here hx rfl (hb hby own_dB15_37) rfl (l' := #[rv a, iv (((own_cd [x0, x1]) <<< ((4 : Int32) &&& 31)) ||| (x2 - (48 : Int32))), iv 2, iv x2]) rfl k))) ?_
  show own_Dn p e below s (own_Q16_6 Z a cs fo va kv x0 x1 x2 x3 x4 x5 h0 n0) 0 0 T6 (mkF m 38 #[rv a, iv (own_cd [x0, x1, x2]), iv 2, iv x2] [])
  refine own_p (g' := (mkF m 5 #[rv a, iv (own_cd [x0, x1, x2]), iv 3, iv x2] [(.int 3)])) (fun _ k => XS.iinc X6.here hx rfl (hb hby own_dB15_38) rfl (l' := #[rv a, iv (own_cd [x0, x1, x2]), iv 3, iv x2]) rfl (XS.goto X6.here hx rfl (pc0 := 41) (pc' := 4) rfl (hb hby own_dB15_41) (by decide) (by decide) (XS.iloadN X6.here hx rfl (hb hby own_dB15_4) rfl k))) ?_
  refine own_p (g' := (mkF m 6 #[rv a, iv (own_cd [x0, x1, x2]), iv 3, iv x2] [(.ref a), (.int 3)])) (fun _ k => XS.aloadN X6.here hx rfl (hb hby own_dB15_5) rfl rfl k) ?_
  obtain ⟨cq7, kq7, q7a, q7b, q7c⟩ := isOf hZ eq6 E_a
  obtain ⟨_, _, ⟨T7, L7, k7, n7⟩, -, X7, ⟨Lc7, hQ7, l7, y7, z7⟩, st7⟩ := X6.virtualBack hx (y := own_y9) (z := own_y9) hown (mvT hZ (own_W hw 47 rfl)) (mvT hZ (own_W hw 48 rfl)) (notFace_of_selects (args := #[]) (mvT hZ (own_W hw 50 rfl))) (mvT hZ (own_W hw 50 rfl)) (mvT hZ (own_W hw 49 rfl)) (by decide) (backOf (W := 1) (own_rm10 l Z a0 hw [] a cs fo va kv (6 : Int32) [(.int x0), (.int x1), (.int x2), (.int x3), (.int x4), (.int x5)] h0 n0 Zs OL S_cs hcs S_fo hfo E_a F_a_value F_a_coder V_va) hZ (own_W hw 51 rfl) (own_W hw 10 rfl) (by decide) (by decide)) q7a q7c (g := (mkF m 6 #[rv a, iv (own_cd [x0, x1, x2]), iv 3, iv x2] [(.ref a), (.int 3)])) rfl (by rw [hml]; rfl) (Steps.refl _) (argsL := []) (rest := [(.int 3)]) (lenOf own_pd16_6_0 rfl) rfl (Nat.le_refl _) (hb hby own_dB15_6) (fun _ _ => ⟨rfl, eq6, (by decide : 0 + 0 ≤ _), (by decide : 0 + 0 ≤ _)⟩)
  dsimp only [Pt.U, Pt.locs, Pt.cells, Pt.slots] at X7 l7 y7 z7 st7 hQ7
  subst l7 y7 z7
  obtain ⟨rfl, NQ7, eq7⟩ := hQ7
  have NF := Fr.app NF NQ7
  refine own_go (T' := T7) (g' := (mkF m 9 #[rv a, iv (own_cd [x0, x1, x2]), iv 3, iv x2] [(.int 6), (.int 3)])) (fun _ k => st7.trans k) ?_
  refine own_p (g' := (mkF m 14 #[rv a, iv (own_cd [x0, x1, x2]), iv 3, iv x2] [(.int 3), (.ref a)])) (fun _ k => XS.icmpNo X7.here hx rfl (hb hby own_dB15_9) rfl (by decide) (XS.aloadN X7.here hx rfl (hb hby own_dB15_12) rfl rfl (XS.iloadN X7.here hx rfl (hb hby own_dB15_13) rfl k))) ?_
  obtain ⟨cq8, kq8, q8a, q8b, q8c⟩ := isOf hZ eq7 E_a
  obtain ⟨_, _, ⟨T8, L8, k8, n8⟩, -, X8, ⟨Lc8, hQ8, l8, y8, z8⟩, st8⟩ := X7.virtualBack hx (y := own_y13) (z := own_y13) hown (mvT hZ (own_W hw 57 rfl)) (mvT hZ (own_W hw 58 rfl)) (notFace_of_selects (args := #[]) (mvT hZ (own_W hw 60 rfl))) (mvT hZ (own_W hw 60 rfl)) (mvT hZ (own_W hw 59 rfl)) (by decide) (backOf (W := 0) (own_rm14 l Z a0 hw [] a (3 : Int32) cs fo va kv (6 : Int32) [(.int x0), (.int x1), (.int x2), (.int x3), (.int x4), (.int x5)] x3 h0 n0 Zs OL S_cs hcs S_fo hfo E_a F_a_value F_a_coder V_va (by decide) (by decide) rfl hd_x3) hZ (own_W hw 61 rfl) (own_W hw 10 rfl) (by decide) (by decide)) q8a q8c (g := (mkF m 14 #[rv a, iv (own_cd [x0, x1, x2]), iv 3, iv x2] [(.int 3), (.ref a)])) rfl (by rw [hml]; rfl) (Steps.refl _) (argsL := [(.int 3)]) (rest := []) (lenOf own_pd16_6_1 rfl) rfl (Nat.le_refl _) (hb hby own_dB15_14) (fun _ _ => ⟨rfl, eq7, (by decide : 0 + 0 ≤ _), (by decide : 0 + 0 ≤ _)⟩)
  dsimp only [Pt.U, Pt.locs, Pt.cells, Pt.slots] at X8 l8 y8 z8 st8 hQ8
  subst l8 y8 z8
  obtain ⟨rfl, NQ8, eq8⟩ := hQ8
  have NF := Fr.app NF NQ8
  refine own_go (T' := T8) (g' := (mkF m 17 #[rv a, iv (own_cd [x0, x1, x2]), iv 3, iv x2] [(.int x3)])) (fun _ k => st8.trans k) ?_
  refine own_p (g' := (mkF m 20 #[rv a, iv (own_cd [x0, x1, x2]), iv 3, iv x3] [(.int 4), (.int (own_cd [x0, x1, x2]))])) (fun _ k => XS.istoreN X8.here hx rfl (hb hby own_dB15_17) rfl (l' := #[rv a, iv (own_cd [x0, x1, x2]), iv 3, iv x3]) rfl (XS.iloadN X8.here hx rfl (hb hby own_dB15_18) rfl (XS.iconst X8.here hx rfl (hb hby own_dB15_19) k))) ?_
  refine own_p (g' := (mkF m 24 #[rv a, iv (own_cd [x0, x1, x2]), iv 3, iv x3] [(.int 100), (.int x3), (.int ((own_cd [x0, x1, x2]) <<< ((4 : Int32) &&& 31)))])) (fun _ k => XS.ishl X8.here hx rfl (hb hby own_dB15_20) rfl (XS.iloadN X8.here hx rfl (hb hby own_dB15_21) rfl (XS.bipush X8.here hx rfl (hb hby own_dB15_22) k))) ?_
  refine own_p (g' := (mkF m 35 #[rv a, iv (own_cd [x0, x1, x2]), iv 3, iv x3] [(.int 48), (.int x3), (.int ((own_cd [x0, x1, x2]) <<< ((4 : Int32) &&& 31)))])) (fun _ k => XS.icmpYes X8.here hx rfl (pc0 := 24) (pc' := 32) rfl (hb hby own_dB15_24) rfl (feq hk_x3).2 (by decide) (by decide) (XS.iloadN X8.here hx rfl (hb hby own_dB15_32) rfl (XS.bipush X8.here hx rfl (hb hby own_dB15_33) k))) ?_
  refine own_p (g' := (mkF m 38 #[rv a, iv (((own_cd [x0, x1, x2]) <<< ((4 : Int32) &&& 31)) ||| (x3 - (48 : Int32))), iv 3, iv x3] [])) (fun _ k => XS.isub X8.here hx rfl (hb hby own_dB15_35) rfl (XS.ior X8.here hx rfl (hb hby own_dB15_36) rfl (XS.istoreN X8.here hx rfl (hb hby own_dB15_37) rfl (l' := #[rv a, iv (((own_cd [x0, x1, x2]) <<< ((4 : Int32) &&& 31)) ||| (x3 - (48 : Int32))), iv 3, iv x3]) rfl k))) ?_
  show own_Dn p e below s (own_Q16_6 Z a cs fo va kv x0 x1 x2 x3 x4 x5 h0 n0) 0 0 T8 (mkF m 38 #[rv a, iv (own_cd [x0, x1, x2, x3]), iv 3, iv x3] [])
  refine own_p (g' := (mkF m 5 #[rv a, iv (own_cd [x0, x1, x2, x3]), iv 4, iv x3] [(.int 4)])) (fun _ k => XS.iinc X8.here hx rfl (hb hby own_dB15_38) rfl (l' := #[rv a, iv (own_cd [x0, x1, x2, x3]), iv 4, iv x3]) rfl (XS.goto X8.here hx rfl (pc0 := 41) (pc' := 4) rfl (hb hby own_dB15_41) (by decide) (by decide) (XS.iloadN X8.here hx rfl (hb hby own_dB15_4) rfl k))) ?_
  refine own_p (g' := (mkF m 6 #[rv a, iv (own_cd [x0, x1, x2, x3]), iv 4, iv x3] [(.ref a), (.int 4)])) (fun _ k => XS.aloadN X8.here hx rfl (hb hby own_dB15_5) rfl rfl k) ?_
  obtain ⟨cq9, kq9, q9a, q9b, q9c⟩ := isOf hZ eq8 E_a
  obtain ⟨_, _, ⟨T9, L9, k9, n9⟩, -, X9, ⟨Lc9, hQ9, l9, y9, z9⟩, st9⟩ := X8.virtualBack hx (y := own_y9) (z := own_y9) hown (mvT hZ (own_W hw 47 rfl)) (mvT hZ (own_W hw 48 rfl)) (notFace_of_selects (args := #[]) (mvT hZ (own_W hw 50 rfl))) (mvT hZ (own_W hw 50 rfl)) (mvT hZ (own_W hw 49 rfl)) (by decide) (backOf (W := 1) (own_rm10 l Z a0 hw [] a cs fo va kv (6 : Int32) [(.int x0), (.int x1), (.int x2), (.int x3), (.int x4), (.int x5)] h0 n0 Zs OL S_cs hcs S_fo hfo E_a F_a_value F_a_coder V_va) hZ (own_W hw 51 rfl) (own_W hw 10 rfl) (by decide) (by decide)) q9a q9c (g := (mkF m 6 #[rv a, iv (own_cd [x0, x1, x2, x3]), iv 4, iv x3] [(.ref a), (.int 4)])) rfl (by rw [hml]; rfl) (Steps.refl _) (argsL := []) (rest := [(.int 4)]) (lenOf own_pd16_6_0 rfl) rfl (Nat.le_refl _) (hb hby own_dB15_6) (fun _ _ => ⟨rfl, eq8, (by decide : 0 + 0 ≤ _), (by decide : 0 + 0 ≤ _)⟩)
  dsimp only [Pt.U, Pt.locs, Pt.cells, Pt.slots] at X9 l9 y9 z9 st9 hQ9
  subst l9 y9 z9
  obtain ⟨rfl, NQ9, eq9⟩ := hQ9
  have NF := Fr.app NF NQ9
  refine own_go (T' := T9) (g' := (mkF m 9 #[rv a, iv (own_cd [x0, x1, x2, x3]), iv 4, iv x3] [(.int 6), (.int 4)])) (fun _ k => st9.trans k) ?_
  refine own_p (g' := (mkF m 14 #[rv a, iv (own_cd [x0, x1, x2, x3]), iv 4, iv x3] [(.int 4), (.ref a)])) (fun _ k => XS.icmpNo X9.here hx rfl (hb hby own_dB15_9) rfl (by decide) (XS.aloadN X9.here hx rfl (hb hby own_dB15_12) rfl rfl (XS.iloadN X9.here hx rfl (hb hby own_dB15_13) rfl k))) ?_
  obtain ⟨cq10, kq10, q10a, q10b, q10c⟩ := isOf hZ eq9 E_a
  obtain ⟨_, _, ⟨T10, L10, k10, n10⟩, -, X10, ⟨Lc10, hQ10, l10, y10, z10⟩, st10⟩ := X9.virtualBack hx (y := own_y13) (z := own_y13) hown (mvT hZ (own_W hw 57 rfl)) (mvT hZ (own_W hw 58 rfl)) (notFace_of_selects (args := #[]) (mvT hZ (own_W hw 60 rfl))) (mvT hZ (own_W hw 60 rfl)) (mvT hZ (own_W hw 59 rfl)) (by decide) (backOf (W := 0) (own_rm14 l Z a0 hw [] a (4 : Int32) cs fo va kv (6 : Int32) [(.int x0), (.int x1), (.int x2), (.int x3), (.int x4), (.int x5)] x4 h0 n0 Zs OL S_cs hcs S_fo hfo E_a F_a_value F_a_coder V_va (by decide) (by decide) rfl hd_x4) hZ (own_W hw 61 rfl) (own_W hw 10 rfl) (by decide) (by decide)) q10a q10c (g := (mkF m 14 #[rv a, iv (own_cd [x0, x1, x2, x3]), iv 4, iv x3] [(.int 4), (.ref a)])) rfl (by rw [hml]; rfl) (Steps.refl _) (argsL := [(.int 4)]) (rest := []) (lenOf own_pd16_6_1 rfl) rfl (Nat.le_refl _) (hb hby own_dB15_14) (fun _ _ => ⟨rfl, eq9, (by decide : 0 + 0 ≤ _), (by decide : 0 + 0 ≤ _)⟩)
  dsimp only [Pt.U, Pt.locs, Pt.cells, Pt.slots] at X10 l10 y10 z10 st10 hQ10
  subst l10 y10 z10
  obtain ⟨rfl, NQ10, eq10⟩ := hQ10
  have NF := Fr.app NF NQ10
  refine own_go (T' := T10) (g' := (mkF m 17 #[rv a, iv (own_cd [x0, x1, x2, x3]), iv 4, iv x3] [(.int x4)])) (fun _ k => st10.trans k) ?_
  refine own_p (g' := (mkF m 20 #[rv a, iv (own_cd [x0, x1, x2, x3]), iv 4, iv x4] [(.int 4), (.int (own_cd [x0, x1, x2, x3]))])) (fun _ k => XS.istoreN X10.here hx rfl (hb hby own_dB15_17) rfl (l' := #[rv a, iv (own_cd [x0, x1, x2, x3]), iv 4, iv x4]) rfl (XS.iloadN X10.here hx rfl (hb hby own_dB15_18) rfl (XS.iconst X10.here hx rfl (hb hby own_dB15_19) k))) ?_
  refine own_p (g' := (mkF m 24 #[rv a, iv (own_cd [x0, x1, x2, x3]), iv 4, iv x4] [(.int 100), (.int x4), (.int ((own_cd [x0, x1, x2, x3]) <<< ((4 : Int32) &&& 31)))])) (fun _ k => XS.ishl X10.here hx rfl (hb hby own_dB15_20) rfl (XS.iloadN X10.here hx rfl (hb hby own_dB15_21) rfl (XS.bipush X10.here hx rfl (hb hby own_dB15_22) k))) ?_
  refine own_p (g' := (mkF m 35 #[rv a, iv (own_cd [x0, x1, x2, x3]), iv 4, iv x4] [(.int 48), (.int x4), (.int ((own_cd [x0, x1, x2, x3]) <<< ((4 : Int32) &&& 31)))])) (fun _ k => XS.icmpYes X10.here hx rfl (pc0 := 24) (pc' := 32) rfl (hb hby own_dB15_24) rfl (feq hk_x4).2 (by decide) (by decide) (XS.iloadN X10.here hx rfl (hb hby own_dB15_32) rfl (XS.bipush X10.here hx rfl (hb hby own_dB15_33) k))) ?_
  refine own_p (g' := (mkF m 38 #[rv a, iv (((own_cd [x0, x1, x2, x3]) <<< ((4 : Int32) &&& 31)) ||| (x4 - (48 : Int32))), iv 4, iv x4] [])) (fun _ k => XS.isub X10.here hx rfl (hb hby own_dB15_35) rfl (XS.ior X10.here hx rfl (hb hby own_dB15_36) rfl (XS.istoreN X10.here hx rfl (hb hby own_dB15_37) rfl (l' := #[rv a, iv (((own_cd [x0, x1, x2, x3]) <<< ((4 : Int32) &&& 31)) ||| (x4 - (48 : Int32))), iv 4, iv x4]) rfl k))) ?_
  show own_Dn p e below s (own_Q16_6 Z a cs fo va kv x0 x1 x2 x3 x4 x5 h0 n0) 0 0 T10 (mkF m 38 #[rv a, iv (own_cd [x0, x1, x2, x3, x4]), iv 4, iv x4] [])
  refine own_p (g' := (mkF m 5 #[rv a, iv (own_cd [x0, x1, x2, x3, x4]), iv 5, iv x4] [(.int 5)])) (fun _ k => XS.iinc X10.here hx rfl (hb hby own_dB15_38) rfl (l' := #[rv a, iv (own_cd [x0, x1, x2, x3, x4]), iv 5, iv x4]) rfl (XS.goto X10.here hx rfl (pc0 := 41) (pc' := 4) rfl (hb hby own_dB15_41) (by decide) (by decide) (XS.iloadN X10.here hx rfl (hb hby own_dB15_4) rfl k))) ?_
  refine own_p (g' := (mkF m 6 #[rv a, iv (own_cd [x0, x1, x2, x3, x4]), iv 5, iv x4] [(.ref a), (.int 5)])) (fun _ k => XS.aloadN X10.here hx rfl (hb hby own_dB15_5) rfl rfl k) ?_
  obtain ⟨cq11, kq11, q11a, q11b, q11c⟩ := isOf hZ eq10 E_a
  obtain ⟨_, _, ⟨T11, L11, k11, n11⟩, -, X11, ⟨Lc11, hQ11, l11, y11, z11⟩, st11⟩ := X10.virtualBack hx (y := own_y9) (z := own_y9) hown (mvT hZ (own_W hw 47 rfl)) (mvT hZ (own_W hw 48 rfl)) (notFace_of_selects (args := #[]) (mvT hZ (own_W hw 50 rfl))) (mvT hZ (own_W hw 50 rfl)) (mvT hZ (own_W hw 49 rfl)) (by decide) (backOf (W := 1) (own_rm10 l Z a0 hw [] a cs fo va kv (6 : Int32) [(.int x0), (.int x1), (.int x2), (.int x3), (.int x4), (.int x5)] h0 n0 Zs OL S_cs hcs S_fo hfo E_a F_a_value F_a_coder V_va) hZ (own_W hw 51 rfl) (own_W hw 10 rfl) (by decide) (by decide)) q11a q11c (g := (mkF m 6 #[rv a, iv (own_cd [x0, x1, x2, x3, x4]), iv 5, iv x4] [(.ref a), (.int 5)])) rfl (by rw [hml]; rfl) (Steps.refl _) (argsL := []) (rest := [(.int 5)]) (lenOf own_pd16_6_0 rfl) rfl (Nat.le_refl _) (hb hby own_dB15_6) (fun _ _ => ⟨rfl, eq10, (by decide : 0 + 0 ≤ _), (by decide : 0 + 0 ≤ _)⟩)
  dsimp only [Pt.U, Pt.locs, Pt.cells, Pt.slots] at X11 l11 y11 z11 st11 hQ11
  subst l11 y11 z11
  obtain ⟨rfl, NQ11, eq11⟩ := hQ11
  have NF := Fr.app NF NQ11
  refine own_go (T' := T11) (g' := (mkF m 9 #[rv a, iv (own_cd [x0, x1, x2, x3, x4]), iv 5, iv x4] [(.int 6), (.int 5)])) (fun _ k => st11.trans k) ?_
  refine own_p (g' := (mkF m 14 #[rv a, iv (own_cd [x0, x1, x2, x3, x4]), iv 5, iv x4] [(.int 5), (.ref a)])) (fun _ k => XS.icmpNo X11.here hx rfl (hb hby own_dB15_9) rfl (by decide) (XS.aloadN X11.here hx rfl (hb hby own_dB15_12) rfl rfl (XS.iloadN X11.here hx rfl (hb hby own_dB15_13) rfl k))) ?_
  obtain ⟨cq12, kq12, q12a, q12b, q12c⟩ := isOf hZ eq11 E_a
  obtain ⟨_, _, ⟨T12, L12, k12, n12⟩, -, X12, ⟨Lc12, hQ12, l12, y12, z12⟩, st12⟩ := X11.virtualBack hx (y := own_y13) (z := own_y13) hown (mvT hZ (own_W hw 57 rfl)) (mvT hZ (own_W hw 58 rfl)) (notFace_of_selects (args := #[]) (mvT hZ (own_W hw 60 rfl))) (mvT hZ (own_W hw 60 rfl)) (mvT hZ (own_W hw 59 rfl)) (by decide) (backOf (W := 0) (own_rm14 l Z a0 hw [] a (5 : Int32) cs fo va kv (6 : Int32) [(.int x0), (.int x1), (.int x2), (.int x3), (.int x4), (.int x5)] x5 h0 n0 Zs OL S_cs hcs S_fo hfo E_a F_a_value F_a_coder V_va (by decide) (by decide) rfl hd_x5) hZ (own_W hw 61 rfl) (own_W hw 10 rfl) (by decide) (by decide)) q12a q12c (g := (mkF m 14 #[rv a, iv (own_cd [x0, x1, x2, x3, x4]), iv 5, iv x4] [(.int 5), (.ref a)])) rfl (by rw [hml]; rfl) (Steps.refl _) (argsL := [(.int 5)]) (rest := []) (lenOf own_pd16_6_1 rfl) rfl (Nat.le_refl _) (hb hby own_dB15_14) (fun _ _ => ⟨rfl, eq11, (by decide : 0 + 0 ≤ _), (by decide : 0 + 0 ≤ _)⟩)
  dsimp only [Pt.U, Pt.locs, Pt.cells, Pt.slots] at X12 l12 y12 z12 st12 hQ12
  subst l12 y12 z12
  obtain ⟨rfl, NQ12, eq12⟩ := hQ12
  have NF := Fr.app NF NQ12
  refine own_go (T' := T12) (g' := (mkF m 17 #[rv a, iv (own_cd [x0, x1, x2, x3, x4]), iv 5, iv x4] [(.int x5)])) (fun _ k => st12.trans k) ?_
  refine own_p (g' := (mkF m 20 #[rv a, iv (own_cd [x0, x1, x2, x3, x4]), iv 5, iv x5] [(.int 4), (.int (own_cd [x0, x1, x2, x3, x4]))])) (fun _ k => XS.istoreN X12.here hx rfl (hb hby own_dB15_17) rfl (l' := #[rv a, iv (own_cd [x0, x1, x2, x3, x4]), iv 5, iv x5]) rfl (XS.iloadN X12.here hx rfl (hb hby own_dB15_18) rfl (XS.iconst X12.here hx rfl (hb hby own_dB15_19) k))) ?_
  refine own_p (g' := (mkF m 24 #[rv a, iv (own_cd [x0, x1, x2, x3, x4]), iv 5, iv x5] [(.int 100), (.int x5), (.int ((own_cd [x0, x1, x2, x3, x4]) <<< ((4 : Int32) &&& 31)))])) (fun _ k => XS.ishl X12.here hx rfl (hb hby own_dB15_20) rfl (XS.iloadN X12.here hx rfl (hb hby own_dB15_21) rfl (XS.bipush X12.here hx rfl (hb hby own_dB15_22) k))) ?_
  refine own_p (g' := (mkF m 35 #[rv a, iv (own_cd [x0, x1, x2, x3, x4]), iv 5, iv x5] [(.int 48), (.int x5), (.int ((own_cd [x0, x1, x2, x3, x4]) <<< ((4 : Int32) &&& 31)))])) (fun _ k => XS.icmpYes X12.here hx rfl (pc0 := 24) (pc' := 32) rfl (hb hby own_dB15_24) rfl (feq hk_x5).2 (by decide) (by decide) (XS.iloadN X12.here hx rfl (hb hby own_dB15_32) rfl (XS.bipush X12.here hx rfl (hb hby own_dB15_33) k))) ?_
  refine own_p (g' := (mkF m 38 #[rv a, iv (((own_cd [x0, x1, x2, x3, x4]) <<< ((4 : Int32) &&& 31)) ||| (x5 - (48 : Int32))), iv 5, iv x5] [])) (fun _ k => XS.isub X12.here hx rfl (hb hby own_dB15_35) rfl (XS.ior X12.here hx rfl (hb hby own_dB15_36) rfl (XS.istoreN X12.here hx rfl (hb hby own_dB15_37) rfl (l' := #[rv a, iv (((own_cd [x0, x1, x2, x3, x4]) <<< ((4 : Int32) &&& 31)) ||| (x5 - (48 : Int32))), iv 5, iv x5]) rfl k))) ?_
  show own_Dn p e below s (own_Q16_6 Z a cs fo va kv x0 x1 x2 x3 x4 x5 h0 n0) 0 0 T12 (mkF m 38 #[rv a, iv (own_cd [x0, x1, x2, x3, x4, x5]), iv 5, iv x5] [])
  refine own_p (g' := (mkF m 5 #[rv a, iv (own_cd [x0, x1, x2, x3, x4, x5]), iv 6, iv x5] [(.int 6)])) (fun _ k => XS.iinc X12.here hx rfl (hb hby own_dB15_38) rfl (l' := #[rv a, iv (own_cd [x0, x1, x2, x3, x4, x5]), iv 6, iv x5]) rfl (XS.goto X12.here hx rfl (pc0 := 41) (pc' := 4) rfl (hb hby own_dB15_41) (by decide) (by decide) (XS.iloadN X12.here hx rfl (hb hby own_dB15_4) rfl k))) ?_
  refine own_p (g' := (mkF m 6 #[rv a, iv (own_cd [x0, x1, x2, x3, x4, x5]), iv 6, iv x5] [(.ref a), (.int 6)])) (fun _ k => XS.aloadN X12.here hx rfl (hb hby own_dB15_5) rfl rfl k) ?_
  obtain ⟨cq13, kq13, q13a, q13b, q13c⟩ := isOf hZ eq12 E_a
  obtain ⟨_, _, ⟨T13, L13, k13, n13⟩, -, X13, ⟨Lc13, hQ13, l13, y13, z13⟩, st13⟩ := X12.virtualBack hx (y := own_y9) (z := own_y9) hown (mvT hZ (own_W hw 47 rfl)) (mvT hZ (own_W hw 48 rfl)) (notFace_of_selects (args := #[]) (mvT hZ (own_W hw 50 rfl))) (mvT hZ (own_W hw 50 rfl)) (mvT hZ (own_W hw 49 rfl)) (by decide) (backOf (W := 1) (own_rm10 l Z a0 hw [] a cs fo va kv (6 : Int32) [(.int x0), (.int x1), (.int x2), (.int x3), (.int x4), (.int x5)] h0 n0 Zs OL S_cs hcs S_fo hfo E_a F_a_value F_a_coder V_va) hZ (own_W hw 51 rfl) (own_W hw 10 rfl) (by decide) (by decide)) q13a q13c (g := (mkF m 6 #[rv a, iv (own_cd [x0, x1, x2, x3, x4, x5]), iv 6, iv x5] [(.ref a), (.int 6)])) rfl (by rw [hml]; rfl) (Steps.refl _) (argsL := []) (rest := [(.int 6)]) (lenOf own_pd16_6_0 rfl) rfl (Nat.le_refl _) (hb hby own_dB15_6) (fun _ _ => ⟨rfl, eq12, (by decide : 0 + 0 ≤ _), (by decide : 0 + 0 ≤ _)⟩)
  dsimp only [Pt.U, Pt.locs, Pt.cells, Pt.slots] at X13 l13 y13 z13 st13 hQ13
  subst l13 y13 z13
  obtain ⟨rfl, NQ13, eq13⟩ := hQ13
  have NF := Fr.app NF NQ13
  refine own_go (T' := T13) (g' := (mkF m 9 #[rv a, iv (own_cd [x0, x1, x2, x3, x4, x5]), iv 6, iv x5] [(.int 6), (.int 6)])) (fun _ k => st13.trans k) ?_
  refine own_p (g' := (mkF m 45 #[rv a, iv (own_cd [x0, x1, x2, x3, x4, x5]), iv 6, iv x5] [(.ref a)])) (fun _ k => XS.icmpYes X13.here hx rfl (pc0 := 9) (pc' := 44) rfl (hb hby own_dB15_9) rfl (by decide) (by decide) (by decide) (XS.aloadN X13.here hx rfl (hb hby own_dB15_44) rfl rfl k)) ?_
  obtain ⟨cq14, kq14, q14a, q14b, q14c⟩ := isOf hZ eq13 E_a
  obtain ⟨_, _, ⟨T14, L14, k14, n14⟩, -, X14, ⟨Lc14, hQ14, l14, y14, z14⟩, st14⟩ := X13.virtualBack hx (y := own_y9) (z := own_y9) hown (mvT hZ (own_W hw 47 rfl)) (mvT hZ (own_W hw 48 rfl)) (notFace_of_selects (args := #[]) (mvT hZ (own_W hw 50 rfl))) (mvT hZ (own_W hw 50 rfl)) (mvT hZ (own_W hw 49 rfl)) (by decide) (backOf (W := 0) (own_rm10 l Z a0 hw [] a cs fo va kv (6 : Int32) [(.int x0), (.int x1), (.int x2), (.int x3), (.int x4), (.int x5)] h0 n0 Zs OL S_cs hcs S_fo hfo E_a F_a_value F_a_coder V_va) hZ (own_W hw 51 rfl) (own_W hw 10 rfl) (by decide) (by decide)) q14a q14c (g := (mkF m 45 #[rv a, iv (own_cd [x0, x1, x2, x3, x4, x5]), iv 6, iv x5] [(.ref a)])) rfl (by rw [hml]; rfl) (Steps.refl _) (argsL := []) (rest := []) (lenOf own_pd16_6_0 rfl) rfl (Nat.le_refl _) (hb hby own_dB15_45) (fun _ _ => ⟨rfl, eq13, (by decide : 0 + 0 ≤ _), (by decide : 0 + 0 ≤ _)⟩)
  dsimp only [Pt.U, Pt.locs, Pt.cells, Pt.slots] at X14 l14 y14 z14 st14 hQ14
  subst l14 y14 z14
  obtain ⟨rfl, NQ14, eq14⟩ := hQ14
  have NF := Fr.app NF NQ14
  refine own_go (T' := T14) (g' := (mkF m 48 #[rv a, iv (own_cd [x0, x1, x2, x3, x4, x5]), iv 6, iv x5] [(.int 6)])) (fun _ k => st14.trans k) ?_
  refine own_p (g' := (mkF m 54 #[rv a, iv (own_cd [x0, x1, x2, x3, x4, x5]), iv 6, iv x5] [(.int (own_cd [x0, x1, x2, x3, x4, x5]))])) (fun _ k => XS.bipush X14.here hx rfl (hb hby own_dB15_48) (XS.icmpNo X14.here hx rfl (hb hby own_dB15_50) rfl (by decide) (XS.iloadN X14.here hx rfl (hb hby own_dB15_53) rfl k))) ?_
  refine own_p (g' := (mkF m 61 #[rv a, iv (own_cd [x0, x1, x2, x3, x4, x5]), iv 6, iv x5] [(.int ((own_cd [x0, x1, x2, x3, x4, x5]) ||| (16777216 : Int32)))])) (fun _ k => X14.ldcInt hx hown (mvT hZ (own_W hw 185 rfl)) (g := (mkF m 54 #[rv a, iv (own_cd [x0, x1, x2, x3, x4, x5]), iv 6, iv x5] [(.int (own_cd [x0, x1, x2, x3, x4, x5]))])) rfl (hb hby own_dB15_54) _ (XS.ior X14.here hx rfl (hb hby own_dB15_56) rfl (XS.goto X14.here hx rfl (pc0 := 57) (pc' := 61) rfl (hb hby own_dB15_57) (by decide) (by decide) k))) ?_
  refine own_ret X14 Bd.notSynchronized (some (.int ((own_cd [x0, x1, x2, x3, x4, x5]) ||| (16777216 : Int32)))) (fun h => by rw [Bd.returns] at h; cases h) (fun fs hr => retI X14 hx Bd.returns (hb hby own_dB15_61) hr) ?_ (by decide) (by decide)
  show (own_Q16_6 Z a cs fo va kv x0 x1 x2 x3 x4 x5 h0 n0) (some (.int ((own_cd [x0, x1, x2, x3, x4, x5]) ||| (16777216 : Int32)))) T14.heap _
  rw [eq14]
  exact ⟨rfl, NF, rfl⟩
theorem own_dB16_0 : decode jdk_68_method_2_code 0 = .ok (.aload_n 0, 1) := by decide +kernel
theorem own_dB16_1 : decode jdk_68_method_2_code 1 = .ok (.invokespecial 3, 3) := by decide +kernel
theorem own_dB16_4 : decode jdk_68_method_2_code 4 = .ok (.getstatic 18, 3) := by decide +kernel
theorem own_dB16_7 : decode jdk_68_method_2_code 7 = .ok (.ifCond .eq 18, 3) := by decide +kernel
theorem own_dB16_10 : decode jdk_68_method_2_code 10 = .ok (.aload_n 0, 1) := by decide +kernel
theorem own_dB16_11 : decode jdk_68_method_2_code 11 = .ok (.iload_n 1, 1) := by decide +kernel
theorem own_dB16_12 : decode jdk_68_method_2_code 12 = .ok (.newarray .byte, 2) := by decide +kernel
theorem own_dB16_14 : decode jdk_68_method_2_code 14 = .ok (.putfield 15, 3) := by decide +kernel
theorem own_dB16_17 : decode jdk_68_method_2_code 17 = .ok (.aload_n 0, 1) := by decide +kernel
theorem own_dB16_18 : decode jdk_68_method_2_code 18 = .ok (.iconst 0, 1) := by decide +kernel
theorem own_dB16_19 : decode jdk_68_method_2_code 19 = .ok (.putfield 22, 3) := by decide +kernel
theorem own_dB16_22 : decode jdk_68_method_2_code 22 = .ok (.goto 16, 3) := by decide +kernel
theorem own_dB16_38 : decode jdk_68_method_2_code 38 = .ok (.return_, 1) := by decide +kernel
theorem own_pn17 : plainName "java/lang/AbstractStringBuilder" = true := by first | (simp [plainName, overriddenIn]; done) | decide +kernel
theorem own_ef17 (m : MethodId) (a : Addr) : entryFrame m #[(.ref a), (.int 16)] 2 = mkF m 0 #[.val (.ref a), .val (.int 16)] [] := by first | (simp [entryFrame, mkF, argsToLocals, Value.category]; done) | rfl
def own_Q17 (Z : State) (a : Addr) (cs : Int32) (fo : Value) (h0 : Heap) (n0 : Nat) (v : Option Value) (h : Heap) (L : List Loc) : Prop := v = none ∧ Fr n0 L ∧ Keep h0 h [a] ∧ Exa Z h a "java/lang/StringBuilder" ∧ (∃ (nb : Addr) (kn : ClassId), h0.size ≤ nb ∧ n0 ≤ nb ∧ Arv Z h nb kn .byte (16 : Int32) [(.int 0), (.int 0), (.int 0), (.int 0), (.int 0), (.int 0), (.int 0), (.int 0), (.int 0), (.int 0), (.int 0), (.int 0), (.int 0), (.int 0), (.int 0), (.int 0)] (.int 0) ∧ Fld Z h a "java/lang/AbstractStringBuilder" "value" "[B" (.ref nb) ∧ Fld Z h a "java/lang/AbstractStringBuilder" "coder" "B" (.int 0) ∧ Fld Z h a "java/lang/AbstractStringBuilder" "count" "I" (.int 0))
set_option maxRecDepth 65536 in
set_option maxHeartbeats 40000000 in
theorem own_rm17 (l : Launch) (Z : State) (a0 : Array Value) (hw : ∀ d ∈ tables_1, d.before a0 Z = true) (ws : List Jvm.Cond) (a : Addr) (cs : Int32) (fo : Value) (h0 : Heap) (n0 : Nat) (Zs : n0 ≤ h0.size) (OL : Old Z n0 h0) (S_cs : Sta Z Z.heap "java/lang/String" "COMPACT_STRINGS" "Z" (.int cs)) (hcs : ¬ (cs = (0 : Int32))) (S_fo : Sta Z Z.heap "jdk/internal/util/Preconditions" "SIOOBE_FORMATTER" "Ljava/util/function/BiFunction;" fo) (hfo : fo.isRef = true) (F_a_value : Fld Z h0 a "java/lang/AbstractStringBuilder" "value" "[B" .null) (F_a_coder : Fld Z h0 a "java/lang/AbstractStringBuilder" "coder" "B" (.int 0)) (F_a_count : Fld Z h0 a "java/lang/AbstractStringBuilder" "count" "I" (.int 0)) (E_a : Exa Z h0 a "java/lang/StringBuilder") (g_a : n0 ≤ a) :
    MetFree l own_y16 (head1 (Jvm.Cond.code own_y16 jdk_68_method_2_code 2 none :: ws) ({ frames := 1, cells := 1, slots := 16, locals := 12 } : Room)) (fun aA_ U => aA_ = #[(.ref a), (.int 16)] ∧ Z.Warmed39 U.vm ∧ U.heap = h0) (fun _ _ _ _ _ => True) (fun _ U o U' => ∃ v L, o = .returned v ∧ own_Q17 Z a cs fo h0 n0 v U'.heap L ∧ FrameEnd U o U' L ({ frames := 1, cells := 1, slots := 16, locals := 12 } : Room).cells ({ frames := 1, cells := 1, slots := 16, locals := 12 } : Room).slots) := by
  refine MetFree.of_bodySF (plainFor_of_name own_pn17) hisR ?_
  intro p e s m args below meth c s₁ Bd hml0 hP hK
  obtain ⟨rfl, hZ, hh⟩ := hP
  have hx := Bd.exec
  have hby := Bd.bytes
  have hml : c.maxLocals = 2 := hml0
  have hown : s.vm.findClass "java/lang/AbstractStringBuilder" = some m.cls := findClass_of_methodNamed Bd.named
  have hnm := (name_of_methodNamed Bd.named Bd.method).1
  have X0 : Stand p l e ({ frames := 1, cells := 1, slots := 16, locals := 12 } : Room) s m #[(.ref a), (.int 16)] below meth c s₁ [] 0 0 := Stand.of_body Bd
  have e0 : s₁.heap = h0 := by rw [← hh, Bd.state]; rfl
  have NF := Fr.nil n0
  rw [own_ef17 m a]
  show own_Dn p e below s (own_Q17 Z a cs fo h0 n0) 1 16 s₁ (mkF m 0 #[.val (.ref a), .val (.int 16)] [])
  have KP := Keep.refl h0 [a]
  refine own_p (g' := (mkF m 1 #[rv a, iv 16] [(.ref a)])) (fun _ k => XS.aloadN X0.here hx rfl (hb hby own_dB16_0) rfl rfl k) ?_
  obtain ⟨T1, X1, e1, st1⟩ := initO X0 hx hZ hown (own_W hw 91 rfl) (own_W hw 19 rfl) (own_W hw 20 rfl) e0 (g := (mkF m 1 #[rv a, iv 16] [(.ref a)])) rfl (by rw [hml]; rfl) rfl (hb hby own_dB16_1) (by decide) (W := 0) (Nat.le_refl _) (by decide)
  refine own_go (T' := T1) (g' := (mkF m 4 #[rv a, iv 16] [])) (fun _ k => st1 _ k) ?_
  obtain ⟨T2, X2, e2, st2⟩ := getS2 X1 hx hZ hown (host := "") (Or.inl (own_W hw 92 rfl)) Via.refl e1 (S_cs.ext OL.2) (g := (mkF m 4 #[rv a, iv 16] [])) rfl (hb hby own_dB16_4)
  refine own_go (T' := T2) (g' := (mkF m 7 #[rv a, iv 16] [(.int cs)])) (fun _ k => st2 _ k) ?_
  refine own_p (g' := (mkF m 12 #[rv a, iv 16] [(.int 16), (.ref a)])) (fun _ k => XS.ifNo X2.here hx rfl (hb hby own_dB16_7) rfl ((if0 _ _).trans (feq hcs).1) (XS.aloadN X2.here hx rfl (hb hby own_dB16_10) rfl rfl (XS.iloadN X2.here hx rfl (hb hby own_dB16_11) rfl k))) ?_
  obtain ⟨T3, h3, k3, X3, e3, E3, A3, st3⟩ := newP X2 hx hZ (own_W hw 26 rfl) e2 (g := (mkF m 12 #[rv a, iv 16] [(.int 16), (.ref a)])) rfl (hb hby own_dB16_12) rfl (by decide) (cap := 16) (by decide) (by decide) (by decide) (by decide)
  obtain ⟨b3, g3⟩ : ∃ z, z = h0.size := ⟨_, rfl⟩
  rw [← g3] at A3 st3
  have ne_a_b3 : a ≠ b3 := Nat.ne_of_lt (Nat.lt_of_lt_of_le E_a.lt (Nat.le_of_eq g3.symm))
  have g_b3 : n0 ≤ b3 := Nat.le_trans Zs (Nat.le_of_eq g3.symm)
  have sz_b3 : h0.size ≤ b3 := Nat.le_trans KP.1 (Nat.le_of_eq g3.symm)
  have E_a := E_a.ext E3
  have F_a_value := F_a_value.ext E3
  have F_a_coder := F_a_coder.ext E3
  have F_a_count := F_a_count.ext E3
  have OL := OL.ext E3
  have KP := KP.ext E3
  have Zs := Nat.le_trans Zs E3.1
  have V_b3 : Arv Z h3 b3 k3 .byte (16 : Int32) [(.int 0), (.int 0), (.int 0), (.int 0), (.int 0), (.int 0), (.int 0), (.int 0), (.int 0), (.int 0), (.int 0), (.int 0), (.int 0), (.int 0), (.int 0), (.int 0)] (.int 0) := (Arv.new A3 (by decide)).pad (pad_rep [] (.int 0) 16)
  refine own_go (T' := T3) (g' := (mkF m 14 #[rv a, iv 16] [(.ref b3), (.ref a)])) (fun _ k => st3 _ k) ?_
  obtain ⟨T4, h4, X4, e4, W4, st4⟩ := putF X3 hx hZ hown (host := "") (Or.inl (own_W hw 93 rfl)) Via.refl e3 F_a_value E_a (Or.inl (own_W hw 94 rfl)) (own_W hw 80 rfl) (ty := (.array .byte)) (by decide) rfl rfl (g := (mkF m 14 #[rv a, iv 16] [(.ref b3), (.ref a)])) rfl rfl (hb hby own_dB16_14)
  have E_a := E_a.wr W4
  have F_a_coder := F_a_coder.other W4 (Or.inr (slot_ne (Or.inl (own_W hw 96 rfl)) (Or.inl (own_W hw 94 rfl)) (by decide) (t := .byte) (t' := (.array .byte)) (by decide) (by decide)))
  have F_a_count := F_a_count.other W4 (Or.inr (slot_ne (Or.inl (own_W hw 109 rfl)) (Or.inl (own_W hw 94 rfl)) (by decide) (t := .int) (t' := (.array .byte)) (by decide) (by decide)))
  have OL := OL.wr W4 g_a
  have V_b3 := V_b3.other W4 (Ne.symm ne_a_b3)
  have Zs := Nat.le_trans Zs (Keep.of_wr W4).1
  have F_a_value := F_a_value.same W4
  have KP := KP.wr W4 (Or.inl (by simp))
  have NF := Fr.snoc X4 NF g_a
  refine own_go (T' := T4) (g' := (mkF m 17 #[rv a, iv 16] [])) (fun _ k => st4 _ k) ?_
  refine own_p (g' := (mkF m 19 #[rv a, iv 16] [(.int 0), (.ref a)])) (fun _ k => XS.aloadN X4.here hx rfl (hb hby own_dB16_17) rfl rfl (XS.iconst X4.here hx rfl (hb hby own_dB16_18) k)) ?_
  obtain ⟨T5, h5, X5, e5, W5, st5⟩ := putFN X4 hx hZ hown (own_W hw 95 rfl) Via.refl e4 F_a_coder E_a (Or.inl (own_W hw 96 rfl)) (own_W hw 80 rfl) (ty := .byte) (v' := (.int 0)) (by decide) rfl (by decide) (g := (mkF m 19 #[rv a, iv 16] [(.int 0), (.ref a)])) rfl rfl (hb hby own_dB16_19)
  have E_a := E_a.wr W5
  have F_a_count := F_a_count.other W5 (Or.inr (slot_ne (Or.inl (own_W hw 109 rfl)) (Or.inl (own_W hw 96 rfl)) (by decide) (t := .int) (t' := .byte) (by decide) (by decide)))
  have OL := OL.wr W5 g_a
  have V_b3 := V_b3.other W5 (Ne.symm ne_a_b3)
  have F_a_value := F_a_value.other W5 (Or.inr (slot_ne (Or.inl (own_W hw 94 rfl)) (Or.inl (own_W hw 96 rfl)) (by decide) (t := (.array .byte)) (t' := .byte) (by decide) (by decide)))
  have Zs := Nat.le_trans Zs (Keep.of_wr W5).1
  have F_a_coder := F_a_coder.same W5
  have KP := KP.wr W5 (Or.inl (by simp))
  have NF := Fr.snoc X5 NF g_a
  refine own_go (T' := T5) (g' := (mkF m 22 #[rv a, iv 16] [])) (fun _ k => st5 _ k) ?_
  refine own_p (g' := (mkF m 38 #[rv a, iv 16] [])) (fun _ k => XS.goto X5.here hx rfl (pc0 := 22) (pc' := 38) rfl (hb hby own_dB16_22) (by decide) (by decide) k) ?_
  refine own_ret X5 Bd.notSynchronized none (fun _ => rfl) (fun fs hr => X5.returnOut hx Bd.returns (hb hby own_dB16_38) hr) ?_ (by decide) (by decide)
  show (own_Q17 Z a cs fo h0 n0) none T5.heap _
  rw [e5]
  exact ⟨rfl, NF, KP, E_a, b3, k3, sz_b3, g_b3, V_b3, F_a_value, F_a_coder, F_a_count⟩
theorem own_dB17_0 : decode jdk_67_method_1_code 0 = .ok (.aload_n 0, 1) := by decide +kernel
theorem own_dB17_1 : decode jdk_67_method_1_code 1 = .ok (.bipush 16, 2) := by decide +kernel
theorem own_dB17_3 : decode jdk_67_method_1_code 3 = .ok (.invokespecial 1, 3) := by decide +kernel
theorem own_dB17_6 : decode jdk_67_method_1_code 6 = .ok (.return_, 1) := by decide +kernel
theorem own_pn18 : plainName "java/lang/StringBuilder" = true := by first | (simp [plainName, overriddenIn]; done) | decide +kernel
theorem own_pd18_0 : parseMethodDescriptor "(I)V" = some ⟨[.int], none⟩ := by decide +kernel
theorem own_ef18 (m : MethodId) (a : Addr) : entryFrame m #[(.ref a)] 1 = mkF m 0 #[.val (.ref a)] [] := by first | (simp [entryFrame, mkF, argsToLocals, Value.category]; done) | rfl
def own_Q18 (Z : State) (a : Addr) (cs : Int32) (fo : Value) (h0 : Heap) (n0 : Nat) (v : Option Value) (h : Heap) (L : List Loc) : Prop := v = none ∧ Fr n0 L ∧ Keep h0 h [a] ∧ Exa Z h a "java/lang/StringBuilder" ∧ (∃ (nb : Addr) (kn : ClassId), h0.size ≤ nb ∧ n0 ≤ nb ∧ Arv Z h nb kn .byte (16 : Int32) [(.int 0), (.int 0), (.int 0), (.int 0), (.int 0), (.int 0), (.int 0), (.int 0), (.int 0), (.int 0), (.int 0), (.int 0), (.int 0), (.int 0), (.int 0), (.int 0)] (.int 0) ∧ Fld Z h a "java/lang/AbstractStringBuilder" "value" "[B" (.ref nb) ∧ Fld Z h a "java/lang/AbstractStringBuilder" "coder" "B" (.int 0) ∧ Fld Z h a "java/lang/AbstractStringBuilder" "count" "I" (.int 0))
set_option maxRecDepth 65536 in
set_option maxHeartbeats 40000000 in
theorem own_rm18 (l : Launch) (Z : State) (a0 : Array Value) (hw : ∀ d ∈ tables_1, d.before a0 Z = true) (ws : List Jvm.Cond) (a : Addr) (cs : Int32) (fo : Value) (h0 : Heap) (n0 : Nat) (Zs : n0 ≤ h0.size) (OL : Old Z n0 h0) (S_cs : Sta Z Z.heap "java/lang/String" "COMPACT_STRINGS" "Z" (.int cs)) (hcs : ¬ (cs = (0 : Int32))) (S_fo : Sta Z Z.heap "jdk/internal/util/Preconditions" "SIOOBE_FORMATTER" "Ljava/util/function/BiFunction;" fo) (hfo : fo.isRef = true) (F_a_value : Fld Z h0 a "java/lang/AbstractStringBuilder" "value" "[B" .null) (F_a_coder : Fld Z h0 a "java/lang/AbstractStringBuilder" "coder" "B" (.int 0)) (F_a_count : Fld Z h0 a "java/lang/AbstractStringBuilder" "count" "I" (.int 0)) (E_a : Exa Z h0 a "java/lang/StringBuilder") (g_a : n0 ≤ a) :
    MetFree l own_y17 (head1 (Jvm.Cond.code own_y17 jdk_67_method_1_code 1 none :: ws) ({ frames := 2, cells := 1, slots := 16, locals := 25 } : Room)) (fun aA_ U => aA_ = #[(.ref a)] ∧ Z.Warmed39 U.vm ∧ U.heap = h0) (fun _ _ _ _ _ => True) (fun _ U o U' => ∃ v L, o = .returned v ∧ own_Q18 Z a cs fo h0 n0 v U'.heap L ∧ FrameEnd U o U' L ({ frames := 2, cells := 1, slots := 16, locals := 25 } : Room).cells ({ frames := 2, cells := 1, slots := 16, locals := 25 } : Room).slots) := by
  refine MetFree.of_bodySF (plainFor_of_name own_pn18) hisR ?_
  intro p e s m args below meth c s₁ Bd hml0 hP hK
  obtain ⟨rfl, hZ, hh⟩ := hP
  have hx := Bd.exec
  have hby := Bd.bytes
  have hml : c.maxLocals = 1 := hml0
  have hown : s.vm.findClass "java/lang/StringBuilder" = some m.cls := findClass_of_methodNamed Bd.named
  have hnm := (name_of_methodNamed Bd.named Bd.method).1
  have X0 : Stand p l e ({ frames := 2, cells := 1, slots := 16, locals := 25 } : Room) s m #[(.ref a)] below meth c s₁ [] 0 0 := Stand.of_body Bd
  have e0 : s₁.heap = h0 := by rw [← hh, Bd.state]; rfl
  have NF := Fr.nil n0
  rw [own_ef18 m a]
  show own_Dn p e below s (own_Q18 Z a cs fo h0 n0) 1 16 s₁ (mkF m 0 #[.val (.ref a)] [])
  have KP := Keep.refl h0 [a]
  refine own_p (g' := (mkF m 3 #[rv a] [(.int 16), (.ref a)])) (fun _ k => XS.aloadN X0.here hx rfl (hb hby own_dB17_0) rfl rfl (XS.bipush X0.here hx rfl (hb hby own_dB17_1) k)) ?_
  have lt_a := E_a.lt
  have KPo := KP
  obtain ⟨_, _, ⟨T1, L1, k1, n1⟩, -, X1, ⟨Lc1, hQ1, l1, y1, z1⟩, st1⟩ := X0.specialBack hx (y := own_y16) rfl hown (mvT hZ (own_W hw 85 rfl)) (mvT hZ (own_W hw 86 rfl)) (mvT hZ (own_W hw 90 rfl)) (by decide) (backOf (W := 0) (own_rm17 l Z a0 hw [] a cs fo h0 n0 Zs OL S_cs hcs S_fo hfo F_a_value F_a_coder F_a_count E_a g_a) hZ (own_W hw 90 rfl) (own_W hw 89 rfl) (by decide) (by decide)) (g := (mkF m 3 #[rv a] [(.int 16), (.ref a)])) rfl (by rw [hml]; rfl) (Steps.refl _) (a := a) (argsL := [(.int 16)]) (rest := []) (lenOf own_pd18_0 rfl) rfl (Nat.le_refl _) (hb hby own_dB17_3) (fun _ _ => ⟨rfl, e0, (by decide : 0 + 1 ≤ _), (by decide : 0 + 16 ≤ _)⟩)
  dsimp only [Pt.U, Pt.locs, Pt.cells, Pt.slots] at X1 l1 y1 z1 st1 hQ1
  subst l1 y1 z1
  obtain ⟨rfl, NQ1, K1, E_a, nb1, kn1, ge_nb1, g_nb1, V_nb1, F_a_value, F_a_coder, F_a_count⟩ := hQ1
  have NF := Fr.app NF NQ1
  have OL := OL.keep K1 (allS g_a all0)
  have Zs := Nat.le_trans Zs K1.1
  have KP := KP.trans K1 ((allS (Or.inl (by simp)) all0))
  have ne_a_nb1 : a ≠ nb1 := Nat.ne_of_lt (Nat.lt_of_lt_of_le lt_a ge_nb1)
  have sz_nb1 : h0.size ≤ nb1 := Nat.le_trans KPo.1 ge_nb1
  refine own_go (T' := T1) (g' := (mkF m 6 #[rv a] [])) (fun _ k => st1.trans k) ?_
  refine own_ret X1 Bd.notSynchronized none (fun _ => rfl) (fun fs hr => X1.returnOut hx Bd.returns (hb hby own_dB17_6) hr) ?_ (by decide) (by decide)
  show (own_Q18 Z a cs fo h0 n0) none T1.heap _
  exact ⟨rfl, NF, KP, E_a, nb1, kn1, sz_nb1, g_nb1, V_nb1, F_a_value, F_a_coder, F_a_count⟩
theorem own_dB18_0 : decode jdk_68_method_71_code 0 = .ok (.getstatic 18, 3) := by decide +kernel
theorem own_dB18_3 : decode jdk_68_method_71_code 3 = .ok (.ifCond .eq 18, 3) := by decide +kernel
theorem own_dB18_6 : decode jdk_68_method_71_code 6 = .ok (.aload_n 0, 1) := by decide +kernel
theorem own_dB18_7 : decode jdk_68_method_71_code 7 = .ok (.getfield 22, 3) := by decide +kernel
theorem own_dB18_10 : decode jdk_68_method_71_code 10 = .ok (.aload_n 1, 1) := by decide +kernel
theorem own_dB18_11 : decode jdk_68_method_71_code 11 = .ok (.invokevirtual 40, 3) := by decide +kernel
theorem own_dB18_14 : decode jdk_68_method_71_code 14 = .ok (.if_icmp .eq 7, 3) := by decide +kernel
theorem own_dB18_21 : decode jdk_68_method_71_code 21 = .ok (.return_, 1) := by decide +kernel
theorem own_pn20 : plainName "java/lang/AbstractStringBuilder" = true := by first | (simp [plainName, overriddenIn]; done) | decide +kernel
theorem own_pd20_0 : parseMethodDescriptor "()B" = some ⟨[], some .byte⟩ := by decide +kernel
theorem own_ef20 (m : MethodId) (a : Addr) (sa : Addr) : entryFrame m #[(.ref a), (.ref sa)] 2 = mkF m 0 #[.val (.ref a), .val (.ref sa)] [] := by first | (simp [entryFrame, mkF, argsToLocals, Value.category]; done) | rfl
def own_Q20 (Z : State) (a : Addr) (sa : Addr) (cs : Int32) (fo : Value) (h0 : Heap) (n0 : Nat) (v : Option Value) (h : Heap) (L : List Loc) : Prop := v = none ∧ Fr n0 L ∧ h = h0
set_option maxRecDepth 65536 in
set_option maxHeartbeats 40000000 in
theorem own_rm20 (l : Launch) (Z : State) (a0 : Array Value) (hw : ∀ d ∈ tables_1, d.before a0 Z = true) (ws : List Jvm.Cond) (a : Addr) (sa : Addr) (cs : Int32) (fo : Value) (h0 : Heap) (n0 : Nat) (Zs : n0 ≤ h0.size) (OL : Old Z n0 h0) (S_cs : Sta Z Z.heap "java/lang/String" "COMPACT_STRINGS" "Z" (.int cs)) (hcs : ¬ (cs = (0 : Int32))) (S_fo : Sta Z Z.heap "jdk/internal/util/Preconditions" "SIOOBE_FORMATTER" "Ljava/util/function/BiFunction;" fo) (hfo : fo.isRef = true) (F_a_coder : Fld Z h0 a "java/lang/AbstractStringBuilder" "coder" "B" (.int 0)) (E_sa : Exa Z h0 sa "java/lang/String") (F_sa_coder : Fld Z h0 sa "java/lang/String" "coder" "B" (.int 0)) :
    MetFree l own_y18 (head1 (Jvm.Cond.code own_y18 jdk_68_method_71_code 2 none :: ws) ({ frames := 1, cells := 0, slots := 0, locals := 13 } : Room)) (fun aA_ U => aA_ = #[(.ref a), (.ref sa)] ∧ Z.Warmed39 U.vm ∧ U.heap = h0) (fun _ _ _ _ _ => True) (fun _ U o U' => ∃ v L, o = .returned v ∧ own_Q20 Z a sa cs fo h0 n0 v U'.heap L ∧ FrameEnd U o U' L ({ frames := 1, cells := 0, slots := 0, locals := 13 } : Room).cells ({ frames := 1, cells := 0, slots := 0, locals := 13 } : Room).slots) := by
  refine MetFree.of_bodySF (plainFor_of_name own_pn20) hisR ?_
  intro p e s m args below meth c s₁ Bd hml0 hP hK
  obtain ⟨rfl, hZ, hh⟩ := hP
  have hx := Bd.exec
  have hby := Bd.bytes
  have hml : c.maxLocals = 2 := hml0
  have hown : s.vm.findClass "java/lang/AbstractStringBuilder" = some m.cls := findClass_of_methodNamed Bd.named
  have hnm := (name_of_methodNamed Bd.named Bd.method).1
  have X0 : Stand p l e ({ frames := 1, cells := 0, slots := 0, locals := 13 } : Room) s m #[(.ref a), (.ref sa)] below meth c s₁ [] 0 0 := Stand.of_body Bd
  have e0 : s₁.heap = h0 := by rw [← hh, Bd.state]; rfl
  have NF := Fr.nil n0
  rw [own_ef20 m a sa]
  show own_Dn p e below s (own_Q20 Z a sa cs fo h0 n0) 0 0 s₁ (mkF m 0 #[.val (.ref a), .val (.ref sa)] [])
  obtain ⟨T1, X1, e1, st1⟩ := getS2 X0 hx hZ hown (host := "") (Or.inl (own_W hw 92 rfl)) Via.refl e0 (S_cs.ext OL.2) (g := (mkF m 0 #[rv a, rv sa] [])) rfl (hb hby own_dB18_0)
  refine own_go (T' := T1) (g' := (mkF m 3 #[rv a, rv sa] [(.int cs)])) (fun _ k => st1 _ k) ?_
  refine own_p (g' := (mkF m 7 #[rv a, rv sa] [(.ref a)])) (fun _ k => XS.ifNo X1.here hx rfl (hb hby own_dB18_3) rfl ((if0 _ _).trans (feq hcs).1) (XS.aloadN X1.here hx rfl (hb hby own_dB18_6) rfl rfl k)) ?_
  obtain ⟨T2, X2, e2, st2⟩ := getF X1 hx hZ hown (host := "") (Or.inl (own_W hw 95 rfl)) Via.refl e1 F_a_coder (g := (mkF m 7 #[rv a, rv sa] [(.ref a)])) rfl rfl (hb hby own_dB18_7)
  refine own_go (T' := T2) (g' := (mkF m 10 #[rv a, rv sa] [(.int 0)])) (fun _ k => st2 _ k) ?_
  refine own_p (g' := (mkF m 11 #[rv a, rv sa] [(.ref sa), (.int 0)])) (fun _ k => XS.aloadN X2.here hx rfl (hb hby own_dB18_10) rfl rfl k) ?_
  obtain ⟨cq3, kq3, q3a, q3b, q3c⟩ := isOf hZ e2 E_sa
  obtain ⟨_, _, ⟨T3, L3, k3, n3⟩, -, X3, ⟨Lc3, hQ3, l3, y3, z3⟩, st3⟩ := X2.virtualBack hx (y := own_y7) (z := own_y7) hown (mvT hZ (own_W hw 125 rfl)) (mvT hZ (own_W hw 53 rfl)) (notFace_of_selects (args := #[]) (mvT hZ (own_W hw 55 rfl))) (mvT hZ (own_W hw 55 rfl)) (mvT hZ (own_W hw 54 rfl)) (by decide) (backOf (W := 1) (own_rm8 l Z a0 hw [] sa cs fo h0 n0 Zs OL S_cs hcs S_fo hfo F_sa_coder) hZ (own_W hw 56 rfl) (own_W hw 10 rfl) (by decide) (by decide)) q3a q3c (g := (mkF m 11 #[rv a, rv sa] [(.ref sa), (.int 0)])) rfl (by rw [hml]; rfl) (Steps.refl _) (argsL := []) (rest := [(.int 0)]) (lenOf own_pd20_0 rfl) rfl (Nat.le_refl _) (hb hby own_dB18_11) (fun _ _ => ⟨rfl, e2, (by decide : 0 + 0 ≤ _), (by decide : 0 + 0 ≤ _)⟩)
  dsimp only [Pt.U, Pt.locs, Pt.cells, Pt.slots] at X3 l3 y3 z3 st3 hQ3
  subst l3 y3 z3
  obtain ⟨rfl, NQ3, eq3⟩ := hQ3
  have NF := Fr.app NF NQ3
  refine own_go (T' := T3) (g' := (mkF m 14 #[rv a, rv sa] [(.int 0), (.int 0)])) (fun _ k => st3.trans k) ?_
  refine own_p (g' := (mkF m 21 #[rv a, rv sa] [])) (fun _ k => XS.icmpYes X3.here hx rfl (pc0 := 14) (pc' := 21) rfl (hb hby own_dB18_14) rfl (by decide) (by decide) (by decide) k) ?_
  refine own_ret X3 Bd.notSynchronized none (fun _ => rfl) (fun fs hr => X3.returnOut hx Bd.returns (hb hby own_dB18_21) hr) ?_ (by decide) (by decide)
  show (own_Q20 Z a sa cs fo h0 n0) none T3.heap _
  rw [eq3]
  exact ⟨rfl, NF, rfl⟩
theorem own_dB19_0 : decode jdk_68_method_9_code 0 = .ok (.aload_n 0, 1) := by decide +kernel
theorem own_dB19_1 : decode jdk_68_method_9_code 1 = .ok (.getfield 15, 3) := by decide +kernel
theorem own_dB19_4 : decode jdk_68_method_9_code 4 = .ok (.arraylength, 1) := by decide +kernel
theorem own_dB19_5 : decode jdk_68_method_9_code 5 = .ok (.aload_n 0, 1) := by decide +kernel
theorem own_dB19_6 : decode jdk_68_method_9_code 6 = .ok (.getfield 22, 3) := by decide +kernel
theorem own_dB19_9 : decode jdk_68_method_9_code 9 = .ok (.ishr, 1) := by decide +kernel
theorem own_dB19_10 : decode jdk_68_method_9_code 10 = .ok (.istore_n 2, 1) := by decide +kernel
theorem own_dB19_11 : decode jdk_68_method_9_code 11 = .ok (.iload_n 1, 1) := by decide +kernel
theorem own_dB19_12 : decode jdk_68_method_9_code 12 = .ok (.iload_n 2, 1) := by decide +kernel
theorem own_dB19_13 : decode jdk_68_method_9_code 13 = .ok (.isub, 1) := by decide +kernel
theorem own_dB19_14 : decode jdk_68_method_9_code 14 = .ok (.ifCond .le 24, 3) := by decide +kernel
theorem own_dB19_38 : decode jdk_68_method_9_code 38 = .ok (.return_, 1) := by decide +kernel
theorem own_pn21_3 : plainName "java/lang/AbstractStringBuilder" = true := by first | (simp [plainName, overriddenIn]; done) | decide +kernel
theorem own_ef21_3 (m : MethodId) (a : Addr) : entryFrame m #[(.ref a), (.int 3)] 3 = mkF m 0 #[.val (.ref a), .val (.int 3), .unset] [] := by first | (simp [entryFrame, mkF, argsToLocals, Value.category]; done) | rfl
def own_Q21_3 (Z : State) (a : Addr) (ba : Addr) (kb : ClassId) (vs : List Value) (h0 : Heap) (n0 : Nat) (v : Option Value) (h : Heap) (L : List Loc) : Prop := v = none ∧ Fr n0 L ∧ h = h0
set_option maxRecDepth 65536 in
set_option maxHeartbeats 40000000 in
theorem own_rm21_3 (l : Launch) (Z : State) (a0 : Array Value) (hw : ∀ d ∈ tables_1, d.before a0 Z = true) (ws : List Jvm.Cond) (a : Addr) (ba : Addr) (kb : ClassId) (vs : List Value) (h0 : Heap) (n0 : Nat) (Zs : n0 ≤ h0.size) (F_a_value : Fld Z h0 a "java/lang/AbstractStringBuilder" "value" "[B" (.ref ba)) (F_a_coder : Fld Z h0 a "java/lang/AbstractStringBuilder" "coder" "B" (.int 0)) (V_ba : Arv Z h0 ba kb .byte (16 : Int32) vs (.int 0)) :
    MetFree l own_y19 (head1 (Jvm.Cond.code own_y19 jdk_68_method_9_code 3 none :: ws) ({ frames := 0, cells := 0, slots := 0, locals := 0 } : Room)) (fun aA_ U => aA_ = #[(.ref a), (.int 3)] ∧ Z.Warmed39 U.vm ∧ U.heap = h0) (fun _ _ _ _ _ => True) (fun _ U o U' => ∃ v L, o = .returned v ∧ own_Q21_3 Z a ba kb vs h0 n0 v U'.heap L ∧ FrameEnd U o U' L ({ frames := 0, cells := 0, slots := 0, locals := 0 } : Room).cells ({ frames := 0, cells := 0, slots := 0, locals := 0 } : Room).slots) := by
  refine MetFree.of_bodySF (plainFor_of_name own_pn21_3) hisR ?_
  intro p e s m args below meth c s₁ Bd hml0 hP hK
  obtain ⟨rfl, hZ, hh⟩ := hP
  have hx := Bd.exec
  have hby := Bd.bytes
  have hml : c.maxLocals = 3 := hml0
  have hown : s.vm.findClass "java/lang/AbstractStringBuilder" = some m.cls := findClass_of_methodNamed Bd.named
  have hnm := (name_of_methodNamed Bd.named Bd.method).1
  have X0 : Stand p l e ({ frames := 0, cells := 0, slots := 0, locals := 0 } : Room) s m #[(.ref a), (.int 3)] below meth c s₁ [] 0 0 := Stand.of_body Bd
  have e0 : s₁.heap = h0 := by rw [← hh, Bd.state]; rfl
  have NF := Fr.nil n0
  rw [own_ef21_3 m a]
  show own_Dn p e below s (own_Q21_3 Z a ba kb vs h0 n0) 0 0 s₁ (mkF m 0 #[.val (.ref a), .val (.int 3), .unset] [])
  refine own_p (g' := (mkF m 1 #[rv a, iv 3, oU] [(.ref a)])) (fun _ k => XS.aloadN X0.here hx rfl (hb hby own_dB19_0) rfl rfl k) ?_
  obtain ⟨T1, X1, e1, st1⟩ := getF X0 hx hZ hown (host := "") (Or.inl (own_W hw 93 rfl)) Via.refl e0 F_a_value (g := (mkF m 1 #[rv a, iv 3, oU] [(.ref a)])) rfl rfl (hb hby own_dB19_1)
  refine own_go (T' := T1) (g' := (mkF m 4 #[rv a, iv 3, oU] [(.ref ba)])) (fun _ k => st1 _ k) ?_
  obtain ⟨c_2, Ar_2, q_2, S_2, N_2, H_2, G_2⟩ := id V_ba
  refine own_go (T' := T1) (g' := (mkF m 5 #[rv a, iv 3, oU] [(.int 16)])) (fun _ k => X1.arraylength hx (by rw [e1]; exact Ar_2.1) (State.isArrayOf_alike hZ.alike Ar_2.2.1) (g := (mkF m 4 #[rv a, iv 3, oU] [(.ref ba)])) rfl rfl (hb hby own_dB19_4) _ (by rw [len_of S_2 N_2]; exact k)) ?_
  refine own_p (g' := (mkF m 6 #[rv a, iv 3, oU] [(.ref a), (.int 16)])) (fun _ k => XS.aloadN X1.here hx rfl (hb hby own_dB19_5) rfl rfl k) ?_
  obtain ⟨T3, X3, e3, st3⟩ := getF X1 hx hZ hown (host := "") (Or.inl (own_W hw 95 rfl)) Via.refl e1 F_a_coder (g := (mkF m 6 #[rv a, iv 3, oU] [(.ref a), (.int 16)])) rfl rfl (hb hby own_dB19_6)
  refine own_go (T' := T3) (g' := (mkF m 9 #[rv a, iv 3, oU] [(.int 0), (.int 16)])) (fun _ k => st3 _ k) ?_
  refine own_p (g' := (mkF m 12 #[rv a, iv 3, iv 16] [(.int 3)])) (fun _ k => XS.ishr X3.here hx rfl (hb hby own_dB19_9) rfl (XS.istoreN X3.here hx rfl (hb hby own_dB19_10) rfl (l' := #[rv a, iv 3, iv 16]) rfl (XS.iloadN X3.here hx rfl (hb hby own_dB19_11) rfl k))) ?_
  refine own_p (g' := (mkF m 38 #[rv a, iv 3, iv 16] [])) (fun _ k => XS.iloadN X3.here hx rfl (hb hby own_dB19_12) rfl (XS.isub X3.here hx rfl (hb hby own_dB19_13) rfl (XS.ifYes X3.here hx rfl (pc0 := 14) (pc' := 38) rfl (hb hby own_dB19_14) rfl (by decide) (by decide) (by decide) k))) ?_
  refine own_ret X3 Bd.notSynchronized none (fun _ => rfl) (fun fs hr => X3.returnOut hx Bd.returns (hb hby own_dB19_38) hr) ?_ (by decide) (by decide)
  show (own_Q21_3 Z a ba kb vs h0 n0) none T3.heap _
  rw [e3]
  exact ⟨rfl, NF, rfl⟩
theorem own_pn21_5 : plainName "java/lang/AbstractStringBuilder" = true := by first | (simp [plainName, overriddenIn]; done) | decide +kernel
theorem own_ef21_5 (m : MethodId) (a : Addr) : entryFrame m #[(.ref a), (.int 5)] 3 = mkF m 0 #[.val (.ref a), .val (.int 5), .unset] [] := by first | (simp [entryFrame, mkF, argsToLocals, Value.category]; done) | rfl
def own_Q21_5 (Z : State) (a : Addr) (ba : Addr) (kb : ClassId) (vs : List Value) (h0 : Heap) (n0 : Nat) (v : Option Value) (h : Heap) (L : List Loc) : Prop := v = none ∧ Fr n0 L ∧ h = h0
set_option maxRecDepth 65536 in
set_option maxHeartbeats 40000000 in
theorem own_rm21_5 (l : Launch) (Z : State) (a0 : Array Value) (hw : ∀ d ∈ tables_1, d.before a0 Z = true) (ws : List Jvm.Cond) (a : Addr) (ba : Addr) (kb : ClassId) (vs : List Value) (h0 : Heap) (n0 : Nat) (Zs : n0 ≤ h0.size) (F_a_value : Fld Z h0 a "java/lang/AbstractStringBuilder" "value" "[B" (.ref ba)) (F_a_coder : Fld Z h0 a "java/lang/AbstractStringBuilder" "coder" "B" (.int 0)) (V_ba : Arv Z h0 ba kb .byte (16 : Int32) vs (.int 0)) :
    MetFree l own_y19 (head1 (Jvm.Cond.code own_y19 jdk_68_method_9_code 3 none :: ws) ({ frames := 0, cells := 0, slots := 0, locals := 0 } : Room)) (fun aA_ U => aA_ = #[(.ref a), (.int 5)] ∧ Z.Warmed39 U.vm ∧ U.heap = h0) (fun _ _ _ _ _ => True) (fun _ U o U' => ∃ v L, o = .returned v ∧ own_Q21_5 Z a ba kb vs h0 n0 v U'.heap L ∧ FrameEnd U o U' L ({ frames := 0, cells := 0, slots := 0, locals := 0 } : Room).cells ({ frames := 0, cells := 0, slots := 0, locals := 0 } : Room).slots) := by
  refine MetFree.of_bodySF (plainFor_of_name own_pn21_5) hisR ?_
  intro p e s m args below meth c s₁ Bd hml0 hP hK
  obtain ⟨rfl, hZ, hh⟩ := hP
  have hx := Bd.exec
  have hby := Bd.bytes
  have hml : c.maxLocals = 3 := hml0
  have hown : s.vm.findClass "java/lang/AbstractStringBuilder" = some m.cls := findClass_of_methodNamed Bd.named
  have hnm := (name_of_methodNamed Bd.named Bd.method).1
  have X0 : Stand p l e ({ frames := 0, cells := 0, slots := 0, locals := 0 } : Room) s m #[(.ref a), (.int 5)] below meth c s₁ [] 0 0 := Stand.of_body Bd
  have e0 : s₁.heap = h0 := by rw [← hh, Bd.state]; rfl
  have NF := Fr.nil n0
  rw [own_ef21_5 m a]
  show own_Dn p e below s (own_Q21_5 Z a ba kb vs h0 n0) 0 0 s₁ (mkF m 0 #[.val (.ref a), .val (.int 5), .unset] [])
  refine own_p (g' := (mkF m 1 #[rv a, iv 5, oU] [(.ref a)])) (fun _ k => XS.aloadN X0.here hx rfl (hb hby own_dB19_0) rfl rfl k) ?_
  obtain ⟨T1, X1, e1, st1⟩ := getF X0 hx hZ hown (host := "") (Or.inl (own_W hw 93 rfl)) Via.refl e0 F_a_value (g := (mkF m 1 #[rv a, iv 5, oU] [(.ref a)])) rfl rfl (hb hby own_dB19_1)
  refine own_go (T' := T1) (g' := (mkF m 4 #[rv a, iv 5, oU] [(.ref ba)])) (fun _ k => st1 _ k) ?_
  obtain ⟨c_2, Ar_2, q_2, S_2, N_2, H_2, G_2⟩ := id V_ba
  refine own_go (T' := T1) (g' := (mkF m 5 #[rv a, iv 5, oU] [(.int 16)])) (fun _ k => X1.arraylength hx (by rw [e1]; exact Ar_2.1) (State.isArrayOf_alike hZ.alike Ar_2.2.1) (g := (mkF m 4 #[rv a, iv 5, oU] [(.ref ba)])) rfl rfl (hb hby own_dB19_4) _ (by rw [len_of S_2 N_2]; exact k)) ?_
  refine own_p (g' := (mkF m 6 #[rv a, iv 5, oU] [(.ref a), (.int 16)])) (fun _ k => XS.aloadN X1.here hx rfl (hb hby own_dB19_5) rfl rfl k) ?_
  obtain ⟨T3, X3, e3, st3⟩ := getF X1 hx hZ hown (host := "") (Or.inl (own_W hw 95 rfl)) Via.refl e1 F_a_coder (g := (mkF m 6 #[rv a, iv 5, oU] [(.ref a), (.int 16)])) rfl rfl (hb hby own_dB19_6)
  refine own_go (T' := T3) (g' := (mkF m 9 #[rv a, iv 5, oU] [(.int 0), (.int 16)])) (fun _ k => st3 _ k) ?_
  refine own_p (g' := (mkF m 12 #[rv a, iv 5, iv 16] [(.int 5)])) (fun _ k => XS.ishr X3.here hx rfl (hb hby own_dB19_9) rfl (XS.istoreN X3.here hx rfl (hb hby own_dB19_10) rfl (l' := #[rv a, iv 5, iv 16]) rfl (XS.iloadN X3.here hx rfl (hb hby own_dB19_11) rfl k))) ?_
  refine own_p (g' := (mkF m 38 #[rv a, iv 5, iv 16] [])) (fun _ k => XS.iloadN X3.here hx rfl (hb hby own_dB19_12) rfl (XS.isub X3.here hx rfl (hb hby own_dB19_13) rfl (XS.ifYes X3.here hx rfl (pc0 := 14) (pc' := 38) rfl (hb hby own_dB19_14) rfl (by decide) (by decide) (by decide) k))) ?_
  refine own_ret X3 Bd.notSynchronized none (fun _ => rfl) (fun fs hr => X3.returnOut hx Bd.returns (hb hby own_dB19_38) hr) ?_ (by decide) (by decide)
  show (own_Q21_5 Z a ba kb vs h0 n0) none T3.heap _
  rw [e3]
  exact ⟨rfl, NF, rfl⟩
theorem own_pn21_6 : plainName "java/lang/AbstractStringBuilder" = true := by first | (simp [plainName, overriddenIn]; done) | decide +kernel
theorem own_ef21_6 (m : MethodId) (a : Addr) : entryFrame m #[(.ref a), (.int 6)] 3 = mkF m 0 #[.val (.ref a), .val (.int 6), .unset] [] := by first | (simp [entryFrame, mkF, argsToLocals, Value.category]; done) | rfl
def own_Q21_6 (Z : State) (a : Addr) (ba : Addr) (kb : ClassId) (vs : List Value) (h0 : Heap) (n0 : Nat) (v : Option Value) (h : Heap) (L : List Loc) : Prop := v = none ∧ Fr n0 L ∧ h = h0
set_option maxRecDepth 65536 in
set_option maxHeartbeats 40000000 in
theorem own_rm21_6 (l : Launch) (Z : State) (a0 : Array Value) (hw : ∀ d ∈ tables_1, d.before a0 Z = true) (ws : List Jvm.Cond) (a : Addr) (ba : Addr) (kb : ClassId) (vs : List Value) (h0 : Heap) (n0 : Nat) (Zs : n0 ≤ h0.size) (F_a_value : Fld Z h0 a "java/lang/AbstractStringBuilder" "value" "[B" (.ref ba)) (F_a_coder : Fld Z h0 a "java/lang/AbstractStringBuilder" "coder" "B" (.int 0)) (V_ba : Arv Z h0 ba kb .byte (16 : Int32) vs (.int 0)) :
    MetFree l own_y19 (head1 (Jvm.Cond.code own_y19 jdk_68_method_9_code 3 none :: ws) ({ frames := 0, cells := 0, slots := 0, locals := 0 } : Room)) (fun aA_ U => aA_ = #[(.ref a), (.int 6)] ∧ Z.Warmed39 U.vm ∧ U.heap = h0) (fun _ _ _ _ _ => True) (fun _ U o U' => ∃ v L, o = .returned v ∧ own_Q21_6 Z a ba kb vs h0 n0 v U'.heap L ∧ FrameEnd U o U' L ({ frames := 0, cells := 0, slots := 0, locals := 0 } : Room).cells ({ frames := 0, cells := 0, slots := 0, locals := 0 } : Room).slots) := by
  refine MetFree.of_bodySF (plainFor_of_name own_pn21_6) hisR ?_
  intro p e s m args below meth c s₁ Bd hml0 hP hK
  obtain ⟨rfl, hZ, hh⟩ := hP
  have hx := Bd.exec
  have hby := Bd.bytes
  have hml : c.maxLocals = 3 := hml0
  have hown : s.vm.findClass "java/lang/AbstractStringBuilder" = some m.cls := findClass_of_methodNamed Bd.named
  have hnm := (name_of_methodNamed Bd.named Bd.method).1
  have X0 : Stand p l e ({ frames := 0, cells := 0, slots := 0, locals := 0 } : Room) s m #[(.ref a), (.int 6)] below meth c s₁ [] 0 0 := Stand.of_body Bd
  have e0 : s₁.heap = h0 := by rw [← hh, Bd.state]; rfl
  have NF := Fr.nil n0
  rw [own_ef21_6 m a]
  show own_Dn p e below s (own_Q21_6 Z a ba kb vs h0 n0) 0 0 s₁ (mkF m 0 #[.val (.ref a), .val (.int 6), .unset] [])
  refine own_p (g' := (mkF m 1 #[rv a, iv 6, oU] [(.ref a)])) (fun _ k => XS.aloadN X0.here hx rfl (hb hby own_dB19_0) rfl rfl k) ?_
  obtain ⟨T1, X1, e1, st1⟩ := getF X0 hx hZ hown (host := "") (Or.inl (own_W hw 93 rfl)) Via.refl e0 F_a_value (g := (mkF m 1 #[rv a, iv 6, oU] [(.ref a)])) rfl rfl (hb hby own_dB19_1)
  refine own_go (T' := T1) (g' := (mkF m 4 #[rv a, iv 6, oU] [(.ref ba)])) (fun _ k => st1 _ k) ?_
  obtain ⟨c_2, Ar_2, q_2, S_2, N_2, H_2, G_2⟩ := id V_ba
  refine own_go (T' := T1) (g' := (mkF m 5 #[rv a, iv 6, oU] [(.int 16)])) (fun _ k => X1.arraylength hx (by rw [e1]; exact Ar_2.1) (State.isArrayOf_alike hZ.alike Ar_2.2.1) (g := (mkF m 4 #[rv a, iv 6, oU] [(.ref ba)])) rfl rfl (hb hby own_dB19_4) _ (by rw [len_of S_2 N_2]; exact k)) ?_
  refine own_p (g' := (mkF m 6 #[rv a, iv 6, oU] [(.ref a), (.int 16)])) (fun _ k => XS.aloadN X1.here hx rfl (hb hby own_dB19_5) rfl rfl k) ?_
  obtain ⟨T3, X3, e3, st3⟩ := getF X1 hx hZ hown (host := "") (Or.inl (own_W hw 95 rfl)) Via.refl e1 F_a_coder (g := (mkF m 6 #[rv a, iv 6, oU] [(.ref a), (.int 16)])) rfl rfl (hb hby own_dB19_6)
  refine own_go (T' := T3) (g' := (mkF m 9 #[rv a, iv 6, oU] [(.int 0), (.int 16)])) (fun _ k => st3 _ k) ?_
  refine own_p (g' := (mkF m 12 #[rv a, iv 6, iv 16] [(.int 6)])) (fun _ k => XS.ishr X3.here hx rfl (hb hby own_dB19_9) rfl (XS.istoreN X3.here hx rfl (hb hby own_dB19_10) rfl (l' := #[rv a, iv 6, iv 16]) rfl (XS.iloadN X3.here hx rfl (hb hby own_dB19_11) rfl k))) ?_
  refine own_p (g' := (mkF m 38 #[rv a, iv 6, iv 16] [])) (fun _ k => XS.iloadN X3.here hx rfl (hb hby own_dB19_12) rfl (XS.isub X3.here hx rfl (hb hby own_dB19_13) rfl (XS.ifYes X3.here hx rfl (pc0 := 14) (pc' := 38) rfl (hb hby own_dB19_14) rfl (by decide) (by decide) (by decide) k))) ?_
  refine own_ret X3 Bd.notSynchronized none (fun _ => rfl) (fun fs hr => X3.returnOut hx Bd.returns (hb hby own_dB19_38) hr) ?_ (by decide) (by decide)
  show (own_Q21_6 Z a ba kb vs h0 n0) none T3.heap _
  rw [e3]
  exact ⟨rfl, NF, rfl⟩
theorem own_dB20_0 : decode jdk_42_method_147_code 0 = .ok (.aload_n 0, 1) := by decide +kernel
theorem own_dB20_1 : decode jdk_42_method_147_code 1 = .ok (.invokevirtual 335, 3) := by decide +kernel
theorem own_dB20_4 : decode jdk_42_method_147_code 4 = .ok (.iload_n 3, 1) := by decide +kernel
theorem own_dB20_5 : decode jdk_42_method_147_code 5 = .ok (.if_icmp .ne 23, 3) := by decide +kernel
theorem own_dB20_8 : decode jdk_42_method_147_code 8 = .ok (.aload_n 0, 1) := by decide +kernel
theorem own_dB20_9 : decode jdk_42_method_147_code 9 = .ok (.getfield 9, 3) := by decide +kernel
theorem own_dB20_12 : decode jdk_42_method_147_code 12 = .ok (.iconst 0, 1) := by decide +kernel
theorem own_dB20_13 : decode jdk_42_method_147_code 13 = .ok (.aload_n 1, 1) := by decide +kernel
theorem own_dB20_14 : decode jdk_42_method_147_code 14 = .ok (.iload_n 2, 1) := by decide +kernel
theorem own_dB20_15 : decode jdk_42_method_147_code 15 = .ok (.iload_n 3, 1) := by decide +kernel
theorem own_dB20_16 : decode jdk_42_method_147_code 16 = .ok (.ishl, 1) := by decide +kernel
theorem own_dB20_17 : decode jdk_42_method_147_code 17 = .ok (.aload_n 0, 1) := by decide +kernel
theorem own_dB20_18 : decode jdk_42_method_147_code 18 = .ok (.getfield 9, 3) := by decide +kernel
theorem own_dB20_21 : decode jdk_42_method_147_code 21 = .ok (.arraylength, 1) := by decide +kernel
theorem own_dB20_22 : decode jdk_42_method_147_code 22 = .ok (.invokestatic 212, 3) := by decide +kernel
theorem own_dB20_25 : decode jdk_42_method_147_code 25 = .ok (.goto 18, 3) := by decide +kernel
theorem own_dB20_43 : decode jdk_42_method_147_code 43 = .ok (.return_, 1) := by decide +kernel
theorem own_pn22_3_0 : plainName "java/lang/String" = true := by first | (simp [plainName, overriddenIn]; done) | decide +kernel
theorem own_pd22_3_0_0 : parseMethodDescriptor "()B" = some ⟨[], some .byte⟩ := by decide +kernel
theorem own_ef22_3_0 (m : MethodId) (sa : Addr) (ba : Addr) : entryFrame m #[(.ref sa), (.ref ba), (.int 0), (.int 0)] 4 = mkF m 0 #[.val (.ref sa), .val (.ref ba), .val (.int 0), .val (.int 0)] [] := by first | (simp [entryFrame, mkF, argsToLocals, Value.category]; done) | rfl
def own_Q22_3_0 (Z : State) (sa : Addr) (ba : Addr) (cs : Int32) (fo : Value) (va : Addr) (kv : ClassId) (kb : ClassId) (x0 : Int32) (x1 : Int32) (x2 : Int32) (h0 : Heap) (n0 : Nat) (v : Option Value) (h : Heap) (L : List Loc) : Prop := v = none ∧ Fr n0 L ∧ Keep h0 h [ba] ∧ Arv Z h ba kb .byte (16 : Int32) [(.int x0), (.int x1), (.int x2), (.int 0), (.int 0), (.int 0), (.int 0), (.int 0), (.int 0), (.int 0), (.int 0), (.int 0), (.int 0), (.int 0), (.int 0), (.int 0)] (.int 0)
set_option maxRecDepth 65536 in
set_option maxHeartbeats 40000000 in
theorem own_rm22_3_0 (l : Launch) (Z : State) (a0 : Array Value) (hw : ∀ d ∈ tables_1, d.before a0 Z = true) (ws : List Jvm.Cond) (sa : Addr) (ba : Addr) (cs : Int32) (fo : Value) (va : Addr) (kv : ClassId) (kb : ClassId) (x0 : Int32) (x1 : Int32) (x2 : Int32) (h0 : Heap) (n0 : Nat) (Zs : n0 ≤ h0.size) (OL : Old Z n0 h0) (S_cs : Sta Z Z.heap "java/lang/String" "COMPACT_STRINGS" "Z" (.int cs)) (hcs : ¬ (cs = (0 : Int32))) (S_fo : Sta Z Z.heap "jdk/internal/util/Preconditions" "SIOOBE_FORMATTER" "Ljava/util/function/BiFunction;" fo) (hfo : fo.isRef = true) (E_sa : Exa Z h0 sa "java/lang/String") (F_sa_value : Fld Z h0 sa "java/lang/String" "value" "[B" (.ref va)) (F_sa_coder : Fld Z h0 sa "java/lang/String" "coder" "B" (.int 0)) (V_va : Arv Z h0 va kv .byte (3 : Int32) [(.int x0), (.int x1), (.int x2)] (.int 0)) (hd_x0 : own_Dg x0) (hd_x1 : own_Dg x1) (hd_x2 : own_Dg x2) (V_ba : Arv Z h0 ba kb .byte (16 : Int32) [(.int 0), (.int 0), (.int 0), (.int 0), (.int 0), (.int 0), (.int 0), (.int 0), (.int 0), (.int 0), (.int 0), (.int 0), (.int 0), (.int 0), (.int 0), (.int 0)] (.int 0)) (g_ba : n0 ≤ ba) (ne_va_ba : va ≠ ba) (ne_sa_ba : sa ≠ ba) :
    MetFree l own_y20 (head1 (Jvm.Cond.code own_y20 jdk_42_method_147_code 4 none :: ws) ({ frames := 1, cells := 0, slots := 0, locals := 60 } : Room)) (fun aA_ U => aA_ = #[(.ref sa), (.ref ba), (.int 0), (.int 0)] ∧ Z.Warmed39 U.vm ∧ U.heap = h0) (fun _ _ _ _ _ => True) (fun _ U o U' => ∃ v L, o = .returned v ∧ own_Q22_3_0 Z sa ba cs fo va kv kb x0 x1 x2 h0 n0 v U'.heap L ∧ FrameEnd U o U' L ({ frames := 1, cells := 0, slots := 0, locals := 60 } : Room).cells ({ frames := 1, cells := 0, slots := 0, locals := 60 } : Room).slots) := by
  refine MetFree.of_bodySF (plainFor_of_name own_pn22_3_0) hisR ?_
  intro p e s m args below meth c s₁ Bd hml0 hP hK
  obtain ⟨rfl, hZ, hh⟩ := hP
  have hx := Bd.exec
  have hby := Bd.bytes
  have hml : c.maxLocals = 4 := hml0
  have hown : s.vm.findClass "java/lang/String" = some m.cls := findClass_of_methodNamed Bd.named
  have hnm := (name_of_methodNamed Bd.named Bd.method).1
  have X0 : Stand p l e ({ frames := 1, cells := 0, slots := 0, locals := 60 } : Room) s m #[(.ref sa), (.ref ba), (.int 0), (.int 0)] below meth c s₁ [] 0 0 := Stand.of_body Bd
  have e0 : s₁.heap = h0 := by rw [← hh, Bd.state]; rfl
  have NF := Fr.nil n0
  rw [own_ef22_3_0 m sa ba]
  show own_Dn p e below s (own_Q22_3_0 Z sa ba cs fo va kv kb x0 x1 x2 h0 n0) 0 0 s₁ (mkF m 0 #[.val (.ref sa), .val (.ref ba), .val (.int 0), .val (.int 0)] [])
  have KP := Keep.refl h0 [ba]
  refine own_p (g' := (mkF m 1 #[rv sa, rv ba, iv 0, iv 0] [(.ref sa)])) (fun _ k => XS.aloadN X0.here hx rfl (hb hby own_dB20_0) rfl rfl k) ?_
  obtain ⟨cq1, kq1, q1a, q1b, q1c⟩ := isOf hZ e0 E_sa
  obtain ⟨_, _, ⟨T1, L1, k1, n1⟩, -, X1, ⟨Lc1, hQ1, l1, y1, z1⟩, st1⟩ := X0.virtualBack hx (y := own_y7) (z := own_y7) hown (mvT hZ (own_W hw 52 rfl)) (mvT hZ (own_W hw 53 rfl)) (notFace_of_selects (args := #[]) (mvT hZ (own_W hw 55 rfl))) (mvT hZ (own_W hw 55 rfl)) (mvT hZ (own_W hw 54 rfl)) (by decide) (backOf (W := 0) (own_rm8 l Z a0 hw [] sa cs fo h0 n0 Zs OL S_cs hcs S_fo hfo F_sa_coder) hZ (own_W hw 56 rfl) (own_W hw 10 rfl) (by decide) (by decide)) q1a q1c (g := (mkF m 1 #[rv sa, rv ba, iv 0, iv 0] [(.ref sa)])) rfl (by rw [hml]; rfl) (Steps.refl _) (argsL := []) (rest := []) (lenOf own_pd22_3_0_0 rfl) rfl (Nat.le_refl _) (hb hby own_dB20_1) (fun _ _ => ⟨rfl, e0, (by decide : 0 + 0 ≤ _), (by decide : 0 + 0 ≤ _)⟩)
  dsimp only [Pt.U, Pt.locs, Pt.cells, Pt.slots] at X1 l1 y1 z1 st1 hQ1
  subst l1 y1 z1
  obtain ⟨rfl, NQ1, eq1⟩ := hQ1
  have NF := Fr.app NF NQ1
  refine own_go (T' := T1) (g' := (mkF m 4 #[rv sa, rv ba, iv 0, iv 0] [(.int 0)])) (fun _ k => st1.trans k) ?_
  refine own_p (g' := (mkF m 9 #[rv sa, rv ba, iv 0, iv 0] [(.ref sa)])) (fun _ k => XS.iloadN X1.here hx rfl (hb hby own_dB20_4) rfl (XS.icmpNo X1.here hx rfl (hb hby own_dB20_5) rfl (by decide) (XS.aloadN X1.here hx rfl (hb hby own_dB20_8) rfl rfl k))) ?_
  obtain ⟨T2, X2, e2, st2⟩ := getF X1 hx hZ hown (host := "") (Or.inl (own_W hw 35 rfl)) Via.refl eq1 F_sa_value (g := (mkF m 9 #[rv sa, rv ba, iv 0, iv 0] [(.ref sa)])) rfl rfl (hb hby own_dB20_9)
  refine own_go (T' := T2) (g' := (mkF m 12 #[rv sa, rv ba, iv 0, iv 0] [(.ref va)])) (fun _ k => st2 _ k) ?_
  refine own_p (g' := (mkF m 15 #[rv sa, rv ba, iv 0, iv 0] [(.int 0), (.ref ba), (.int 0), (.ref va)])) (fun _ k => XS.iconst X2.here hx rfl (hb hby own_dB20_12) (XS.aloadN X2.here hx rfl (hb hby own_dB20_13) rfl rfl (XS.iloadN X2.here hx rfl (hb hby own_dB20_14) rfl k))) ?_
  refine own_p (g' := (mkF m 18 #[rv sa, rv ba, iv 0, iv 0] [(.ref sa), (.int 0), (.ref ba), (.int 0), (.ref va)])) (fun _ k => XS.iloadN X2.here hx rfl (hb hby own_dB20_15) rfl (XS.ishl X2.here hx rfl (hb hby own_dB20_16) rfl (XS.aloadN X2.here hx rfl (hb hby own_dB20_17) rfl rfl k))) ?_
  obtain ⟨T3, X3, e3, st3⟩ := getF X2 hx hZ hown (host := "") (Or.inl (own_W hw 35 rfl)) Via.refl e2 F_sa_value (g := (mkF m 18 #[rv sa, rv ba, iv 0, iv 0] [(.ref sa), (.int 0), (.ref ba), (.int 0), (.ref va)])) rfl rfl (hb hby own_dB20_18)
  refine own_go (T' := T3) (g' := (mkF m 21 #[rv sa, rv ba, iv 0, iv 0] [(.ref va), (.int 0), (.ref ba), (.int 0), (.ref va)])) (fun _ k => st3 _ k) ?_
  obtain ⟨c_4, Ar_4, q_4, S_4, N_4, H_4, G_4⟩ := id V_va
  refine own_go (T' := T3) (g' := (mkF m 22 #[rv sa, rv ba, iv 0, iv 0] [(.int 3), (.int 0), (.ref ba), (.int 0), (.ref va)])) (fun _ k => X3.arraylength hx (by rw [e3]; exact Ar_4.1) (State.isArrayOf_alike hZ.alike Ar_4.2.1) (g := (mkF m 21 #[rv sa, rv ba, iv 0, iv 0] [(.ref va), (.int 0), (.ref ba), (.int 0), (.ref va)])) rfl rfl (hb hby own_dB20_21) _ (by rw [len_of S_4 N_4]; exact k)) ?_
  obtain ⟨T5, h5, L5, X5, e5, NF, K5, VC5, st5⟩ := cpA X3 hx hZ hown (own_W hw 131 rfl) (own_W hw 134 rfl) (own_W hw 132 rfl) (own_W hw 133 rfl) e3 V_va V_ba (us := [(.int x0), (.int x1), (.int x2)]) (Or.inl ⟨rfl, rfl⟩) (sp := (0 : Int32)) (dp := (0 : Int32)) (nn := (3 : Int32)) (by decide) (by decide) (by decide) (by decide) (by decide) rfl (Nat.le_of_ble_eq_true rfl) NF g_ba (g := (mkF m 22 #[rv sa, rv ba, iv 0, iv 0] [(.int 3), (.int 0), (.ref ba), (.int 0), (.ref va)])) rfl (by rw [hml]; rfl) rfl (hb hby own_dB20_22) (by decide) (W := 0) (Nat.le_refl _) (by decide +kernel)
  have E_sa := E_sa.keep K5
  have F_sa_value := F_sa_value.keep K5 (ninS ne_sa_ba nin0)
  have F_sa_coder := F_sa_coder.keep K5 (ninS ne_sa_ba nin0)
  have V_va := V_va.keep K5 (ninS ne_va_ba nin0)
  have OL := OL.keep K5 (allS g_ba all0)
  have Zs := Nat.le_trans Zs K5.1
  have KP := KP.trans K5 ((allS (Or.inl (by simp)) all0))
  have V_ba : Arv Z h5 ba kb .byte (16 : Int32) [(.int x0), (.int x1), (.int x2), (.int 0), (.int 0), (.int 0), (.int 0), (.int 0), (.int 0), (.int 0), (.int 0), (.int 0), (.int 0), (.int 0), (.int 0), (.int 0)] (.int 0) := VC5
  refine own_go (T' := T5) (g' := (mkF m 25 #[rv sa, rv ba, iv 0, iv 0] [])) (fun _ k => st5 _ k) ?_
  refine own_p (g' := (mkF m 43 #[rv sa, rv ba, iv 0, iv 0] [])) (fun _ k => XS.goto X5.here hx rfl (pc0 := 25) (pc' := 43) rfl (hb hby own_dB20_25) (by decide) (by decide) k) ?_
  refine own_ret X5 Bd.notSynchronized none (fun _ => rfl) (fun fs hr => X5.returnOut hx Bd.returns (hb hby own_dB20_43) hr) ?_ (by decide) (by decide)
  show (own_Q22_3_0 Z sa ba cs fo va kv kb x0 x1 x2 h0 n0) none T5.heap _
  rw [e5]
  exact ⟨rfl, NF, KP, V_ba⟩
theorem own_dB21_0 : decode jdk_68_method_73_code 0 = .ok (.aload_n 0, 1) := by decide +kernel
theorem own_dB21_1 : decode jdk_68_method_73_code 1 = .ok (.aload_n 2, 1) := by decide +kernel
theorem own_dB21_2 : decode jdk_68_method_73_code 2 = .ok (.invokevirtual 397, 3) := by decide +kernel
theorem own_dB21_5 : decode jdk_68_method_73_code 5 = .ok (.aload_n 2, 1) := by decide +kernel
theorem own_dB21_6 : decode jdk_68_method_73_code 6 = .ok (.aload_n 0, 1) := by decide +kernel
theorem own_dB21_7 : decode jdk_68_method_73_code 7 = .ok (.getfield 15, 3) := by decide +kernel
theorem own_dB21_10 : decode jdk_68_method_73_code 10 = .ok (.iload_n 1, 1) := by decide +kernel
theorem own_dB21_11 : decode jdk_68_method_73_code 11 = .ok (.aload_n 0, 1) := by decide +kernel
theorem own_dB21_12 : decode jdk_68_method_73_code 12 = .ok (.getfield 22, 3) := by decide +kernel
theorem own_dB21_15 : decode jdk_68_method_73_code 15 = .ok (.invokevirtual 399, 3) := by decide +kernel
theorem own_dB21_18 : decode jdk_68_method_73_code 18 = .ok (.return_, 1) := by decide +kernel
theorem own_pn23_3_0 : plainName "java/lang/AbstractStringBuilder" = true := by first | (simp [plainName, overriddenIn]; done) | decide +kernel
theorem own_pd23_3_0_0 : parseMethodDescriptor "(Ljava/lang/String;)V" = some ⟨[(.object "java/lang/String")], none⟩ := by decide +kernel
theorem own_pd23_3_0_1 : parseMethodDescriptor "([BIB)V" = some ⟨[(.array .byte), .int, .byte], none⟩ := by decide +kernel
theorem own_ef23_3_0 (m : MethodId) (a : Addr) (sa : Addr) : entryFrame m #[(.ref a), (.int 0), (.ref sa)] 3 = mkF m 0 #[.val (.ref a), .val (.int 0), .val (.ref sa)] [] := by first | (simp [entryFrame, mkF, argsToLocals, Value.category]; done) | rfl
def own_Q23_3_0 (Z : State) (a : Addr) (sa : Addr) (cs : Int32) (fo : Value) (ba : Addr) (va : Addr) (kv : ClassId) (kb : ClassId) (x0 : Int32) (x1 : Int32) (x2 : Int32) (h0 : Heap) (n0 : Nat) (v : Option Value) (h : Heap) (L : List Loc) : Prop := v = none ∧ Fr n0 L ∧ Keep h0 h [ba] ∧ Arv Z h ba kb .byte (16 : Int32) [(.int x0), (.int x1), (.int x2), (.int 0), (.int 0), (.int 0), (.int 0), (.int 0), (.int 0), (.int 0), (.int 0), (.int 0), (.int 0), (.int 0), (.int 0), (.int 0)] (.int 0)
set_option maxRecDepth 65536 in
set_option maxHeartbeats 40000000 in
theorem own_rm23_3_0 (l : Launch) (Z : State) (a0 : Array Value) (hw : ∀ d ∈ tables_1, d.before a0 Z = true) (ws : List Jvm.Cond) (a : Addr) (sa : Addr) (cs : Int32) (fo : Value) (ba : Addr) (va : Addr) (kv : ClassId) (kb : ClassId) (x0 : Int32) (x1 : Int32) (x2 : Int32) (h0 : Heap) (n0 : Nat) (Zs : n0 ≤ h0.size) (OL : Old Z n0 h0) (S_cs : Sta Z Z.heap "java/lang/String" "COMPACT_STRINGS" "Z" (.int cs)) (hcs : ¬ (cs = (0 : Int32))) (S_fo : Sta Z Z.heap "jdk/internal/util/Preconditions" "SIOOBE_FORMATTER" "Ljava/util/function/BiFunction;" fo) (hfo : fo.isRef = true) (E_a : Exa Z h0 a "java/lang/StringBuilder") (F_a_value : Fld Z h0 a "java/lang/AbstractStringBuilder" "value" "[B" (.ref ba)) (F_a_coder : Fld Z h0 a "java/lang/AbstractStringBuilder" "coder" "B" (.int 0)) (E_sa : Exa Z h0 sa "java/lang/String") (F_sa_value : Fld Z h0 sa "java/lang/String" "value" "[B" (.ref va)) (F_sa_coder : Fld Z h0 sa "java/lang/String" "coder" "B" (.int 0)) (V_va : Arv Z h0 va kv .byte (3 : Int32) [(.int x0), (.int x1), (.int x2)] (.int 0)) (hd_x0 : own_Dg x0) (hd_x1 : own_Dg x1) (hd_x2 : own_Dg x2) (V_ba : Arv Z h0 ba kb .byte (16 : Int32) [(.int 0), (.int 0), (.int 0), (.int 0), (.int 0), (.int 0), (.int 0), (.int 0), (.int 0), (.int 0), (.int 0), (.int 0), (.int 0), (.int 0), (.int 0), (.int 0)] (.int 0)) (g_ba : n0 ≤ ba) (ne_va_ba : va ≠ ba) (ne_sa_ba : sa ≠ ba) (ne_a_ba : a ≠ ba) :
    MetFree l own_y21 (head1 (Jvm.Cond.code own_y21 jdk_68_method_73_code 3 none :: ws) ({ frames := 2, cells := 0, slots := 0, locals := 75 } : Room)) (fun aA_ U => aA_ = #[(.ref a), (.int 0), (.ref sa)] ∧ Z.Warmed39 U.vm ∧ U.heap = h0) (fun _ _ _ _ _ => True) (fun _ U o U' => ∃ v L, o = .returned v ∧ own_Q23_3_0 Z a sa cs fo ba va kv kb x0 x1 x2 h0 n0 v U'.heap L ∧ FrameEnd U o U' L ({ frames := 2, cells := 0, slots := 0, locals := 75 } : Room).cells ({ frames := 2, cells := 0, slots := 0, locals := 75 } : Room).slots) := by
  refine MetFree.of_bodySF (plainFor_of_name own_pn23_3_0) hisR ?_
  intro p e s m args below meth c s₁ Bd hml0 hP hK
  obtain ⟨rfl, hZ, hh⟩ := hP
  have hx := Bd.exec
  have hby := Bd.bytes
  have hml : c.maxLocals = 3 := hml0
  have hown : s.vm.findClass "java/lang/AbstractStringBuilder" = some m.cls := findClass_of_methodNamed Bd.named
  have hnm := (name_of_methodNamed Bd.named Bd.method).1
  have X0 : Stand p l e ({ frames := 2, cells := 0, slots := 0, locals := 75 } : Room) s m #[(.ref a), (.int 0), (.ref sa)] below meth c s₁ [] 0 0 := Stand.of_body Bd
  have e0 : s₁.heap = h0 := by rw [← hh, Bd.state]; rfl
  have NF := Fr.nil n0
  rw [own_ef23_3_0 m a sa]
  show own_Dn p e below s (own_Q23_3_0 Z a sa cs fo ba va kv kb x0 x1 x2 h0 n0) 0 0 s₁ (mkF m 0 #[.val (.ref a), .val (.int 0), .val (.ref sa)] [])
  have KP := Keep.refl h0 [ba]
  refine own_p (g' := (mkF m 2 #[rv a, iv 0, rv sa] [(.ref sa), (.ref a)])) (fun _ k => XS.aloadN X0.here hx rfl (hb hby own_dB21_0) rfl rfl (XS.aloadN X0.here hx rfl (hb hby own_dB21_1) rfl rfl k)) ?_
  obtain ⟨cq1, kq1, q1a, q1b, q1c⟩ := isOf hZ e0 E_a
  obtain ⟨_, _, ⟨T1, L1, k1, n1⟩, -, X1, ⟨Lc1, hQ1, l1, y1, z1⟩, st1⟩ := X0.virtualBack hx (y := own_y18) (z := own_y18) hown (mvT hZ (own_W hw 120 rfl)) (mvT hZ (own_dec (own_W hw 121 rfl) (own_W hw 124 rfl))) (notFace_of_selects (args := #[]) (mvT hZ (own_W hw 123 rfl))) (mvT hZ (own_W hw 123 rfl)) (mvT hZ (own_W hw 121 rfl)) (by decide) (backOf (W := 0) (own_rm20 l Z a0 hw [] a sa cs fo h0 n0 Zs OL S_cs hcs S_fo hfo F_a_coder E_sa F_sa_coder) hZ (own_W hw 124 rfl) (own_W hw 89 rfl) (by decide) (by decide)) q1a q1c (g := (mkF m 2 #[rv a, iv 0, rv sa] [(.ref sa), (.ref a)])) rfl (by rw [hml]; rfl) (Steps.refl _) (argsL := [(.ref sa)]) (rest := []) (lenOf own_pd23_3_0_0 rfl) rfl (Nat.le_refl _) (hb hby own_dB21_2) (fun _ _ => ⟨rfl, e0, (by decide : 0 + 0 ≤ _), (by decide : 0 + 0 ≤ _)⟩)
  dsimp only [Pt.U, Pt.locs, Pt.cells, Pt.slots] at X1 l1 y1 z1 st1 hQ1
  subst l1 y1 z1
  obtain ⟨rfl, NQ1, eq1⟩ := hQ1
  have NF := Fr.app NF NQ1
  refine own_go (T' := T1) (g' := (mkF m 5 #[rv a, iv 0, rv sa] [])) (fun _ k => st1.trans k) ?_
  refine own_p (g' := (mkF m 7 #[rv a, iv 0, rv sa] [(.ref a), (.ref sa)])) (fun _ k => XS.aloadN X1.here hx rfl (hb hby own_dB21_5) rfl rfl (XS.aloadN X1.here hx rfl (hb hby own_dB21_6) rfl rfl k)) ?_
  obtain ⟨T2, X2, e2, st2⟩ := getF X1 hx hZ hown (host := "") (Or.inl (own_W hw 93 rfl)) Via.refl eq1 F_a_value (g := (mkF m 7 #[rv a, iv 0, rv sa] [(.ref a), (.ref sa)])) rfl rfl (hb hby own_dB21_7)
  refine own_go (T' := T2) (g' := (mkF m 10 #[rv a, iv 0, rv sa] [(.ref ba), (.ref sa)])) (fun _ k => st2 _ k) ?_
  refine own_p (g' := (mkF m 12 #[rv a, iv 0, rv sa] [(.ref a), (.int 0), (.ref ba), (.ref sa)])) (fun _ k => XS.iloadN X2.here hx rfl (hb hby own_dB21_10) rfl (XS.aloadN X2.here hx rfl (hb hby own_dB21_11) rfl rfl k)) ?_
  obtain ⟨T3, X3, e3, st3⟩ := getF X2 hx hZ hown (host := "") (Or.inl (own_W hw 95 rfl)) Via.refl e2 F_a_coder (g := (mkF m 12 #[rv a, iv 0, rv sa] [(.ref a), (.int 0), (.ref ba), (.ref sa)])) rfl rfl (hb hby own_dB21_12)
  refine own_go (T' := T3) (g' := (mkF m 15 #[rv a, iv 0, rv sa] [(.int 0), (.int 0), (.ref ba), (.ref sa)])) (fun _ k => st3 _ k) ?_
  obtain ⟨cq4, kq4, q4a, q4b, q4c⟩ := isOf hZ e3 E_sa
  obtain ⟨_, _, ⟨T4, L4, k4, n4⟩, -, X4, ⟨Lc4, hQ4, l4, y4, z4⟩, st4⟩ := X3.virtualBack hx (y := own_y20) (z := own_y20) hown (mvT hZ (own_W hw 126 rfl)) (mvT hZ (own_W hw 127 rfl)) (notFace_of_selects (args := #[]) (mvT hZ (own_W hw 129 rfl))) (mvT hZ (own_W hw 129 rfl)) (mvT hZ (own_W hw 128 rfl)) (by decide) (backOf (W := 0) (own_rm22_3_0 l Z a0 hw [] sa ba cs fo va kv kb x0 x1 x2 h0 n0 Zs OL S_cs hcs S_fo hfo E_sa F_sa_value F_sa_coder V_va hd_x0 hd_x1 hd_x2 V_ba g_ba ne_va_ba ne_sa_ba) hZ (own_W hw 130 rfl) (own_W hw 10 rfl) (by decide) (by decide)) q4a q4c (g := (mkF m 15 #[rv a, iv 0, rv sa] [(.int 0), (.int 0), (.ref ba), (.ref sa)])) rfl (by rw [hml]; rfl) (Steps.refl _) (argsL := [(.ref ba), (.int 0), (.int 0)]) (rest := []) (lenOf own_pd23_3_0_1 rfl) rfl (Nat.le_refl _) (hb hby own_dB21_15) (fun _ _ => ⟨rfl, e3, (by decide : 0 + 0 ≤ _), (by decide : 0 + 0 ≤ _)⟩)
  dsimp only [Pt.U, Pt.locs, Pt.cells, Pt.slots] at X4 l4 y4 z4 st4 hQ4
  subst l4 y4 z4
  obtain ⟨rfl, NQ4, K4, V_ba⟩ := hQ4
  have NF := Fr.app NF NQ4
  have E_a := E_a.keep K4
  have F_a_value := F_a_value.keep K4 (ninS ne_a_ba nin0)
  have F_a_coder := F_a_coder.keep K4 (ninS ne_a_ba nin0)
  have E_sa := E_sa.keep K4
  have F_sa_value := F_sa_value.keep K4 (ninS ne_sa_ba nin0)
  have F_sa_coder := F_sa_coder.keep K4 (ninS ne_sa_ba nin0)
  have V_va := V_va.keep K4 (ninS ne_va_ba nin0)
  have OL := OL.keep K4 (allS g_ba all0)
  have Zs := Nat.le_trans Zs K4.1
  have KP := KP.trans K4 ((allS (Or.inl (by simp)) all0))
  refine own_go (T' := T4) (g' := (mkF m 18 #[rv a, iv 0, rv sa] [])) (fun _ k => st4.trans k) ?_
  refine own_ret X4 Bd.notSynchronized none (fun _ => rfl) (fun fs hr => X4.returnOut hx Bd.returns (hb hby own_dB21_18) hr) ?_ (by decide) (by decide)
  show (own_Q23_3_0 Z a sa cs fo ba va kv kb x0 x1 x2 h0 n0) none T4.heap _
  exact ⟨rfl, NF, KP, V_ba⟩
theorem own_dB22_0 : decode jdk_68_method_22_code 0 = .ok (.aload_n 1, 1) := by decide +kernel
theorem own_dB22_1 : decode jdk_68_method_22_code 1 = .ok (.ifnonnull 8, 3) := by decide +kernel
theorem own_dB22_9 : decode jdk_68_method_22_code 9 = .ok (.aload_n 1, 1) := by decide +kernel
theorem own_dB22_10 : decode jdk_68_method_22_code 10 = .ok (.invokevirtual 32, 3) := by decide +kernel
theorem own_dB22_13 : decode jdk_68_method_22_code 13 = .ok (.istore_n 2, 1) := by decide +kernel
theorem own_dB22_14 : decode jdk_68_method_22_code 14 = .ok (.aload_n 0, 1) := by decide +kernel
theorem own_dB22_15 : decode jdk_68_method_22_code 15 = .ok (.aload_n 0, 1) := by decide +kernel
theorem own_dB22_16 : decode jdk_68_method_22_code 16 = .ok (.getfield 79, 3) := by decide +kernel
theorem own_dB22_19 : decode jdk_68_method_22_code 19 = .ok (.iload_n 2, 1) := by decide +kernel
theorem own_dB22_20 : decode jdk_68_method_22_code 20 = .ok (.iadd, 1) := by decide +kernel
theorem own_dB22_21 : decode jdk_68_method_22_code 21 = .ok (.invokevirtual 100, 3) := by decide +kernel
theorem own_dB22_24 : decode jdk_68_method_22_code 24 = .ok (.aload_n 0, 1) := by decide +kernel
theorem own_dB22_25 : decode jdk_68_method_22_code 25 = .ok (.aload_n 0, 1) := by decide +kernel
theorem own_dB22_26 : decode jdk_68_method_22_code 26 = .ok (.getfield 79, 3) := by decide +kernel
theorem own_dB22_29 : decode jdk_68_method_22_code 29 = .ok (.aload_n 1, 1) := by decide +kernel
theorem own_dB22_30 : decode jdk_68_method_22_code 30 = .ok (.invokevirtual 208, 3) := by decide +kernel
theorem own_dB22_33 : decode jdk_68_method_22_code 33 = .ok (.aload_n 0, 1) := by decide +kernel
theorem own_dB22_34 : decode jdk_68_method_22_code 34 = .ok (.dup, 1) := by decide +kernel
theorem own_dB22_35 : decode jdk_68_method_22_code 35 = .ok (.getfield 79, 3) := by decide +kernel
theorem own_dB22_38 : decode jdk_68_method_22_code 38 = .ok (.iload_n 2, 1) := by decide +kernel
theorem own_dB22_39 : decode jdk_68_method_22_code 39 = .ok (.iadd, 1) := by decide +kernel
theorem own_dB22_40 : decode jdk_68_method_22_code 40 = .ok (.putfield 79, 3) := by decide +kernel
theorem own_dB22_43 : decode jdk_68_method_22_code 43 = .ok (.aload_n 0, 1) := by decide +kernel
theorem own_dB22_44 : decode jdk_68_method_22_code 44 = .ok (.areturn, 1) := by decide +kernel
theorem own_pn24_3_0 : plainName "java/lang/AbstractStringBuilder" = true := by first | (simp [plainName, overriddenIn]; done) | decide +kernel
theorem own_pd24_3_0_0 : parseMethodDescriptor "()I" = some ⟨[], some .int⟩ := by decide +kernel
theorem own_pd24_3_0_1 : parseMethodDescriptor "(I)V" = some ⟨[.int], none⟩ := by decide +kernel
theorem own_pd24_3_0_2 : parseMethodDescriptor "(ILjava/lang/String;)V" = some ⟨[.int, (.object "java/lang/String")], none⟩ := by decide +kernel
theorem own_ef24_3_0 (m : MethodId) (a : Addr) (sa : Addr) : entryFrame m #[(.ref a), (.ref sa)] 3 = mkF m 0 #[.val (.ref a), .val (.ref sa), .unset] [] := by first | (simp [entryFrame, mkF, argsToLocals, Value.category]; done) | rfl
def own_Q24_3_0 (Z : State) (a : Addr) (sa : Addr) (cs : Int32) (fo : Value) (ba : Addr) (va : Addr) (kv : ClassId) (kb : ClassId) (x0 : Int32) (x1 : Int32) (x2 : Int32) (h0 : Heap) (n0 : Nat) (v : Option Value) (h : Heap) (L : List Loc) : Prop := v = some (.ref a) ∧ Fr n0 L ∧ Keep h0 h [a, ba] ∧ Exa Z h a "java/lang/StringBuilder" ∧ Arv Z h ba kb .byte (16 : Int32) [(.int x0), (.int x1), (.int x2), (.int 0), (.int 0), (.int 0), (.int 0), (.int 0), (.int 0), (.int 0), (.int 0), (.int 0), (.int 0), (.int 0), (.int 0), (.int 0)] (.int 0) ∧ Fld Z h a "java/lang/AbstractStringBuilder" "value" "[B" (.ref ba) ∧ Fld Z h a "java/lang/AbstractStringBuilder" "coder" "B" (.int 0) ∧ Fld Z h a "java/lang/AbstractStringBuilder" "count" "I" (.int 3)
set_option maxRecDepth 65536 in
set_option maxHeartbeats 40000000 in
theorem own_rm24_3_0 (l : Launch) (Z : State) (a0 : Array Value) (hw : ∀ d ∈ tables_1, d.before a0 Z = true) (ws : List Jvm.Cond) (a : Addr) (sa : Addr) (cs : Int32) (fo : Value) (ba : Addr) (va : Addr) (kv : ClassId) (kb : ClassId) (x0 : Int32) (x1 : Int32) (x2 : Int32) (h0 : Heap) (n0 : Nat) (Zs : n0 ≤ h0.size) (OL : Old Z n0 h0) (S_cs : Sta Z Z.heap "java/lang/String" "COMPACT_STRINGS" "Z" (.int cs)) (hcs : ¬ (cs = (0 : Int32))) (S_fo : Sta Z Z.heap "jdk/internal/util/Preconditions" "SIOOBE_FORMATTER" "Ljava/util/function/BiFunction;" fo) (hfo : fo.isRef = true) (E_a : Exa Z h0 a "java/lang/StringBuilder") (g_a : n0 ≤ a) (F_a_value : Fld Z h0 a "java/lang/AbstractStringBuilder" "value" "[B" (.ref ba)) (F_a_coder : Fld Z h0 a "java/lang/AbstractStringBuilder" "coder" "B" (.int 0)) (F_a_count : Fld Z h0 a "java/lang/AbstractStringBuilder" "count" "I" (.int 0)) (E_sa : Exa Z h0 sa "java/lang/String") (F_sa_value : Fld Z h0 sa "java/lang/String" "value" "[B" (.ref va)) (F_sa_coder : Fld Z h0 sa "java/lang/String" "coder" "B" (.int 0)) (V_va : Arv Z h0 va kv .byte (3 : Int32) [(.int x0), (.int x1), (.int x2)] (.int 0)) (hd_x0 : own_Dg x0) (hd_x1 : own_Dg x1) (hd_x2 : own_Dg x2) (V_ba : Arv Z h0 ba kb .byte (16 : Int32) [(.int 0), (.int 0), (.int 0), (.int 0), (.int 0), (.int 0), (.int 0), (.int 0), (.int 0), (.int 0), (.int 0), (.int 0), (.int 0), (.int 0), (.int 0), (.int 0)] (.int 0)) (g_ba : n0 ≤ ba) (ne_va_ba : va ≠ ba) (ne_sa_ba : sa ≠ ba) (ne_a_ba : a ≠ ba) (ne_a_sa : a ≠ sa) (ne_a_va : a ≠ va) :
    MetFree l own_y22 (head1 (Jvm.Cond.code own_y22 jdk_68_method_22_code 3 (some (.object "java/lang/AbstractStringBuilder")) :: ws) ({ frames := 3, cells := 0, slots := 0, locals := 89 } : Room)) (fun aA_ U => aA_ = #[(.ref a), (.ref sa)] ∧ Z.Warmed39 U.vm ∧ U.heap = h0) (fun _ _ _ _ _ => True) (fun _ U o U' => ∃ v L, o = .returned v ∧ own_Q24_3_0 Z a sa cs fo ba va kv kb x0 x1 x2 h0 n0 v U'.heap L ∧ FrameEnd U o U' L ({ frames := 3, cells := 0, slots := 0, locals := 89 } : Room).cells ({ frames := 3, cells := 0, slots := 0, locals := 89 } : Room).slots) := by
  refine MetFree.of_bodySF (plainFor_of_name own_pn24_3_0) hisR ?_
  intro p e s m args below meth c s₁ Bd hml0 hP hK
  obtain ⟨rfl, hZ, hh⟩ := hP
  have hx := Bd.exec
  have hby := Bd.bytes
  have hml : c.maxLocals = 3 := hml0
  have hown : s.vm.findClass "java/lang/AbstractStringBuilder" = some m.cls := findClass_of_methodNamed Bd.named
  have hnm := (name_of_methodNamed Bd.named Bd.method).1
  have X0 : Stand p l e ({ frames := 3, cells := 0, slots := 0, locals := 89 } : Room) s m #[(.ref a), (.ref sa)] below meth c s₁ [] 0 0 := Stand.of_body Bd
  have e0 : s₁.heap = h0 := by rw [← hh, Bd.state]; rfl
  have NF := Fr.nil n0
  rw [own_ef24_3_0 m a sa]
  show own_Dn p e below s (own_Q24_3_0 Z a sa cs fo ba va kv kb x0 x1 x2 h0 n0) 0 0 s₁ (mkF m 0 #[.val (.ref a), .val (.ref sa), .unset] [])
  have KP := Keep.refl h0 [a, ba]
  refine own_p (g' := (mkF m 1 #[rv a, rv sa, oU] [(.ref sa)])) (fun _ k => XS.aloadN X0.here hx rfl (hb hby own_dB22_0) rfl rfl k) ?_
  refine own_p (g' := (mkF m 10 #[rv a, rv sa, oU] [(.ref sa)])) (fun _ k => XS.ifnonnullYes X0.here hx rfl (pc0 := 1) (pc' := 9) rfl (hb hby own_dB22_1) rfl (by decide) (by decide) (XS.aloadN X0.here hx rfl (hb hby own_dB22_9) rfl rfl k)) ?_
  obtain ⟨cq2, kq2, q2a, q2b, q2c⟩ := isOf hZ e0 E_sa
  obtain ⟨_, _, ⟨T2, L2, k2, n2⟩, -, X2, ⟨Lc2, hQ2, l2, y2, z2⟩, st2⟩ := X0.virtualBack hx (y := own_y9) (z := own_y9) hown (mvT hZ (own_W hw 107 rfl)) (mvT hZ (own_W hw 48 rfl)) (notFace_of_selects (args := #[]) (mvT hZ (own_W hw 50 rfl))) (mvT hZ (own_W hw 50 rfl)) (mvT hZ (own_W hw 49 rfl)) (by decide) (backOf (W := 0) (own_rm10 l Z a0 hw [] sa cs fo va kv (3 : Int32) [(.int x0), (.int x1), (.int x2)] h0 n0 Zs OL S_cs hcs S_fo hfo E_sa F_sa_value F_sa_coder V_va) hZ (own_W hw 51 rfl) (own_W hw 10 rfl) (by decide) (by decide)) q2a q2c (g := (mkF m 10 #[rv a, rv sa, oU] [(.ref sa)])) rfl (by rw [hml]; rfl) (Steps.refl _) (argsL := []) (rest := []) (lenOf own_pd24_3_0_0 rfl) rfl (Nat.le_refl _) (hb hby own_dB22_10) (fun _ _ => ⟨rfl, e0, (by decide : 0 + 0 ≤ _), (by decide : 0 + 0 ≤ _)⟩)
  dsimp only [Pt.U, Pt.locs, Pt.cells, Pt.slots] at X2 l2 y2 z2 st2 hQ2
  subst l2 y2 z2
  obtain ⟨rfl, NQ2, eq2⟩ := hQ2
  have NF := Fr.app NF NQ2
  refine own_go (T' := T2) (g' := (mkF m 13 #[rv a, rv sa, oU] [(.int 3)])) (fun _ k => st2.trans k) ?_
  refine own_p (g' := (mkF m 16 #[rv a, rv sa, iv 3] [(.ref a), (.ref a)])) (fun _ k => XS.istoreN X2.here hx rfl (hb hby own_dB22_13) rfl (l' := #[rv a, rv sa, iv 3]) rfl (XS.aloadN X2.here hx rfl (hb hby own_dB22_14) rfl rfl (XS.aloadN X2.here hx rfl (hb hby own_dB22_15) rfl rfl k))) ?_
  obtain ⟨T3, X3, e3, st3⟩ := getF X2 hx hZ hown (host := "") (Or.inl (own_W hw 108 rfl)) Via.refl eq2 F_a_count (g := (mkF m 16 #[rv a, rv sa, iv 3] [(.ref a), (.ref a)])) rfl rfl (hb hby own_dB22_16)
  refine own_go (T' := T3) (g' := (mkF m 19 #[rv a, rv sa, iv 3] [(.int 0), (.ref a)])) (fun _ k => st3 _ k) ?_
  refine own_p (g' := (mkF m 21 #[rv a, rv sa, iv 3] [(.int 3), (.ref a)])) (fun _ k => XS.iloadN X3.here hx rfl (hb hby own_dB22_19) rfl (XS.iadd X3.here hx rfl (hb hby own_dB22_20) rfl k)) ?_
  obtain ⟨cq4, kq4, q4a, q4b, q4c⟩ := isOf hZ e3 E_a
  obtain ⟨_, _, ⟨T4, L4, k4, n4⟩, -, X4, ⟨Lc4, hQ4, l4, y4, z4⟩, st4⟩ := X3.virtualBack hx (y := own_y19) (z := own_y19) hown (mvT hZ (own_W hw 110 rfl)) (mvT hZ (own_dec (own_W hw 111 rfl) (own_W hw 114 rfl))) (notFace_of_selects (args := #[]) (mvT hZ (own_W hw 113 rfl))) (mvT hZ (own_W hw 113 rfl)) (mvT hZ (own_W hw 111 rfl)) (by decide) (backOf (W := 0) (own_rm21_3 l Z a0 hw [] a ba kb [(.int 0), (.int 0), (.int 0), (.int 0), (.int 0), (.int 0), (.int 0), (.int 0), (.int 0), (.int 0), (.int 0), (.int 0), (.int 0), (.int 0), (.int 0), (.int 0)] h0 n0 Zs F_a_value F_a_coder V_ba) hZ (own_W hw 114 rfl) (own_W hw 89 rfl) (by decide) (by decide)) q4a q4c (g := (mkF m 21 #[rv a, rv sa, iv 3] [(.int 3), (.ref a)])) rfl (by rw [hml]; rfl) (Steps.refl _) (argsL := [(.int 3)]) (rest := []) (lenOf own_pd24_3_0_1 rfl) rfl (Nat.le_refl _) (hb hby own_dB22_21) (fun _ _ => ⟨rfl, e3, (by decide : 0 + 0 ≤ _), (by decide : 0 + 0 ≤ _)⟩)
  dsimp only [Pt.U, Pt.locs, Pt.cells, Pt.slots] at X4 l4 y4 z4 st4 hQ4
  subst l4 y4 z4
  obtain ⟨rfl, NQ4, eq4⟩ := hQ4
  have NF := Fr.app NF NQ4
  refine own_go (T' := T4) (g' := (mkF m 24 #[rv a, rv sa, iv 3] [])) (fun _ k => st4.trans k) ?_
  refine own_p (g' := (mkF m 26 #[rv a, rv sa, iv 3] [(.ref a), (.ref a)])) (fun _ k => XS.aloadN X4.here hx rfl (hb hby own_dB22_24) rfl rfl (XS.aloadN X4.here hx rfl (hb hby own_dB22_25) rfl rfl k)) ?_
  obtain ⟨T5, X5, e5, st5⟩ := getF X4 hx hZ hown (host := "") (Or.inl (own_W hw 108 rfl)) Via.refl eq4 F_a_count (g := (mkF m 26 #[rv a, rv sa, iv 3] [(.ref a), (.ref a)])) rfl rfl (hb hby own_dB22_26)
  refine own_go (T' := T5) (g' := (mkF m 29 #[rv a, rv sa, iv 3] [(.int 0), (.ref a)])) (fun _ k => st5 _ k) ?_
  refine own_p (g' := (mkF m 30 #[rv a, rv sa, iv 3] [(.ref sa), (.int 0), (.ref a)])) (fun _ k => XS.aloadN X5.here hx rfl (hb hby own_dB22_29) rfl rfl k) ?_
  obtain ⟨cq6, kq6, q6a, q6b, q6c⟩ := isOf hZ e5 E_a
  obtain ⟨_, _, ⟨T6, L6, k6, n6⟩, -, X6, ⟨Lc6, hQ6, l6, y6, z6⟩, st6⟩ := X5.virtualBack hx (y := own_y21) (z := own_y21) hown (mvT hZ (own_W hw 115 rfl)) (mvT hZ (own_dec (own_W hw 116 rfl) (own_W hw 119 rfl))) (notFace_of_selects (args := #[]) (mvT hZ (own_W hw 118 rfl))) (mvT hZ (own_W hw 118 rfl)) (mvT hZ (own_W hw 116 rfl)) (by decide) (backOf (W := 0) (own_rm23_3_0 l Z a0 hw [] a sa cs fo ba va kv kb x0 x1 x2 h0 n0 Zs OL S_cs hcs S_fo hfo E_a F_a_value F_a_coder E_sa F_sa_value F_sa_coder V_va hd_x0 hd_x1 hd_x2 V_ba g_ba ne_va_ba ne_sa_ba ne_a_ba) hZ (own_W hw 119 rfl) (own_W hw 89 rfl) (by decide) (by decide)) q6a q6c (g := (mkF m 30 #[rv a, rv sa, iv 3] [(.ref sa), (.int 0), (.ref a)])) rfl (by rw [hml]; rfl) (Steps.refl _) (argsL := [(.int 0), (.ref sa)]) (rest := []) (lenOf own_pd24_3_0_2 rfl) rfl (Nat.le_refl _) (hb hby own_dB22_30) (fun _ _ => ⟨rfl, e5, (by decide : 0 + 0 ≤ _), (by decide : 0 + 0 ≤ _)⟩)
  dsimp only [Pt.U, Pt.locs, Pt.cells, Pt.slots] at X6 l6 y6 z6 st6 hQ6
  subst l6 y6 z6
  obtain ⟨rfl, NQ6, K6, V_ba⟩ := hQ6
  have NF := Fr.app NF NQ6
  have E_a := E_a.keep K6
  have F_a_value := F_a_value.keep K6 (ninS ne_a_ba nin0)
  have F_a_coder := F_a_coder.keep K6 (ninS ne_a_ba nin0)
  have F_a_count := F_a_count.keep K6 (ninS ne_a_ba nin0)
  have E_sa := E_sa.keep K6
  have F_sa_value := F_sa_value.keep K6 (ninS ne_sa_ba nin0)
  have F_sa_coder := F_sa_coder.keep K6 (ninS ne_sa_ba nin0)
  have V_va := V_va.keep K6 (ninS ne_va_ba nin0)
  have OL := OL.keep K6 (allS g_ba all0)
  have Zs := Nat.le_trans Zs K6.1
  have KP := KP.trans K6 ((allS (Or.inl (by simp)) all0))
  refine own_go (T' := T6) (g' := (mkF m 33 #[rv a, rv sa, iv 3] [])) (fun _ k => st6.trans k) ?_
  refine own_p (g' := (mkF m 35 #[rv a, rv sa, iv 3] [(.ref a), (.ref a)])) (fun _ k => XS.aloadN X6.here hx rfl (hb hby own_dB22_33) rfl rfl (XS.dup X6.here hx rfl (hb hby own_dB22_34) rfl rfl k)) ?_
  obtain ⟨T7, X7, e7, st7⟩ := getF X6 hx hZ hown (host := "") (Or.inl (own_W hw 108 rfl)) Via.refl rfl F_a_count (g := (mkF m 35 #[rv a, rv sa, iv 3] [(.ref a), (.ref a)])) rfl rfl (hb hby own_dB22_35)
  refine own_go (T' := T7) (g' := (mkF m 38 #[rv a, rv sa, iv 3] [(.int 0), (.ref a)])) (fun _ k => st7 _ k) ?_
  refine own_p (g' := (mkF m 40 #[rv a, rv sa, iv 3] [(.int 3), (.ref a)])) (fun _ k => XS.iloadN X7.here hx rfl (hb hby own_dB22_38) rfl (XS.iadd X7.here hx rfl (hb hby own_dB22_39) rfl k)) ?_
  obtain ⟨T8, h8, X8, e8, W8, st8⟩ := putF X7 hx hZ hown (host := "") (Or.inl (own_W hw 108 rfl)) Via.refl e7 F_a_count E_a (Or.inl (own_W hw 109 rfl)) (own_W hw 80 rfl) (ty := .int) (by decide) rfl rfl (g := (mkF m 40 #[rv a, rv sa, iv 3] [(.int 3), (.ref a)])) rfl rfl (hb hby own_dB22_40)
  have E_a := E_a.wr W8
  have F_a_value := F_a_value.other W8 (Or.inr (slot_ne (Or.inl (own_W hw 94 rfl)) (Or.inl (own_W hw 109 rfl)) (by decide) (t := (.array .byte)) (t' := .int) (by decide) (by decide)))
  have F_a_coder := F_a_coder.other W8 (Or.inr (slot_ne (Or.inl (own_W hw 96 rfl)) (Or.inl (own_W hw 109 rfl)) (by decide) (t := .byte) (t' := .int) (by decide) (by decide)))
  have E_sa := E_sa.wr W8
  have F_sa_value := F_sa_value.other W8 (Or.inl (Ne.symm ne_a_sa))
  have F_sa_coder := F_sa_coder.other W8 (Or.inl (Ne.symm ne_a_sa))
  have V_va := V_va.other W8 (Ne.symm ne_a_va)
  have V_ba := V_ba.other W8 (Ne.symm ne_a_ba)
  have OL := OL.wr W8 g_a
  have Zs := Nat.le_trans Zs (Keep.of_wr W8).1
  have F_a_count := F_a_count.same W8
  have KP := KP.wr W8 (Or.inl (by simp))
  have NF := Fr.snoc X8 NF g_a
  refine own_go (T' := T8) (g' := (mkF m 43 #[rv a, rv sa, iv 3] [])) (fun _ k => st8 _ k) ?_
  refine own_p (g' := (mkF m 44 #[rv a, rv sa, iv 3] [(.ref a)])) (fun _ k => XS.aloadN X8.here hx rfl (hb hby own_dB22_43) rfl rfl k) ?_
  refine own_ret X8 Bd.notSynchronized (some (.ref a)) (fun h => by rw [Bd.returns] at h; cases h) (fun fs hr => retOut X8 hx (t := (.object "java/lang/AbstractStringBuilder")) Bd.returns rfl (Or.inr (Or.inr (Or.inr (Or.inr ⟨rfl, rfl, rfl⟩)))) (hb hby own_dB22_44) hr) ?_ (by decide) (by decide)
  show (own_Q24_3_0 Z a sa cs fo ba va kv kb x0 x1 x2 h0 n0) (some (.ref a)) T8.heap _
  rw [e8]
  exact ⟨rfl, NF, KP, E_a, V_ba, F_a_value, F_a_coder, F_a_count⟩
theorem own_dB23_0 : decode jdk_67_method_7_code 0 = .ok (.aload_n 0, 1) := by decide +kernel
theorem own_dB23_1 : decode jdk_67_method_7_code 1 = .ok (.aload_n 1, 1) := by decide +kernel
theorem own_dB23_2 : decode jdk_67_method_7_code 2 = .ok (.invokespecial 29, 3) := by decide +kernel
theorem own_dB23_5 : decode jdk_67_method_7_code 5 = .ok (.pop, 1) := by decide +kernel
theorem own_dB23_6 : decode jdk_67_method_7_code 6 = .ok (.aload_n 0, 1) := by decide +kernel
theorem own_dB23_7 : decode jdk_67_method_7_code 7 = .ok (.areturn, 1) := by decide +kernel
theorem own_pn25_3_0 : plainName "java/lang/StringBuilder" = true := by first | (simp [plainName, overriddenIn]; done) | decide +kernel
theorem own_pd25_3_0_0 : parseMethodDescriptor "(Ljava/lang/String;)Ljava/lang/AbstractStringBuilder;" = some ⟨[(.object "java/lang/String")], some (.object "java/lang/AbstractStringBuilder")⟩ := by decide +kernel
theorem own_ef25_3_0 (m : MethodId) (a : Addr) (sa : Addr) : entryFrame m #[(.ref a), (.ref sa)] 2 = mkF m 0 #[.val (.ref a), .val (.ref sa)] [] := by first | (simp [entryFrame, mkF, argsToLocals, Value.category]; done) | rfl
def own_Q25_3_0 (Z : State) (a : Addr) (sa : Addr) (cs : Int32) (fo : Value) (ba : Addr) (va : Addr) (kv : ClassId) (kb : ClassId) (x0 : Int32) (x1 : Int32) (x2 : Int32) (h0 : Heap) (n0 : Nat) (v : Option Value) (h : Heap) (L : List Loc) : Prop := v = some (.ref a) ∧ Fr n0 L ∧ Keep h0 h [a, ba] ∧ Exa Z h a "java/lang/StringBuilder" ∧ Arv Z h ba kb .byte (16 : Int32) [(.int x0), (.int x1), (.int x2), (.int 0), (.int 0), (.int 0), (.int 0), (.int 0), (.int 0), (.int 0), (.int 0), (.int 0), (.int 0), (.int 0), (.int 0), (.int 0)] (.int 0) ∧ Fld Z h a "java/lang/AbstractStringBuilder" "value" "[B" (.ref ba) ∧ Fld Z h a "java/lang/AbstractStringBuilder" "coder" "B" (.int 0) ∧ Fld Z h a "java/lang/AbstractStringBuilder" "count" "I" (.int 3)
set_option maxRecDepth 65536 in
set_option maxHeartbeats 40000000 in
theorem own_rm25_3_0 (l : Launch) (Z : State) (a0 : Array Value) (hw : ∀ d ∈ tables_1, d.before a0 Z = true) (ws : List Jvm.Cond) (a : Addr) (sa : Addr) (cs : Int32) (fo : Value) (ba : Addr) (va : Addr) (kv : ClassId) (kb : ClassId) (x0 : Int32) (x1 : Int32) (x2 : Int32) (h0 : Heap) (n0 : Nat) (Zs : n0 ≤ h0.size) (OL : Old Z n0 h0) (S_cs : Sta Z Z.heap "java/lang/String" "COMPACT_STRINGS" "Z" (.int cs)) (hcs : ¬ (cs = (0 : Int32))) (S_fo : Sta Z Z.heap "jdk/internal/util/Preconditions" "SIOOBE_FORMATTER" "Ljava/util/function/BiFunction;" fo) (hfo : fo.isRef = true) (E_a : Exa Z h0 a "java/lang/StringBuilder") (g_a : n0 ≤ a) (F_a_value : Fld Z h0 a "java/lang/AbstractStringBuilder" "value" "[B" (.ref ba)) (F_a_coder : Fld Z h0 a "java/lang/AbstractStringBuilder" "coder" "B" (.int 0)) (F_a_count : Fld Z h0 a "java/lang/AbstractStringBuilder" "count" "I" (.int 0)) (E_sa : Exa Z h0 sa "java/lang/String") (F_sa_value : Fld Z h0 sa "java/lang/String" "value" "[B" (.ref va)) (F_sa_coder : Fld Z h0 sa "java/lang/String" "coder" "B" (.int 0)) (V_va : Arv Z h0 va kv .byte (3 : Int32) [(.int x0), (.int x1), (.int x2)] (.int 0)) (hd_x0 : own_Dg x0) (hd_x1 : own_Dg x1) (hd_x2 : own_Dg x2) (V_ba : Arv Z h0 ba kb .byte (16 : Int32) [(.int 0), (.int 0), (.int 0), (.int 0), (.int 0), (.int 0), (.int 0), (.int 0), (.int 0), (.int 0), (.int 0), (.int 0), (.int 0), (.int 0), (.int 0), (.int 0)] (.int 0)) (g_ba : n0 ≤ ba) (ne_va_ba : va ≠ ba) (ne_sa_ba : sa ≠ ba) (ne_a_ba : a ≠ ba) (ne_a_sa : a ≠ sa) (ne_a_va : a ≠ va) :
    MetFree l own_y23 (head1 (Jvm.Cond.code own_y23 jdk_67_method_7_code 2 (some (.object "java/lang/StringBuilder")) :: ws) ({ frames := 4, cells := 0, slots := 0, locals := 103 } : Room)) (fun aA_ U => aA_ = #[(.ref a), (.ref sa)] ∧ Z.Warmed39 U.vm ∧ U.heap = h0) (fun _ _ _ _ _ => True) (fun _ U o U' => ∃ v L, o = .returned v ∧ own_Q25_3_0 Z a sa cs fo ba va kv kb x0 x1 x2 h0 n0 v U'.heap L ∧ FrameEnd U o U' L ({ frames := 4, cells := 0, slots := 0, locals := 103 } : Room).cells ({ frames := 4, cells := 0, slots := 0, locals := 103 } : Room).slots) := by
  refine MetFree.of_bodySF (plainFor_of_name own_pn25_3_0) hisR ?_
  intro p e s m args below meth c s₁ Bd hml0 hP hK
  obtain ⟨rfl, hZ, hh⟩ := hP
  have hx := Bd.exec
  have hby := Bd.bytes
  have hml : c.maxLocals = 2 := hml0
  have hown : s.vm.findClass "java/lang/StringBuilder" = some m.cls := findClass_of_methodNamed Bd.named
  have hnm := (name_of_methodNamed Bd.named Bd.method).1
  have X0 : Stand p l e ({ frames := 4, cells := 0, slots := 0, locals := 103 } : Room) s m #[(.ref a), (.ref sa)] below meth c s₁ [] 0 0 := Stand.of_body Bd
  have e0 : s₁.heap = h0 := by rw [← hh, Bd.state]; rfl
  have NF := Fr.nil n0
  rw [own_ef25_3_0 m a sa]
  show own_Dn p e below s (own_Q25_3_0 Z a sa cs fo ba va kv kb x0 x1 x2 h0 n0) 0 0 s₁ (mkF m 0 #[.val (.ref a), .val (.ref sa)] [])
  have KP := Keep.refl h0 [a, ba]
  refine own_p (g' := (mkF m 2 #[rv a, rv sa] [(.ref sa), (.ref a)])) (fun _ k => XS.aloadN X0.here hx rfl (hb hby own_dB23_0) rfl rfl (XS.aloadN X0.here hx rfl (hb hby own_dB23_1) rfl rfl k)) ?_
  obtain ⟨_, _, ⟨T1, L1, k1, n1⟩, -, X1, ⟨Lc1, hQ1, l1, y1, z1⟩, st1⟩ := superBack X0 hx hZ (K := "java/lang/StringBuilder") (y := own_y22) hown (own_W hw 102 rfl) (own_sm (y := own_y22) (y' := own_y19) rfl (own_W hw 105 rfl) (own_W hw 113 rfl) (by decide)) (own_W hw 103 rfl) (own_W hw 104 rfl) (by decide) (backOf (W := 0) (own_rm24_3_0 l Z a0 hw [] a sa cs fo ba va kv kb x0 x1 x2 h0 n0 Zs OL S_cs hcs S_fo hfo E_a g_a F_a_value F_a_coder F_a_count E_sa F_sa_value F_sa_coder V_va hd_x0 hd_x1 hd_x2 V_ba g_ba ne_va_ba ne_sa_ba ne_a_ba ne_a_sa ne_a_va) hZ (own_W hw 106 rfl) (own_W hw 89 rfl) (by decide) (by decide)) e0 (Ins.self E_a) (g := (mkF m 2 #[rv a, rv sa] [(.ref sa), (.ref a)])) rfl (by rw [hml]; rfl) (own_W hw 106 rfl) (a := a) (argsL := [(.ref sa)]) (rest := []) (lenOf own_pd25_3_0_0 rfl) rfl (Nat.le_refl _) (hb hby own_dB23_2) (fun _ _ => ⟨rfl, e0, (by decide : 0 + 0 ≤ _), (by decide : 0 + 0 ≤ _)⟩)
  dsimp only [Pt.U, Pt.locs, Pt.cells, Pt.slots] at X1 l1 y1 z1 st1 hQ1
  subst l1 y1 z1
  obtain ⟨rfl, NQ1, K1, E_a, V_ba, F_a_value, F_a_coder, F_a_count⟩ := hQ1
  have NF := Fr.app NF NQ1
  have E_sa := E_sa.keep K1
  have F_sa_value := F_sa_value.keep K1 (ninS (Ne.symm ne_a_sa) (ninS ne_sa_ba nin0))
  have F_sa_coder := F_sa_coder.keep K1 (ninS (Ne.symm ne_a_sa) (ninS ne_sa_ba nin0))
  have V_va := V_va.keep K1 (ninS (Ne.symm ne_a_va) (ninS ne_va_ba nin0))
  have OL := OL.keep K1 (allS g_a (allS g_ba all0))
  have Zs := Nat.le_trans Zs K1.1
  have KP := KP.trans K1 ((allS (Or.inl (by simp)) (allS (Or.inl (by simp)) all0)))
  refine own_go (T' := T1) (g' := (mkF m 5 #[rv a, rv sa] [(.ref a)])) (fun _ k => st1.trans k) ?_
  refine own_p (g' := (mkF m 7 #[rv a, rv sa] [(.ref a)])) (fun _ k => XS.pop X1.here hx rfl (hb hby own_dB23_5) rfl rfl (XS.aloadN X1.here hx rfl (hb hby own_dB23_6) rfl rfl k)) ?_
  refine own_ret X1 Bd.notSynchronized (some (.ref a)) (fun h => by rw [Bd.returns] at h; cases h) (fun fs hr => retOut X1 hx (t := (.object "java/lang/StringBuilder")) Bd.returns rfl (Or.inr (Or.inr (Or.inr (Or.inr ⟨rfl, rfl, rfl⟩)))) (hb hby own_dB23_7) hr) ?_ (by decide) (by decide)
  show (own_Q25_3_0 Z a sa cs fo ba va kv kb x0 x1 x2 h0 n0) (some (.ref a)) T1.heap _
  exact ⟨rfl, NF, KP, E_a, V_ba, F_a_value, F_a_coder, F_a_count⟩
theorem own_pn22_2_3 : plainName "java/lang/String" = true := by first | (simp [plainName, overriddenIn]; done) | decide +kernel
theorem own_pd22_2_3_0 : parseMethodDescriptor "()B" = some ⟨[], some .byte⟩ := by decide +kernel
theorem own_ef22_2_3 (m : MethodId) (sa : Addr) (ba : Addr) : entryFrame m #[(.ref sa), (.ref ba), (.int 3), (.int 0)] 4 = mkF m 0 #[.val (.ref sa), .val (.ref ba), .val (.int 3), .val (.int 0)] [] := by first | (simp [entryFrame, mkF, argsToLocals, Value.category]; done) | rfl
def own_Q22_2_3 (Z : State) (sa : Addr) (ba : Addr) (cs : Int32) (fo : Value) (va : Addr) (kv : ClassId) (kb : ClassId) (x0 : Int32) (x1 : Int32) (x2 : Int32) (x3 : Int32) (x4 : Int32) (h0 : Heap) (n0 : Nat) (v : Option Value) (h : Heap) (L : List Loc) : Prop := v = none ∧ Fr n0 L ∧ Keep h0 h [ba] ∧ Arv Z h ba kb .byte (16 : Int32) [(.int x0), (.int x1), (.int x2), (.int x3), (.int x4), (.int 0), (.int 0), (.int 0), (.int 0), (.int 0), (.int 0), (.int 0), (.int 0), (.int 0), (.int 0), (.int 0)] (.int 0)
set_option maxRecDepth 65536 in
set_option maxHeartbeats 40000000 in
theorem own_rm22_2_3 (l : Launch) (Z : State) (a0 : Array Value) (hw : ∀ d ∈ tables_1, d.before a0 Z = true) (ws : List Jvm.Cond) (sa : Addr) (ba : Addr) (cs : Int32) (fo : Value) (va : Addr) (kv : ClassId) (kb : ClassId) (x0 : Int32) (x1 : Int32) (x2 : Int32) (x3 : Int32) (x4 : Int32) (h0 : Heap) (n0 : Nat) (Zs : n0 ≤ h0.size) (OL : Old Z n0 h0) (S_cs : Sta Z Z.heap "java/lang/String" "COMPACT_STRINGS" "Z" (.int cs)) (hcs : ¬ (cs = (0 : Int32))) (S_fo : Sta Z Z.heap "jdk/internal/util/Preconditions" "SIOOBE_FORMATTER" "Ljava/util/function/BiFunction;" fo) (hfo : fo.isRef = true) (E_sa : Exa Z h0 sa "java/lang/String") (F_sa_value : Fld Z h0 sa "java/lang/String" "value" "[B" (.ref va)) (F_sa_coder : Fld Z h0 sa "java/lang/String" "coder" "B" (.int 0)) (V_va : Arv Z h0 va kv .byte (2 : Int32) [(.int x3), (.int x4)] (.int 0)) (hd_x3 : own_Dg x3) (hd_x4 : own_Dg x4) (V_ba : Arv Z h0 ba kb .byte (16 : Int32) [(.int x0), (.int x1), (.int x2), (.int 0), (.int 0), (.int 0), (.int 0), (.int 0), (.int 0), (.int 0), (.int 0), (.int 0), (.int 0), (.int 0), (.int 0), (.int 0)] (.int 0)) (g_ba : n0 ≤ ba) (ne_va_ba : va ≠ ba) (ne_sa_ba : sa ≠ ba) :
    MetFree l own_y20 (head1 (Jvm.Cond.code own_y20 jdk_42_method_147_code 4 none :: ws) ({ frames := 1, cells := 0, slots := 0, locals := 60 } : Room)) (fun aA_ U => aA_ = #[(.ref sa), (.ref ba), (.int 3), (.int 0)] ∧ Z.Warmed39 U.vm ∧ U.heap = h0) (fun _ _ _ _ _ => True) (fun _ U o U' => ∃ v L, o = .returned v ∧ own_Q22_2_3 Z sa ba cs fo va kv kb x0 x1 x2 x3 x4 h0 n0 v U'.heap L ∧ FrameEnd U o U' L ({ frames := 1, cells := 0, slots := 0, locals := 60 } : Room).cells ({ frames := 1, cells := 0, slots := 0, locals := 60 } : Room).slots) := by
  refine MetFree.of_bodySF (plainFor_of_name own_pn22_2_3) hisR ?_
  intro p e s m args below meth c s₁ Bd hml0 hP hK
  obtain ⟨rfl, hZ, hh⟩ := hP
  have hx := Bd.exec
  have hby := Bd.bytes
  have hml : c.maxLocals = 4 := hml0
  have hown : s.vm.findClass "java/lang/String" = some m.cls := findClass_of_methodNamed Bd.named
  have hnm := (name_of_methodNamed Bd.named Bd.method).1
  have X0 : Stand p l e ({ frames := 1, cells := 0, slots := 0, locals := 60 } : Room) s m #[(.ref sa), (.ref ba), (.int 3), (.int 0)] below meth c s₁ [] 0 0 := Stand.of_body Bd
  have e0 : s₁.heap = h0 := by rw [← hh, Bd.state]; rfl
  have NF := Fr.nil n0
  rw [own_ef22_2_3 m sa ba]
  show own_Dn p e below s (own_Q22_2_3 Z sa ba cs fo va kv kb x0 x1 x2 x3 x4 h0 n0) 0 0 s₁ (mkF m 0 #[.val (.ref sa), .val (.ref ba), .val (.int 3), .val (.int 0)] [])
  have KP := Keep.refl h0 [ba]
  refine own_p (g' := (mkF m 1 #[rv sa, rv ba, iv 3, iv 0] [(.ref sa)])) (fun _ k => XS.aloadN X0.here hx rfl (hb hby own_dB20_0) rfl rfl k) ?_
  obtain ⟨cq1, kq1, q1a, q1b, q1c⟩ := isOf hZ e0 E_sa
  obtain ⟨_, _, ⟨T1, L1, k1, n1⟩, -, X1, ⟨Lc1, hQ1, l1, y1, z1⟩, st1⟩ := X0.virtualBack hx (y := own_y7) (z := own_y7) hown (mvT hZ (own_W hw 52 rfl)) (mvT hZ (own_W hw 53 rfl)) (notFace_of_selects (args := #[]) (mvT hZ (own_W hw 55 rfl))) (mvT hZ (own_W hw 55 rfl)) (mvT hZ (own_W hw 54 rfl)) (by decide) (backOf (W := 0) (own_rm8 l Z a0 hw [] sa cs fo h0 n0 Zs OL S_cs hcs S_fo hfo F_sa_coder) hZ (own_W hw 56 rfl) (own_W hw 10 rfl) (by decide) (by decide)) q1a q1c (g := (mkF m 1 #[rv sa, rv ba, iv 3, iv 0] [(.ref sa)])) rfl (by rw [hml]; rfl) (Steps.refl _) (argsL := []) (rest := []) (lenOf own_pd22_2_3_0 rfl) rfl (Nat.le_refl _) (hb hby own_dB20_1) (fun _ _ => ⟨rfl, e0, (by decide : 0 + 0 ≤ _), (by decide : 0 + 0 ≤ _)⟩)
  dsimp only [Pt.U, Pt.locs, Pt.cells, Pt.slots] at X1 l1 y1 z1 st1 hQ1
  subst l1 y1 z1
  obtain ⟨rfl, NQ1, eq1⟩ := hQ1
  have NF := Fr.app NF NQ1
  refine own_go (T' := T1) (g' := (mkF m 4 #[rv sa, rv ba, iv 3, iv 0] [(.int 0)])) (fun _ k => st1.trans k) ?_
  refine own_p (g' := (mkF m 9 #[rv sa, rv ba, iv 3, iv 0] [(.ref sa)])) (fun _ k => XS.iloadN X1.here hx rfl (hb hby own_dB20_4) rfl (XS.icmpNo X1.here hx rfl (hb hby own_dB20_5) rfl (by decide) (XS.aloadN X1.here hx rfl (hb hby own_dB20_8) rfl rfl k))) ?_
  obtain ⟨T2, X2, e2, st2⟩ := getF X1 hx hZ hown (host := "") (Or.inl (own_W hw 35 rfl)) Via.refl eq1 F_sa_value (g := (mkF m 9 #[rv sa, rv ba, iv 3, iv 0] [(.ref sa)])) rfl rfl (hb hby own_dB20_9)
  refine own_go (T' := T2) (g' := (mkF m 12 #[rv sa, rv ba, iv 3, iv 0] [(.ref va)])) (fun _ k => st2 _ k) ?_
  refine own_p (g' := (mkF m 15 #[rv sa, rv ba, iv 3, iv 0] [(.int 3), (.ref ba), (.int 0), (.ref va)])) (fun _ k => XS.iconst X2.here hx rfl (hb hby own_dB20_12) (XS.aloadN X2.here hx rfl (hb hby own_dB20_13) rfl rfl (XS.iloadN X2.here hx rfl (hb hby own_dB20_14) rfl k))) ?_
  refine own_p (g' := (mkF m 18 #[rv sa, rv ba, iv 3, iv 0] [(.ref sa), (.int 3), (.ref ba), (.int 0), (.ref va)])) (fun _ k => XS.iloadN X2.here hx rfl (hb hby own_dB20_15) rfl (XS.ishl X2.here hx rfl (hb hby own_dB20_16) rfl (XS.aloadN X2.here hx rfl (hb hby own_dB20_17) rfl rfl k))) ?_
  obtain ⟨T3, X3, e3, st3⟩ := getF X2 hx hZ hown (host := "") (Or.inl (own_W hw 35 rfl)) Via.refl e2 F_sa_value (g := (mkF m 18 #[rv sa, rv ba, iv 3, iv 0] [(.ref sa), (.int 3), (.ref ba), (.int 0), (.ref va)])) rfl rfl (hb hby own_dB20_18)
  refine own_go (T' := T3) (g' := (mkF m 21 #[rv sa, rv ba, iv 3, iv 0] [(.ref va), (.int 3), (.ref ba), (.int 0), (.ref va)])) (fun _ k => st3 _ k) ?_
  obtain ⟨c_4, Ar_4, q_4, S_4, N_4, H_4, G_4⟩ := id V_va
  refine own_go (T' := T3) (g' := (mkF m 22 #[rv sa, rv ba, iv 3, iv 0] [(.int 2), (.int 3), (.ref ba), (.int 0), (.ref va)])) (fun _ k => X3.arraylength hx (by rw [e3]; exact Ar_4.1) (State.isArrayOf_alike hZ.alike Ar_4.2.1) (g := (mkF m 21 #[rv sa, rv ba, iv 3, iv 0] [(.ref va), (.int 3), (.ref ba), (.int 0), (.ref va)])) rfl rfl (hb hby own_dB20_21) _ (by rw [len_of S_4 N_4]; exact k)) ?_
  obtain ⟨T5, h5, L5, X5, e5, NF, K5, VC5, st5⟩ := cpA X3 hx hZ hown (own_W hw 131 rfl) (own_W hw 134 rfl) (own_W hw 132 rfl) (own_W hw 133 rfl) e3 V_va V_ba (us := [(.int x3), (.int x4)]) (Or.inl ⟨rfl, rfl⟩) (sp := (0 : Int32)) (dp := (3 : Int32)) (nn := (2 : Int32)) (by decide) (by decide) (by decide) (by decide) (by decide) rfl (Nat.le_of_ble_eq_true rfl) NF g_ba (g := (mkF m 22 #[rv sa, rv ba, iv 3, iv 0] [(.int 2), (.int 3), (.ref ba), (.int 0), (.ref va)])) rfl (by rw [hml]; rfl) rfl (hb hby own_dB20_22) (by decide) (W := 0) (Nat.le_refl _) (by decide +kernel)
  have E_sa := E_sa.keep K5
  have F_sa_value := F_sa_value.keep K5 (ninS ne_sa_ba nin0)
  have F_sa_coder := F_sa_coder.keep K5 (ninS ne_sa_ba nin0)
  have V_va := V_va.keep K5 (ninS ne_va_ba nin0)
  have OL := OL.keep K5 (allS g_ba all0)
  have Zs := Nat.le_trans Zs K5.1
  have KP := KP.trans K5 ((allS (Or.inl (by simp)) all0))
  have V_ba : Arv Z h5 ba kb .byte (16 : Int32) [(.int x0), (.int x1), (.int x2), (.int x3), (.int x4), (.int 0), (.int 0), (.int 0), (.int 0), (.int 0), (.int 0), (.int 0), (.int 0), (.int 0), (.int 0), (.int 0)] (.int 0) := VC5
  refine own_go (T' := T5) (g' := (mkF m 25 #[rv sa, rv ba, iv 3, iv 0] [])) (fun _ k => st5 _ k) ?_
  refine own_p (g' := (mkF m 43 #[rv sa, rv ba, iv 3, iv 0] [])) (fun _ k => XS.goto X5.here hx rfl (pc0 := 25) (pc' := 43) rfl (hb hby own_dB20_25) (by decide) (by decide) k) ?_
  refine own_ret X5 Bd.notSynchronized none (fun _ => rfl) (fun fs hr => X5.returnOut hx Bd.returns (hb hby own_dB20_43) hr) ?_ (by decide) (by decide)
  show (own_Q22_2_3 Z sa ba cs fo va kv kb x0 x1 x2 x3 x4 h0 n0) none T5.heap _
  rw [e5]
  exact ⟨rfl, NF, KP, V_ba⟩
theorem own_pn23_2_3 : plainName "java/lang/AbstractStringBuilder" = true := by first | (simp [plainName, overriddenIn]; done) | decide +kernel
theorem own_pd23_2_3_0 : parseMethodDescriptor "(Ljava/lang/String;)V" = some ⟨[(.object "java/lang/String")], none⟩ := by decide +kernel
theorem own_pd23_2_3_1 : parseMethodDescriptor "([BIB)V" = some ⟨[(.array .byte), .int, .byte], none⟩ := by decide +kernel
theorem own_ef23_2_3 (m : MethodId) (a : Addr) (sa : Addr) : entryFrame m #[(.ref a), (.int 3), (.ref sa)] 3 = mkF m 0 #[.val (.ref a), .val (.int 3), .val (.ref sa)] [] := by first | (simp [entryFrame, mkF, argsToLocals, Value.category]; done) | rfl
def own_Q23_2_3 (Z : State) (a : Addr) (sa : Addr) (cs : Int32) (fo : Value) (ba : Addr) (va : Addr) (kv : ClassId) (kb : ClassId) (x0 : Int32) (x1 : Int32) (x2 : Int32) (x3 : Int32) (x4 : Int32) (h0 : Heap) (n0 : Nat) (v : Option Value) (h : Heap) (L : List Loc) : Prop := v = none ∧ Fr n0 L ∧ Keep h0 h [ba] ∧ Arv Z h ba kb .byte (16 : Int32) [(.int x0), (.int x1), (.int x2), (.int x3), (.int x4), (.int 0), (.int 0), (.int 0), (.int 0), (.int 0), (.int 0), (.int 0), (.int 0), (.int 0), (.int 0), (.int 0)] (.int 0)
set_option maxRecDepth 65536 in
set_option maxHeartbeats 40000000 in
theorem own_rm23_2_3 (l : Launch) (Z : State) (a0 : Array Value) (hw : ∀ d ∈ tables_1, d.before a0 Z = true) (ws : List Jvm.Cond) (a : Addr) (sa : Addr) (cs : Int32) (fo : Value) (ba : Addr) (va : Addr) (kv : ClassId) (kb : ClassId) (x0 : Int32) (x1 : Int32) (x2 : Int32) (x3 : Int32) (x4 : Int32) (h0 : Heap) (n0 : Nat) (Zs : n0 ≤ h0.size) (OL : Old Z n0 h0) (S_cs : Sta Z Z.heap "java/lang/String" "COMPACT_STRINGS" "Z" (.int cs)) (hcs : ¬ (cs = (0 : Int32))) (S_fo : Sta Z Z.heap "jdk/internal/util/Preconditions" "SIOOBE_FORMATTER" "Ljava/util/function/BiFunction;" fo) (hfo : fo.isRef = true) (E_a : Exa Z h0 a "java/lang/StringBuilder") (F_a_value : Fld Z h0 a "java/lang/AbstractStringBuilder" "value" "[B" (.ref ba)) (F_a_coder : Fld Z h0 a "java/lang/AbstractStringBuilder" "coder" "B" (.int 0)) (E_sa : Exa Z h0 sa "java/lang/String") (F_sa_value : Fld Z h0 sa "java/lang/String" "value" "[B" (.ref va)) (F_sa_coder : Fld Z h0 sa "java/lang/String" "coder" "B" (.int 0)) (V_va : Arv Z h0 va kv .byte (2 : Int32) [(.int x3), (.int x4)] (.int 0)) (hd_x3 : own_Dg x3) (hd_x4 : own_Dg x4) (V_ba : Arv Z h0 ba kb .byte (16 : Int32) [(.int x0), (.int x1), (.int x2), (.int 0), (.int 0), (.int 0), (.int 0), (.int 0), (.int 0), (.int 0), (.int 0), (.int 0), (.int 0), (.int 0), (.int 0), (.int 0)] (.int 0)) (g_ba : n0 ≤ ba) (ne_va_ba : va ≠ ba) (ne_sa_ba : sa ≠ ba) (ne_a_ba : a ≠ ba) :
    MetFree l own_y21 (head1 (Jvm.Cond.code own_y21 jdk_68_method_73_code 3 none :: ws) ({ frames := 2, cells := 0, slots := 0, locals := 75 } : Room)) (fun aA_ U => aA_ = #[(.ref a), (.int 3), (.ref sa)] ∧ Z.Warmed39 U.vm ∧ U.heap = h0) (fun _ _ _ _ _ => True) (fun _ U o U' => ∃ v L, o = .returned v ∧ own_Q23_2_3 Z a sa cs fo ba va kv kb x0 x1 x2 x3 x4 h0 n0 v U'.heap L ∧ FrameEnd U o U' L ({ frames := 2, cells := 0, slots := 0, locals := 75 } : Room).cells ({ frames := 2, cells := 0, slots := 0, locals := 75 } : Room).slots) := by
  refine MetFree.of_bodySF (plainFor_of_name own_pn23_2_3) hisR ?_
  intro p e s m args below meth c s₁ Bd hml0 hP hK
  obtain ⟨rfl, hZ, hh⟩ := hP
  have hx := Bd.exec
  have hby := Bd.bytes
  have hml : c.maxLocals = 3 := hml0
  have hown : s.vm.findClass "java/lang/AbstractStringBuilder" = some m.cls := findClass_of_methodNamed Bd.named
  have hnm := (name_of_methodNamed Bd.named Bd.method).1
  have X0 : Stand p l e ({ frames := 2, cells := 0, slots := 0, locals := 75 } : Room) s m #[(.ref a), (.int 3), (.ref sa)] below meth c s₁ [] 0 0 := Stand.of_body Bd
  have e0 : s₁.heap = h0 := by rw [← hh, Bd.state]; rfl
  have NF := Fr.nil n0
  rw [own_ef23_2_3 m a sa]
  show own_Dn p e below s (own_Q23_2_3 Z a sa cs fo ba va kv kb x0 x1 x2 x3 x4 h0 n0) 0 0 s₁ (mkF m 0 #[.val (.ref a), .val (.int 3), .val (.ref sa)] [])
  have KP := Keep.refl h0 [ba]
  refine own_p (g' := (mkF m 2 #[rv a, iv 3, rv sa] [(.ref sa), (.ref a)])) (fun _ k => XS.aloadN X0.here hx rfl (hb hby own_dB21_0) rfl rfl (XS.aloadN X0.here hx rfl (hb hby own_dB21_1) rfl rfl k)) ?_
  obtain ⟨cq1, kq1, q1a, q1b, q1c⟩ := isOf hZ e0 E_a
  obtain ⟨_, _, ⟨T1, L1, k1, n1⟩, -, X1, ⟨Lc1, hQ1, l1, y1, z1⟩, st1⟩ := X0.virtualBack hx (y := own_y18) (z := own_y18) hown (mvT hZ (own_W hw 120 rfl)) (mvT hZ (own_dec (own_W hw 121 rfl) (own_W hw 124 rfl))) (notFace_of_selects (args := #[]) (mvT hZ (own_W hw 123 rfl))) (mvT hZ (own_W hw 123 rfl)) (mvT hZ (own_W hw 121 rfl)) (by decide) (backOf (W := 0) (own_rm20 l Z a0 hw [] a sa cs fo h0 n0 Zs OL S_cs hcs S_fo hfo F_a_coder E_sa F_sa_coder) hZ (own_W hw 124 rfl) (own_W hw 89 rfl) (by decide) (by decide)) q1a q1c (g := (mkF m 2 #[rv a, iv 3, rv sa] [(.ref sa), (.ref a)])) rfl (by rw [hml]; rfl) (Steps.refl _) (argsL := [(.ref sa)]) (rest := []) (lenOf own_pd23_2_3_0 rfl) rfl (Nat.le_refl _) (hb hby own_dB21_2) (fun _ _ => ⟨rfl, e0, (by decide : 0 + 0 ≤ _), (by decide : 0 + 0 ≤ _)⟩)
  dsimp only [Pt.U, Pt.locs, Pt.cells, Pt.slots] at X1 l1 y1 z1 st1 hQ1
  subst l1 y1 z1
  obtain ⟨rfl, NQ1, eq1⟩ := hQ1
  have NF := Fr.app NF NQ1
  refine own_go (T' := T1) (g' := (mkF m 5 #[rv a, iv 3, rv sa] [])) (fun _ k => st1.trans k) ?_
  refine own_p (g' := (mkF m 7 #[rv a, iv 3, rv sa] [(.ref a), (.ref sa)])) (fun _ k => XS.aloadN X1.here hx rfl (hb hby own_dB21_5) rfl rfl (XS.aloadN X1.here hx rfl (hb hby own_dB21_6) rfl rfl k)) ?_
  obtain ⟨T2, X2, e2, st2⟩ := getF X1 hx hZ hown (host := "") (Or.inl (own_W hw 93 rfl)) Via.refl eq1 F_a_value (g := (mkF m 7 #[rv a, iv 3, rv sa] [(.ref a), (.ref sa)])) rfl rfl (hb hby own_dB21_7)
  refine own_go (T' := T2) (g' := (mkF m 10 #[rv a, iv 3, rv sa] [(.ref ba), (.ref sa)])) (fun _ k => st2 _ k) ?_
  refine own_p (g' := (mkF m 12 #[rv a, iv 3, rv sa] [(.ref a), (.int 3), (.ref ba), (.ref sa)])) (fun _ k => XS.iloadN X2.here hx rfl (hb hby own_dB21_10) rfl (XS.aloadN X2.here hx rfl (hb hby own_dB21_11) rfl rfl k)) ?_
  obtain ⟨T3, X3, e3, st3⟩ := getF X2 hx hZ hown (host := "") (Or.inl (own_W hw 95 rfl)) Via.refl e2 F_a_coder (g := (mkF m 12 #[rv a, iv 3, rv sa] [(.ref a), (.int 3), (.ref ba), (.ref sa)])) rfl rfl (hb hby own_dB21_12)
  refine own_go (T' := T3) (g' := (mkF m 15 #[rv a, iv 3, rv sa] [(.int 0), (.int 3), (.ref ba), (.ref sa)])) (fun _ k => st3 _ k) ?_
  obtain ⟨cq4, kq4, q4a, q4b, q4c⟩ := isOf hZ e3 E_sa
  obtain ⟨_, _, ⟨T4, L4, k4, n4⟩, -, X4, ⟨Lc4, hQ4, l4, y4, z4⟩, st4⟩ := X3.virtualBack hx (y := own_y20) (z := own_y20) hown (mvT hZ (own_W hw 126 rfl)) (mvT hZ (own_W hw 127 rfl)) (notFace_of_selects (args := #[]) (mvT hZ (own_W hw 129 rfl))) (mvT hZ (own_W hw 129 rfl)) (mvT hZ (own_W hw 128 rfl)) (by decide) (backOf (W := 0) (own_rm22_2_3 l Z a0 hw [] sa ba cs fo va kv kb x0 x1 x2 x3 x4 h0 n0 Zs OL S_cs hcs S_fo hfo E_sa F_sa_value F_sa_coder V_va hd_x3 hd_x4 V_ba g_ba ne_va_ba ne_sa_ba) hZ (own_W hw 130 rfl) (own_W hw 10 rfl) (by decide) (by decide)) q4a q4c (g := (mkF m 15 #[rv a, iv 3, rv sa] [(.int 0), (.int 3), (.ref ba), (.ref sa)])) rfl (by rw [hml]; rfl) (Steps.refl _) (argsL := [(.ref ba), (.int 3), (.int 0)]) (rest := []) (lenOf own_pd23_2_3_1 rfl) rfl (Nat.le_refl _) (hb hby own_dB21_15) (fun _ _ => ⟨rfl, e3, (by decide : 0 + 0 ≤ _), (by decide : 0 + 0 ≤ _)⟩)
  dsimp only [Pt.U, Pt.locs, Pt.cells, Pt.slots] at X4 l4 y4 z4 st4 hQ4
  subst l4 y4 z4
  obtain ⟨rfl, NQ4, K4, V_ba⟩ := hQ4
  have NF := Fr.app NF NQ4
  have E_a := E_a.keep K4
  have F_a_value := F_a_value.keep K4 (ninS ne_a_ba nin0)
  have F_a_coder := F_a_coder.keep K4 (ninS ne_a_ba nin0)
  have E_sa := E_sa.keep K4
  have F_sa_value := F_sa_value.keep K4 (ninS ne_sa_ba nin0)
  have F_sa_coder := F_sa_coder.keep K4 (ninS ne_sa_ba nin0)
  have V_va := V_va.keep K4 (ninS ne_va_ba nin0)
  have OL := OL.keep K4 (allS g_ba all0)
  have Zs := Nat.le_trans Zs K4.1
  have KP := KP.trans K4 ((allS (Or.inl (by simp)) all0))
  refine own_go (T' := T4) (g' := (mkF m 18 #[rv a, iv 3, rv sa] [])) (fun _ k => st4.trans k) ?_
  refine own_ret X4 Bd.notSynchronized none (fun _ => rfl) (fun fs hr => X4.returnOut hx Bd.returns (hb hby own_dB21_18) hr) ?_ (by decide) (by decide)
  show (own_Q23_2_3 Z a sa cs fo ba va kv kb x0 x1 x2 x3 x4 h0 n0) none T4.heap _
  exact ⟨rfl, NF, KP, V_ba⟩
theorem own_pn24_2_3 : plainName "java/lang/AbstractStringBuilder" = true := by first | (simp [plainName, overriddenIn]; done) | decide +kernel
theorem own_pd24_2_3_0 : parseMethodDescriptor "()I" = some ⟨[], some .int⟩ := by decide +kernel
theorem own_pd24_2_3_1 : parseMethodDescriptor "(I)V" = some ⟨[.int], none⟩ := by decide +kernel
theorem own_pd24_2_3_2 : parseMethodDescriptor "(ILjava/lang/String;)V" = some ⟨[.int, (.object "java/lang/String")], none⟩ := by decide +kernel
theorem own_ef24_2_3 (m : MethodId) (a : Addr) (sa : Addr) : entryFrame m #[(.ref a), (.ref sa)] 3 = mkF m 0 #[.val (.ref a), .val (.ref sa), .unset] [] := by first | (simp [entryFrame, mkF, argsToLocals, Value.category]; done) | rfl
def own_Q24_2_3 (Z : State) (a : Addr) (sa : Addr) (cs : Int32) (fo : Value) (ba : Addr) (va : Addr) (kv : ClassId) (kb : ClassId) (x0 : Int32) (x1 : Int32) (x2 : Int32) (x3 : Int32) (x4 : Int32) (h0 : Heap) (n0 : Nat) (v : Option Value) (h : Heap) (L : List Loc) : Prop := v = some (.ref a) ∧ Fr n0 L ∧ Keep h0 h [a, ba] ∧ Exa Z h a "java/lang/StringBuilder" ∧ Arv Z h ba kb .byte (16 : Int32) [(.int x0), (.int x1), (.int x2), (.int x3), (.int x4), (.int 0), (.int 0), (.int 0), (.int 0), (.int 0), (.int 0), (.int 0), (.int 0), (.int 0), (.int 0), (.int 0)] (.int 0) ∧ Fld Z h a "java/lang/AbstractStringBuilder" "value" "[B" (.ref ba) ∧ Fld Z h a "java/lang/AbstractStringBuilder" "coder" "B" (.int 0) ∧ Fld Z h a "java/lang/AbstractStringBuilder" "count" "I" (.int 5)
set_option maxRecDepth 65536 in
set_option maxHeartbeats 40000000 in
theorem own_rm24_2_3 (l : Launch) (Z : State) (a0 : Array Value) (hw : ∀ d ∈ tables_1, d.before a0 Z = true) (ws : List Jvm.Cond) (a : Addr) (sa : Addr) (cs : Int32) (fo : Value) (ba : Addr) (va : Addr) (kv : ClassId) (kb : ClassId) (x0 : Int32) (x1 : Int32) (x2 : Int32) (x3 : Int32) (x4 : Int32) (h0 : Heap) (n0 : Nat) (Zs : n0 ≤ h0.size) (OL : Old Z n0 h0) (S_cs : Sta Z Z.heap "java/lang/String" "COMPACT_STRINGS" "Z" (.int cs)) (hcs : ¬ (cs = (0 : Int32))) (S_fo : Sta Z Z.heap "jdk/internal/util/Preconditions" "SIOOBE_FORMATTER" "Ljava/util/function/BiFunction;" fo) (hfo : fo.isRef = true) (E_a : Exa Z h0 a "java/lang/StringBuilder") (g_a : n0 ≤ a) (F_a_value : Fld Z h0 a "java/lang/AbstractStringBuilder" "value" "[B" (.ref ba)) (F_a_coder : Fld Z h0 a "java/lang/AbstractStringBuilder" "coder" "B" (.int 0)) (F_a_count : Fld Z h0 a "java/lang/AbstractStringBuilder" "count" "I" (.int 3)) (E_sa : Exa Z h0 sa "java/lang/String") (F_sa_value : Fld Z h0 sa "java/lang/String" "value" "[B" (.ref va)) (F_sa_coder : Fld Z h0 sa "java/lang/String" "coder" "B" (.int 0)) (V_va : Arv Z h0 va kv .byte (2 : Int32) [(.int x3), (.int x4)] (.int 0)) (hd_x3 : own_Dg x3) (hd_x4 : own_Dg x4) (V_ba : Arv Z h0 ba kb .byte (16 : Int32) [(.int x0), (.int x1), (.int x2), (.int 0), (.int 0), (.int 0), (.int 0), (.int 0), (.int 0), (.int 0), (.int 0), (.int 0), (.int 0), (.int 0), (.int 0), (.int 0)] (.int 0)) (g_ba : n0 ≤ ba) (ne_va_ba : va ≠ ba) (ne_sa_ba : sa ≠ ba) (ne_a_ba : a ≠ ba) (ne_a_sa : a ≠ sa) (ne_a_va : a ≠ va) :
    MetFree l own_y22 (head1 (Jvm.Cond.code own_y22 jdk_68_method_22_code 3 (some (.object "java/lang/AbstractStringBuilder")) :: ws) ({ frames := 3, cells := 0, slots := 0, locals := 89 } : Room)) (fun aA_ U => aA_ = #[(.ref a), (.ref sa)] ∧ Z.Warmed39 U.vm ∧ U.heap = h0) (fun _ _ _ _ _ => True) (fun _ U o U' => ∃ v L, o = .returned v ∧ own_Q24_2_3 Z a sa cs fo ba va kv kb x0 x1 x2 x3 x4 h0 n0 v U'.heap L ∧ FrameEnd U o U' L ({ frames := 3, cells := 0, slots := 0, locals := 89 } : Room).cells ({ frames := 3, cells := 0, slots := 0, locals := 89 } : Room).slots) := by
  refine MetFree.of_bodySF (plainFor_of_name own_pn24_2_3) hisR ?_
  intro p e s m args below meth c s₁ Bd hml0 hP hK
  obtain ⟨rfl, hZ, hh⟩ := hP
  have hx := Bd.exec
  have hby := Bd.bytes
  have hml : c.maxLocals = 3 := hml0
  have hown : s.vm.findClass "java/lang/AbstractStringBuilder" = some m.cls := findClass_of_methodNamed Bd.named
  have hnm := (name_of_methodNamed Bd.named Bd.method).1
  have X0 : Stand p l e ({ frames := 3, cells := 0, slots := 0, locals := 89 } : Room) s m #[(.ref a), (.ref sa)] below meth c s₁ [] 0 0 := Stand.of_body Bd
  have e0 : s₁.heap = h0 := by rw [← hh, Bd.state]; rfl
  have NF := Fr.nil n0
  rw [own_ef24_2_3 m a sa]
  show own_Dn p e below s (own_Q24_2_3 Z a sa cs fo ba va kv kb x0 x1 x2 x3 x4 h0 n0) 0 0 s₁ (mkF m 0 #[.val (.ref a), .val (.ref sa), .unset] [])
  have KP := Keep.refl h0 [a, ba]
  refine own_p (g' := (mkF m 1 #[rv a, rv sa, oU] [(.ref sa)])) (fun _ k => XS.aloadN X0.here hx rfl (hb hby own_dB22_0) rfl rfl k) ?_
  refine own_p (g' := (mkF m 10 #[rv a, rv sa, oU] [(.ref sa)])) (fun _ k => XS.ifnonnullYes X0.here hx rfl (pc0 := 1) (pc' := 9) rfl (hb hby own_dB22_1) rfl (by decide) (by decide) (XS.aloadN X0.here hx rfl (hb hby own_dB22_9) rfl rfl k)) ?_
  obtain ⟨cq2, kq2, q2a, q2b, q2c⟩ := isOf hZ e0 E_sa
  obtain ⟨_, _, ⟨T2, L2, k2, n2⟩, -, X2, ⟨Lc2, hQ2, l2, y2, z2⟩, st2⟩ := X0.virtualBack hx (y := own_y9) (z := own_y9) hown (mvT hZ (own_W hw 107 rfl)) (mvT hZ (own_W hw 48 rfl)) (notFace_of_selects (args := #[]) (mvT hZ (own_W hw 50 rfl))) (mvT hZ (own_W hw 50 rfl)) (mvT hZ (own_W hw 49 rfl)) (by decide) (backOf (W := 0) (own_rm10 l Z a0 hw [] sa cs fo va kv (2 : Int32) [(.int x3), (.int x4)] h0 n0 Zs OL S_cs hcs S_fo hfo E_sa F_sa_value F_sa_coder V_va) hZ (own_W hw 51 rfl) (own_W hw 10 rfl) (by decide) (by decide)) q2a q2c (g := (mkF m 10 #[rv a, rv sa, oU] [(.ref sa)])) rfl (by rw [hml]; rfl) (Steps.refl _) (argsL := []) (rest := []) (lenOf own_pd24_2_3_0 rfl) rfl (Nat.le_refl _) (hb hby own_dB22_10) (fun _ _ => ⟨rfl, e0, (by decide : 0 + 0 ≤ _), (by decide : 0 + 0 ≤ _)⟩)
  dsimp only [Pt.U, Pt.locs, Pt.cells, Pt.slots] at X2 l2 y2 z2 st2 hQ2
  subst l2 y2 z2
  obtain ⟨rfl, NQ2, eq2⟩ := hQ2
  have NF := Fr.app NF NQ2
  refine own_go (T' := T2) (g' := (mkF m 13 #[rv a, rv sa, oU] [(.int 2)])) (fun _ k => st2.trans k) ?_
  refine own_p (g' := (mkF m 16 #[rv a, rv sa, iv 2] [(.ref a), (.ref a)])) (fun _ k => XS.istoreN X2.here hx rfl (hb hby own_dB22_13) rfl (l' := #[rv a, rv sa, iv 2]) rfl (XS.aloadN X2.here hx rfl (hb hby own_dB22_14) rfl rfl (XS.aloadN X2.here hx rfl (hb hby own_dB22_15) rfl rfl k))) ?_
  obtain ⟨T3, X3, e3, st3⟩ := getF X2 hx hZ hown (host := "") (Or.inl (own_W hw 108 rfl)) Via.refl eq2 F_a_count (g := (mkF m 16 #[rv a, rv sa, iv 2] [(.ref a), (.ref a)])) rfl rfl (hb hby own_dB22_16)
  refine own_go (T' := T3) (g' := (mkF m 19 #[rv a, rv sa, iv 2] [(.int 3), (.ref a)])) (fun _ k => st3 _ k) ?_
  refine own_p (g' := (mkF m 21 #[rv a, rv sa, iv 2] [(.int 5), (.ref a)])) (fun _ k => XS.iloadN X3.here hx rfl (hb hby own_dB22_19) rfl (XS.iadd X3.here hx rfl (hb hby own_dB22_20) rfl k)) ?_
  obtain ⟨cq4, kq4, q4a, q4b, q4c⟩ := isOf hZ e3 E_a
  obtain ⟨_, _, ⟨T4, L4, k4, n4⟩, -, X4, ⟨Lc4, hQ4, l4, y4, z4⟩, st4⟩ := X3.virtualBack hx (y := own_y19) (z := own_y19) hown (mvT hZ (own_W hw 110 rfl)) (mvT hZ (own_dec (own_W hw 111 rfl) (own_W hw 114 rfl))) (notFace_of_selects (args := #[]) (mvT hZ (own_W hw 113 rfl))) (mvT hZ (own_W hw 113 rfl)) (mvT hZ (own_W hw 111 rfl)) (by decide) (backOf (W := 0) (own_rm21_5 l Z a0 hw [] a ba kb [(.int x0), (.int x1), (.int x2), (.int 0), (.int 0), (.int 0), (.int 0), (.int 0), (.int 0), (.int 0), (.int 0), (.int 0), (.int 0), (.int 0), (.int 0), (.int 0)] h0 n0 Zs F_a_value F_a_coder V_ba) hZ (own_W hw 114 rfl) (own_W hw 89 rfl) (by decide) (by decide)) q4a q4c (g := (mkF m 21 #[rv a, rv sa, iv 2] [(.int 5), (.ref a)])) rfl (by rw [hml]; rfl) (Steps.refl _) (argsL := [(.int 5)]) (rest := []) (lenOf own_pd24_2_3_1 rfl) rfl (Nat.le_refl _) (hb hby own_dB22_21) (fun _ _ => ⟨rfl, e3, (by decide : 0 + 0 ≤ _), (by decide : 0 + 0 ≤ _)⟩)
  dsimp only [Pt.U, Pt.locs, Pt.cells, Pt.slots] at X4 l4 y4 z4 st4 hQ4
  subst l4 y4 z4
  obtain ⟨rfl, NQ4, eq4⟩ := hQ4
  have NF := Fr.app NF NQ4
  refine own_go (T' := T4) (g' := (mkF m 24 #[rv a, rv sa, iv 2] [])) (fun _ k => st4.trans k) ?_
  refine own_p (g' := (mkF m 26 #[rv a, rv sa, iv 2] [(.ref a), (.ref a)])) (fun _ k => XS.aloadN X4.here hx rfl (hb hby own_dB22_24) rfl rfl (XS.aloadN X4.here hx rfl (hb hby own_dB22_25) rfl rfl k)) ?_
  obtain ⟨T5, X5, e5, st5⟩ := getF X4 hx hZ hown (host := "") (Or.inl (own_W hw 108 rfl)) Via.refl eq4 F_a_count (g := (mkF m 26 #[rv a, rv sa, iv 2] [(.ref a), (.ref a)])) rfl rfl (hb hby own_dB22_26)
  refine own_go (T' := T5) (g' := (mkF m 29 #[rv a, rv sa, iv 2] [(.int 3), (.ref a)])) (fun _ k => st5 _ k) ?_
  refine own_p (g' := (mkF m 30 #[rv a, rv sa, iv 2] [(.ref sa), (.int 3), (.ref a)])) (fun _ k => XS.aloadN X5.here hx rfl (hb hby own_dB22_29) rfl rfl k) ?_
  obtain ⟨cq6, kq6, q6a, q6b, q6c⟩ := isOf hZ e5 E_a
  obtain ⟨_, _, ⟨T6, L6, k6, n6⟩, -, X6, ⟨Lc6, hQ6, l6, y6, z6⟩, st6⟩ := X5.virtualBack hx (y := own_y21) (z := own_y21) hown (mvT hZ (own_W hw 115 rfl)) (mvT hZ (own_dec (own_W hw 116 rfl) (own_W hw 119 rfl))) (notFace_of_selects (args := #[]) (mvT hZ (own_W hw 118 rfl))) (mvT hZ (own_W hw 118 rfl)) (mvT hZ (own_W hw 116 rfl)) (by decide) (backOf (W := 0) (own_rm23_2_3 l Z a0 hw [] a sa cs fo ba va kv kb x0 x1 x2 x3 x4 h0 n0 Zs OL S_cs hcs S_fo hfo E_a F_a_value F_a_coder E_sa F_sa_value F_sa_coder V_va hd_x3 hd_x4 V_ba g_ba ne_va_ba ne_sa_ba ne_a_ba) hZ (own_W hw 119 rfl) (own_W hw 89 rfl) (by decide) (by decide)) q6a q6c (g := (mkF m 30 #[rv a, rv sa, iv 2] [(.ref sa), (.int 3), (.ref a)])) rfl (by rw [hml]; rfl) (Steps.refl _) (argsL := [(.int 3), (.ref sa)]) (rest := []) (lenOf own_pd24_2_3_2 rfl) rfl (Nat.le_refl _) (hb hby own_dB22_30) (fun _ _ => ⟨rfl, e5, (by decide : 0 + 0 ≤ _), (by decide : 0 + 0 ≤ _)⟩)
  dsimp only [Pt.U, Pt.locs, Pt.cells, Pt.slots] at X6 l6 y6 z6 st6 hQ6
  subst l6 y6 z6
  obtain ⟨rfl, NQ6, K6, V_ba⟩ := hQ6
  have NF := Fr.app NF NQ6
  have E_a := E_a.keep K6
  have F_a_value := F_a_value.keep K6 (ninS ne_a_ba nin0)
  have F_a_coder := F_a_coder.keep K6 (ninS ne_a_ba nin0)
  have F_a_count := F_a_count.keep K6 (ninS ne_a_ba nin0)
  have E_sa := E_sa.keep K6
  have F_sa_value := F_sa_value.keep K6 (ninS ne_sa_ba nin0)
  have F_sa_coder := F_sa_coder.keep K6 (ninS ne_sa_ba nin0)
  have V_va := V_va.keep K6 (ninS ne_va_ba nin0)
  have OL := OL.keep K6 (allS g_ba all0)
  have Zs := Nat.le_trans Zs K6.1
  have KP := KP.trans K6 ((allS (Or.inl (by simp)) all0))
  refine own_go (T' := T6) (g' := (mkF m 33 #[rv a, rv sa, iv 2] [])) (fun _ k => st6.trans k) ?_
  refine own_p (g' := (mkF m 35 #[rv a, rv sa, iv 2] [(.ref a), (.ref a)])) (fun _ k => XS.aloadN X6.here hx rfl (hb hby own_dB22_33) rfl rfl (XS.dup X6.here hx rfl (hb hby own_dB22_34) rfl rfl k)) ?_
  obtain ⟨T7, X7, e7, st7⟩ := getF X6 hx hZ hown (host := "") (Or.inl (own_W hw 108 rfl)) Via.refl rfl F_a_count (g := (mkF m 35 #[rv a, rv sa, iv 2] [(.ref a), (.ref a)])) rfl rfl (hb hby own_dB22_35)
  refine own_go (T' := T7) (g' := (mkF m 38 #[rv a, rv sa, iv 2] [(.int 3), (.ref a)])) (fun _ k => st7 _ k) ?_
  refine own_p (g' := (mkF m 40 #[rv a, rv sa, iv 2] [(.int 5), (.ref a)])) (fun _ k => XS.iloadN X7.here hx rfl (hb hby own_dB22_38) rfl (XS.iadd X7.here hx rfl (hb hby own_dB22_39) rfl k)) ?_
  obtain ⟨T8, h8, X8, e8, W8, st8⟩ := putF X7 hx hZ hown (host := "") (Or.inl (own_W hw 108 rfl)) Via.refl e7 F_a_count E_a (Or.inl (own_W hw 109 rfl)) (own_W hw 80 rfl) (ty := .int) (by decide) rfl rfl (g := (mkF m 40 #[rv a, rv sa, iv 2] [(.int 5), (.ref a)])) rfl rfl (hb hby own_dB22_40)
  have E_a := E_a.wr W8
  have F_a_value := F_a_value.other W8 (Or.inr (slot_ne (Or.inl (own_W hw 94 rfl)) (Or.inl (own_W hw 109 rfl)) (by decide) (t := (.array .byte)) (t' := .int) (by decide) (by decide)))
  have F_a_coder := F_a_coder.other W8 (Or.inr (slot_ne (Or.inl (own_W hw 96 rfl)) (Or.inl (own_W hw 109 rfl)) (by decide) (t := .byte) (t' := .int) (by decide) (by decide)))
  have E_sa := E_sa.wr W8
  have F_sa_value := F_sa_value.other W8 (Or.inl (Ne.symm ne_a_sa))
  have F_sa_coder := F_sa_coder.other W8 (Or.inl (Ne.symm ne_a_sa))
  have V_va := V_va.other W8 (Ne.symm ne_a_va)
  have V_ba := V_ba.other W8 (Ne.symm ne_a_ba)
  have OL := OL.wr W8 g_a
  have Zs := Nat.le_trans Zs (Keep.of_wr W8).1
  have F_a_count := F_a_count.same W8
  have KP := KP.wr W8 (Or.inl (by simp))
  have NF := Fr.snoc X8 NF g_a
  refine own_go (T' := T8) (g' := (mkF m 43 #[rv a, rv sa, iv 2] [])) (fun _ k => st8 _ k) ?_
  refine own_p (g' := (mkF m 44 #[rv a, rv sa, iv 2] [(.ref a)])) (fun _ k => XS.aloadN X8.here hx rfl (hb hby own_dB22_43) rfl rfl k) ?_
  refine own_ret X8 Bd.notSynchronized (some (.ref a)) (fun h => by rw [Bd.returns] at h; cases h) (fun fs hr => retOut X8 hx (t := (.object "java/lang/AbstractStringBuilder")) Bd.returns rfl (Or.inr (Or.inr (Or.inr (Or.inr ⟨rfl, rfl, rfl⟩)))) (hb hby own_dB22_44) hr) ?_ (by decide) (by decide)
  show (own_Q24_2_3 Z a sa cs fo ba va kv kb x0 x1 x2 x3 x4 h0 n0) (some (.ref a)) T8.heap _
  rw [e8]
  exact ⟨rfl, NF, KP, E_a, V_ba, F_a_value, F_a_coder, F_a_count⟩
theorem own_pn25_2_3 : plainName "java/lang/StringBuilder" = true := by first | (simp [plainName, overriddenIn]; done) | decide +kernel
theorem own_pd25_2_3_0 : parseMethodDescriptor "(Ljava/lang/String;)Ljava/lang/AbstractStringBuilder;" = some ⟨[(.object "java/lang/String")], some (.object "java/lang/AbstractStringBuilder")⟩ := by decide +kernel
theorem own_ef25_2_3 (m : MethodId) (a : Addr) (sa : Addr) : entryFrame m #[(.ref a), (.ref sa)] 2 = mkF m 0 #[.val (.ref a), .val (.ref sa)] [] := by first | (simp [entryFrame, mkF, argsToLocals, Value.category]; done) | rfl
def own_Q25_2_3 (Z : State) (a : Addr) (sa : Addr) (cs : Int32) (fo : Value) (ba : Addr) (va : Addr) (kv : ClassId) (kb : ClassId) (x0 : Int32) (x1 : Int32) (x2 : Int32) (x3 : Int32) (x4 : Int32) (h0 : Heap) (n0 : Nat) (v : Option Value) (h : Heap) (L : List Loc) : Prop := v = some (.ref a) ∧ Fr n0 L ∧ Keep h0 h [a, ba] ∧ Exa Z h a "java/lang/StringBuilder" ∧ Arv Z h ba kb .byte (16 : Int32) [(.int x0), (.int x1), (.int x2), (.int x3), (.int x4), (.int 0), (.int 0), (.int 0), (.int 0), (.int 0), (.int 0), (.int 0), (.int 0), (.int 0), (.int 0), (.int 0)] (.int 0) ∧ Fld Z h a "java/lang/AbstractStringBuilder" "value" "[B" (.ref ba) ∧ Fld Z h a "java/lang/AbstractStringBuilder" "coder" "B" (.int 0) ∧ Fld Z h a "java/lang/AbstractStringBuilder" "count" "I" (.int 5)
set_option maxRecDepth 65536 in
set_option maxHeartbeats 40000000 in
theorem own_rm25_2_3 (l : Launch) (Z : State) (a0 : Array Value) (hw : ∀ d ∈ tables_1, d.before a0 Z = true) (ws : List Jvm.Cond) (a : Addr) (sa : Addr) (cs : Int32) (fo : Value) (ba : Addr) (va : Addr) (kv : ClassId) (kb : ClassId) (x0 : Int32) (x1 : Int32) (x2 : Int32) (x3 : Int32) (x4 : Int32) (h0 : Heap) (n0 : Nat) (Zs : n0 ≤ h0.size) (OL : Old Z n0 h0) (S_cs : Sta Z Z.heap "java/lang/String" "COMPACT_STRINGS" "Z" (.int cs)) (hcs : ¬ (cs = (0 : Int32))) (S_fo : Sta Z Z.heap "jdk/internal/util/Preconditions" "SIOOBE_FORMATTER" "Ljava/util/function/BiFunction;" fo) (hfo : fo.isRef = true) (E_a : Exa Z h0 a "java/lang/StringBuilder") (g_a : n0 ≤ a) (F_a_value : Fld Z h0 a "java/lang/AbstractStringBuilder" "value" "[B" (.ref ba)) (F_a_coder : Fld Z h0 a "java/lang/AbstractStringBuilder" "coder" "B" (.int 0)) (F_a_count : Fld Z h0 a "java/lang/AbstractStringBuilder" "count" "I" (.int 3)) (E_sa : Exa Z h0 sa "java/lang/String") (F_sa_value : Fld Z h0 sa "java/lang/String" "value" "[B" (.ref va)) (F_sa_coder : Fld Z h0 sa "java/lang/String" "coder" "B" (.int 0)) (V_va : Arv Z h0 va kv .byte (2 : Int32) [(.int x3), (.int x4)] (.int 0)) (hd_x3 : own_Dg x3) (hd_x4 : own_Dg x4) (V_ba : Arv Z h0 ba kb .byte (16 : Int32) [(.int x0), (.int x1), (.int x2), (.int 0), (.int 0), (.int 0), (.int 0), (.int 0), (.int 0), (.int 0), (.int 0), (.int 0), (.int 0), (.int 0), (.int 0), (.int 0)] (.int 0)) (g_ba : n0 ≤ ba) (ne_va_ba : va ≠ ba) (ne_sa_ba : sa ≠ ba) (ne_a_ba : a ≠ ba) (ne_a_sa : a ≠ sa) (ne_a_va : a ≠ va) :
    MetFree l own_y23 (head1 (Jvm.Cond.code own_y23 jdk_67_method_7_code 2 (some (.object "java/lang/StringBuilder")) :: ws) ({ frames := 4, cells := 0, slots := 0, locals := 103 } : Room)) (fun aA_ U => aA_ = #[(.ref a), (.ref sa)] ∧ Z.Warmed39 U.vm ∧ U.heap = h0) (fun _ _ _ _ _ => True) (fun _ U o U' => ∃ v L, o = .returned v ∧ own_Q25_2_3 Z a sa cs fo ba va kv kb x0 x1 x2 x3 x4 h0 n0 v U'.heap L ∧ FrameEnd U o U' L ({ frames := 4, cells := 0, slots := 0, locals := 103 } : Room).cells ({ frames := 4, cells := 0, slots := 0, locals := 103 } : Room).slots) := by
  refine MetFree.of_bodySF (plainFor_of_name own_pn25_2_3) hisR ?_
  intro p e s m args below meth c s₁ Bd hml0 hP hK
  obtain ⟨rfl, hZ, hh⟩ := hP
  have hx := Bd.exec
  have hby := Bd.bytes
  have hml : c.maxLocals = 2 := hml0
  have hown : s.vm.findClass "java/lang/StringBuilder" = some m.cls := findClass_of_methodNamed Bd.named
  have hnm := (name_of_methodNamed Bd.named Bd.method).1
  have X0 : Stand p l e ({ frames := 4, cells := 0, slots := 0, locals := 103 } : Room) s m #[(.ref a), (.ref sa)] below meth c s₁ [] 0 0 := Stand.of_body Bd
  have e0 : s₁.heap = h0 := by rw [← hh, Bd.state]; rfl
  have NF := Fr.nil n0
  rw [own_ef25_2_3 m a sa]
  show own_Dn p e below s (own_Q25_2_3 Z a sa cs fo ba va kv kb x0 x1 x2 x3 x4 h0 n0) 0 0 s₁ (mkF m 0 #[.val (.ref a), .val (.ref sa)] [])
  have KP := Keep.refl h0 [a, ba]
  refine own_p (g' := (mkF m 2 #[rv a, rv sa] [(.ref sa), (.ref a)])) (fun _ k => XS.aloadN X0.here hx rfl (hb hby own_dB23_0) rfl rfl (XS.aloadN X0.here hx rfl (hb hby own_dB23_1) rfl rfl k)) ?_
  obtain ⟨_, _, ⟨T1, L1, k1, n1⟩, -, X1, ⟨Lc1, hQ1, l1, y1, z1⟩, st1⟩ := superBack X0 hx hZ (K := "java/lang/StringBuilder") (y := own_y22) hown (own_W hw 102 rfl) (own_sm (y := own_y22) (y' := own_y19) rfl (own_W hw 105 rfl) (own_W hw 113 rfl) (by decide)) (own_W hw 103 rfl) (own_W hw 104 rfl) (by decide) (backOf (W := 0) (own_rm24_2_3 l Z a0 hw [] a sa cs fo ba va kv kb x0 x1 x2 x3 x4 h0 n0 Zs OL S_cs hcs S_fo hfo E_a g_a F_a_value F_a_coder F_a_count E_sa F_sa_value F_sa_coder V_va hd_x3 hd_x4 V_ba g_ba ne_va_ba ne_sa_ba ne_a_ba ne_a_sa ne_a_va) hZ (own_W hw 106 rfl) (own_W hw 89 rfl) (by decide) (by decide)) e0 (Ins.self E_a) (g := (mkF m 2 #[rv a, rv sa] [(.ref sa), (.ref a)])) rfl (by rw [hml]; rfl) (own_W hw 106 rfl) (a := a) (argsL := [(.ref sa)]) (rest := []) (lenOf own_pd25_2_3_0 rfl) rfl (Nat.le_refl _) (hb hby own_dB23_2) (fun _ _ => ⟨rfl, e0, (by decide : 0 + 0 ≤ _), (by decide : 0 + 0 ≤ _)⟩)
  dsimp only [Pt.U, Pt.locs, Pt.cells, Pt.slots] at X1 l1 y1 z1 st1 hQ1
  subst l1 y1 z1
  obtain ⟨rfl, NQ1, K1, E_a, V_ba, F_a_value, F_a_coder, F_a_count⟩ := hQ1
  have NF := Fr.app NF NQ1
  have E_sa := E_sa.keep K1
  have F_sa_value := F_sa_value.keep K1 (ninS (Ne.symm ne_a_sa) (ninS ne_sa_ba nin0))
  have F_sa_coder := F_sa_coder.keep K1 (ninS (Ne.symm ne_a_sa) (ninS ne_sa_ba nin0))
  have V_va := V_va.keep K1 (ninS (Ne.symm ne_a_va) (ninS ne_va_ba nin0))
  have OL := OL.keep K1 (allS g_a (allS g_ba all0))
  have Zs := Nat.le_trans Zs K1.1
  have KP := KP.trans K1 ((allS (Or.inl (by simp)) (allS (Or.inl (by simp)) all0)))
  refine own_go (T' := T1) (g' := (mkF m 5 #[rv a, rv sa] [(.ref a)])) (fun _ k => st1.trans k) ?_
  refine own_p (g' := (mkF m 7 #[rv a, rv sa] [(.ref a)])) (fun _ k => XS.pop X1.here hx rfl (hb hby own_dB23_5) rfl rfl (XS.aloadN X1.here hx rfl (hb hby own_dB23_6) rfl rfl k)) ?_
  refine own_ret X1 Bd.notSynchronized (some (.ref a)) (fun h => by rw [Bd.returns] at h; cases h) (fun fs hr => retOut X1 hx (t := (.object "java/lang/StringBuilder")) Bd.returns rfl (Or.inr (Or.inr (Or.inr (Or.inr ⟨rfl, rfl, rfl⟩)))) (hb hby own_dB23_7) hr) ?_ (by decide) (by decide)
  show (own_Q25_2_3 Z a sa cs fo ba va kv kb x0 x1 x2 x3 x4 h0 n0) (some (.ref a)) T1.heap _
  exact ⟨rfl, NF, KP, E_a, V_ba, F_a_value, F_a_coder, F_a_count⟩
theorem own_pn22_3_3 : plainName "java/lang/String" = true := by first | (simp [plainName, overriddenIn]; done) | decide +kernel
theorem own_pd22_3_3_0 : parseMethodDescriptor "()B" = some ⟨[], some .byte⟩ := by decide +kernel
theorem own_ef22_3_3 (m : MethodId) (sa : Addr) (ba : Addr) : entryFrame m #[(.ref sa), (.ref ba), (.int 3), (.int 0)] 4 = mkF m 0 #[.val (.ref sa), .val (.ref ba), .val (.int 3), .val (.int 0)] [] := by first | (simp [entryFrame, mkF, argsToLocals, Value.category]; done) | rfl
def own_Q22_3_3 (Z : State) (sa : Addr) (ba : Addr) (cs : Int32) (fo : Value) (va : Addr) (kv : ClassId) (kb : ClassId) (x0 : Int32) (x1 : Int32) (x2 : Int32) (x3 : Int32) (x4 : Int32) (x5 : Int32) (h0 : Heap) (n0 : Nat) (v : Option Value) (h : Heap) (L : List Loc) : Prop := v = none ∧ Fr n0 L ∧ Keep h0 h [ba] ∧ Arv Z h ba kb .byte (16 : Int32) [(.int x0), (.int x1), (.int x2), (.int x3), (.int x4), (.int x5), (.int 0), (.int 0), (.int 0), (.int 0), (.int 0), (.int 0), (.int 0), (.int 0), (.int 0), (.int 0)] (.int 0)
set_option maxRecDepth 65536 in
set_option maxHeartbeats 40000000 in
theorem own_rm22_3_3 (l : Launch) (Z : State) (a0 : Array Value) (hw : ∀ d ∈ tables_1, d.before a0 Z = true) (ws : List Jvm.Cond) (sa : Addr) (ba : Addr) (cs : Int32) (fo : Value) (va : Addr) (kv : ClassId) (kb : ClassId) (x0 : Int32) (x1 : Int32) (x2 : Int32) (x3 : Int32) (x4 : Int32) (x5 : Int32) (h0 : Heap) (n0 : Nat) (Zs : n0 ≤ h0.size) (OL : Old Z n0 h0) (S_cs : Sta Z Z.heap "java/lang/String" "COMPACT_STRINGS" "Z" (.int cs)) (hcs : ¬ (cs = (0 : Int32))) (S_fo : Sta Z Z.heap "jdk/internal/util/Preconditions" "SIOOBE_FORMATTER" "Ljava/util/function/BiFunction;" fo) (hfo : fo.isRef = true) (E_sa : Exa Z h0 sa "java/lang/String") (F_sa_value : Fld Z h0 sa "java/lang/String" "value" "[B" (.ref va)) (F_sa_coder : Fld Z h0 sa "java/lang/String" "coder" "B" (.int 0)) (V_va : Arv Z h0 va kv .byte (3 : Int32) [(.int x3), (.int x4), (.int x5)] (.int 0)) (hd_x3 : own_Dg x3) (hd_x4 : own_Dg x4) (hd_x5 : own_Dg x5) (V_ba : Arv Z h0 ba kb .byte (16 : Int32) [(.int x0), (.int x1), (.int x2), (.int 0), (.int 0), (.int 0), (.int 0), (.int 0), (.int 0), (.int 0), (.int 0), (.int 0), (.int 0), (.int 0), (.int 0), (.int 0)] (.int 0)) (g_ba : n0 ≤ ba) (ne_va_ba : va ≠ ba) (ne_sa_ba : sa ≠ ba) :
    MetFree l own_y20 (head1 (Jvm.Cond.code own_y20 jdk_42_method_147_code 4 none :: ws) ({ frames := 1, cells := 0, slots := 0, locals := 60 } : Room)) (fun aA_ U => aA_ = #[(.ref sa), (.ref ba), (.int 3), (.int 0)] ∧ Z.Warmed39 U.vm ∧ U.heap = h0) (fun _ _ _ _ _ => True) (fun _ U o U' => ∃ v L, o = .returned v ∧ own_Q22_3_3 Z sa ba cs fo va kv kb x0 x1 x2 x3 x4 x5 h0 n0 v U'.heap L ∧ FrameEnd U o U' L ({ frames := 1, cells := 0, slots := 0, locals := 60 } : Room).cells ({ frames := 1, cells := 0, slots := 0, locals := 60 } : Room).slots) := by
  refine MetFree.of_bodySF (plainFor_of_name own_pn22_3_3) hisR ?_
  intro p e s m args below meth c s₁ Bd hml0 hP hK
  obtain ⟨rfl, hZ, hh⟩ := hP
  have hx := Bd.exec
  have hby := Bd.bytes
  have hml : c.maxLocals = 4 := hml0
  have hown : s.vm.findClass "java/lang/String" = some m.cls := findClass_of_methodNamed Bd.named
  have hnm := (name_of_methodNamed Bd.named Bd.method).1
  have X0 : Stand p l e ({ frames := 1, cells := 0, slots := 0, locals := 60 } : Room) s m #[(.ref sa), (.ref ba), (.int 3), (.int 0)] below meth c s₁ [] 0 0 := Stand.of_body Bd
  have e0 : s₁.heap = h0 := by rw [← hh, Bd.state]; rfl
  have NF := Fr.nil n0
  rw [own_ef22_3_3 m sa ba]
  show own_Dn p e below s (own_Q22_3_3 Z sa ba cs fo va kv kb x0 x1 x2 x3 x4 x5 h0 n0) 0 0 s₁ (mkF m 0 #[.val (.ref sa), .val (.ref ba), .val (.int 3), .val (.int 0)] [])
  have KP := Keep.refl h0 [ba]
  refine own_p (g' := (mkF m 1 #[rv sa, rv ba, iv 3, iv 0] [(.ref sa)])) (fun _ k => XS.aloadN X0.here hx rfl (hb hby own_dB20_0) rfl rfl k) ?_
  obtain ⟨cq1, kq1, q1a, q1b, q1c⟩ := isOf hZ e0 E_sa
  obtain ⟨_, _, ⟨T1, L1, k1, n1⟩, -, X1, ⟨Lc1, hQ1, l1, y1, z1⟩, st1⟩ := X0.virtualBack hx (y := own_y7) (z := own_y7) hown (mvT hZ (own_W hw 52 rfl)) (mvT hZ (own_W hw 53 rfl)) (notFace_of_selects (args := #[]) (mvT hZ (own_W hw 55 rfl))) (mvT hZ (own_W hw 55 rfl)) (mvT hZ (own_W hw 54 rfl)) (by decide) (backOf (W := 0) (own_rm8 l Z a0 hw [] sa cs fo h0 n0 Zs OL S_cs hcs S_fo hfo F_sa_coder) hZ (own_W hw 56 rfl) (own_W hw 10 rfl) (by decide) (by decide)) q1a q1c (g := (mkF m 1 #[rv sa, rv ba, iv 3, iv 0] [(.ref sa)])) rfl (by rw [hml]; rfl) (Steps.refl _) (argsL := []) (rest := []) (lenOf own_pd22_3_3_0 rfl) rfl (Nat.le_refl _) (hb hby own_dB20_1) (fun _ _ => ⟨rfl, e0, (by decide : 0 + 0 ≤ _), (by decide : 0 + 0 ≤ _)⟩)
  dsimp only [Pt.U, Pt.locs, Pt.cells, Pt.slots] at X1 l1 y1 z1 st1 hQ1
  subst l1 y1 z1
  obtain ⟨rfl, NQ1, eq1⟩ := hQ1
  have NF := Fr.app NF NQ1
  refine own_go (T' := T1) (g' := (mkF m 4 #[rv sa, rv ba, iv 3, iv 0] [(.int 0)])) (fun _ k => st1.trans k) ?_
  refine own_p (g' := (mkF m 9 #[rv sa, rv ba, iv 3, iv 0] [(.ref sa)])) (fun _ k => XS.iloadN X1.here hx rfl (hb hby own_dB20_4) rfl (XS.icmpNo X1.here hx rfl (hb hby own_dB20_5) rfl (by decide) (XS.aloadN X1.here hx rfl (hb hby own_dB20_8) rfl rfl k))) ?_
  obtain ⟨T2, X2, e2, st2⟩ := getF X1 hx hZ hown (host := "") (Or.inl (own_W hw 35 rfl)) Via.refl eq1 F_sa_value (g := (mkF m 9 #[rv sa, rv ba, iv 3, iv 0] [(.ref sa)])) rfl rfl (hb hby own_dB20_9)
  refine own_go (T' := T2) (g' := (mkF m 12 #[rv sa, rv ba, iv 3, iv 0] [(.ref va)])) (fun _ k => st2 _ k) ?_
  refine own_p (g' := (mkF m 15 #[rv sa, rv ba, iv 3, iv 0] [(.int 3), (.ref ba), (.int 0), (.ref va)])) (fun _ k => XS.iconst X2.here hx rfl (hb hby own_dB20_12) (XS.aloadN X2.here hx rfl (hb hby own_dB20_13) rfl rfl (XS.iloadN X2.here hx rfl (hb hby own_dB20_14) rfl k))) ?_
  refine own_p (g' := (mkF m 18 #[rv sa, rv ba, iv 3, iv 0] [(.ref sa), (.int 3), (.ref ba), (.int 0), (.ref va)])) (fun _ k => XS.iloadN X2.here hx rfl (hb hby own_dB20_15) rfl (XS.ishl X2.here hx rfl (hb hby own_dB20_16) rfl (XS.aloadN X2.here hx rfl (hb hby own_dB20_17) rfl rfl k))) ?_
  obtain ⟨T3, X3, e3, st3⟩ := getF X2 hx hZ hown (host := "") (Or.inl (own_W hw 35 rfl)) Via.refl e2 F_sa_value (g := (mkF m 18 #[rv sa, rv ba, iv 3, iv 0] [(.ref sa), (.int 3), (.ref ba), (.int 0), (.ref va)])) rfl rfl (hb hby own_dB20_18)
  refine own_go (T' := T3) (g' := (mkF m 21 #[rv sa, rv ba, iv 3, iv 0] [(.ref va), (.int 3), (.ref ba), (.int 0), (.ref va)])) (fun _ k => st3 _ k) ?_
  obtain ⟨c_4, Ar_4, q_4, S_4, N_4, H_4, G_4⟩ := id V_va
  refine own_go (T' := T3) (g' := (mkF m 22 #[rv sa, rv ba, iv 3, iv 0] [(.int 3), (.int 3), (.ref ba), (.int 0), (.ref va)])) (fun _ k => X3.arraylength hx (by rw [e3]; exact Ar_4.1) (State.isArrayOf_alike hZ.alike Ar_4.2.1) (g := (mkF m 21 #[rv sa, rv ba, iv 3, iv 0] [(.ref va), (.int 3), (.ref ba), (.int 0), (.ref va)])) rfl rfl (hb hby own_dB20_21) _ (by rw [len_of S_4 N_4]; exact k)) ?_
  obtain ⟨T5, h5, L5, X5, e5, NF, K5, VC5, st5⟩ := cpA X3 hx hZ hown (own_W hw 131 rfl) (own_W hw 134 rfl) (own_W hw 132 rfl) (own_W hw 133 rfl) e3 V_va V_ba (us := [(.int x3), (.int x4), (.int x5)]) (Or.inl ⟨rfl, rfl⟩) (sp := (0 : Int32)) (dp := (3 : Int32)) (nn := (3 : Int32)) (by decide) (by decide) (by decide) (by decide) (by decide) rfl (Nat.le_of_ble_eq_true rfl) NF g_ba (g := (mkF m 22 #[rv sa, rv ba, iv 3, iv 0] [(.int 3), (.int 3), (.ref ba), (.int 0), (.ref va)])) rfl (by rw [hml]; rfl) rfl (hb hby own_dB20_22) (by decide) (W := 0) (Nat.le_refl _) (by decide +kernel)
  have E_sa := E_sa.keep K5
  have F_sa_value := F_sa_value.keep K5 (ninS ne_sa_ba nin0)
  have F_sa_coder := F_sa_coder.keep K5 (ninS ne_sa_ba nin0)
  have V_va := V_va.keep K5 (ninS ne_va_ba nin0)
  have OL := OL.keep K5 (allS g_ba all0)
  have Zs := Nat.le_trans Zs K5.1
  have KP := KP.trans K5 ((allS (Or.inl (by simp)) all0))
  have V_ba : Arv Z h5 ba kb .byte (16 : Int32) [(.int x0), (.int x1), (.int x2), (.int x3), (.int x4), (.int x5), (.int 0), (.int 0), (.int 0), (.int 0), (.int 0), (.int 0), (.int 0), (.int 0), (.int 0), (.int 0)] (.int 0) := VC5
  refine own_go (T' := T5) (g' := (mkF m 25 #[rv sa, rv ba, iv 3, iv 0] [])) (fun _ k => st5 _ k) ?_
  refine own_p (g' := (mkF m 43 #[rv sa, rv ba, iv 3, iv 0] [])) (fun _ k => XS.goto X5.here hx rfl (pc0 := 25) (pc' := 43) rfl (hb hby own_dB20_25) (by decide) (by decide) k) ?_
  refine own_ret X5 Bd.notSynchronized none (fun _ => rfl) (fun fs hr => X5.returnOut hx Bd.returns (hb hby own_dB20_43) hr) ?_ (by decide) (by decide)
  show (own_Q22_3_3 Z sa ba cs fo va kv kb x0 x1 x2 x3 x4 x5 h0 n0) none T5.heap _
  rw [e5]
  exact ⟨rfl, NF, KP, V_ba⟩
theorem own_pn23_3_3 : plainName "java/lang/AbstractStringBuilder" = true := by first | (simp [plainName, overriddenIn]; done) | decide +kernel
theorem own_pd23_3_3_0 : parseMethodDescriptor "(Ljava/lang/String;)V" = some ⟨[(.object "java/lang/String")], none⟩ := by decide +kernel
theorem own_pd23_3_3_1 : parseMethodDescriptor "([BIB)V" = some ⟨[(.array .byte), .int, .byte], none⟩ := by decide +kernel
theorem own_ef23_3_3 (m : MethodId) (a : Addr) (sa : Addr) : entryFrame m #[(.ref a), (.int 3), (.ref sa)] 3 = mkF m 0 #[.val (.ref a), .val (.int 3), .val (.ref sa)] [] := by first | (simp [entryFrame, mkF, argsToLocals, Value.category]; done) | rfl
def own_Q23_3_3 (Z : State) (a : Addr) (sa : Addr) (cs : Int32) (fo : Value) (ba : Addr) (va : Addr) (kv : ClassId) (kb : ClassId) (x0 : Int32) (x1 : Int32) (x2 : Int32) (x3 : Int32) (x4 : Int32) (x5 : Int32) (h0 : Heap) (n0 : Nat) (v : Option Value) (h : Heap) (L : List Loc) : Prop := v = none ∧ Fr n0 L ∧ Keep h0 h [ba] ∧ Arv Z h ba kb .byte (16 : Int32) [(.int x0), (.int x1), (.int x2), (.int x3), (.int x4), (.int x5), (.int 0), (.int 0), (.int 0), (.int 0), (.int 0), (.int 0), (.int 0), (.int 0), (.int 0), (.int 0)] (.int 0)
set_option maxRecDepth 65536 in
set_option maxHeartbeats 40000000 in
theorem own_rm23_3_3 (l : Launch) (Z : State) (a0 : Array Value) (hw : ∀ d ∈ tables_1, d.before a0 Z = true) (ws : List Jvm.Cond) (a : Addr) (sa : Addr) (cs : Int32) (fo : Value) (ba : Addr) (va : Addr) (kv : ClassId) (kb : ClassId) (x0 : Int32) (x1 : Int32) (x2 : Int32) (x3 : Int32) (x4 : Int32) (x5 : Int32) (h0 : Heap) (n0 : Nat) (Zs : n0 ≤ h0.size) (OL : Old Z n0 h0) (S_cs : Sta Z Z.heap "java/lang/String" "COMPACT_STRINGS" "Z" (.int cs)) (hcs : ¬ (cs = (0 : Int32))) (S_fo : Sta Z Z.heap "jdk/internal/util/Preconditions" "SIOOBE_FORMATTER" "Ljava/util/function/BiFunction;" fo) (hfo : fo.isRef = true) (E_a : Exa Z h0 a "java/lang/StringBuilder") (F_a_value : Fld Z h0 a "java/lang/AbstractStringBuilder" "value" "[B" (.ref ba)) (F_a_coder : Fld Z h0 a "java/lang/AbstractStringBuilder" "coder" "B" (.int 0)) (E_sa : Exa Z h0 sa "java/lang/String") (F_sa_value : Fld Z h0 sa "java/lang/String" "value" "[B" (.ref va)) (F_sa_coder : Fld Z h0 sa "java/lang/String" "coder" "B" (.int 0)) (V_va : Arv Z h0 va kv .byte (3 : Int32) [(.int x3), (.int x4), (.int x5)] (.int 0)) (hd_x3 : own_Dg x3) (hd_x4 : own_Dg x4) (hd_x5 : own_Dg x5) (V_ba : Arv Z h0 ba kb .byte (16 : Int32) [(.int x0), (.int x1), (.int x2), (.int 0), (.int 0), (.int 0), (.int 0), (.int 0), (.int 0), (.int 0), (.int 0), (.int 0), (.int 0), (.int 0), (.int 0), (.int 0)] (.int 0)) (g_ba : n0 ≤ ba) (ne_va_ba : va ≠ ba) (ne_sa_ba : sa ≠ ba) (ne_a_ba : a ≠ ba) :
    MetFree l own_y21 (head1 (Jvm.Cond.code own_y21 jdk_68_method_73_code 3 none :: ws) ({ frames := 2, cells := 0, slots := 0, locals := 75 } : Room)) (fun aA_ U => aA_ = #[(.ref a), (.int 3), (.ref sa)] ∧ Z.Warmed39 U.vm ∧ U.heap = h0) (fun _ _ _ _ _ => True) (fun _ U o U' => ∃ v L, o = .returned v ∧ own_Q23_3_3 Z a sa cs fo ba va kv kb x0 x1 x2 x3 x4 x5 h0 n0 v U'.heap L ∧ FrameEnd U o U' L ({ frames := 2, cells := 0, slots := 0, locals := 75 } : Room).cells ({ frames := 2, cells := 0, slots := 0, locals := 75 } : Room).slots) := by
  refine MetFree.of_bodySF (plainFor_of_name own_pn23_3_3) hisR ?_
  intro p e s m args below meth c s₁ Bd hml0 hP hK
  obtain ⟨rfl, hZ, hh⟩ := hP
  have hx := Bd.exec
  have hby := Bd.bytes
  have hml : c.maxLocals = 3 := hml0
  have hown : s.vm.findClass "java/lang/AbstractStringBuilder" = some m.cls := findClass_of_methodNamed Bd.named
  have hnm := (name_of_methodNamed Bd.named Bd.method).1
  have X0 : Stand p l e ({ frames := 2, cells := 0, slots := 0, locals := 75 } : Room) s m #[(.ref a), (.int 3), (.ref sa)] below meth c s₁ [] 0 0 := Stand.of_body Bd
  have e0 : s₁.heap = h0 := by rw [← hh, Bd.state]; rfl
  have NF := Fr.nil n0
  rw [own_ef23_3_3 m a sa]
  show own_Dn p e below s (own_Q23_3_3 Z a sa cs fo ba va kv kb x0 x1 x2 x3 x4 x5 h0 n0) 0 0 s₁ (mkF m 0 #[.val (.ref a), .val (.int 3), .val (.ref sa)] [])
  have KP := Keep.refl h0 [ba]
  refine own_p (g' := (mkF m 2 #[rv a, iv 3, rv sa] [(.ref sa), (.ref a)])) (fun _ k => XS.aloadN X0.here hx rfl (hb hby own_dB21_0) rfl rfl (XS.aloadN X0.here hx rfl (hb hby own_dB21_1) rfl rfl k)) ?_
  obtain ⟨cq1, kq1, q1a, q1b, q1c⟩ := isOf hZ e0 E_a
  obtain ⟨_, _, ⟨T1, L1, k1, n1⟩, -, X1, ⟨Lc1, hQ1, l1, y1, z1⟩, st1⟩ := X0.virtualBack hx (y := own_y18) (z := own_y18) hown (mvT hZ (own_W hw 120 rfl)) (mvT hZ (own_dec (own_W hw 121 rfl) (own_W hw 124 rfl))) (notFace_of_selects (args := #[]) (mvT hZ (own_W hw 123 rfl))) (mvT hZ (own_W hw 123 rfl)) (mvT hZ (own_W hw 121 rfl)) (by decide) (backOf (W := 0) (own_rm20 l Z a0 hw [] a sa cs fo h0 n0 Zs OL S_cs hcs S_fo hfo F_a_coder E_sa F_sa_coder) hZ (own_W hw 124 rfl) (own_W hw 89 rfl) (by decide) (by decide)) q1a q1c (g := (mkF m 2 #[rv a, iv 3, rv sa] [(.ref sa), (.ref a)])) rfl (by rw [hml]; rfl) (Steps.refl _) (argsL := [(.ref sa)]) (rest := []) (lenOf own_pd23_3_3_0 rfl) rfl (Nat.le_refl _) (hb hby own_dB21_2) (fun _ _ => ⟨rfl, e0, (by decide : 0 + 0 ≤ _), (by decide : 0 + 0 ≤ _)⟩)
  dsimp only [Pt.U, Pt.locs, Pt.cells, Pt.slots] at X1 l1 y1 z1 st1 hQ1
  subst l1 y1 z1
  obtain ⟨rfl, NQ1, eq1⟩ := hQ1
  have NF := Fr.app NF NQ1
  refine own_go (T' := T1) (g' := (mkF m 5 #[rv a, iv 3, rv sa] [])) (fun _ k => st1.trans k) ?_
  refine own_p (g' := (mkF m 7 #[rv a, iv 3, rv sa] [(.ref a), (.ref sa)])) (fun _ k => XS.aloadN X1.here hx rfl (hb hby own_dB21_5) rfl rfl (XS.aloadN X1.here hx rfl (hb hby own_dB21_6) rfl rfl k)) ?_
  obtain ⟨T2, X2, e2, st2⟩ := getF X1 hx hZ hown (host := "") (Or.inl (own_W hw 93 rfl)) Via.refl eq1 F_a_value (g := (mkF m 7 #[rv a, iv 3, rv sa] [(.ref a), (.ref sa)])) rfl rfl (hb hby own_dB21_7)
  refine own_go (T' := T2) (g' := (mkF m 10 #[rv a, iv 3, rv sa] [(.ref ba), (.ref sa)])) (fun _ k => st2 _ k) ?_
  refine own_p (g' := (mkF m 12 #[rv a, iv 3, rv sa] [(.ref a), (.int 3), (.ref ba), (.ref sa)])) (fun _ k => XS.iloadN X2.here hx rfl (hb hby own_dB21_10) rfl (XS.aloadN X2.here hx rfl (hb hby own_dB21_11) rfl rfl k)) ?_
  obtain ⟨T3, X3, e3, st3⟩ := getF X2 hx hZ hown (host := "") (Or.inl (own_W hw 95 rfl)) Via.refl e2 F_a_coder (g := (mkF m 12 #[rv a, iv 3, rv sa] [(.ref a), (.int 3), (.ref ba), (.ref sa)])) rfl rfl (hb hby own_dB21_12)
  refine own_go (T' := T3) (g' := (mkF m 15 #[rv a, iv 3, rv sa] [(.int 0), (.int 3), (.ref ba), (.ref sa)])) (fun _ k => st3 _ k) ?_
  obtain ⟨cq4, kq4, q4a, q4b, q4c⟩ := isOf hZ e3 E_sa
  obtain ⟨_, _, ⟨T4, L4, k4, n4⟩, -, X4, ⟨Lc4, hQ4, l4, y4, z4⟩, st4⟩ := X3.virtualBack hx (y := own_y20) (z := own_y20) hown (mvT hZ (own_W hw 126 rfl)) (mvT hZ (own_W hw 127 rfl)) (notFace_of_selects (args := #[]) (mvT hZ (own_W hw 129 rfl))) (mvT hZ (own_W hw 129 rfl)) (mvT hZ (own_W hw 128 rfl)) (by decide) (backOf (W := 0) (own_rm22_3_3 l Z a0 hw [] sa ba cs fo va kv kb x0 x1 x2 x3 x4 x5 h0 n0 Zs OL S_cs hcs S_fo hfo E_sa F_sa_value F_sa_coder V_va hd_x3 hd_x4 hd_x5 V_ba g_ba ne_va_ba ne_sa_ba) hZ (own_W hw 130 rfl) (own_W hw 10 rfl) (by decide) (by decide)) q4a q4c (g := (mkF m 15 #[rv a, iv 3, rv sa] [(.int 0), (.int 3), (.ref ba), (.ref sa)])) rfl (by rw [hml]; rfl) (Steps.refl _) (argsL := [(.ref ba), (.int 3), (.int 0)]) (rest := []) (lenOf own_pd23_3_3_1 rfl) rfl (Nat.le_refl _) (hb hby own_dB21_15) (fun _ _ => ⟨rfl, e3, (by decide : 0 + 0 ≤ _), (by decide : 0 + 0 ≤ _)⟩)
  dsimp only [Pt.U, Pt.locs, Pt.cells, Pt.slots] at X4 l4 y4 z4 st4 hQ4
  subst l4 y4 z4
  obtain ⟨rfl, NQ4, K4, V_ba⟩ := hQ4
  have NF := Fr.app NF NQ4
  have E_a := E_a.keep K4
  have F_a_value := F_a_value.keep K4 (ninS ne_a_ba nin0)
  have F_a_coder := F_a_coder.keep K4 (ninS ne_a_ba nin0)
  have E_sa := E_sa.keep K4
  have F_sa_value := F_sa_value.keep K4 (ninS ne_sa_ba nin0)
  have F_sa_coder := F_sa_coder.keep K4 (ninS ne_sa_ba nin0)
  have V_va := V_va.keep K4 (ninS ne_va_ba nin0)
  have OL := OL.keep K4 (allS g_ba all0)
  have Zs := Nat.le_trans Zs K4.1
  have KP := KP.trans K4 ((allS (Or.inl (by simp)) all0))
  refine own_go (T' := T4) (g' := (mkF m 18 #[rv a, iv 3, rv sa] [])) (fun _ k => st4.trans k) ?_
  refine own_ret X4 Bd.notSynchronized none (fun _ => rfl) (fun fs hr => X4.returnOut hx Bd.returns (hb hby own_dB21_18) hr) ?_ (by decide) (by decide)
  show (own_Q23_3_3 Z a sa cs fo ba va kv kb x0 x1 x2 x3 x4 x5 h0 n0) none T4.heap _
  exact ⟨rfl, NF, KP, V_ba⟩
theorem own_pn24_3_3 : plainName "java/lang/AbstractStringBuilder" = true := by first | (simp [plainName, overriddenIn]; done) | decide +kernel
theorem own_pd24_3_3_0 : parseMethodDescriptor "()I" = some ⟨[], some .int⟩ := by decide +kernel
theorem own_pd24_3_3_1 : parseMethodDescriptor "(I)V" = some ⟨[.int], none⟩ := by decide +kernel
theorem own_pd24_3_3_2 : parseMethodDescriptor "(ILjava/lang/String;)V" = some ⟨[.int, (.object "java/lang/String")], none⟩ := by decide +kernel
theorem own_ef24_3_3 (m : MethodId) (a : Addr) (sa : Addr) : entryFrame m #[(.ref a), (.ref sa)] 3 = mkF m 0 #[.val (.ref a), .val (.ref sa), .unset] [] := by first | (simp [entryFrame, mkF, argsToLocals, Value.category]; done) | rfl
def own_Q24_3_3 (Z : State) (a : Addr) (sa : Addr) (cs : Int32) (fo : Value) (ba : Addr) (va : Addr) (kv : ClassId) (kb : ClassId) (x0 : Int32) (x1 : Int32) (x2 : Int32) (x3 : Int32) (x4 : Int32) (x5 : Int32) (h0 : Heap) (n0 : Nat) (v : Option Value) (h : Heap) (L : List Loc) : Prop := v = some (.ref a) ∧ Fr n0 L ∧ Keep h0 h [a, ba] ∧ Exa Z h a "java/lang/StringBuilder" ∧ Arv Z h ba kb .byte (16 : Int32) [(.int x0), (.int x1), (.int x2), (.int x3), (.int x4), (.int x5), (.int 0), (.int 0), (.int 0), (.int 0), (.int 0), (.int 0), (.int 0), (.int 0), (.int 0), (.int 0)] (.int 0) ∧ Fld Z h a "java/lang/AbstractStringBuilder" "value" "[B" (.ref ba) ∧ Fld Z h a "java/lang/AbstractStringBuilder" "coder" "B" (.int 0) ∧ Fld Z h a "java/lang/AbstractStringBuilder" "count" "I" (.int 6)
set_option maxRecDepth 65536 in
set_option maxHeartbeats 40000000 in
theorem own_rm24_3_3 (l : Launch) (Z : State) (a0 : Array Value) (hw : ∀ d ∈ tables_1, d.before a0 Z = true) (ws : List Jvm.Cond) (a : Addr) (sa : Addr) (cs : Int32) (fo : Value) (ba : Addr) (va : Addr) (kv : ClassId) (kb : ClassId) (x0 : Int32) (x1 : Int32) (x2 : Int32) (x3 : Int32) (x4 : Int32) (x5 : Int32) (h0 : Heap) (n0 : Nat) (Zs : n0 ≤ h0.size) (OL : Old Z n0 h0) (S_cs : Sta Z Z.heap "java/lang/String" "COMPACT_STRINGS" "Z" (.int cs)) (hcs : ¬ (cs = (0 : Int32))) (S_fo : Sta Z Z.heap "jdk/internal/util/Preconditions" "SIOOBE_FORMATTER" "Ljava/util/function/BiFunction;" fo) (hfo : fo.isRef = true) (E_a : Exa Z h0 a "java/lang/StringBuilder") (g_a : n0 ≤ a) (F_a_value : Fld Z h0 a "java/lang/AbstractStringBuilder" "value" "[B" (.ref ba)) (F_a_coder : Fld Z h0 a "java/lang/AbstractStringBuilder" "coder" "B" (.int 0)) (F_a_count : Fld Z h0 a "java/lang/AbstractStringBuilder" "count" "I" (.int 3)) (E_sa : Exa Z h0 sa "java/lang/String") (F_sa_value : Fld Z h0 sa "java/lang/String" "value" "[B" (.ref va)) (F_sa_coder : Fld Z h0 sa "java/lang/String" "coder" "B" (.int 0)) (V_va : Arv Z h0 va kv .byte (3 : Int32) [(.int x3), (.int x4), (.int x5)] (.int 0)) (hd_x3 : own_Dg x3) (hd_x4 : own_Dg x4) (hd_x5 : own_Dg x5) (V_ba : Arv Z h0 ba kb .byte (16 : Int32) [(.int x0), (.int x1), (.int x2), (.int 0), (.int 0), (.int 0), (.int 0), (.int 0), (.int 0), (.int 0), (.int 0), (.int 0), (.int 0), (.int 0), (.int 0), (.int 0)] (.int 0)) (g_ba : n0 ≤ ba) (ne_va_ba : va ≠ ba) (ne_sa_ba : sa ≠ ba) (ne_a_ba : a ≠ ba) (ne_a_sa : a ≠ sa) (ne_a_va : a ≠ va) :
    MetFree l own_y22 (head1 (Jvm.Cond.code own_y22 jdk_68_method_22_code 3 (some (.object "java/lang/AbstractStringBuilder")) :: ws) ({ frames := 3, cells := 0, slots := 0, locals := 89 } : Room)) (fun aA_ U => aA_ = #[(.ref a), (.ref sa)] ∧ Z.Warmed39 U.vm ∧ U.heap = h0) (fun _ _ _ _ _ => True) (fun _ U o U' => ∃ v L, o = .returned v ∧ own_Q24_3_3 Z a sa cs fo ba va kv kb x0 x1 x2 x3 x4 x5 h0 n0 v U'.heap L ∧ FrameEnd U o U' L ({ frames := 3, cells := 0, slots := 0, locals := 89 } : Room).cells ({ frames := 3, cells := 0, slots := 0, locals := 89 } : Room).slots) := by
  refine MetFree.of_bodySF (plainFor_of_name own_pn24_3_3) hisR ?_
  intro p e s m args below meth c s₁ Bd hml0 hP hK
  obtain ⟨rfl, hZ, hh⟩ := hP
  have hx := Bd.exec
  have hby := Bd.bytes
  have hml : c.maxLocals = 3 := hml0
  have hown : s.vm.findClass "java/lang/AbstractStringBuilder" = some m.cls := findClass_of_methodNamed Bd.named
  have hnm := (name_of_methodNamed Bd.named Bd.method).1
  have X0 : Stand p l e ({ frames := 3, cells := 0, slots := 0, locals := 89 } : Room) s m #[(.ref a), (.ref sa)] below meth c s₁ [] 0 0 := Stand.of_body Bd
  have e0 : s₁.heap = h0 := by rw [← hh, Bd.state]; rfl
  have NF := Fr.nil n0
  rw [own_ef24_3_3 m a sa]
  show own_Dn p e below s (own_Q24_3_3 Z a sa cs fo ba va kv kb x0 x1 x2 x3 x4 x5 h0 n0) 0 0 s₁ (mkF m 0 #[.val (.ref a), .val (.ref sa), .unset] [])
  have KP := Keep.refl h0 [a, ba]
  refine own_p (g' := (mkF m 1 #[rv a, rv sa, oU] [(.ref sa)])) (fun _ k => XS.aloadN X0.here hx rfl (hb hby own_dB22_0) rfl rfl k) ?_
  refine own_p (g' := (mkF m 10 #[rv a, rv sa, oU] [(.ref sa)])) (fun _ k => XS.ifnonnullYes X0.here hx rfl (pc0 := 1) (pc' := 9) rfl (hb hby own_dB22_1) rfl (by decide) (by decide) (XS.aloadN X0.here hx rfl (hb hby own_dB22_9) rfl rfl k)) ?_
  obtain ⟨cq2, kq2, q2a, q2b, q2c⟩ := isOf hZ e0 E_sa
  obtain ⟨_, _, ⟨T2, L2, k2, n2⟩, -, X2, ⟨Lc2, hQ2, l2, y2, z2⟩, st2⟩ := X0.virtualBack hx (y := own_y9) (z := own_y9) hown (mvT hZ (own_W hw 107 rfl)) (mvT hZ (own_W hw 48 rfl)) (notFace_of_selects (args := #[]) (mvT hZ (own_W hw 50 rfl))) (mvT hZ (own_W hw 50 rfl)) (mvT hZ (own_W hw 49 rfl)) (by decide) (backOf (W := 0) (own_rm10 l Z a0 hw [] sa cs fo va kv (3 : Int32) [(.int x3), (.int x4), (.int x5)] h0 n0 Zs OL S_cs hcs S_fo hfo E_sa F_sa_value F_sa_coder V_va) hZ (own_W hw 51 rfl) (own_W hw 10 rfl) (by decide) (by decide)) q2a q2c (g := (mkF m 10 #[rv a, rv sa, oU] [(.ref sa)])) rfl (by rw [hml]; rfl) (Steps.refl _) (argsL := []) (rest := []) (lenOf own_pd24_3_3_0 rfl) rfl (Nat.le_refl _) (hb hby own_dB22_10) (fun _ _ => ⟨rfl, e0, (by decide : 0 + 0 ≤ _), (by decide : 0 + 0 ≤ _)⟩)
  dsimp only [Pt.U, Pt.locs, Pt.cells, Pt.slots] at X2 l2 y2 z2 st2 hQ2
  subst l2 y2 z2
  obtain ⟨rfl, NQ2, eq2⟩ := hQ2
  have NF := Fr.app NF NQ2
  refine own_go (T' := T2) (g' := (mkF m 13 #[rv a, rv sa, oU] [(.int 3)])) (fun _ k => st2.trans k) ?_
  refine own_p (g' := (mkF m 16 #[rv a, rv sa, iv 3] [(.ref a), (.ref a)])) (fun _ k => XS.istoreN X2.here hx rfl (hb hby own_dB22_13) rfl (l' := #[rv a, rv sa, iv 3]) rfl (XS.aloadN X2.here hx rfl (hb hby own_dB22_14) rfl rfl (XS.aloadN X2.here hx rfl (hb hby own_dB22_15) rfl rfl k))) ?_
  obtain ⟨T3, X3, e3, st3⟩ := getF X2 hx hZ hown (host := "") (Or.inl (own_W hw 108 rfl)) Via.refl eq2 F_a_count (g := (mkF m 16 #[rv a, rv sa, iv 3] [(.ref a), (.ref a)])) rfl rfl (hb hby own_dB22_16)
  refine own_go (T' := T3) (g' := (mkF m 19 #[rv a, rv sa, iv 3] [(.int 3), (.ref a)])) (fun _ k => st3 _ k) ?_
  refine own_p (g' := (mkF m 21 #[rv a, rv sa, iv 3] [(.int 6), (.ref a)])) (fun _ k => XS.iloadN X3.here hx rfl (hb hby own_dB22_19) rfl (XS.iadd X3.here hx rfl (hb hby own_dB22_20) rfl k)) ?_
  obtain ⟨cq4, kq4, q4a, q4b, q4c⟩ := isOf hZ e3 E_a
  obtain ⟨_, _, ⟨T4, L4, k4, n4⟩, -, X4, ⟨Lc4, hQ4, l4, y4, z4⟩, st4⟩ := X3.virtualBack hx (y := own_y19) (z := own_y19) hown (mvT hZ (own_W hw 110 rfl)) (mvT hZ (own_dec (own_W hw 111 rfl) (own_W hw 114 rfl))) (notFace_of_selects (args := #[]) (mvT hZ (own_W hw 113 rfl))) (mvT hZ (own_W hw 113 rfl)) (mvT hZ (own_W hw 111 rfl)) (by decide) (backOf (W := 0) (own_rm21_6 l Z a0 hw [] a ba kb [(.int x0), (.int x1), (.int x2), (.int 0), (.int 0), (.int 0), (.int 0), (.int 0), (.int 0), (.int 0), (.int 0), (.int 0), (.int 0), (.int 0), (.int 0), (.int 0)] h0 n0 Zs F_a_value F_a_coder V_ba) hZ (own_W hw 114 rfl) (own_W hw 89 rfl) (by decide) (by decide)) q4a q4c (g := (mkF m 21 #[rv a, rv sa, iv 3] [(.int 6), (.ref a)])) rfl (by rw [hml]; rfl) (Steps.refl _) (argsL := [(.int 6)]) (rest := []) (lenOf own_pd24_3_3_1 rfl) rfl (Nat.le_refl _) (hb hby own_dB22_21) (fun _ _ => ⟨rfl, e3, (by decide : 0 + 0 ≤ _), (by decide : 0 + 0 ≤ _)⟩)
  dsimp only [Pt.U, Pt.locs, Pt.cells, Pt.slots] at X4 l4 y4 z4 st4 hQ4
  subst l4 y4 z4
  obtain ⟨rfl, NQ4, eq4⟩ := hQ4
  have NF := Fr.app NF NQ4
  refine own_go (T' := T4) (g' := (mkF m 24 #[rv a, rv sa, iv 3] [])) (fun _ k => st4.trans k) ?_
  refine own_p (g' := (mkF m 26 #[rv a, rv sa, iv 3] [(.ref a), (.ref a)])) (fun _ k => XS.aloadN X4.here hx rfl (hb hby own_dB22_24) rfl rfl (XS.aloadN X4.here hx rfl (hb hby own_dB22_25) rfl rfl k)) ?_
  obtain ⟨T5, X5, e5, st5⟩ := getF X4 hx hZ hown (host := "") (Or.inl (own_W hw 108 rfl)) Via.refl eq4 F_a_count (g := (mkF m 26 #[rv a, rv sa, iv 3] [(.ref a), (.ref a)])) rfl rfl (hb hby own_dB22_26)
  refine own_go (T' := T5) (g' := (mkF m 29 #[rv a, rv sa, iv 3] [(.int 3), (.ref a)])) (fun _ k => st5 _ k) ?_
  refine own_p (g' := (mkF m 30 #[rv a, rv sa, iv 3] [(.ref sa), (.int 3), (.ref a)])) (fun _ k => XS.aloadN X5.here hx rfl (hb hby own_dB22_29) rfl rfl k) ?_
  obtain ⟨cq6, kq6, q6a, q6b, q6c⟩ := isOf hZ e5 E_a
  obtain ⟨_, _, ⟨T6, L6, k6, n6⟩, -, X6, ⟨Lc6, hQ6, l6, y6, z6⟩, st6⟩ := X5.virtualBack hx (y := own_y21) (z := own_y21) hown (mvT hZ (own_W hw 115 rfl)) (mvT hZ (own_dec (own_W hw 116 rfl) (own_W hw 119 rfl))) (notFace_of_selects (args := #[]) (mvT hZ (own_W hw 118 rfl))) (mvT hZ (own_W hw 118 rfl)) (mvT hZ (own_W hw 116 rfl)) (by decide) (backOf (W := 0) (own_rm23_3_3 l Z a0 hw [] a sa cs fo ba va kv kb x0 x1 x2 x3 x4 x5 h0 n0 Zs OL S_cs hcs S_fo hfo E_a F_a_value F_a_coder E_sa F_sa_value F_sa_coder V_va hd_x3 hd_x4 hd_x5 V_ba g_ba ne_va_ba ne_sa_ba ne_a_ba) hZ (own_W hw 119 rfl) (own_W hw 89 rfl) (by decide) (by decide)) q6a q6c (g := (mkF m 30 #[rv a, rv sa, iv 3] [(.ref sa), (.int 3), (.ref a)])) rfl (by rw [hml]; rfl) (Steps.refl _) (argsL := [(.int 3), (.ref sa)]) (rest := []) (lenOf own_pd24_3_3_2 rfl) rfl (Nat.le_refl _) (hb hby own_dB22_30) (fun _ _ => ⟨rfl, e5, (by decide : 0 + 0 ≤ _), (by decide : 0 + 0 ≤ _)⟩)
  dsimp only [Pt.U, Pt.locs, Pt.cells, Pt.slots] at X6 l6 y6 z6 st6 hQ6
  subst l6 y6 z6
  obtain ⟨rfl, NQ6, K6, V_ba⟩ := hQ6
  have NF := Fr.app NF NQ6
  have E_a := E_a.keep K6
  have F_a_value := F_a_value.keep K6 (ninS ne_a_ba nin0)
  have F_a_coder := F_a_coder.keep K6 (ninS ne_a_ba nin0)
  have F_a_count := F_a_count.keep K6 (ninS ne_a_ba nin0)
  have E_sa := E_sa.keep K6
  have F_sa_value := F_sa_value.keep K6 (ninS ne_sa_ba nin0)
  have F_sa_coder := F_sa_coder.keep K6 (ninS ne_sa_ba nin0)
  have V_va := V_va.keep K6 (ninS ne_va_ba nin0)
  have OL := OL.keep K6 (allS g_ba all0)
  have Zs := Nat.le_trans Zs K6.1
  have KP := KP.trans K6 ((allS (Or.inl (by simp)) all0))
  refine own_go (T' := T6) (g' := (mkF m 33 #[rv a, rv sa, iv 3] [])) (fun _ k => st6.trans k) ?_
  refine own_p (g' := (mkF m 35 #[rv a, rv sa, iv 3] [(.ref a), (.ref a)])) (fun _ k => XS.aloadN X6.here hx rfl (hb hby own_dB22_33) rfl rfl (XS.dup X6.here hx rfl (hb hby own_dB22_34) rfl rfl k)) ?_
  obtain ⟨T7, X7, e7, st7⟩ := getF X6 hx hZ hown (host := "") (Or.inl (own_W hw 108 rfl)) Via.refl rfl F_a_count (g := (mkF m 35 #[rv a, rv sa, iv 3] [(.ref a), (.ref a)])) rfl rfl (hb hby own_dB22_35)
  refine own_go (T' := T7) (g' := (mkF m 38 #[rv a, rv sa, iv 3] [(.int 3), (.ref a)])) (fun _ k => st7 _ k) ?_
  refine own_p (g' := (mkF m 40 #[rv a, rv sa, iv 3] [(.int 6), (.ref a)])) (fun _ k => XS.iloadN X7.here hx rfl (hb hby own_dB22_38) rfl (XS.iadd X7.here hx rfl (hb hby own_dB22_39) rfl k)) ?_
  obtain ⟨T8, h8, X8, e8, W8, st8⟩ := putF X7 hx hZ hown (host := "") (Or.inl (own_W hw 108 rfl)) Via.refl e7 F_a_count E_a (Or.inl (own_W hw 109 rfl)) (own_W hw 80 rfl) (ty := .int) (by decide) rfl rfl (g := (mkF m 40 #[rv a, rv sa, iv 3] [(.int 6), (.ref a)])) rfl rfl (hb hby own_dB22_40)
  have E_a := E_a.wr W8
  have F_a_value := F_a_value.other W8 (Or.inr (slot_ne (Or.inl (own_W hw 94 rfl)) (Or.inl (own_W hw 109 rfl)) (by decide) (t := (.array .byte)) (t' := .int) (by decide) (by decide)))
  have F_a_coder := F_a_coder.other W8 (Or.inr (slot_ne (Or.inl (own_W hw 96 rfl)) (Or.inl (own_W hw 109 rfl)) (by decide) (t := .byte) (t' := .int) (by decide) (by decide)))
  have E_sa := E_sa.wr W8
  have F_sa_value := F_sa_value.other W8 (Or.inl (Ne.symm ne_a_sa))
  have F_sa_coder := F_sa_coder.other W8 (Or.inl (Ne.symm ne_a_sa))
  have V_va := V_va.other W8 (Ne.symm ne_a_va)
  have V_ba := V_ba.other W8 (Ne.symm ne_a_ba)
  have OL := OL.wr W8 g_a
  have Zs := Nat.le_trans Zs (Keep.of_wr W8).1
  have F_a_count := F_a_count.same W8
  have KP := KP.wr W8 (Or.inl (by simp))
  have NF := Fr.snoc X8 NF g_a
  refine own_go (T' := T8) (g' := (mkF m 43 #[rv a, rv sa, iv 3] [])) (fun _ k => st8 _ k) ?_
  refine own_p (g' := (mkF m 44 #[rv a, rv sa, iv 3] [(.ref a)])) (fun _ k => XS.aloadN X8.here hx rfl (hb hby own_dB22_43) rfl rfl k) ?_
  refine own_ret X8 Bd.notSynchronized (some (.ref a)) (fun h => by rw [Bd.returns] at h; cases h) (fun fs hr => retOut X8 hx (t := (.object "java/lang/AbstractStringBuilder")) Bd.returns rfl (Or.inr (Or.inr (Or.inr (Or.inr ⟨rfl, rfl, rfl⟩)))) (hb hby own_dB22_44) hr) ?_ (by decide) (by decide)
  show (own_Q24_3_3 Z a sa cs fo ba va kv kb x0 x1 x2 x3 x4 x5 h0 n0) (some (.ref a)) T8.heap _
  rw [e8]
  exact ⟨rfl, NF, KP, E_a, V_ba, F_a_value, F_a_coder, F_a_count⟩
theorem own_pn25_3_3 : plainName "java/lang/StringBuilder" = true := by first | (simp [plainName, overriddenIn]; done) | decide +kernel
theorem own_pd25_3_3_0 : parseMethodDescriptor "(Ljava/lang/String;)Ljava/lang/AbstractStringBuilder;" = some ⟨[(.object "java/lang/String")], some (.object "java/lang/AbstractStringBuilder")⟩ := by decide +kernel
theorem own_ef25_3_3 (m : MethodId) (a : Addr) (sa : Addr) : entryFrame m #[(.ref a), (.ref sa)] 2 = mkF m 0 #[.val (.ref a), .val (.ref sa)] [] := by first | (simp [entryFrame, mkF, argsToLocals, Value.category]; done) | rfl
def own_Q25_3_3 (Z : State) (a : Addr) (sa : Addr) (cs : Int32) (fo : Value) (ba : Addr) (va : Addr) (kv : ClassId) (kb : ClassId) (x0 : Int32) (x1 : Int32) (x2 : Int32) (x3 : Int32) (x4 : Int32) (x5 : Int32) (h0 : Heap) (n0 : Nat) (v : Option Value) (h : Heap) (L : List Loc) : Prop := v = some (.ref a) ∧ Fr n0 L ∧ Keep h0 h [a, ba] ∧ Exa Z h a "java/lang/StringBuilder" ∧ Arv Z h ba kb .byte (16 : Int32) [(.int x0), (.int x1), (.int x2), (.int x3), (.int x4), (.int x5), (.int 0), (.int 0), (.int 0), (.int 0), (.int 0), (.int 0), (.int 0), (.int 0), (.int 0), (.int 0)] (.int 0) ∧ Fld Z h a "java/lang/AbstractStringBuilder" "value" "[B" (.ref ba) ∧ Fld Z h a "java/lang/AbstractStringBuilder" "coder" "B" (.int 0) ∧ Fld Z h a "java/lang/AbstractStringBuilder" "count" "I" (.int 6)
set_option maxRecDepth 65536 in
set_option maxHeartbeats 40000000 in
theorem own_rm25_3_3 (l : Launch) (Z : State) (a0 : Array Value) (hw : ∀ d ∈ tables_1, d.before a0 Z = true) (ws : List Jvm.Cond) (a : Addr) (sa : Addr) (cs : Int32) (fo : Value) (ba : Addr) (va : Addr) (kv : ClassId) (kb : ClassId) (x0 : Int32) (x1 : Int32) (x2 : Int32) (x3 : Int32) (x4 : Int32) (x5 : Int32) (h0 : Heap) (n0 : Nat) (Zs : n0 ≤ h0.size) (OL : Old Z n0 h0) (S_cs : Sta Z Z.heap "java/lang/String" "COMPACT_STRINGS" "Z" (.int cs)) (hcs : ¬ (cs = (0 : Int32))) (S_fo : Sta Z Z.heap "jdk/internal/util/Preconditions" "SIOOBE_FORMATTER" "Ljava/util/function/BiFunction;" fo) (hfo : fo.isRef = true) (E_a : Exa Z h0 a "java/lang/StringBuilder") (g_a : n0 ≤ a) (F_a_value : Fld Z h0 a "java/lang/AbstractStringBuilder" "value" "[B" (.ref ba)) (F_a_coder : Fld Z h0 a "java/lang/AbstractStringBuilder" "coder" "B" (.int 0)) (F_a_count : Fld Z h0 a "java/lang/AbstractStringBuilder" "count" "I" (.int 3)) (E_sa : Exa Z h0 sa "java/lang/String") (F_sa_value : Fld Z h0 sa "java/lang/String" "value" "[B" (.ref va)) (F_sa_coder : Fld Z h0 sa "java/lang/String" "coder" "B" (.int 0)) (V_va : Arv Z h0 va kv .byte (3 : Int32) [(.int x3), (.int x4), (.int x5)] (.int 0)) (hd_x3 : own_Dg x3) (hd_x4 : own_Dg x4) (hd_x5 : own_Dg x5) (V_ba : Arv Z h0 ba kb .byte (16 : Int32) [(.int x0), (.int x1), (.int x2), (.int 0), (.int 0), (.int 0), (.int 0), (.int 0), (.int 0), (.int 0), (.int 0), (.int 0), (.int 0), (.int 0), (.int 0), (.int 0)] (.int 0)) (g_ba : n0 ≤ ba) (ne_va_ba : va ≠ ba) (ne_sa_ba : sa ≠ ba) (ne_a_ba : a ≠ ba) (ne_a_sa : a ≠ sa) (ne_a_va : a ≠ va) :
    MetFree l own_y23 (head1 (Jvm.Cond.code own_y23 jdk_67_method_7_code 2 (some (.object "java/lang/StringBuilder")) :: ws) ({ frames := 4, cells := 0, slots := 0, locals := 103 } : Room)) (fun aA_ U => aA_ = #[(.ref a), (.ref sa)] ∧ Z.Warmed39 U.vm ∧ U.heap = h0) (fun _ _ _ _ _ => True) (fun _ U o U' => ∃ v L, o = .returned v ∧ own_Q25_3_3 Z a sa cs fo ba va kv kb x0 x1 x2 x3 x4 x5 h0 n0 v U'.heap L ∧ FrameEnd U o U' L ({ frames := 4, cells := 0, slots := 0, locals := 103 } : Room).cells ({ frames := 4, cells := 0, slots := 0, locals := 103 } : Room).slots) := by
  refine MetFree.of_bodySF (plainFor_of_name own_pn25_3_3) hisR ?_
  intro p e s m args below meth c s₁ Bd hml0 hP hK
  obtain ⟨rfl, hZ, hh⟩ := hP
  have hx := Bd.exec
  have hby := Bd.bytes
  have hml : c.maxLocals = 2 := hml0
  have hown : s.vm.findClass "java/lang/StringBuilder" = some m.cls := findClass_of_methodNamed Bd.named
  have hnm := (name_of_methodNamed Bd.named Bd.method).1
  have X0 : Stand p l e ({ frames := 4, cells := 0, slots := 0, locals := 103 } : Room) s m #[(.ref a), (.ref sa)] below meth c s₁ [] 0 0 := Stand.of_body Bd
  have e0 : s₁.heap = h0 := by rw [← hh, Bd.state]; rfl
  have NF := Fr.nil n0
  rw [own_ef25_3_3 m a sa]
  show own_Dn p e below s (own_Q25_3_3 Z a sa cs fo ba va kv kb x0 x1 x2 x3 x4 x5 h0 n0) 0 0 s₁ (mkF m 0 #[.val (.ref a), .val (.ref sa)] [])
  have KP := Keep.refl h0 [a, ba]
  refine own_p (g' := (mkF m 2 #[rv a, rv sa] [(.ref sa), (.ref a)])) (fun _ k => XS.aloadN X0.here hx rfl (hb hby own_dB23_0) rfl rfl (XS.aloadN X0.here hx rfl (hb hby own_dB23_1) rfl rfl k)) ?_
  obtain ⟨_, _, ⟨T1, L1, k1, n1⟩, -, X1, ⟨Lc1, hQ1, l1, y1, z1⟩, st1⟩ := superBack X0 hx hZ (K := "java/lang/StringBuilder") (y := own_y22) hown (own_W hw 102 rfl) (own_sm (y := own_y22) (y' := own_y19) rfl (own_W hw 105 rfl) (own_W hw 113 rfl) (by decide)) (own_W hw 103 rfl) (own_W hw 104 rfl) (by decide) (backOf (W := 0) (own_rm24_3_3 l Z a0 hw [] a sa cs fo ba va kv kb x0 x1 x2 x3 x4 x5 h0 n0 Zs OL S_cs hcs S_fo hfo E_a g_a F_a_value F_a_coder F_a_count E_sa F_sa_value F_sa_coder V_va hd_x3 hd_x4 hd_x5 V_ba g_ba ne_va_ba ne_sa_ba ne_a_ba ne_a_sa ne_a_va) hZ (own_W hw 106 rfl) (own_W hw 89 rfl) (by decide) (by decide)) e0 (Ins.self E_a) (g := (mkF m 2 #[rv a, rv sa] [(.ref sa), (.ref a)])) rfl (by rw [hml]; rfl) (own_W hw 106 rfl) (a := a) (argsL := [(.ref sa)]) (rest := []) (lenOf own_pd25_3_3_0 rfl) rfl (Nat.le_refl _) (hb hby own_dB23_2) (fun _ _ => ⟨rfl, e0, (by decide : 0 + 0 ≤ _), (by decide : 0 + 0 ≤ _)⟩)
  dsimp only [Pt.U, Pt.locs, Pt.cells, Pt.slots] at X1 l1 y1 z1 st1 hQ1
  subst l1 y1 z1
  obtain ⟨rfl, NQ1, K1, E_a, V_ba, F_a_value, F_a_coder, F_a_count⟩ := hQ1
  have NF := Fr.app NF NQ1
  have E_sa := E_sa.keep K1
  have F_sa_value := F_sa_value.keep K1 (ninS (Ne.symm ne_a_sa) (ninS ne_sa_ba nin0))
  have F_sa_coder := F_sa_coder.keep K1 (ninS (Ne.symm ne_a_sa) (ninS ne_sa_ba nin0))
  have V_va := V_va.keep K1 (ninS (Ne.symm ne_a_va) (ninS ne_va_ba nin0))
  have OL := OL.keep K1 (allS g_a (allS g_ba all0))
  have Zs := Nat.le_trans Zs K1.1
  have KP := KP.trans K1 ((allS (Or.inl (by simp)) (allS (Or.inl (by simp)) all0)))
  refine own_go (T' := T1) (g' := (mkF m 5 #[rv a, rv sa] [(.ref a)])) (fun _ k => st1.trans k) ?_
  refine own_p (g' := (mkF m 7 #[rv a, rv sa] [(.ref a)])) (fun _ k => XS.pop X1.here hx rfl (hb hby own_dB23_5) rfl rfl (XS.aloadN X1.here hx rfl (hb hby own_dB23_6) rfl rfl k)) ?_
  refine own_ret X1 Bd.notSynchronized (some (.ref a)) (fun h => by rw [Bd.returns] at h; cases h) (fun fs hr => retOut X1 hx (t := (.object "java/lang/StringBuilder")) Bd.returns rfl (Or.inr (Or.inr (Or.inr (Or.inr ⟨rfl, rfl, rfl⟩)))) (hb hby own_dB23_7) hr) ?_ (by decide) (by decide)
  show (own_Q25_3_3 Z a sa cs fo ba va kv kb x0 x1 x2 x3 x4 x5 h0 n0) (some (.ref a)) T1.heap _
  exact ⟨rfl, NF, KP, E_a, V_ba, F_a_value, F_a_coder, F_a_count⟩
theorem own_dB24_0 : decode jdk_68_method_6_code 0 = .ok (.aload_n 0, 1) := by decide +kernel
theorem own_dB24_1 : decode jdk_68_method_6_code 1 = .ok (.getfield 79, 3) := by decide +kernel
theorem own_dB24_4 : decode jdk_68_method_6_code 4 = .ok (.ireturn, 1) := by decide +kernel
theorem own_pn26 : plainName "java/lang/AbstractStringBuilder" = true := by first | (simp [plainName, overriddenIn]; done) | decide +kernel
theorem own_ef26 (m : MethodId) (a : Addr) : entryFrame m #[(.ref a)] 1 = mkF m 0 #[.val (.ref a)] [] := by first | (simp [entryFrame, mkF, argsToLocals, Value.category]; done) | rfl
def own_Q26 (Z : State) (a : Addr) (cs : Int32) (fo : Value) (nn : Int32) (h0 : Heap) (n0 : Nat) (v : Option Value) (h : Heap) (L : List Loc) : Prop := v = some (.int nn) ∧ Fr n0 L ∧ h = h0
set_option maxRecDepth 65536 in
set_option maxHeartbeats 40000000 in
theorem own_rm26 (l : Launch) (Z : State) (a0 : Array Value) (hw : ∀ d ∈ tables_1, d.before a0 Z = true) (ws : List Jvm.Cond) (a : Addr) (cs : Int32) (fo : Value) (nn : Int32) (h0 : Heap) (n0 : Nat) (Zs : n0 ≤ h0.size) (OL : Old Z n0 h0) (S_cs : Sta Z Z.heap "java/lang/String" "COMPACT_STRINGS" "Z" (.int cs)) (hcs : ¬ (cs = (0 : Int32))) (S_fo : Sta Z Z.heap "jdk/internal/util/Preconditions" "SIOOBE_FORMATTER" "Ljava/util/function/BiFunction;" fo) (hfo : fo.isRef = true) (F_a_count : Fld Z h0 a "java/lang/AbstractStringBuilder" "count" "I" (.int nn)) :
    MetFree l own_y24 (head1 (Jvm.Cond.code own_y24 jdk_68_method_6_code 1 (some .int) :: ws) ({ frames := 0, cells := 0, slots := 0, locals := 0 } : Room)) (fun aA_ U => aA_ = #[(.ref a)] ∧ Z.Warmed39 U.vm ∧ U.heap = h0) (fun _ _ _ _ _ => True) (fun _ U o U' => ∃ v L, o = .returned v ∧ own_Q26 Z a cs fo nn h0 n0 v U'.heap L ∧ FrameEnd U o U' L ({ frames := 0, cells := 0, slots := 0, locals := 0 } : Room).cells ({ frames := 0, cells := 0, slots := 0, locals := 0 } : Room).slots) := by
  refine MetFree.of_bodySF (plainFor_of_name own_pn26) hisR ?_
  intro p e s m args below meth c s₁ Bd hml0 hP hK
  obtain ⟨rfl, hZ, hh⟩ := hP
  have hx := Bd.exec
  have hby := Bd.bytes
  have hml : c.maxLocals = 1 := hml0
  have hown : s.vm.findClass "java/lang/AbstractStringBuilder" = some m.cls := findClass_of_methodNamed Bd.named
  have hnm := (name_of_methodNamed Bd.named Bd.method).1
  have X0 : Stand p l e ({ frames := 0, cells := 0, slots := 0, locals := 0 } : Room) s m #[(.ref a)] below meth c s₁ [] 0 0 := Stand.of_body Bd
  have e0 : s₁.heap = h0 := by rw [← hh, Bd.state]; rfl
  have NF := Fr.nil n0
  rw [own_ef26 m a]
  show own_Dn p e below s (own_Q26 Z a cs fo nn h0 n0) 0 0 s₁ (mkF m 0 #[.val (.ref a)] [])
  refine own_p (g' := (mkF m 1 #[rv a] [(.ref a)])) (fun _ k => XS.aloadN X0.here hx rfl (hb hby own_dB24_0) rfl rfl k) ?_
  obtain ⟨T1, X1, e1, st1⟩ := getF X0 hx hZ hown (host := "") (Or.inl (own_W hw 108 rfl)) Via.refl e0 F_a_count (g := (mkF m 1 #[rv a] [(.ref a)])) rfl rfl (hb hby own_dB24_1)
  refine own_go (T' := T1) (g' := (mkF m 4 #[rv a] [(.int nn)])) (fun _ k => st1 _ k) ?_
  refine own_ret X1 Bd.notSynchronized (some (.int nn)) (fun h => by rw [Bd.returns] at h; cases h) (fun fs hr => retI X1 hx Bd.returns (hb hby own_dB24_4) hr) ?_ (by decide) (by decide)
  show (own_Q26 Z a cs fo nn h0 n0) (some (.int nn)) T1.heap _
  rw [e1]
  exact ⟨rfl, NF, rfl⟩
theorem own_dB25_0 : decode jdk_67_method_93_code 0 = .ok (.aload_n 0, 1) := by decide +kernel
theorem own_dB25_1 : decode jdk_67_method_93_code 1 = .ok (.invokespecial 343, 3) := by decide +kernel
theorem own_dB25_4 : decode jdk_67_method_93_code 4 = .ok (.ireturn, 1) := by decide +kernel
theorem own_pn27 : plainName "java/lang/StringBuilder" = true := by first | (simp [plainName, overriddenIn]; done) | decide +kernel
theorem own_pd27_0 : parseMethodDescriptor "()I" = some ⟨[], some .int⟩ := by decide +kernel
theorem own_ef27 (m : MethodId) (a : Addr) : entryFrame m #[(.ref a)] 1 = mkF m 0 #[.val (.ref a)] [] := by first | (simp [entryFrame, mkF, argsToLocals, Value.category]; done) | rfl
def own_Q27 (Z : State) (a : Addr) (cs : Int32) (fo : Value) (nn : Int32) (h0 : Heap) (n0 : Nat) (v : Option Value) (h : Heap) (L : List Loc) : Prop := v = some (.int nn) ∧ Fr n0 L ∧ h = h0
set_option maxRecDepth 65536 in
set_option maxHeartbeats 40000000 in
theorem own_rm27 (l : Launch) (Z : State) (a0 : Array Value) (hw : ∀ d ∈ tables_1, d.before a0 Z = true) (ws : List Jvm.Cond) (a : Addr) (cs : Int32) (fo : Value) (nn : Int32) (h0 : Heap) (n0 : Nat) (Zs : n0 ≤ h0.size) (OL : Old Z n0 h0) (S_cs : Sta Z Z.heap "java/lang/String" "COMPACT_STRINGS" "Z" (.int cs)) (hcs : ¬ (cs = (0 : Int32))) (S_fo : Sta Z Z.heap "jdk/internal/util/Preconditions" "SIOOBE_FORMATTER" "Ljava/util/function/BiFunction;" fo) (hfo : fo.isRef = true) (E_a : Exa Z h0 a "java/lang/StringBuilder") (F_a_count : Fld Z h0 a "java/lang/AbstractStringBuilder" "count" "I" (.int nn)) :
    MetFree l own_y25 (head1 (Jvm.Cond.code own_y25 jdk_67_method_93_code 1 (some .int) :: ws) ({ frames := 1, cells := 0, slots := 0, locals := 12 } : Room)) (fun aA_ U => aA_ = #[(.ref a)] ∧ Z.Warmed39 U.vm ∧ U.heap = h0) (fun _ _ _ _ _ => True) (fun _ U o U' => ∃ v L, o = .returned v ∧ own_Q27 Z a cs fo nn h0 n0 v U'.heap L ∧ FrameEnd U o U' L ({ frames := 1, cells := 0, slots := 0, locals := 12 } : Room).cells ({ frames := 1, cells := 0, slots := 0, locals := 12 } : Room).slots) := by
  refine MetFree.of_bodySF (plainFor_of_name own_pn27) hisR ?_
  intro p e s m args below meth c s₁ Bd hml0 hP hK
  obtain ⟨rfl, hZ, hh⟩ := hP
  have hx := Bd.exec
  have hby := Bd.bytes
  have hml : c.maxLocals = 1 := hml0
  have hown : s.vm.findClass "java/lang/StringBuilder" = some m.cls := findClass_of_methodNamed Bd.named
  have hnm := (name_of_methodNamed Bd.named Bd.method).1
  have X0 : Stand p l e ({ frames := 1, cells := 0, slots := 0, locals := 12 } : Room) s m #[(.ref a)] below meth c s₁ [] 0 0 := Stand.of_body Bd
  have e0 : s₁.heap = h0 := by rw [← hh, Bd.state]; rfl
  have NF := Fr.nil n0
  rw [own_ef27 m a]
  show own_Dn p e below s (own_Q27 Z a cs fo nn h0 n0) 0 0 s₁ (mkF m 0 #[.val (.ref a)] [])
  refine own_p (g' := (mkF m 1 #[rv a] [(.ref a)])) (fun _ k => XS.aloadN X0.here hx rfl (hb hby own_dB25_0) rfl rfl k) ?_
  obtain ⟨_, _, ⟨T1, L1, k1, n1⟩, -, X1, ⟨Lc1, hQ1, l1, y1, z1⟩, st1⟩ := superBack X0 hx hZ (K := "java/lang/StringBuilder") (y := own_y24) hown (own_W hw 158 rfl) (own_sm (y := own_y24) (y' := own_y19) rfl (own_W hw 153 rfl) (own_W hw 113 rfl) (by decide)) (own_W hw 154 rfl) (own_W hw 104 rfl) (by decide) (backOf (W := 0) (own_rm26 l Z a0 hw [] a cs fo nn h0 n0 Zs OL S_cs hcs S_fo hfo  F_a_count) hZ (own_W hw 159 rfl) (own_W hw 89 rfl) (by decide) (by decide)) e0 (Ins.self E_a) (g := (mkF m 1 #[rv a] [(.ref a)])) rfl (by rw [hml]; rfl) (own_W hw 159 rfl) (a := a) (argsL := []) (rest := []) (lenOf own_pd27_0 rfl) rfl (Nat.le_refl _) (hb hby own_dB25_1) (fun _ _ => ⟨rfl, e0, (by decide : 0 + 0 ≤ _), (by decide : 0 + 0 ≤ _)⟩)
  dsimp only [Pt.U, Pt.locs, Pt.cells, Pt.slots] at X1 l1 y1 z1 st1 hQ1
  subst l1 y1 z1
  obtain ⟨rfl, NQ1, eq1⟩ := hQ1
  have NF := Fr.app NF NQ1
  refine own_go (T' := T1) (g' := (mkF m 4 #[rv a] [(.int nn)])) (fun _ k => st1.trans k) ?_
  refine own_ret X1 Bd.notSynchronized (some (.int nn)) (fun h => by rw [Bd.returns] at h; cases h) (fun fs hr => retI X1 hx Bd.returns (hb hby own_dB25_4) hr) ?_ (by decide) (by decide)
  show (own_Q27 Z a cs fo nn h0 n0) (some (.int nn)) T1.heap _
  rw [eq1]
  exact ⟨rfl, NF, rfl⟩
theorem own_dB26_0 : decode jdk_68_method_64_code 0 = .ok (.aload_n 0, 1) := by decide +kernel
theorem own_dB26_1 : decode jdk_68_method_64_code 1 = .ok (.getfield 15, 3) := by decide +kernel
theorem own_dB26_4 : decode jdk_68_method_64_code 4 = .ok (.areturn, 1) := by decide +kernel
theorem own_pn28 : plainName "java/lang/AbstractStringBuilder" = true := by first | (simp [plainName, overriddenIn]; done) | decide +kernel
theorem own_ef28 (m : MethodId) (a : Addr) : entryFrame m #[(.ref a)] 1 = mkF m 0 #[.val (.ref a)] [] := by first | (simp [entryFrame, mkF, argsToLocals, Value.category]; done) | rfl
def own_Q28 (Z : State) (a : Addr) (cs : Int32) (fo : Value) (ba : Addr) (h0 : Heap) (n0 : Nat) (v : Option Value) (h : Heap) (L : List Loc) : Prop := v = some (.ref ba) ∧ Fr n0 L ∧ h = h0
set_option maxRecDepth 65536 in
set_option maxHeartbeats 40000000 in
theorem own_rm28 (l : Launch) (Z : State) (a0 : Array Value) (hw : ∀ d ∈ tables_1, d.before a0 Z = true) (ws : List Jvm.Cond) (a : Addr) (cs : Int32) (fo : Value) (ba : Addr) (h0 : Heap) (n0 : Nat) (Zs : n0 ≤ h0.size) (OL : Old Z n0 h0) (S_cs : Sta Z Z.heap "java/lang/String" "COMPACT_STRINGS" "Z" (.int cs)) (hcs : ¬ (cs = (0 : Int32))) (S_fo : Sta Z Z.heap "jdk/internal/util/Preconditions" "SIOOBE_FORMATTER" "Ljava/util/function/BiFunction;" fo) (hfo : fo.isRef = true) (F_a_value : Fld Z h0 a "java/lang/AbstractStringBuilder" "value" "[B" (.ref ba)) :
    MetFree l own_y26 (head1 (Jvm.Cond.code own_y26 jdk_68_method_64_code 1 (some (.array .byte)) :: ws) ({ frames := 0, cells := 0, slots := 0, locals := 0 } : Room)) (fun aA_ U => aA_ = #[(.ref a)] ∧ Z.Warmed39 U.vm ∧ U.heap = h0) (fun _ _ _ _ _ => True) (fun _ U o U' => ∃ v L, o = .returned v ∧ own_Q28 Z a cs fo ba h0 n0 v U'.heap L ∧ FrameEnd U o U' L ({ frames := 0, cells := 0, slots := 0, locals := 0 } : Room).cells ({ frames := 0, cells := 0, slots := 0, locals := 0 } : Room).slots) := by
  refine MetFree.of_bodySF (plainFor_of_name own_pn28) hisR ?_
  intro p e s m args below meth c s₁ Bd hml0 hP hK
  obtain ⟨rfl, hZ, hh⟩ := hP
  have hx := Bd.exec
  have hby := Bd.bytes
  have hml : c.maxLocals = 1 := hml0
  have hown : s.vm.findClass "java/lang/AbstractStringBuilder" = some m.cls := findClass_of_methodNamed Bd.named
  have hnm := (name_of_methodNamed Bd.named Bd.method).1
  have X0 : Stand p l e ({ frames := 0, cells := 0, slots := 0, locals := 0 } : Room) s m #[(.ref a)] below meth c s₁ [] 0 0 := Stand.of_body Bd
  have e0 : s₁.heap = h0 := by rw [← hh, Bd.state]; rfl
  have NF := Fr.nil n0
  rw [own_ef28 m a]
  show own_Dn p e below s (own_Q28 Z a cs fo ba h0 n0) 0 0 s₁ (mkF m 0 #[.val (.ref a)] [])
  refine own_p (g' := (mkF m 1 #[rv a] [(.ref a)])) (fun _ k => XS.aloadN X0.here hx rfl (hb hby own_dB26_0) rfl rfl k) ?_
  obtain ⟨T1, X1, e1, st1⟩ := getF X0 hx hZ hown (host := "") (Or.inl (own_W hw 93 rfl)) Via.refl e0 F_a_value (g := (mkF m 1 #[rv a] [(.ref a)])) rfl rfl (hb hby own_dB26_1)
  refine own_go (T' := T1) (g' := (mkF m 4 #[rv a] [(.ref ba)])) (fun _ k => st1 _ k) ?_
  refine own_ret X1 Bd.notSynchronized (some (.ref ba)) (fun h => by rw [Bd.returns] at h; cases h) (fun fs hr => retOut X1 hx (t := (.array .byte)) Bd.returns rfl (Or.inr (Or.inr (Or.inr (Or.inr ⟨rfl, rfl, rfl⟩)))) (hb hby own_dB26_4) hr) ?_ (by decide) (by decide)
  show (own_Q28 Z a cs fo ba h0 n0) (some (.ref ba)) T1.heap _
  rw [e1]
  exact ⟨rfl, NF, rfl⟩
theorem own_dB27_0 : decode jdk_68_method_68_code 0 = .ok (.getstatic 18, 3) := by decide +kernel
theorem own_dB27_3 : decode jdk_68_method_68_code 3 = .ok (.ifCond .eq 14, 3) := by decide +kernel
theorem own_dB27_6 : decode jdk_68_method_68_code 6 = .ok (.aload_n 0, 1) := by decide +kernel
theorem own_dB27_7 : decode jdk_68_method_68_code 7 = .ok (.getfield 22, 3) := by decide +kernel
theorem own_dB27_10 : decode jdk_68_method_68_code 10 = .ok (.ifCond .ne 7, 3) := by decide +kernel
theorem own_dB27_13 : decode jdk_68_method_68_code 13 = .ok (.iconst 1, 1) := by decide +kernel
theorem own_dB27_14 : decode jdk_68_method_68_code 14 = .ok (.goto 4, 3) := by decide +kernel
theorem own_dB27_18 : decode jdk_68_method_68_code 18 = .ok (.ireturn, 1) := by decide +kernel
theorem own_pn29 : plainName "java/lang/AbstractStringBuilder" = true := by first | (simp [plainName, overriddenIn]; done) | decide +kernel
theorem own_ef29 (m : MethodId) (a : Addr) : entryFrame m #[(.ref a)] 1 = mkF m 0 #[.val (.ref a)] [] := by first | (simp [entryFrame, mkF, argsToLocals, Value.category]; done) | rfl
def own_Q29 (Z : State) (a : Addr) (cs : Int32) (fo : Value) (h0 : Heap) (n0 : Nat) (v : Option Value) (h : Heap) (L : List Loc) : Prop := v = some (.int 1) ∧ Fr n0 L ∧ h = h0
set_option maxRecDepth 65536 in
set_option maxHeartbeats 40000000 in
theorem own_rm29 (l : Launch) (Z : State) (a0 : Array Value) (hw : ∀ d ∈ tables_1, d.before a0 Z = true) (ws : List Jvm.Cond) (a : Addr) (cs : Int32) (fo : Value) (h0 : Heap) (n0 : Nat) (Zs : n0 ≤ h0.size) (OL : Old Z n0 h0) (S_cs : Sta Z Z.heap "java/lang/String" "COMPACT_STRINGS" "Z" (.int cs)) (hcs : ¬ (cs = (0 : Int32))) (S_fo : Sta Z Z.heap "jdk/internal/util/Preconditions" "SIOOBE_FORMATTER" "Ljava/util/function/BiFunction;" fo) (hfo : fo.isRef = true) (F_a_coder : Fld Z h0 a "java/lang/AbstractStringBuilder" "coder" "B" (.int 0)) :
    MetFree l own_y27 (head1 (Jvm.Cond.code own_y27 jdk_68_method_68_code 1 (some .boolean) :: ws) ({ frames := 0, cells := 0, slots := 0, locals := 0 } : Room)) (fun aA_ U => aA_ = #[(.ref a)] ∧ Z.Warmed39 U.vm ∧ U.heap = h0) (fun _ _ _ _ _ => True) (fun _ U o U' => ∃ v L, o = .returned v ∧ own_Q29 Z a cs fo h0 n0 v U'.heap L ∧ FrameEnd U o U' L ({ frames := 0, cells := 0, slots := 0, locals := 0 } : Room).cells ({ frames := 0, cells := 0, slots := 0, locals := 0 } : Room).slots) := by
  refine MetFree.of_bodySF (plainFor_of_name own_pn29) hisR ?_
  intro p e s m args below meth c s₁ Bd hml0 hP hK
  obtain ⟨rfl, hZ, hh⟩ := hP
  have hx := Bd.exec
  have hby := Bd.bytes
  have hml : c.maxLocals = 1 := hml0
  have hown : s.vm.findClass "java/lang/AbstractStringBuilder" = some m.cls := findClass_of_methodNamed Bd.named
  have hnm := (name_of_methodNamed Bd.named Bd.method).1
  have X0 : Stand p l e ({ frames := 0, cells := 0, slots := 0, locals := 0 } : Room) s m #[(.ref a)] below meth c s₁ [] 0 0 := Stand.of_body Bd
  have e0 : s₁.heap = h0 := by rw [← hh, Bd.state]; rfl
  have NF := Fr.nil n0
  rw [own_ef29 m a]
  show own_Dn p e below s (own_Q29 Z a cs fo h0 n0) 0 0 s₁ (mkF m 0 #[.val (.ref a)] [])
  obtain ⟨T1, X1, e1, st1⟩ := getS2 X0 hx hZ hown (host := "") (Or.inl (own_W hw 92 rfl)) Via.refl e0 (S_cs.ext OL.2) (g := (mkF m 0 #[rv a] [])) rfl (hb hby own_dB27_0)
  refine own_go (T' := T1) (g' := (mkF m 3 #[rv a] [(.int cs)])) (fun _ k => st1 _ k) ?_
  refine own_p (g' := (mkF m 7 #[rv a] [(.ref a)])) (fun _ k => XS.ifNo X1.here hx rfl (hb hby own_dB27_3) rfl ((if0 _ _).trans (feq hcs).1) (XS.aloadN X1.here hx rfl (hb hby own_dB27_6) rfl rfl k)) ?_
  obtain ⟨T2, X2, e2, st2⟩ := getF X1 hx hZ hown (host := "") (Or.inl (own_W hw 95 rfl)) Via.refl e1 F_a_coder (g := (mkF m 7 #[rv a] [(.ref a)])) rfl rfl (hb hby own_dB27_7)
  refine own_go (T' := T2) (g' := (mkF m 10 #[rv a] [(.int 0)])) (fun _ k => st2 _ k) ?_
  refine own_p (g' := (mkF m 18 #[rv a] [(.int 1)])) (fun _ k => XS.ifNo X2.here hx rfl (hb hby own_dB27_10) rfl (by decide) (XS.iconst X2.here hx rfl (hb hby own_dB27_13) (XS.goto X2.here hx rfl (pc0 := 14) (pc' := 18) rfl (hb hby own_dB27_14) (by decide) (by decide) k))) ?_
  refine own_ret X2 Bd.notSynchronized (some (.int 1)) (fun h => by rw [Bd.returns] at h; cases h) (fun fs hr => retN X2 hx (t := .boolean) Bd.returns (by simp) (hb hby own_dB27_18) hr) ?_ (by decide) (by decide)
  show (own_Q29 Z a cs fo h0 n0) (some (.int 1)) T2.heap _
  rw [e2]
  exact ⟨rfl, NF, rfl⟩
theorem own_dB28_0 : decode jdk_65_method_131_code 0 = .ok (.iload_n 1, 1) := by decide +kernel
theorem own_dB28_1 : decode jdk_65_method_131_code 1 = .ok (.iload_n 0, 1) := by decide +kernel
theorem own_dB28_2 : decode jdk_65_method_131_code 2 = .ok (.if_icmp .ge 35, 3) := by decide +kernel
theorem own_dB28_37 : decode jdk_65_method_131_code 37 = .ok (.return_, 1) := by decide +kernel
theorem own_pn30_5 : plainName "java/util/Arrays" = true := by first | (simp [plainName, overriddenIn]; done) | decide +kernel
theorem own_ef30_5 (m : MethodId)  : entryFrame m #[(.int 0), (.int 5)] 2 = mkF m 0 #[.val (.int 0), .val (.int 5)] [] := by first | (simp [entryFrame, mkF, argsToLocals, Value.category]; done) | rfl
def own_Q30_5 (Z : State)  (h0 : Heap) (n0 : Nat) (v : Option Value) (h : Heap) (L : List Loc) : Prop := v = none ∧ Fr n0 L ∧ h = h0
set_option maxRecDepth 65536 in
set_option maxHeartbeats 40000000 in
theorem own_rm30_5 (l : Launch) (Z : State) (a0 : Array Value) (hw : ∀ d ∈ tables_1, d.before a0 Z = true) (ws : List Jvm.Cond)  (h0 : Heap) (n0 : Nat) (Zs : n0 ≤ h0.size)  :
    MetFree l own_y28 (head1 (Jvm.Cond.code own_y28 jdk_65_method_131_code 2 none :: ws) ({ frames := 0, cells := 0, slots := 0, locals := 0 } : Room)) (fun aA_ U => aA_ = #[(.int 0), (.int 5)] ∧ Z.Warmed39 U.vm ∧ U.heap = h0) (fun _ _ _ _ _ => True) (fun _ U o U' => ∃ v L, o = .returned v ∧ own_Q30_5 Z  h0 n0 v U'.heap L ∧ FrameEnd U o U' L ({ frames := 0, cells := 0, slots := 0, locals := 0 } : Room).cells ({ frames := 0, cells := 0, slots := 0, locals := 0 } : Room).slots) := by
  refine MetFree.of_bodySF (plainFor_of_name own_pn30_5) hisR ?_
  intro p e s m args below meth c s₁ Bd hml0 hP hK
  obtain ⟨rfl, hZ, hh⟩ := hP
  have hx := Bd.exec
  have hby := Bd.bytes
  have hml : c.maxLocals = 2 := hml0
  have hown : s.vm.findClass "java/util/Arrays" = some m.cls := findClass_of_methodNamed Bd.named
  have hnm := (name_of_methodNamed Bd.named Bd.method).1
  have X0 : Stand p l e ({ frames := 0, cells := 0, slots := 0, locals := 0 } : Room) s m #[(.int 0), (.int 5)] below meth c s₁ [] 0 0 := Stand.of_body Bd
  have e0 : s₁.heap = h0 := by rw [← hh, Bd.state]; rfl
  have NF := Fr.nil n0
  rw [own_ef30_5 m ]
  show own_Dn p e below s (own_Q30_5 Z h0 n0) 0 0 s₁ (mkF m 0 #[.val (.int 0), .val (.int 5)] [])
  refine own_p (g' := (mkF m 37 #[iv 0, iv 5] [])) (fun _ k => XS.iloadN X0.here hx rfl (hb hby own_dB28_0) rfl (XS.iloadN X0.here hx rfl (hb hby own_dB28_1) rfl (XS.icmpYes X0.here hx rfl (pc0 := 2) (pc' := 37) rfl (hb hby own_dB28_2) rfl (by decide) (by decide) (by decide) k))) ?_
  refine own_ret X0 Bd.notSynchronized none (fun _ => rfl) (fun fs hr => X0.returnOut hx Bd.returns (hb hby own_dB28_37) hr) ?_ (by decide) (by decide)
  show (own_Q30_5 Z h0 n0) none s₁.heap _
  rw [e0]
  exact ⟨rfl, NF, rfl⟩
theorem own_dB29_0 : decode jdk_29_method_69_code 0 = .ok (.iload_n 0, 1) := by decide +kernel
theorem own_dB29_1 : decode jdk_29_method_69_code 1 = .ok (.iload_n 1, 1) := by decide +kernel
theorem own_dB29_2 : decode jdk_29_method_69_code 2 = .ok (.if_icmp .gt 7, 3) := by decide +kernel
theorem own_dB29_9 : decode jdk_29_method_69_code 9 = .ok (.iload_n 1, 1) := by decide +kernel
theorem own_dB29_10 : decode jdk_29_method_69_code 10 = .ok (.ireturn, 1) := by decide +kernel
theorem own_ef31_5 (m : MethodId)  : entryFrame m #[(.int 16), (.int 5)] 2 = mkF m 0 #[.val (.int 16), .val (.int 5)] [] := by first | (simp [entryFrame, mkF, argsToLocals, Value.category]; done) | rfl
def own_Q31_5 (Z : State)  (h0 : Heap) (n0 : Nat) (v : Option Value) (h : Heap) (L : List Loc) : Prop := v = some (.int 5) ∧ Fr n0 L ∧ h = h0
set_option maxRecDepth 65536 in
set_option maxHeartbeats 40000000 in
theorem own_rm31_5 (l : Launch) (Z : State) (a0 : Array Value) (hw : ∀ d ∈ tables_1, d.before a0 Z = true) (ws : List Jvm.Cond)  (h0 : Heap) (n0 : Nat) (Zs : n0 ≤ h0.size)  :
    MetFree l own_y29 (head1 (Jvm.Cond.code own_y29 jdk_29_method_69_code 2 (some .int) :: ws) ({ frames := 0, cells := 0, slots := 0, locals := 0 } : Room)) (fun aA_ U => aA_ = #[(.int 16), (.int 5)] ∧ Z.Warmed39 U.vm ∧ U.heap = h0) (fun _ _ _ _ _ => True) (fun _ U o U' => ∃ v L, o = .returned v ∧ own_Q31_5 Z  h0 n0 v U'.heap L ∧ FrameEnd U o U' L ({ frames := 0, cells := 0, slots := 0, locals := 0 } : Room).cells ({ frames := 0, cells := 0, slots := 0, locals := 0 } : Room).slots) := by
  refine MetFree.of_bodySF (Jvm.Free.JP.mathPlain rfl (by decide +kernel)) hisR ?_
  intro p e s m args below meth c s₁ Bd hml0 hP hK
  obtain ⟨rfl, hZ, hh⟩ := hP
  have hx := Bd.exec
  have hby := Bd.bytes
  have hml : c.maxLocals = 2 := hml0
  have hown : s.vm.findClass "java/lang/Math" = some m.cls := findClass_of_methodNamed Bd.named
  have hnm := (name_of_methodNamed Bd.named Bd.method).1
  have X0 : Stand p l e ({ frames := 0, cells := 0, slots := 0, locals := 0 } : Room) s m #[(.int 16), (.int 5)] below meth c s₁ [] 0 0 := Stand.of_body Bd
  have e0 : s₁.heap = h0 := by rw [← hh, Bd.state]; rfl
  have NF := Fr.nil n0
  rw [own_ef31_5 m ]
  show own_Dn p e below s (own_Q31_5 Z h0 n0) 0 0 s₁ (mkF m 0 #[.val (.int 16), .val (.int 5)] [])
  refine own_p (g' := (mkF m 9 #[iv 16, iv 5] [])) (fun _ k => XS.iloadN X0.here hx rfl (hb hby own_dB29_0) rfl (XS.iloadN X0.here hx rfl (hb hby own_dB29_1) rfl (XS.icmpYes X0.here hx rfl (pc0 := 2) (pc' := 9) rfl (hb hby own_dB29_2) rfl (by decide) (by decide) (by decide) k))) ?_
  refine own_p (g' := (mkF m 10 #[iv 16, iv 5] [(.int 5)])) (fun _ k => XS.iloadN X0.here hx rfl (hb hby own_dB29_9) rfl k) ?_
  refine own_ret X0 Bd.notSynchronized (some (.int 5)) (fun h => by rw [Bd.returns] at h; cases h) (fun fs hr => retI X0 hx Bd.returns (hb hby own_dB29_10) hr) ?_ (by decide) (by decide)
  show (own_Q31_5 Z h0 n0) (some (.int 5)) s₁.heap _
  rw [e0]
  exact ⟨rfl, NF, rfl⟩
theorem own_dB30_0 : decode jdk_65_method_133_code 0 = .ok (.iload_n 1, 1) := by decide +kernel
theorem own_dB30_1 : decode jdk_65_method_133_code 1 = .ok (.iload_n 2, 1) := by decide +kernel
theorem own_dB30_2 : decode jdk_65_method_133_code 2 = .ok (.invokestatic 343, 3) := by decide +kernel
theorem own_dB30_5 : decode jdk_65_method_133_code 5 = .ok (.iload_n 2, 1) := by decide +kernel
theorem own_dB30_6 : decode jdk_65_method_133_code 6 = .ok (.iload_n 1, 1) := by decide +kernel
theorem own_dB30_7 : decode jdk_65_method_133_code 7 = .ok (.isub, 1) := by decide +kernel
theorem own_dB30_8 : decode jdk_65_method_133_code 8 = .ok (.istore_n 3, 1) := by decide +kernel
theorem own_dB30_9 : decode jdk_65_method_133_code 9 = .ok (.iload_n 3, 1) := by decide +kernel
theorem own_dB30_10 : decode jdk_65_method_133_code 10 = .ok (.newarray .byte, 2) := by decide +kernel
theorem own_dB30_12 : decode jdk_65_method_133_code 12 = .ok (.astore 4, 2) := by decide +kernel
theorem own_dB30_14 : decode jdk_65_method_133_code 14 = .ok (.aload_n 0, 1) := by decide +kernel
theorem own_dB30_15 : decode jdk_65_method_133_code 15 = .ok (.iload_n 1, 1) := by decide +kernel
theorem own_dB30_16 : decode jdk_65_method_133_code 16 = .ok (.aload 4, 2) := by decide +kernel
theorem own_dB30_18 : decode jdk_65_method_133_code 18 = .ok (.iconst 0, 1) := by decide +kernel
theorem own_dB30_19 : decode jdk_65_method_133_code 19 = .ok (.aload_n 0, 1) := by decide +kernel
theorem own_dB30_20 : decode jdk_65_method_133_code 20 = .ok (.arraylength, 1) := by decide +kernel
theorem own_dB30_21 : decode jdk_65_method_133_code 21 = .ok (.iload_n 1, 1) := by decide +kernel
theorem own_dB30_22 : decode jdk_65_method_133_code 22 = .ok (.isub, 1) := by decide +kernel
theorem own_dB30_23 : decode jdk_65_method_133_code 23 = .ok (.iload_n 3, 1) := by decide +kernel
theorem own_dB30_24 : decode jdk_65_method_133_code 24 = .ok (.invokestatic 304, 3) := by decide +kernel
theorem own_dB30_27 : decode jdk_65_method_133_code 27 = .ok (.invokestatic 150, 3) := by decide +kernel
theorem own_dB30_30 : decode jdk_65_method_133_code 30 = .ok (.aload 4, 2) := by decide +kernel
theorem own_dB30_32 : decode jdk_65_method_133_code 32 = .ok (.areturn, 1) := by decide +kernel
theorem own_pn32_5 : plainName "java/util/Arrays" = true := by first | (simp [plainName, overriddenIn]; done) | decide +kernel
theorem own_pd32_5_0 : parseMethodDescriptor "(II)V" = some ⟨[.int, .int], none⟩ := by decide +kernel
theorem own_pd32_5_1 : parseMethodDescriptor "(II)I" = some ⟨[.int, .int], some .int⟩ := by decide +kernel
theorem own_ef32_5 (m : MethodId) (ba : Addr) : entryFrame m #[(.ref ba), (.int 0), (.int 5)] 5 = mkF m 0 #[.val (.ref ba), .val (.int 0), .val (.int 5), .unset, .unset] [] := by first | (simp [entryFrame, mkF, argsToLocals, Value.category]; done) | rfl
def own_Q32_5 (Z : State) (ba : Addr) (kb : ClassId) (x0 : Int32) (x1 : Int32) (x2 : Int32) (x3 : Int32) (x4 : Int32) (h0 : Heap) (n0 : Nat) (v : Option Value) (h : Heap) (L : List Loc) : Prop := Fr n0 L ∧ Keep h0 h [] ∧ (∃ (nb : Addr) (kn : ClassId), v = some (.ref nb) ∧ h0.size ≤ nb ∧ n0 ≤ nb ∧ Arv Z h nb kn .byte (5 : Int32) [(.int x0), (.int x1), (.int x2), (.int x3), (.int x4)] (.int 0))
set_option maxRecDepth 65536 in
set_option maxHeartbeats 40000000 in
theorem own_rm32_5 (l : Launch) (Z : State) (a0 : Array Value) (hw : ∀ d ∈ tables_1, d.before a0 Z = true) (ws : List Jvm.Cond) (ba : Addr) (kb : ClassId) (x0 : Int32) (x1 : Int32) (x2 : Int32) (x3 : Int32) (x4 : Int32) (h0 : Heap) (n0 : Nat) (Zs : n0 ≤ h0.size) (V_ba : Arv Z h0 ba kb .byte (16 : Int32) [(.int x0), (.int x1), (.int x2), (.int x3), (.int x4), (.int 0), (.int 0), (.int 0), (.int 0), (.int 0), (.int 0), (.int 0), (.int 0), (.int 0), (.int 0), (.int 0)] (.int 0)) :
    MetFree l own_y30 (head1 (Jvm.Cond.code own_y30 jdk_65_method_133_code 5 (some (.array .byte)) :: ws) ({ frames := 1, cells := 1, slots := 5, locals := 60 } : Room)) (fun aA_ U => aA_ = #[(.ref ba), (.int 0), (.int 5)] ∧ Z.Warmed39 U.vm ∧ U.heap = h0) (fun _ _ _ _ _ => True) (fun _ U o U' => ∃ v L, o = .returned v ∧ own_Q32_5 Z ba kb x0 x1 x2 x3 x4 h0 n0 v U'.heap L ∧ FrameEnd U o U' L ({ frames := 1, cells := 1, slots := 5, locals := 60 } : Room).cells ({ frames := 1, cells := 1, slots := 5, locals := 60 } : Room).slots) := by
  refine MetFree.of_bodySF (plainFor_of_name own_pn32_5) hisR ?_
  intro p e s m args below meth c s₁ Bd hml0 hP hK
  obtain ⟨rfl, hZ, hh⟩ := hP
  have hx := Bd.exec
  have hby := Bd.bytes
  have hml : c.maxLocals = 5 := hml0
  have hown : s.vm.findClass "java/util/Arrays" = some m.cls := findClass_of_methodNamed Bd.named
  have hnm := (name_of_methodNamed Bd.named Bd.method).1
  have X0 : Stand p l e ({ frames := 1, cells := 1, slots := 5, locals := 60 } : Room) s m #[(.ref ba), (.int 0), (.int 5)] below meth c s₁ [] 0 0 := Stand.of_body Bd
  have e0 : s₁.heap = h0 := by rw [← hh, Bd.state]; rfl
  have NF := Fr.nil n0
  rw [own_ef32_5 m ba]
  show own_Dn p e below s (own_Q32_5 Z ba kb x0 x1 x2 x3 x4 h0 n0) 1 5 s₁ (mkF m 0 #[.val (.ref ba), .val (.int 0), .val (.int 5), .unset, .unset] [])
  have KP := Keep.refl h0 []
  refine own_p (g' := (mkF m 2 #[rv ba, iv 0, iv 5, oU, oU] [(.int 5), (.int 0)])) (fun _ k => XS.iloadN X0.here hx rfl (hb hby own_dB30_0) rfl (XS.iloadN X0.here hx rfl (hb hby own_dB30_1) rfl k)) ?_
  obtain ⟨_, _, ⟨T1, L1, k1, n1⟩, -, X1, ⟨Lc1, hQ1, l1, y1, z1⟩, st1⟩ := Jvm.LawKit.callS X0 hx (y := own_y28) hown (mvT hZ (own_W hw 172 rfl)) (mvT hZ (own_W hw 173 rfl)) (mvT hZ (own_W hw 167 rfl)) (mvT hZ (own_W hw 174 rfl)) (by decide) (backOf (W := 0) (own_rm30_5 l Z a0 hw []  h0 n0 Zs ) hZ (own_W hw 174 rfl) (own_W hw 167 rfl) (by decide) (by decide)) (g := (mkF m 2 #[rv ba, iv 0, iv 5, oU, oU] [(.int 5), (.int 0)])) rfl (by rw [hml]; rfl) (argsL := [(.int 0), (.int 5)]) (rest := []) (lenOf own_pd32_5_0 rfl) rfl (Nat.le_refl _) (hb hby own_dB30_2) (fun _ _ => ⟨rfl, e0, (by decide : 0 + 0 ≤ _), (by decide : 0 + 0 ≤ _)⟩)
  dsimp only [Pt.U, Pt.locs, Pt.cells, Pt.slots] at X1 l1 y1 z1 st1 hQ1
  subst l1 y1 z1
  obtain ⟨rfl, NQ1, eq1⟩ := hQ1
  have NF := Fr.app NF NQ1
  refine own_go (T' := T1) (g' := (mkF m 5 #[rv ba, iv 0, iv 5, oU, oU] [])) (fun _ k => st1 _ k) ?_
  refine own_p (g' := (mkF m 8 #[rv ba, iv 0, iv 5, oU, oU] [(.int 5)])) (fun _ k => XS.iloadN X1.here hx rfl (hb hby own_dB30_5) rfl (XS.iloadN X1.here hx rfl (hb hby own_dB30_6) rfl (XS.isub X1.here hx rfl (hb hby own_dB30_7) rfl k))) ?_
  refine own_p (g' := (mkF m 10 #[rv ba, iv 0, iv 5, iv 5, oU] [(.int 5)])) (fun _ k => XS.istoreN X1.here hx rfl (hb hby own_dB30_8) rfl (l' := #[rv ba, iv 0, iv 5, iv 5, oU]) rfl (XS.iloadN X1.here hx rfl (hb hby own_dB30_9) rfl k)) ?_
  obtain ⟨T2, h2, k2, X2, e2, E2, A2, st2⟩ := newP X1 hx hZ (own_W hw 26 rfl) eq1 (g := (mkF m 10 #[rv ba, iv 0, iv 5, iv 5, oU] [(.int 5)])) rfl (hb hby own_dB30_10) rfl (by decide) (cap := 5) (by decide) (by decide) (by decide) (by decide)
  obtain ⟨b2, g2⟩ : ∃ z, z = h0.size := ⟨_, rfl⟩
  rw [← g2] at A2 st2
  have ne_ba_b2 : ba ≠ b2 := Nat.ne_of_lt (Nat.lt_of_lt_of_le V_ba.lt (Nat.le_of_eq g2.symm))
  have g_b2 : n0 ≤ b2 := Nat.le_trans Zs (Nat.le_of_eq g2.symm)
  have sz_b2 : h0.size ≤ b2 := Nat.le_trans KP.1 (Nat.le_of_eq g2.symm)
  have V_ba := V_ba.ext E2
  have KP := KP.ext E2
  have Zs := Nat.le_trans Zs E2.1
  have V_b2 : Arv Z h2 b2 k2 .byte (5 : Int32) [(.int 0), (.int 0), (.int 0), (.int 0), (.int 0)] (.int 0) := (Arv.new A2 (by decide)).pad (pad_rep [] (.int 0) 5)
  refine own_go (T' := T2) (g' := (mkF m 12 #[rv ba, iv 0, iv 5, iv 5, oU] [(.ref b2)])) (fun _ k => st2 _ k) ?_
  refine own_p (g' := (mkF m 16 #[rv ba, iv 0, iv 5, iv 5, rv b2] [(.int 0), (.ref ba)])) (fun _ k => XS.astore X2.here hx rfl (hb hby own_dB30_12) rfl rfl (l' := #[rv ba, iv 0, iv 5, iv 5, rv b2]) rfl (XS.aloadN X2.here hx rfl (hb hby own_dB30_14) rfl rfl (XS.iloadN X2.here hx rfl (hb hby own_dB30_15) rfl k))) ?_
  refine own_p (g' := (mkF m 20 #[rv ba, iv 0, iv 5, iv 5, rv b2] [(.ref ba), (.int 0), (.ref b2), (.int 0), (.ref ba)])) (fun _ k => XS.aload X2.here hx rfl (hb hby own_dB30_16) rfl rfl (XS.iconst X2.here hx rfl (hb hby own_dB30_18) (XS.aloadN X2.here hx rfl (hb hby own_dB30_19) rfl rfl k))) ?_
  obtain ⟨c_3, Ar_3, q_3, S_3, N_3, H_3, G_3⟩ := id V_ba
  refine own_go (T' := T2) (g' := (mkF m 21 #[rv ba, iv 0, iv 5, iv 5, rv b2] [(.int 16), (.int 0), (.ref b2), (.int 0), (.ref ba)])) (fun _ k => X2.arraylength hx (by rw [e2]; exact Ar_3.1) (State.isArrayOf_alike hZ.alike Ar_3.2.1) (g := (mkF m 20 #[rv ba, iv 0, iv 5, iv 5, rv b2] [(.ref ba), (.int 0), (.ref b2), (.int 0), (.ref ba)])) rfl rfl (hb hby own_dB30_20) _ (by rw [len_of S_3 N_3]; exact k)) ?_
  refine own_p (g' := (mkF m 24 #[rv ba, iv 0, iv 5, iv 5, rv b2] [(.int 5), (.int 16), (.int 0), (.ref b2), (.int 0), (.ref ba)])) (fun _ k => XS.iloadN X2.here hx rfl (hb hby own_dB30_21) rfl (XS.isub X2.here hx rfl (hb hby own_dB30_22) rfl (XS.iloadN X2.here hx rfl (hb hby own_dB30_23) rfl k))) ?_
  obtain ⟨_, _, ⟨T4, L4, k4, n4⟩, -, X4, ⟨Lc4, hQ4, l4, y4, z4⟩, st4⟩ := Jvm.LawKit.callS X2 hx (y := own_y29) hown (mvT hZ (own_W hw 175 rfl)) (mvT hZ (own_W hw 176 rfl)) (mvT hZ (own_W hw 177 rfl)) (mvT hZ (own_W hw 178 rfl)) (by decide) (backOf (W := 4) (own_rm31_5 l Z a0 hw []  h2 n0 Zs ) hZ (own_W hw 178 rfl) (own_W hw 177 rfl) (by decide) (by decide)) (g := (mkF m 24 #[rv ba, iv 0, iv 5, iv 5, rv b2] [(.int 5), (.int 16), (.int 0), (.ref b2), (.int 0), (.ref ba)])) rfl (by rw [hml]; rfl) (argsL := [(.int 16), (.int 5)]) (rest := [(.int 0), (.ref b2), (.int 0), (.ref ba)]) (lenOf own_pd32_5_1 rfl) rfl (Nat.le_refl _) (hb hby own_dB30_24) (fun _ _ => ⟨rfl, e2, (by decide : 1 + 0 ≤ _), (by decide : 5 + 0 ≤ _)⟩)
  dsimp only [Pt.U, Pt.locs, Pt.cells, Pt.slots] at X4 l4 y4 z4 st4 hQ4
  subst l4 y4 z4
  obtain ⟨rfl, NQ4, eq4⟩ := hQ4
  have NF := Fr.app NF NQ4
  refine own_go (T' := T4) (g' := (mkF m 27 #[rv ba, iv 0, iv 5, iv 5, rv b2] [(.int 5), (.int 0), (.ref b2), (.int 0), (.ref ba)])) (fun _ k => st4 _ k) ?_
  obtain ⟨T5, h5, L5, X5, e5, NF, K5, VC5, st5⟩ := cpA X4 hx hZ hown (own_W hw 179 rfl) (own_W hw 134 rfl) (own_W hw 132 rfl) (own_W hw 133 rfl) eq4 V_ba V_b2 (us := [(.int x0), (.int x1), (.int x2), (.int x3), (.int x4)]) (Or.inl ⟨rfl, rfl⟩) (sp := (0 : Int32)) (dp := (0 : Int32)) (nn := (5 : Int32)) (by decide) (by decide) (by decide) (by decide) (by decide) rfl (Nat.le_of_ble_eq_true rfl) NF g_b2 (g := (mkF m 27 #[rv ba, iv 0, iv 5, iv 5, rv b2] [(.int 5), (.int 0), (.ref b2), (.int 0), (.ref ba)])) rfl (by rw [hml]; rfl) rfl (hb hby own_dB30_27) (by decide) (W := 0) (Nat.le_refl _) (by decide +kernel)
  have V_ba := V_ba.keep K5 (ninS ne_ba_b2 nin0)
  have Zs := Nat.le_trans Zs K5.1
  have KP := KP.trans K5 ((allS (Or.inr sz_b2) all0))
  have V_b2 : Arv Z h5 b2 k2 .byte (5 : Int32) [(.int x0), (.int x1), (.int x2), (.int x3), (.int x4)] (.int 0) := VC5
  refine own_go (T' := T5) (g' := (mkF m 30 #[rv ba, iv 0, iv 5, iv 5, rv b2] [])) (fun _ k => st5 _ k) ?_
  refine own_p (g' := (mkF m 32 #[rv ba, iv 0, iv 5, iv 5, rv b2] [(.ref b2)])) (fun _ k => XS.aload X5.here hx rfl (hb hby own_dB30_30) rfl rfl k) ?_
  refine own_ret X5 Bd.notSynchronized (some (.ref b2)) (fun h => by rw [Bd.returns] at h; cases h) (fun fs hr => retOut X5 hx (t := (.array .byte)) Bd.returns rfl (Or.inr (Or.inr (Or.inr (Or.inr ⟨rfl, rfl, rfl⟩)))) (hb hby own_dB30_32) hr) ?_ (by decide) (by decide)
  show (own_Q32_5 Z ba kb x0 x1 x2 x3 x4 h0 n0) (some (.ref b2)) T5.heap _
  rw [e5]
  exact ⟨NF, KP, b2, k2, rfl, sz_b2, g_b2, V_b2⟩
theorem own_dB31_0 : decode jdk_65_method_132_code 0 = .ok (.iload_n 1, 1) := by decide +kernel
theorem own_dB31_1 : decode jdk_65_method_132_code 1 = .ok (.ifCond .ne 9, 3) := by decide +kernel
theorem own_dB31_4 : decode jdk_65_method_132_code 4 = .ok (.iload_n 2, 1) := by decide +kernel
theorem own_dB31_5 : decode jdk_65_method_132_code 5 = .ok (.aload_n 0, 1) := by decide +kernel
theorem own_dB31_6 : decode jdk_65_method_132_code 6 = .ok (.arraylength, 1) := by decide +kernel
theorem own_dB31_7 : decode jdk_65_method_132_code 7 = .ok (.if_icmp .eq 10, 3) := by decide +kernel
theorem own_dB31_10 : decode jdk_65_method_132_code 10 = .ok (.aload_n 0, 1) := by decide +kernel
theorem own_dB31_11 : decode jdk_65_method_132_code 11 = .ok (.iload_n 1, 1) := by decide +kernel
theorem own_dB31_12 : decode jdk_65_method_132_code 12 = .ok (.iload_n 2, 1) := by decide +kernel
theorem own_dB31_13 : decode jdk_65_method_132_code 13 = .ok (.invokestatic 339, 3) := by decide +kernel
theorem own_dB31_16 : decode jdk_65_method_132_code 16 = .ok (.areturn, 1) := by decide +kernel
theorem own_pn33_5 : plainName "java/util/Arrays" = true := by first | (simp [plainName, overriddenIn]; done) | decide +kernel
theorem own_pd33_5_0 : parseMethodDescriptor "([BII)[B" = some ⟨[(.array .byte), .int, .int], some (.array .byte)⟩ := by decide +kernel
theorem own_ef33_5 (m : MethodId) (ba : Addr) : entryFrame m #[(.ref ba), (.int 0), (.int 5)] 3 = mkF m 0 #[.val (.ref ba), .val (.int 0), .val (.int 5)] [] := by first | (simp [entryFrame, mkF, argsToLocals, Value.category]; done) | rfl
def own_Q33_5 (Z : State) (ba : Addr) (kb : ClassId) (x0 : Int32) (x1 : Int32) (x2 : Int32) (x3 : Int32) (x4 : Int32) (h0 : Heap) (n0 : Nat) (v : Option Value) (h : Heap) (L : List Loc) : Prop := Fr n0 L ∧ Keep h0 h [] ∧ (∃ (nb : Addr) (kn : ClassId), v = some (.ref nb) ∧ h0.size ≤ nb ∧ n0 ≤ nb ∧ Arv Z h nb kn .byte (5 : Int32) [(.int x0), (.int x1), (.int x2), (.int x3), (.int x4)] (.int 0))
set_option maxRecDepth 65536 in
set_option maxHeartbeats 40000000 in
theorem own_rm33_5 (l : Launch) (Z : State) (a0 : Array Value) (hw : ∀ d ∈ tables_1, d.before a0 Z = true) (ws : List Jvm.Cond) (ba : Addr) (kb : ClassId) (x0 : Int32) (x1 : Int32) (x2 : Int32) (x3 : Int32) (x4 : Int32) (h0 : Heap) (n0 : Nat) (Zs : n0 ≤ h0.size) (V_ba : Arv Z h0 ba kb .byte (16 : Int32) [(.int x0), (.int x1), (.int x2), (.int x3), (.int x4), (.int 0), (.int 0), (.int 0), (.int 0), (.int 0), (.int 0), (.int 0), (.int 0), (.int 0), (.int 0), (.int 0)] (.int 0)) :
    MetFree l own_y31 (head1 (Jvm.Cond.code own_y31 jdk_65_method_132_code 3 (some (.array .byte)) :: ws) ({ frames := 2, cells := 1, slots := 5, locals := 76 } : Room)) (fun aA_ U => aA_ = #[(.ref ba), (.int 0), (.int 5)] ∧ Z.Warmed39 U.vm ∧ U.heap = h0) (fun _ _ _ _ _ => True) (fun _ U o U' => ∃ v L, o = .returned v ∧ own_Q33_5 Z ba kb x0 x1 x2 x3 x4 h0 n0 v U'.heap L ∧ FrameEnd U o U' L ({ frames := 2, cells := 1, slots := 5, locals := 76 } : Room).cells ({ frames := 2, cells := 1, slots := 5, locals := 76 } : Room).slots) := by
  refine MetFree.of_bodySF (plainFor_of_name own_pn33_5) hisR ?_
  intro p e s m args below meth c s₁ Bd hml0 hP hK
  obtain ⟨rfl, hZ, hh⟩ := hP
  have hx := Bd.exec
  have hby := Bd.bytes
  have hml : c.maxLocals = 3 := hml0
  have hown : s.vm.findClass "java/util/Arrays" = some m.cls := findClass_of_methodNamed Bd.named
  have hnm := (name_of_methodNamed Bd.named Bd.method).1
  have X0 : Stand p l e ({ frames := 2, cells := 1, slots := 5, locals := 76 } : Room) s m #[(.ref ba), (.int 0), (.int 5)] below meth c s₁ [] 0 0 := Stand.of_body Bd
  have e0 : s₁.heap = h0 := by rw [← hh, Bd.state]; rfl
  have NF := Fr.nil n0
  rw [own_ef33_5 m ba]
  show own_Dn p e below s (own_Q33_5 Z ba kb x0 x1 x2 x3 x4 h0 n0) 1 5 s₁ (mkF m 0 #[.val (.ref ba), .val (.int 0), .val (.int 5)] [])
  have KP := Keep.refl h0 []
  refine own_p (g' := (mkF m 5 #[rv ba, iv 0, iv 5] [(.int 5)])) (fun _ k => XS.iloadN X0.here hx rfl (hb hby own_dB31_0) rfl (XS.ifNo X0.here hx rfl (hb hby own_dB31_1) rfl (by decide) (XS.iloadN X0.here hx rfl (hb hby own_dB31_4) rfl k))) ?_
  refine own_p (g' := (mkF m 6 #[rv ba, iv 0, iv 5] [(.ref ba), (.int 5)])) (fun _ k => XS.aloadN X0.here hx rfl (hb hby own_dB31_5) rfl rfl k) ?_
  obtain ⟨c_1, Ar_1, q_1, S_1, N_1, H_1, G_1⟩ := id V_ba
  refine own_go (T' := s₁) (g' := (mkF m 7 #[rv ba, iv 0, iv 5] [(.int 16), (.int 5)])) (fun _ k => X0.arraylength hx (by rw [e0]; exact Ar_1.1) (State.isArrayOf_alike hZ.alike Ar_1.2.1) (g := (mkF m 6 #[rv ba, iv 0, iv 5] [(.ref ba), (.int 5)])) rfl rfl (hb hby own_dB31_6) _ (by rw [len_of S_1 N_1]; exact k)) ?_
  refine own_p (g' := (mkF m 12 #[rv ba, iv 0, iv 5] [(.int 0), (.ref ba)])) (fun _ k => XS.icmpNo X0.here hx rfl (hb hby own_dB31_7) rfl (by decide) (XS.aloadN X0.here hx rfl (hb hby own_dB31_10) rfl rfl (XS.iloadN X0.here hx rfl (hb hby own_dB31_11) rfl k))) ?_
  refine own_p (g' := (mkF m 13 #[rv ba, iv 0, iv 5] [(.int 5), (.int 0), (.ref ba)])) (fun _ k => XS.iloadN X0.here hx rfl (hb hby own_dB31_12) rfl k) ?_
  have lt_ba := V_ba.lt
  have KPo := KP
  obtain ⟨_, _, ⟨T2, L2, k2, n2⟩, -, X2, ⟨Lc2, hQ2, l2, y2, z2⟩, st2⟩ := Jvm.LawKit.callS X0 hx (y := own_y30) hown (mvT hZ (own_W hw 169 rfl)) (mvT hZ (own_W hw 170 rfl)) (mvT hZ (own_W hw 167 rfl)) (mvT hZ (own_W hw 171 rfl)) (by decide) (backOf (W := 0) (own_rm32_5 l Z a0 hw [] ba kb x0 x1 x2 x3 x4 h0 n0 Zs V_ba) hZ (own_W hw 171 rfl) (own_W hw 167 rfl) (by decide) (by decide)) (g := (mkF m 13 #[rv ba, iv 0, iv 5] [(.int 5), (.int 0), (.ref ba)])) rfl (by rw [hml]; rfl) (argsL := [(.ref ba), (.int 0), (.int 5)]) (rest := []) (lenOf own_pd33_5_0 rfl) rfl (Nat.le_refl _) (hb hby own_dB31_13) (fun _ _ => ⟨rfl, e0, (by decide : 0 + 1 ≤ _), (by decide : 0 + 5 ≤ _)⟩)
  dsimp only [Pt.U, Pt.locs, Pt.cells, Pt.slots] at X2 l2 y2 z2 st2 hQ2
  subst l2 y2 z2
  obtain ⟨NQ2, K2, nb2, kn2, rfl, ge_nb2, g_nb2, V_nb2⟩ := hQ2
  have NF := Fr.app NF NQ2
  have V_ba := V_ba.keep K2 nin0
  have Zs := Nat.le_trans Zs K2.1
  have KP := KP.trans K2 (all0)
  have ne_ba_nb2 : ba ≠ nb2 := Nat.ne_of_lt (Nat.lt_of_lt_of_le lt_ba ge_nb2)
  have sz_nb2 : h0.size ≤ nb2 := Nat.le_trans KPo.1 ge_nb2
  refine own_go (T' := T2) (g' := (mkF m 16 #[rv ba, iv 0, iv 5] [(.ref nb2)])) (fun _ k => st2 _ k) ?_
  refine own_ret X2 Bd.notSynchronized (some (.ref nb2)) (fun h => by rw [Bd.returns] at h; cases h) (fun fs hr => retOut X2 hx (t := (.array .byte)) Bd.returns rfl (Or.inr (Or.inr (Or.inr (Or.inr ⟨rfl, rfl, rfl⟩)))) (hb hby own_dB31_16) hr) ?_ (by decide) (by decide)
  show (own_Q33_5 Z ba kb x0 x1 x2 x3 x4 h0 n0) (some (.ref nb2)) T2.heap _
  exact ⟨NF, KP, nb2, kn2, rfl, sz_nb2, g_nb2, V_nb2⟩
theorem own_dB32_0 : decode jdk_42_method_150_code 0 = .ok (.aload_n 0, 1) := by decide +kernel
theorem own_dB32_1 : decode jdk_42_method_150_code 1 = .ok (.invokespecial 1, 3) := by decide +kernel
theorem own_dB32_4 : decode jdk_42_method_150_code 4 = .ok (.aload_n 1, 1) := by decide +kernel
theorem own_dB32_5 : decode jdk_42_method_150_code 5 = .ok (.invokevirtual 552, 3) := by decide +kernel
theorem own_dB32_8 : decode jdk_42_method_150_code 8 = .ok (.astore_n 3, 1) := by decide +kernel
theorem own_dB32_9 : decode jdk_42_method_150_code 9 = .ok (.aload_n 1, 1) := by decide +kernel
theorem own_dB32_10 : decode jdk_42_method_150_code 10 = .ok (.invokevirtual 549, 3) := by decide +kernel
theorem own_dB32_13 : decode jdk_42_method_150_code 13 = .ok (.istore 4, 2) := by decide +kernel
theorem own_dB32_15 : decode jdk_42_method_150_code 15 = .ok (.aload_n 1, 1) := by decide +kernel
theorem own_dB32_16 : decode jdk_42_method_150_code 16 = .ok (.invokevirtual 1047, 3) := by decide +kernel
theorem own_dB32_19 : decode jdk_42_method_150_code 19 = .ok (.ifCond .eq 22, 3) := by decide +kernel
theorem own_dB32_22 : decode jdk_42_method_150_code 22 = .ok (.aload_n 0, 1) := by decide +kernel
theorem own_dB32_23 : decode jdk_42_method_150_code 23 = .ok (.iconst 0, 1) := by decide +kernel
theorem own_dB32_24 : decode jdk_42_method_150_code 24 = .ok (.putfield 15, 3) := by decide +kernel
theorem own_dB32_27 : decode jdk_42_method_150_code 27 = .ok (.aload_n 0, 1) := by decide +kernel
theorem own_dB32_28 : decode jdk_42_method_150_code 28 = .ok (.aload_n 3, 1) := by decide +kernel
theorem own_dB32_29 : decode jdk_42_method_150_code 29 = .ok (.iconst 0, 1) := by decide +kernel
theorem own_dB32_30 : decode jdk_42_method_150_code 30 = .ok (.iload 4, 2) := by decide +kernel
theorem own_dB32_32 : decode jdk_42_method_150_code 32 = .ok (.invokestatic 54, 3) := by decide +kernel
theorem own_dB32_35 : decode jdk_42_method_150_code 35 = .ok (.putfield 9, 3) := by decide +kernel
theorem own_dB32_38 : decode jdk_42_method_150_code 38 = .ok (.goto 59, 3) := by decide +kernel
theorem own_dB32_97 : decode jdk_42_method_150_code 97 = .ok (.return_, 1) := by decide +kernel
theorem own_pn34_5 : plainName "java/lang/String" = true := by first | (simp [plainName, overriddenIn]; done) | decide +kernel
theorem own_pd34_5_0 : parseMethodDescriptor "()[B" = some ⟨[], some (.array .byte)⟩ := by decide +kernel
theorem own_pd34_5_1 : parseMethodDescriptor "()I" = some ⟨[], some .int⟩ := by decide +kernel
theorem own_pd34_5_2 : parseMethodDescriptor "()Z" = some ⟨[], some .boolean⟩ := by decide +kernel
theorem own_pd34_5_3 : parseMethodDescriptor "([BII)[B" = some ⟨[(.array .byte), .int, .int], some (.array .byte)⟩ := by decide +kernel
theorem own_ef34_5 (m : MethodId) (a : Addr) (sb : Addr) : entryFrame m #[(.ref a), (.ref sb), .null] 5 = mkF m 0 #[.val (.ref a), .val (.ref sb), .val .null, .unset, .unset] [] := by first | (simp [entryFrame, mkF, argsToLocals, Value.category]; done) | rfl
def own_Q34_5 (Z : State) (a : Addr) (sb : Addr) (cs : Int32) (fo : Value) (ba : Addr) (kb : ClassId) (x0 : Int32) (x1 : Int32) (x2 : Int32) (x3 : Int32) (x4 : Int32) (h0 : Heap) (n0 : Nat) (v : Option Value) (h : Heap) (L : List Loc) : Prop := v = none ∧ Fr n0 L ∧ Keep h0 h [a] ∧ Exa Z h a "java/lang/String" ∧ (∃ (nb : Addr) (kn : ClassId), h0.size ≤ nb ∧ n0 ≤ nb ∧ Arv Z h nb kn .byte (5 : Int32) [(.int x0), (.int x1), (.int x2), (.int x3), (.int x4)] (.int 0) ∧ Fld Z h a "java/lang/String" "value" "[B" (.ref nb) ∧ Fld Z h a "java/lang/String" "coder" "B" (.int 0))
set_option maxRecDepth 65536 in
set_option maxHeartbeats 40000000 in
theorem own_rm34_5 (l : Launch) (Z : State) (a0 : Array Value) (hw : ∀ d ∈ tables_1, d.before a0 Z = true) (ws : List Jvm.Cond) (a : Addr) (sb : Addr) (cs : Int32) (fo : Value) (ba : Addr) (kb : ClassId) (x0 : Int32) (x1 : Int32) (x2 : Int32) (x3 : Int32) (x4 : Int32) (h0 : Heap) (n0 : Nat) (Zs : n0 ≤ h0.size) (OL : Old Z n0 h0) (S_cs : Sta Z Z.heap "java/lang/String" "COMPACT_STRINGS" "Z" (.int cs)) (hcs : ¬ (cs = (0 : Int32))) (S_fo : Sta Z Z.heap "jdk/internal/util/Preconditions" "SIOOBE_FORMATTER" "Ljava/util/function/BiFunction;" fo) (hfo : fo.isRef = true) (F_a_value : Fld Z h0 a "java/lang/String" "value" "[B" .null) (F_a_coder : Fld Z h0 a "java/lang/String" "coder" "B" (.int 0)) (E_a : Exa Z h0 a "java/lang/String") (g_a : n0 ≤ a) (E_sb : Exa Z h0 sb "java/lang/StringBuilder") (F_sb_value : Fld Z h0 sb "java/lang/AbstractStringBuilder" "value" "[B" (.ref ba)) (F_sb_coder : Fld Z h0 sb "java/lang/AbstractStringBuilder" "coder" "B" (.int 0)) (F_sb_count : Fld Z h0 sb "java/lang/AbstractStringBuilder" "count" "I" (.int 5)) (V_ba : Arv Z h0 ba kb .byte (16 : Int32) [(.int x0), (.int x1), (.int x2), (.int x3), (.int x4), (.int 0), (.int 0), (.int 0), (.int 0), (.int 0), (.int 0), (.int 0), (.int 0), (.int 0), (.int 0), (.int 0)] (.int 0)) (ne_a_sb : a ≠ sb) (ne_a_ba : a ≠ ba) :
    MetFree l own_y32 (head1 (Jvm.Cond.code own_y32 jdk_42_method_150_code 5 none :: ws) ({ frames := 3, cells := 1, slots := 5, locals := 91 } : Room)) (fun aA_ U => aA_ = #[(.ref a), (.ref sb), .null] ∧ Z.Warmed39 U.vm ∧ U.heap = h0) (fun _ _ _ _ _ => True) (fun _ U o U' => ∃ v L, o = .returned v ∧ own_Q34_5 Z a sb cs fo ba kb x0 x1 x2 x3 x4 h0 n0 v U'.heap L ∧ FrameEnd U o U' L ({ frames := 3, cells := 1, slots := 5, locals := 91 } : Room).cells ({ frames := 3, cells := 1, slots := 5, locals := 91 } : Room).slots) := by
  refine MetFree.of_bodySF (plainFor_of_name own_pn34_5) hisR ?_
  intro p e s m args below meth c s₁ Bd hml0 hP hK
  obtain ⟨rfl, hZ, hh⟩ := hP
  have hx := Bd.exec
  have hby := Bd.bytes
  have hml : c.maxLocals = 5 := hml0
  have hown : s.vm.findClass "java/lang/String" = some m.cls := findClass_of_methodNamed Bd.named
  have hnm := (name_of_methodNamed Bd.named Bd.method).1
  have X0 : Stand p l e ({ frames := 3, cells := 1, slots := 5, locals := 91 } : Room) s m #[(.ref a), (.ref sb), .null] below meth c s₁ [] 0 0 := Stand.of_body Bd
  have e0 : s₁.heap = h0 := by rw [← hh, Bd.state]; rfl
  have NF := Fr.nil n0
  rw [own_ef34_5 m a sb]
  show own_Dn p e below s (own_Q34_5 Z a sb cs fo ba kb x0 x1 x2 x3 x4 h0 n0) 1 5 s₁ (mkF m 0 #[.val (.ref a), .val (.ref sb), .val .null, .unset, .unset] [])
  have KP := Keep.refl h0 [a]
  refine own_p (g' := (mkF m 1 #[rv a, rv sb, Slot.val .null, oU, oU] [(.ref a)])) (fun _ k => XS.aloadN X0.here hx rfl (hb hby own_dB32_0) rfl rfl k) ?_
  obtain ⟨T1, X1, e1, st1⟩ := initO X0 hx hZ hown (own_W hw 18 rfl) (own_W hw 19 rfl) (own_W hw 20 rfl) e0 (g := (mkF m 1 #[rv a, rv sb, Slot.val .null, oU, oU] [(.ref a)])) rfl (by rw [hml]; rfl) rfl (hb hby own_dB32_1) (by decide) (W := 0) (Nat.le_refl _) (by decide)
  refine own_go (T' := T1) (g' := (mkF m 4 #[rv a, rv sb, Slot.val .null, oU, oU] [])) (fun _ k => st1 _ k) ?_
  refine own_p (g' := (mkF m 5 #[rv a, rv sb, Slot.val .null, oU, oU] [(.ref sb)])) (fun _ k => XS.aloadN X1.here hx rfl (hb hby own_dB32_4) rfl rfl k) ?_
  obtain ⟨cq2, kq2, q2a, q2b, q2c⟩ := isOf hZ e1 E_sb
  obtain ⟨_, _, ⟨T2, L2, k2, n2⟩, -, X2, ⟨Lc2, hQ2, l2, y2, z2⟩, st2⟩ := X1.virtualBack hx (y := own_y26) (z := own_y26) hown (mvT hZ (own_W hw 147 rfl)) (mvT hZ (own_W hw 148 rfl)) (notFace_of_selects (args := #[]) (mvT hZ (own_W hw 150 rfl))) (mvT hZ (own_W hw 150 rfl)) (mvT hZ (own_W hw 149 rfl)) (by decide) (backOf (W := 0) (own_rm28 l Z a0 hw [] sb cs fo ba h0 n0 Zs OL S_cs hcs S_fo hfo  F_sb_value) hZ (own_W hw 151 rfl) (own_W hw 89 rfl) (by decide) (by decide)) q2a q2c (g := (mkF m 5 #[rv a, rv sb, Slot.val .null, oU, oU] [(.ref sb)])) rfl (by rw [hml]; rfl) (Steps.refl _) (argsL := []) (rest := []) (lenOf own_pd34_5_0 rfl) rfl (Nat.le_refl _) (hb hby own_dB32_5) (fun _ _ => ⟨rfl, e1, (by decide : 0 + 0 ≤ _), (by decide : 0 + 0 ≤ _)⟩)
  dsimp only [Pt.U, Pt.locs, Pt.cells, Pt.slots] at X2 l2 y2 z2 st2 hQ2
  subst l2 y2 z2
  obtain ⟨rfl, NQ2, eq2⟩ := hQ2
  have NF := Fr.app NF NQ2
  refine own_go (T' := T2) (g' := (mkF m 8 #[rv a, rv sb, Slot.val .null, oU, oU] [(.ref ba)])) (fun _ k => st2.trans k) ?_
  refine own_p (g' := (mkF m 10 #[rv a, rv sb, Slot.val .null, rv ba, oU] [(.ref sb)])) (fun _ k => XS.astoreN X2.here hx rfl (hb hby own_dB32_8) rfl rfl (l' := #[rv a, rv sb, Slot.val .null, rv ba, oU]) rfl (XS.aloadN X2.here hx rfl (hb hby own_dB32_9) rfl rfl k)) ?_
  obtain ⟨cq3, kq3, q3a, q3b, q3c⟩ := isOf hZ eq2 E_sb
  obtain ⟨_, _, ⟨T3, L3, k3, n3⟩, -, X3, ⟨Lc3, hQ3, l3, y3, z3⟩, st3⟩ := X2.virtualBack hx (y := own_y24) (z := own_y25) hown (mvT hZ (own_W hw 152 rfl)) (mvT hZ (own_W hw 153 rfl)) (own_nf (args := #[]) (y' := own_y19) rfl (mvT hZ (own_W hw 113 rfl))) (mvT hZ (own_W hw 155 rfl)) (mvT hZ (own_W hw 156 rfl)) (by decide) (backOf (W := 0) (own_rm27 l Z a0 hw [] sb cs fo (5 : Int32) h0 n0 Zs OL S_cs hcs S_fo hfo E_sb F_sb_count) hZ (own_W hw 157 rfl) (own_W hw 81 rfl) (by decide) (by decide)) q3a q3c (g := (mkF m 10 #[rv a, rv sb, Slot.val .null, rv ba, oU] [(.ref sb)])) rfl (by rw [hml]; rfl) (Steps.refl _) (argsL := []) (rest := []) (lenOf own_pd34_5_1 rfl) rfl (Nat.le_refl _) (hb hby own_dB32_10) (fun _ _ => ⟨rfl, eq2, (by decide : 0 + 0 ≤ _), (by decide : 0 + 0 ≤ _)⟩)
  dsimp only [Pt.U, Pt.locs, Pt.cells, Pt.slots] at X3 l3 y3 z3 st3 hQ3
  subst l3 y3 z3
  obtain ⟨rfl, NQ3, eq3⟩ := hQ3
  have NF := Fr.app NF NQ3
  refine own_go (T' := T3) (g' := (mkF m 13 #[rv a, rv sb, Slot.val .null, rv ba, oU] [(.int 5)])) (fun _ k => st3.trans k) ?_
  refine own_p (g' := (mkF m 16 #[rv a, rv sb, Slot.val .null, rv ba, iv 5] [(.ref sb)])) (fun _ k => XS.istore X3.here hx rfl (hb hby own_dB32_13) rfl (l' := #[rv a, rv sb, Slot.val .null, rv ba, iv 5]) rfl (XS.aloadN X3.here hx rfl (hb hby own_dB32_15) rfl rfl k)) ?_
  obtain ⟨cq4, kq4, q4a, q4b, q4c⟩ := isOf hZ eq3 E_sb
  obtain ⟨_, _, ⟨T4, L4, k4, n4⟩, -, X4, ⟨Lc4, hQ4, l4, y4, z4⟩, st4⟩ := X3.virtualBack hx (y := own_y27) (z := own_y27) hown (mvT hZ (own_W hw 160 rfl)) (mvT hZ (own_W hw 161 rfl)) (notFace_of_selects (args := #[]) (mvT hZ (own_W hw 163 rfl))) (mvT hZ (own_W hw 163 rfl)) (mvT hZ (own_W hw 162 rfl)) (by decide) (backOf (W := 0) (own_rm29 l Z a0 hw [] sb cs fo  h0 n0 Zs OL S_cs hcs S_fo hfo  F_sb_coder) hZ (own_W hw 164 rfl) (own_W hw 89 rfl) (by decide) (by decide)) q4a q4c (g := (mkF m 16 #[rv a, rv sb, Slot.val .null, rv ba, iv 5] [(.ref sb)])) rfl (by rw [hml]; rfl) (Steps.refl _) (argsL := []) (rest := []) (lenOf own_pd34_5_2 rfl) rfl (Nat.le_refl _) (hb hby own_dB32_16) (fun _ _ => ⟨rfl, eq3, (by decide : 0 + 0 ≤ _), (by decide : 0 + 0 ≤ _)⟩)
  dsimp only [Pt.U, Pt.locs, Pt.cells, Pt.slots] at X4 l4 y4 z4 st4 hQ4
  subst l4 y4 z4
  obtain ⟨rfl, NQ4, eq4⟩ := hQ4
  have NF := Fr.app NF NQ4
  refine own_go (T' := T4) (g' := (mkF m 19 #[rv a, rv sb, Slot.val .null, rv ba, iv 5] [(.int 1)])) (fun _ k => st4.trans k) ?_
  refine own_p (g' := (mkF m 24 #[rv a, rv sb, Slot.val .null, rv ba, iv 5] [(.int 0), (.ref a)])) (fun _ k => XS.ifNo X4.here hx rfl (hb hby own_dB32_19) rfl (by decide) (XS.aloadN X4.here hx rfl (hb hby own_dB32_22) rfl rfl (XS.iconst X4.here hx rfl (hb hby own_dB32_23) k))) ?_
  obtain ⟨T5, h5, X5, e5, W5, st5⟩ := putFN X4 hx hZ hown (own_W hw 33 rfl) Via.refl eq4 F_a_coder E_a (Or.inr ⟨(own_W hw 34 rfl), rfl, hnm⟩) (own_W hw 9 rfl) (ty := .byte) (v' := (.int 0)) (by decide) rfl (by decide) (g := (mkF m 24 #[rv a, rv sb, Slot.val .null, rv ba, iv 5] [(.int 0), (.ref a)])) rfl rfl (hb hby own_dB32_24)
  have E_a := E_a.wr W5
  have F_a_value := F_a_value.other W5 (Or.inr (slot_ne (Or.inr (own_W hw 36 rfl)) (Or.inr (own_W hw 34 rfl)) (by decide) (t := (.array .byte)) (t' := .byte) (by decide) (by decide)))
  have E_sb := E_sb.wr W5
  have F_sb_value := F_sb_value.other W5 (Or.inl (Ne.symm ne_a_sb))
  have F_sb_coder := F_sb_coder.other W5 (Or.inl (Ne.symm ne_a_sb))
  have F_sb_count := F_sb_count.other W5 (Or.inl (Ne.symm ne_a_sb))
  have V_ba := V_ba.other W5 (Ne.symm ne_a_ba)
  have OL := OL.wr W5 g_a
  have Zs := Nat.le_trans Zs (Keep.of_wr W5).1
  have F_a_coder := F_a_coder.same W5
  have KP := KP.wr W5 (Or.inl (by simp))
  have NF := Fr.snoc X5 NF g_a
  refine own_go (T' := T5) (g' := (mkF m 27 #[rv a, rv sb, Slot.val .null, rv ba, iv 5] [])) (fun _ k => st5 _ k) ?_
  refine own_p (g' := (mkF m 30 #[rv a, rv sb, Slot.val .null, rv ba, iv 5] [(.int 0), (.ref ba), (.ref a)])) (fun _ k => XS.aloadN X5.here hx rfl (hb hby own_dB32_27) rfl rfl (XS.aloadN X5.here hx rfl (hb hby own_dB32_28) rfl rfl (XS.iconst X5.here hx rfl (hb hby own_dB32_29) k))) ?_
  refine own_p (g' := (mkF m 32 #[rv a, rv sb, Slot.val .null, rv ba, iv 5] [(.int 5), (.int 0), (.ref ba), (.ref a)])) (fun _ k => XS.iload X5.here hx rfl (hb hby own_dB32_30) rfl k) ?_
  have lt_a := E_a.lt
  have lt_ba := V_ba.lt
  have lt_sb := E_sb.lt
  have KPo := KP
  obtain ⟨_, _, ⟨T6, L6, k6, n6⟩, -, X6, ⟨Lc6, hQ6, l6, y6, z6⟩, st6⟩ := Jvm.LawKit.callS X5 hx (y := own_y31) hown (mvT hZ (own_W hw 165 rfl)) (mvT hZ (own_W hw 166 rfl)) (mvT hZ (own_W hw 167 rfl)) (mvT hZ (own_W hw 168 rfl)) (by decide) (backOf (W := 1) (own_rm33_5 l Z a0 hw [] ba kb x0 x1 x2 x3 x4 h5 n0 Zs V_ba) hZ (own_W hw 168 rfl) (own_W hw 167 rfl) (by decide) (by decide)) (g := (mkF m 32 #[rv a, rv sb, Slot.val .null, rv ba, iv 5] [(.int 5), (.int 0), (.ref ba), (.ref a)])) rfl (by rw [hml]; rfl) (argsL := [(.ref ba), (.int 0), (.int 5)]) (rest := [(.ref a)]) (lenOf own_pd34_5_3 rfl) rfl (Nat.le_refl _) (hb hby own_dB32_32) (fun _ _ => ⟨rfl, e5, (by decide : 0 + 1 ≤ _), (by decide : 0 + 5 ≤ _)⟩)
  dsimp only [Pt.U, Pt.locs, Pt.cells, Pt.slots] at X6 l6 y6 z6 st6 hQ6
  subst l6 y6 z6
  obtain ⟨NQ6, K6, nb6, kn6, rfl, ge_nb6, g_nb6, V_nb6⟩ := hQ6
  have NF := Fr.app NF NQ6
  have E_a := E_a.keep K6
  have F_a_value := F_a_value.keep K6 nin0
  have E_sb := E_sb.keep K6
  have F_sb_value := F_sb_value.keep K6 nin0
  have F_sb_coder := F_sb_coder.keep K6 nin0
  have F_sb_count := F_sb_count.keep K6 nin0
  have V_ba := V_ba.keep K6 nin0
  have OL := OL.keep K6 all0
  have F_a_coder := F_a_coder.keep K6 nin0
  have Zs := Nat.le_trans Zs K6.1
  have KP := KP.trans K6 (all0)
  have ne_a_nb6 : a ≠ nb6 := Nat.ne_of_lt (Nat.lt_of_lt_of_le lt_a ge_nb6)
  have ne_ba_nb6 : ba ≠ nb6 := Nat.ne_of_lt (Nat.lt_of_lt_of_le lt_ba ge_nb6)
  have ne_sb_nb6 : sb ≠ nb6 := Nat.ne_of_lt (Nat.lt_of_lt_of_le lt_sb ge_nb6)
  have sz_nb6 : h0.size ≤ nb6 := Nat.le_trans KPo.1 ge_nb6
  refine own_go (T' := T6) (g' := (mkF m 35 #[rv a, rv sb, Slot.val .null, rv ba, iv 5] [(.ref nb6), (.ref a)])) (fun _ k => st6 _ k) ?_
  obtain ⟨T7, h7, X7, e7, W7, st7⟩ := putF X6 hx hZ hown (host := "") (Or.inl (own_W hw 35 rfl)) Via.refl rfl F_a_value E_a (Or.inr ⟨(own_W hw 36 rfl), rfl, hnm⟩) (own_W hw 9 rfl) (ty := (.array .byte)) (by decide) rfl rfl (g := (mkF m 35 #[rv a, rv sb, Slot.val .null, rv ba, iv 5] [(.ref nb6), (.ref a)])) rfl rfl (hb hby own_dB32_35)
  have E_a := E_a.wr W7
  have E_sb := E_sb.wr W7
  have F_sb_value := F_sb_value.other W7 (Or.inl (Ne.symm ne_a_sb))
  have F_sb_coder := F_sb_coder.other W7 (Or.inl (Ne.symm ne_a_sb))
  have F_sb_count := F_sb_count.other W7 (Or.inl (Ne.symm ne_a_sb))
  have V_ba := V_ba.other W7 (Ne.symm ne_a_ba)
  have OL := OL.wr W7 g_a
  have F_a_coder := F_a_coder.other W7 (Or.inr (slot_ne (Or.inr (own_W hw 34 rfl)) (Or.inr (own_W hw 36 rfl)) (by decide) (t := .byte) (t' := (.array .byte)) (by decide) (by decide)))
  have V_nb6 := V_nb6.other W7 (Ne.symm ne_a_nb6)
  have Zs := Nat.le_trans Zs (Keep.of_wr W7).1
  have F_a_value := F_a_value.same W7
  have KP := KP.wr W7 (Or.inl (by simp))
  have NF := Fr.snoc X7 NF g_a
  refine own_go (T' := T7) (g' := (mkF m 38 #[rv a, rv sb, Slot.val .null, rv ba, iv 5] [])) (fun _ k => st7 _ k) ?_
  refine own_p (g' := (mkF m 97 #[rv a, rv sb, Slot.val .null, rv ba, iv 5] [])) (fun _ k => XS.goto X7.here hx rfl (pc0 := 38) (pc' := 97) rfl (hb hby own_dB32_38) (by decide) (by decide) k) ?_
  refine own_ret X7 Bd.notSynchronized none (fun _ => rfl) (fun fs hr => X7.returnOut hx Bd.returns (hb hby own_dB32_97) hr) ?_ (by decide) (by decide)
  show (own_Q34_5 Z a sb cs fo ba kb x0 x1 x2 x3 x4 h0 n0) none T7.heap _
  rw [e7]
  exact ⟨rfl, NF, KP, E_a, nb6, kn6, sz_nb6, g_nb6, V_nb6, F_a_value, F_a_coder⟩
theorem own_dB33_0 : decode jdk_42_method_53_code 0 = .ok (.aload_n 0, 1) := by decide +kernel
theorem own_dB33_1 : decode jdk_42_method_53_code 1 = .ok (.aload_n 1, 1) := by decide +kernel
theorem own_dB33_2 : decode jdk_42_method_53_code 2 = .ok (.aconst_null, 1) := by decide +kernel
theorem own_dB33_3 : decode jdk_42_method_53_code 3 = .ok (.invokespecial 489, 3) := by decide +kernel
theorem own_dB33_6 : decode jdk_42_method_53_code 6 = .ok (.return_, 1) := by decide +kernel
theorem own_pn35_5 : plainName "java/lang/String" = true := by first | (simp [plainName, overriddenIn]; done) | decide +kernel
theorem own_pd35_5_0 : parseMethodDescriptor "(Ljava/lang/AbstractStringBuilder;Ljava/lang/Void;)V" = some ⟨[(.object "java/lang/AbstractStringBuilder"), (.object "java/lang/Void")], none⟩ := by decide +kernel
theorem own_ef35_5 (m : MethodId) (a : Addr) (sb : Addr) : entryFrame m #[(.ref a), (.ref sb)] 2 = mkF m 0 #[.val (.ref a), .val (.ref sb)] [] := by first | (simp [entryFrame, mkF, argsToLocals, Value.category]; done) | rfl
def own_Q35_5 (Z : State) (a : Addr) (sb : Addr) (cs : Int32) (fo : Value) (ba : Addr) (kb : ClassId) (x0 : Int32) (x1 : Int32) (x2 : Int32) (x3 : Int32) (x4 : Int32) (h0 : Heap) (n0 : Nat) (v : Option Value) (h : Heap) (L : List Loc) : Prop := v = none ∧ Fr n0 L ∧ Keep h0 h [a] ∧ Exa Z h a "java/lang/String" ∧ (∃ (nb : Addr) (kn : ClassId), h0.size ≤ nb ∧ n0 ≤ nb ∧ Arv Z h nb kn .byte (5 : Int32) [(.int x0), (.int x1), (.int x2), (.int x3), (.int x4)] (.int 0) ∧ Fld Z h a "java/lang/String" "value" "[B" (.ref nb) ∧ Fld Z h a "java/lang/String" "coder" "B" (.int 0))
set_option maxRecDepth 65536 in
set_option maxHeartbeats 40000000 in
theorem own_rm35_5 (l : Launch) (Z : State) (a0 : Array Value) (hw : ∀ d ∈ tables_1, d.before a0 Z = true) (ws : List Jvm.Cond) (a : Addr) (sb : Addr) (cs : Int32) (fo : Value) (ba : Addr) (kb : ClassId) (x0 : Int32) (x1 : Int32) (x2 : Int32) (x3 : Int32) (x4 : Int32) (h0 : Heap) (n0 : Nat) (Zs : n0 ≤ h0.size) (OL : Old Z n0 h0) (S_cs : Sta Z Z.heap "java/lang/String" "COMPACT_STRINGS" "Z" (.int cs)) (hcs : ¬ (cs = (0 : Int32))) (S_fo : Sta Z Z.heap "jdk/internal/util/Preconditions" "SIOOBE_FORMATTER" "Ljava/util/function/BiFunction;" fo) (hfo : fo.isRef = true) (F_a_value : Fld Z h0 a "java/lang/String" "value" "[B" .null) (F_a_coder : Fld Z h0 a "java/lang/String" "coder" "B" (.int 0)) (E_a : Exa Z h0 a "java/lang/String") (g_a : n0 ≤ a) (E_sb : Exa Z h0 sb "java/lang/StringBuilder") (F_sb_value : Fld Z h0 sb "java/lang/AbstractStringBuilder" "value" "[B" (.ref ba)) (F_sb_coder : Fld Z h0 sb "java/lang/AbstractStringBuilder" "coder" "B" (.int 0)) (F_sb_count : Fld Z h0 sb "java/lang/AbstractStringBuilder" "count" "I" (.int 5)) (V_ba : Arv Z h0 ba kb .byte (16 : Int32) [(.int x0), (.int x1), (.int x2), (.int x3), (.int x4), (.int 0), (.int 0), (.int 0), (.int 0), (.int 0), (.int 0), (.int 0), (.int 0), (.int 0), (.int 0), (.int 0)] (.int 0)) (ne_a_sb : a ≠ sb) (ne_a_ba : a ≠ ba) :
    MetFree l own_y33 (head1 (Jvm.Cond.code own_y33 jdk_42_method_53_code 2 none :: ws) ({ frames := 4, cells := 1, slots := 5, locals := 107 } : Room)) (fun aA_ U => aA_ = #[(.ref a), (.ref sb)] ∧ Z.Warmed39 U.vm ∧ U.heap = h0) (fun _ _ _ _ _ => True) (fun _ U o U' => ∃ v L, o = .returned v ∧ own_Q35_5 Z a sb cs fo ba kb x0 x1 x2 x3 x4 h0 n0 v U'.heap L ∧ FrameEnd U o U' L ({ frames := 4, cells := 1, slots := 5, locals := 107 } : Room).cells ({ frames := 4, cells := 1, slots := 5, locals := 107 } : Room).slots) := by
  refine MetFree.of_bodySF (plainFor_of_name own_pn35_5) hisR ?_
  intro p e s m args below meth c s₁ Bd hml0 hP hK
  obtain ⟨rfl, hZ, hh⟩ := hP
  have hx := Bd.exec
  have hby := Bd.bytes
  have hml : c.maxLocals = 2 := hml0
  have hown : s.vm.findClass "java/lang/String" = some m.cls := findClass_of_methodNamed Bd.named
  have hnm := (name_of_methodNamed Bd.named Bd.method).1
  have X0 : Stand p l e ({ frames := 4, cells := 1, slots := 5, locals := 107 } : Room) s m #[(.ref a), (.ref sb)] below meth c s₁ [] 0 0 := Stand.of_body Bd
  have e0 : s₁.heap = h0 := by rw [← hh, Bd.state]; rfl
  have NF := Fr.nil n0
  rw [own_ef35_5 m a sb]
  show own_Dn p e below s (own_Q35_5 Z a sb cs fo ba kb x0 x1 x2 x3 x4 h0 n0) 1 5 s₁ (mkF m 0 #[.val (.ref a), .val (.ref sb)] [])
  have KP := Keep.refl h0 [a]
  refine own_p (g' := (mkF m 3 #[rv a, rv sb] [.null, (.ref sb), (.ref a)])) (fun _ k => XS.aloadN X0.here hx rfl (hb hby own_dB33_0) rfl rfl (XS.aloadN X0.here hx rfl (hb hby own_dB33_1) rfl rfl (XS.aconstNull X0.here hx rfl (hb hby own_dB33_2) k))) ?_
  have lt_a := E_a.lt
  have lt_ba := V_ba.lt
  have lt_sb := E_sb.lt
  have KPo := KP
  obtain ⟨_, _, ⟨T1, L1, k1, n1⟩, -, X1, ⟨Lc1, hQ1, l1, y1, z1⟩, st1⟩ := X0.specialBack hx (y := own_y32) rfl hown (mvT hZ (own_W hw 144 rfl)) (mvT hZ (own_W hw 145 rfl)) (mvT hZ (own_W hw 146 rfl)) (by decide) (backOf (W := 0) (own_rm34_5 l Z a0 hw [] a sb cs fo ba kb x0 x1 x2 x3 x4 h0 n0 Zs OL S_cs hcs S_fo hfo F_a_value F_a_coder E_a g_a E_sb F_sb_value F_sb_coder F_sb_count V_ba ne_a_sb ne_a_ba) hZ (own_W hw 146 rfl) (own_W hw 10 rfl) (by decide) (by decide)) (g := (mkF m 3 #[rv a, rv sb] [.null, (.ref sb), (.ref a)])) rfl (by rw [hml]; rfl) (Steps.refl _) (a := a) (argsL := [(.ref sb), .null]) (rest := []) (lenOf own_pd35_5_0 rfl) rfl (Nat.le_refl _) (hb hby own_dB33_3) (fun _ _ => ⟨rfl, e0, (by decide : 0 + 1 ≤ _), (by decide : 0 + 5 ≤ _)⟩)
  dsimp only [Pt.U, Pt.locs, Pt.cells, Pt.slots] at X1 l1 y1 z1 st1 hQ1
  subst l1 y1 z1
  obtain ⟨rfl, NQ1, K1, E_a, nb1, kn1, ge_nb1, g_nb1, V_nb1, F_a_value, F_a_coder⟩ := hQ1
  have NF := Fr.app NF NQ1
  have E_sb := E_sb.keep K1
  have F_sb_value := F_sb_value.keep K1 (ninS (Ne.symm ne_a_sb) nin0)
  have F_sb_coder := F_sb_coder.keep K1 (ninS (Ne.symm ne_a_sb) nin0)
  have F_sb_count := F_sb_count.keep K1 (ninS (Ne.symm ne_a_sb) nin0)
  have V_ba := V_ba.keep K1 (ninS (Ne.symm ne_a_ba) nin0)
  have OL := OL.keep K1 (allS g_a all0)
  have Zs := Nat.le_trans Zs K1.1
  have KP := KP.trans K1 ((allS (Or.inl (by simp)) all0))
  have ne_a_nb1 : a ≠ nb1 := Nat.ne_of_lt (Nat.lt_of_lt_of_le lt_a ge_nb1)
  have ne_ba_nb1 : ba ≠ nb1 := Nat.ne_of_lt (Nat.lt_of_lt_of_le lt_ba ge_nb1)
  have ne_sb_nb1 : sb ≠ nb1 := Nat.ne_of_lt (Nat.lt_of_lt_of_le lt_sb ge_nb1)
  have sz_nb1 : h0.size ≤ nb1 := Nat.le_trans KPo.1 ge_nb1
  refine own_go (T' := T1) (g' := (mkF m 6 #[rv a, rv sb] [])) (fun _ k => st1.trans k) ?_
  refine own_ret X1 Bd.notSynchronized none (fun _ => rfl) (fun fs hr => X1.returnOut hx Bd.returns (hb hby own_dB33_6) hr) ?_ (by decide) (by decide)
  show (own_Q35_5 Z a sb cs fo ba kb x0 x1 x2 x3 x4 h0 n0) none T1.heap _
  exact ⟨rfl, NF, KP, E_a, nb1, kn1, sz_nb1, g_nb1, V_nb1, F_a_value, F_a_coder⟩
theorem own_dB34_0 : decode jdk_67_method_42_code 0 = .ok (.new 18, 3) := by decide +kernel
theorem own_dB34_3 : decode jdk_67_method_42_code 3 = .ok (.dup, 1) := by decide +kernel
theorem own_dB34_4 : decode jdk_67_method_42_code 4 = .ok (.aload_n 0, 1) := by decide +kernel
theorem own_dB34_5 : decode jdk_67_method_42_code 5 = .ok (.invokespecial 137, 3) := by decide +kernel
theorem own_dB34_8 : decode jdk_67_method_42_code 8 = .ok (.areturn, 1) := by decide +kernel
theorem own_pn36_5 : plainName "java/lang/StringBuilder" = true := by first | (simp [plainName, overriddenIn]; done) | decide +kernel
theorem own_pd36_5_0 : parseMethodDescriptor "(Ljava/lang/StringBuilder;)V" = some ⟨[(.object "java/lang/StringBuilder")], none⟩ := by decide +kernel
theorem own_ef36_5 (m : MethodId) (sb : Addr) : entryFrame m #[(.ref sb)] 1 = mkF m 0 #[.val (.ref sb)] [] := by first | (simp [entryFrame, mkF, argsToLocals, Value.category]; done) | rfl
def own_Q36_5 (Z : State) (sb : Addr) (cs : Int32) (fo : Value) (ba : Addr) (kb : ClassId) (x0 : Int32) (x1 : Int32) (x2 : Int32) (x3 : Int32) (x4 : Int32) (h0 : Heap) (n0 : Nat) (v : Option Value) (h : Heap) (L : List Loc) : Prop := Fr n0 L ∧ Keep h0 h [] ∧ (∃ (ts nb : Addr) (kn : ClassId), v = some (.ref ts) ∧ h0.size ≤ ts ∧ n0 ≤ ts ∧ h0.size ≤ nb ∧ n0 ≤ nb ∧ Exa Z h ts "java/lang/String" ∧ Arv Z h nb kn .byte (5 : Int32) [(.int x0), (.int x1), (.int x2), (.int x3), (.int x4)] (.int 0) ∧ Fld Z h ts "java/lang/String" "value" "[B" (.ref nb) ∧ Fld Z h ts "java/lang/String" "coder" "B" (.int 0))
set_option maxRecDepth 65536 in
set_option maxHeartbeats 40000000 in
theorem own_rm36_5 (l : Launch) (Z : State) (a0 : Array Value) (hw : ∀ d ∈ tables_1, d.before a0 Z = true) (ws : List Jvm.Cond) (sb : Addr) (cs : Int32) (fo : Value) (ba : Addr) (kb : ClassId) (x0 : Int32) (x1 : Int32) (x2 : Int32) (x3 : Int32) (x4 : Int32) (h0 : Heap) (n0 : Nat) (Zs : n0 ≤ h0.size) (OL : Old Z n0 h0) (S_cs : Sta Z Z.heap "java/lang/String" "COMPACT_STRINGS" "Z" (.int cs)) (hcs : ¬ (cs = (0 : Int32))) (S_fo : Sta Z Z.heap "jdk/internal/util/Preconditions" "SIOOBE_FORMATTER" "Ljava/util/function/BiFunction;" fo) (hfo : fo.isRef = true) (E_sb : Exa Z h0 sb "java/lang/StringBuilder") (F_sb_value : Fld Z h0 sb "java/lang/AbstractStringBuilder" "value" "[B" (.ref ba)) (F_sb_coder : Fld Z h0 sb "java/lang/AbstractStringBuilder" "coder" "B" (.int 0)) (F_sb_count : Fld Z h0 sb "java/lang/AbstractStringBuilder" "count" "I" (.int 5)) (V_ba : Arv Z h0 ba kb .byte (16 : Int32) [(.int x0), (.int x1), (.int x2), (.int x3), (.int x4), (.int 0), (.int 0), (.int 0), (.int 0), (.int 0), (.int 0), (.int 0), (.int 0), (.int 0), (.int 0), (.int 0)] (.int 0)) :
    MetFree l own_y34 (head1 (Jvm.Cond.code own_y34 jdk_67_method_42_code 1 (some (.object "java/lang/String")) :: ws) ({ frames := 5, cells := 2, slots := 9, locals := 121 } : Room)) (fun aA_ U => aA_ = #[(.ref sb)] ∧ Z.Warmed39 U.vm ∧ U.heap = h0) (fun _ _ _ _ _ => True) (fun _ U o U' => ∃ v L, o = .returned v ∧ own_Q36_5 Z sb cs fo ba kb x0 x1 x2 x3 x4 h0 n0 v U'.heap L ∧ FrameEnd U o U' L ({ frames := 5, cells := 2, slots := 9, locals := 121 } : Room).cells ({ frames := 5, cells := 2, slots := 9, locals := 121 } : Room).slots) := by
  refine MetFree.of_bodySF (plainFor_of_name own_pn36_5) hisR ?_
  intro p e s m args below meth c s₁ Bd hml0 hP hK
  obtain ⟨rfl, hZ, hh⟩ := hP
  have hx := Bd.exec
  have hby := Bd.bytes
  have hml : c.maxLocals = 1 := hml0
  have hown : s.vm.findClass "java/lang/StringBuilder" = some m.cls := findClass_of_methodNamed Bd.named
  have hnm := (name_of_methodNamed Bd.named Bd.method).1
  have X0 : Stand p l e ({ frames := 5, cells := 2, slots := 9, locals := 121 } : Room) s m #[(.ref sb)] below meth c s₁ [] 0 0 := Stand.of_body Bd
  have e0 : s₁.heap = h0 := by rw [← hh, Bd.state]; rfl
  have NF := Fr.nil n0
  rw [own_ef36_5 m sb]
  show own_Dn p e below s (own_Q36_5 Z sb cs fo ba kb x0 x1 x2 x3 x4 h0 n0) 2 9 s₁ (mkF m 0 #[.val (.ref sb)] [])
  have KP := Keep.refl h0 []
  obtain ⟨T1, h1, X1, e1, E1, A1, D1, -, st1⟩ := newO X0 hx hZ hown (own_W hw 140 rfl) (own_W hw 9 rfl) (own_W hw 10 rfl) e0 (g := (mkF m 0 #[rv sb] [])) rfl (hb hby own_dB34_0) (by decide) (by decide)
  obtain ⟨b1, g1⟩ : ∃ z, z = h0.size := ⟨_, rfl⟩
  rw [← g1] at A1 D1 st1
  have ne_ba_b1 : ba ≠ b1 := Nat.ne_of_lt (Nat.lt_of_lt_of_le V_ba.lt (Nat.le_of_eq g1.symm))
  have ne_sb_b1 : sb ≠ b1 := Nat.ne_of_lt (Nat.lt_of_lt_of_le E_sb.lt (Nat.le_of_eq g1.symm))
  have g_b1 : n0 ≤ b1 := Nat.le_trans Zs (Nat.le_of_eq g1.symm)
  have sz_b1 : h0.size ≤ b1 := Nat.le_trans KP.1 (Nat.le_of_eq g1.symm)
  have E_sb := E_sb.ext E1
  have F_sb_value := F_sb_value.ext E1
  have F_sb_coder := F_sb_coder.ext E1
  have F_sb_count := F_sb_count.ext E1
  have V_ba := V_ba.ext E1
  have OL := OL.ext E1
  have KP := KP.ext E1
  have Zs := Nat.le_trans Zs E1.1
  have E_b1 := A1
  have F_b1_coder : Fld Z h1 b1 "java/lang/String" "coder" "B" (.int 0) := D1 (Or.inr (own_W hw 34 rfl)) (ty := .byte) (by decide)
  have F_b1_value : Fld Z h1 b1 "java/lang/String" "value" "[B" .null := D1 (Or.inr (own_W hw 36 rfl)) (ty := (.array .byte)) (by decide)
  refine own_go (T' := T1) (g' := (mkF m 3 #[rv sb] [(.ref b1)])) (fun _ k => st1 _ k) ?_
  refine own_p (g' := (mkF m 5 #[rv sb] [(.ref sb), (.ref b1), (.ref b1)])) (fun _ k => XS.dup X1.here hx rfl (hb hby own_dB34_3) rfl rfl (XS.aloadN X1.here hx rfl (hb hby own_dB34_4) rfl rfl k)) ?_
  have lt_b1 := E_b1.lt
  have lt_ba := V_ba.lt
  have lt_sb := E_sb.lt
  have KPo := KP
  obtain ⟨_, _, ⟨T2, L2, k2, n2⟩, -, X2, ⟨Lc2, hQ2, l2, y2, z2⟩, st2⟩ := X1.specialBack hx (y := own_y33) rfl hown (mvT hZ (own_W hw 141 rfl)) (mvT hZ (own_W hw 142 rfl)) (mvT hZ (own_W hw 143 rfl)) (by decide) (backOf (W := 1) (own_rm35_5 l Z a0 hw [] b1 sb cs fo ba kb x0 x1 x2 x3 x4 h1 n0 Zs OL S_cs hcs S_fo hfo F_b1_value F_b1_coder E_b1 g_b1 E_sb F_sb_value F_sb_coder F_sb_count V_ba (Ne.symm ne_sb_b1) (Ne.symm ne_ba_b1)) hZ (own_W hw 143 rfl) (own_W hw 10 rfl) (by decide) (by decide)) (g := (mkF m 5 #[rv sb] [(.ref sb), (.ref b1), (.ref b1)])) rfl (by rw [hml]; rfl) (Steps.refl _) (a := b1) (argsL := [(.ref sb)]) (rest := [(.ref b1)]) (lenOf own_pd36_5_0 rfl) rfl (Nat.le_refl _) (hb hby own_dB34_5) (fun _ _ => ⟨rfl, e1, (by decide : 1 + 1 ≤ _), (by decide : 4 + 5 ≤ _)⟩)
  dsimp only [Pt.U, Pt.locs, Pt.cells, Pt.slots] at X2 l2 y2 z2 st2 hQ2
  subst l2 y2 z2
  obtain ⟨rfl, NQ2, K2, E_b1, nb2, kn2, ge_nb2, g_nb2, V_nb2, F_b1_value, F_b1_coder⟩ := hQ2
  have NF := Fr.app NF NQ2
  have E_sb := E_sb.keep K2
  have F_sb_value := F_sb_value.keep K2 (ninS ne_sb_b1 nin0)
  have F_sb_coder := F_sb_coder.keep K2 (ninS ne_sb_b1 nin0)
  have F_sb_count := F_sb_count.keep K2 (ninS ne_sb_b1 nin0)
  have V_ba := V_ba.keep K2 (ninS ne_ba_b1 nin0)
  have OL := OL.keep K2 (allS g_b1 all0)
  have Zs := Nat.le_trans Zs K2.1
  have KP := KP.trans K2 ((allS (Or.inr sz_b1) all0))
  have ne_b1_nb2 : b1 ≠ nb2 := Nat.ne_of_lt (Nat.lt_of_lt_of_le lt_b1 ge_nb2)
  have ne_ba_nb2 : ba ≠ nb2 := Nat.ne_of_lt (Nat.lt_of_lt_of_le lt_ba ge_nb2)
  have ne_sb_nb2 : sb ≠ nb2 := Nat.ne_of_lt (Nat.lt_of_lt_of_le lt_sb ge_nb2)
  have sz_nb2 : h0.size ≤ nb2 := Nat.le_trans KPo.1 ge_nb2
  refine own_go (T' := T2) (g' := (mkF m 8 #[rv sb] [(.ref b1)])) (fun _ k => st2.trans k) ?_
  refine own_ret X2 Bd.notSynchronized (some (.ref b1)) (fun h => by rw [Bd.returns] at h; cases h) (fun fs hr => retOut X2 hx (t := (.object "java/lang/String")) Bd.returns rfl (Or.inr (Or.inr (Or.inr (Or.inr ⟨rfl, rfl, rfl⟩)))) (hb hby own_dB34_8) hr) ?_ (by decide) (by decide)
  show (own_Q36_5 Z sb cs fo ba kb x0 x1 x2 x3 x4 h0 n0) (some (.ref b1)) T2.heap _
  exact ⟨NF, KP, b1, nb2, kn2, rfl, sz_b1, g_b1, sz_nb2, g_nb2, E_b1, V_nb2, F_b1_value, F_b1_coder⟩
theorem own_pn30_6 : plainName "java/util/Arrays" = true := by first | (simp [plainName, overriddenIn]; done) | decide +kernel
theorem own_ef30_6 (m : MethodId)  : entryFrame m #[(.int 0), (.int 6)] 2 = mkF m 0 #[.val (.int 0), .val (.int 6)] [] := by first | (simp [entryFrame, mkF, argsToLocals, Value.category]; done) | rfl
def own_Q30_6 (Z : State)  (h0 : Heap) (n0 : Nat) (v : Option Value) (h : Heap) (L : List Loc) : Prop := v = none ∧ Fr n0 L ∧ h = h0
set_option maxRecDepth 65536 in
set_option maxHeartbeats 40000000 in
theorem own_rm30_6 (l : Launch) (Z : State) (a0 : Array Value) (hw : ∀ d ∈ tables_1, d.before a0 Z = true) (ws : List Jvm.Cond)  (h0 : Heap) (n0 : Nat) (Zs : n0 ≤ h0.size)  :
    MetFree l own_y28 (head1 (Jvm.Cond.code own_y28 jdk_65_method_131_code 2 none :: ws) ({ frames := 0, cells := 0, slots := 0, locals := 0 } : Room)) (fun aA_ U => aA_ = #[(.int 0), (.int 6)] ∧ Z.Warmed39 U.vm ∧ U.heap = h0) (fun _ _ _ _ _ => True) (fun _ U o U' => ∃ v L, o = .returned v ∧ own_Q30_6 Z  h0 n0 v U'.heap L ∧ FrameEnd U o U' L ({ frames := 0, cells := 0, slots := 0, locals := 0 } : Room).cells ({ frames := 0, cells := 0, slots := 0, locals := 0 } : Room).slots) := by
  refine MetFree.of_bodySF (plainFor_of_name own_pn30_6) hisR ?_
  intro p e s m args below meth c s₁ Bd hml0 hP hK
  obtain ⟨rfl, hZ, hh⟩ := hP
  have hx := Bd.exec
  have hby := Bd.bytes
  have hml : c.maxLocals = 2 := hml0
  have hown : s.vm.findClass "java/util/Arrays" = some m.cls := findClass_of_methodNamed Bd.named
  have hnm := (name_of_methodNamed Bd.named Bd.method).1
  have X0 : Stand p l e ({ frames := 0, cells := 0, slots := 0, locals := 0 } : Room) s m #[(.int 0), (.int 6)] below meth c s₁ [] 0 0 := Stand.of_body Bd
  have e0 : s₁.heap = h0 := by rw [← hh, Bd.state]; rfl
  have NF := Fr.nil n0
  rw [own_ef30_6 m ]
  show own_Dn p e below s (own_Q30_6 Z h0 n0) 0 0 s₁ (mkF m 0 #[.val (.int 0), .val (.int 6)] [])
  refine own_p (g' := (mkF m 37 #[iv 0, iv 6] [])) (fun _ k => XS.iloadN X0.here hx rfl (hb hby own_dB28_0) rfl (XS.iloadN X0.here hx rfl (hb hby own_dB28_1) rfl (XS.icmpYes X0.here hx rfl (pc0 := 2) (pc' := 37) rfl (hb hby own_dB28_2) rfl (by decide) (by decide) (by decide) k))) ?_
  refine own_ret X0 Bd.notSynchronized none (fun _ => rfl) (fun fs hr => X0.returnOut hx Bd.returns (hb hby own_dB28_37) hr) ?_ (by decide) (by decide)
  show (own_Q30_6 Z h0 n0) none s₁.heap _
  rw [e0]
  exact ⟨rfl, NF, rfl⟩
theorem own_ef31_6 (m : MethodId)  : entryFrame m #[(.int 16), (.int 6)] 2 = mkF m 0 #[.val (.int 16), .val (.int 6)] [] := by first | (simp [entryFrame, mkF, argsToLocals, Value.category]; done) | rfl
def own_Q31_6 (Z : State)  (h0 : Heap) (n0 : Nat) (v : Option Value) (h : Heap) (L : List Loc) : Prop := v = some (.int 6) ∧ Fr n0 L ∧ h = h0
set_option maxRecDepth 65536 in
set_option maxHeartbeats 40000000 in
theorem own_rm31_6 (l : Launch) (Z : State) (a0 : Array Value) (hw : ∀ d ∈ tables_1, d.before a0 Z = true) (ws : List Jvm.Cond)  (h0 : Heap) (n0 : Nat) (Zs : n0 ≤ h0.size)  :
    MetFree l own_y29 (head1 (Jvm.Cond.code own_y29 jdk_29_method_69_code 2 (some .int) :: ws) ({ frames := 0, cells := 0, slots := 0, locals := 0 } : Room)) (fun aA_ U => aA_ = #[(.int 16), (.int 6)] ∧ Z.Warmed39 U.vm ∧ U.heap = h0) (fun _ _ _ _ _ => True) (fun _ U o U' => ∃ v L, o = .returned v ∧ own_Q31_6 Z  h0 n0 v U'.heap L ∧ FrameEnd U o U' L ({ frames := 0, cells := 0, slots := 0, locals := 0 } : Room).cells ({ frames := 0, cells := 0, slots := 0, locals := 0 } : Room).slots) := by
  refine MetFree.of_bodySF (Jvm.Free.JP.mathPlain rfl (by decide +kernel)) hisR ?_
  intro p e s m args below meth c s₁ Bd hml0 hP hK
  obtain ⟨rfl, hZ, hh⟩ := hP
  have hx := Bd.exec
  have hby := Bd.bytes
  have hml : c.maxLocals = 2 := hml0
  have hown : s.vm.findClass "java/lang/Math" = some m.cls := findClass_of_methodNamed Bd.named
  have hnm := (name_of_methodNamed Bd.named Bd.method).1
  have X0 : Stand p l e ({ frames := 0, cells := 0, slots := 0, locals := 0 } : Room) s m #[(.int 16), (.int 6)] below meth c s₁ [] 0 0 := Stand.of_body Bd
  have e0 : s₁.heap = h0 := by rw [← hh, Bd.state]; rfl
  have NF := Fr.nil n0
  rw [own_ef31_6 m ]
  show own_Dn p e below s (own_Q31_6 Z h0 n0) 0 0 s₁ (mkF m 0 #[.val (.int 16), .val (.int 6)] [])
  refine own_p (g' := (mkF m 9 #[iv 16, iv 6] [])) (fun _ k => XS.iloadN X0.here hx rfl (hb hby own_dB29_0) rfl (XS.iloadN X0.here hx rfl (hb hby own_dB29_1) rfl (XS.icmpYes X0.here hx rfl (pc0 := 2) (pc' := 9) rfl (hb hby own_dB29_2) rfl (by decide) (by decide) (by decide) k))) ?_
  refine own_p (g' := (mkF m 10 #[iv 16, iv 6] [(.int 6)])) (fun _ k => XS.iloadN X0.here hx rfl (hb hby own_dB29_9) rfl k) ?_
  refine own_ret X0 Bd.notSynchronized (some (.int 6)) (fun h => by rw [Bd.returns] at h; cases h) (fun fs hr => retI X0 hx Bd.returns (hb hby own_dB29_10) hr) ?_ (by decide) (by decide)
  show (own_Q31_6 Z h0 n0) (some (.int 6)) s₁.heap _
  rw [e0]
  exact ⟨rfl, NF, rfl⟩
theorem own_pn32_6 : plainName "java/util/Arrays" = true := by first | (simp [plainName, overriddenIn]; done) | decide +kernel
theorem own_pd32_6_0 : parseMethodDescriptor "(II)V" = some ⟨[.int, .int], none⟩ := by decide +kernel
theorem own_pd32_6_1 : parseMethodDescriptor "(II)I" = some ⟨[.int, .int], some .int⟩ := by decide +kernel
theorem own_ef32_6 (m : MethodId) (ba : Addr) : entryFrame m #[(.ref ba), (.int 0), (.int 6)] 5 = mkF m 0 #[.val (.ref ba), .val (.int 0), .val (.int 6), .unset, .unset] [] := by first | (simp [entryFrame, mkF, argsToLocals, Value.category]; done) | rfl
def own_Q32_6 (Z : State) (ba : Addr) (kb : ClassId) (x0 : Int32) (x1 : Int32) (x2 : Int32) (x3 : Int32) (x4 : Int32) (x5 : Int32) (h0 : Heap) (n0 : Nat) (v : Option Value) (h : Heap) (L : List Loc) : Prop := Fr n0 L ∧ Keep h0 h [] ∧ (∃ (nb : Addr) (kn : ClassId), v = some (.ref nb) ∧ h0.size ≤ nb ∧ n0 ≤ nb ∧ Arv Z h nb kn .byte (6 : Int32) [(.int x0), (.int x1), (.int x2), (.int x3), (.int x4), (.int x5)] (.int 0))
set_option maxRecDepth 65536 in
set_option maxHeartbeats 40000000 in
theorem own_rm32_6 (l : Launch) (Z : State) (a0 : Array Value) (hw : ∀ d ∈ tables_1, d.before a0 Z = true) (ws : List Jvm.Cond) (ba : Addr) (kb : ClassId) (x0 : Int32) (x1 : Int32) (x2 : Int32) (x3 : Int32) (x4 : Int32) (x5 : Int32) (h0 : Heap) (n0 : Nat) (Zs : n0 ≤ h0.size) (V_ba : Arv Z h0 ba kb .byte (16 : Int32) [(.int x0), (.int x1), (.int x2), (.int x3), (.int x4), (.int x5), (.int 0), (.int 0), (.int 0), (.int 0), (.int 0), (.int 0), (.int 0), (.int 0), (.int 0), (.int 0)] (.int 0)) :
    MetFree l own_y30 (head1 (Jvm.Cond.code own_y30 jdk_65_method_133_code 5 (some (.array .byte)) :: ws) ({ frames := 1, cells := 1, slots := 6, locals := 60 } : Room)) (fun aA_ U => aA_ = #[(.ref ba), (.int 0), (.int 6)] ∧ Z.Warmed39 U.vm ∧ U.heap = h0) (fun _ _ _ _ _ => True) (fun _ U o U' => ∃ v L, o = .returned v ∧ own_Q32_6 Z ba kb x0 x1 x2 x3 x4 x5 h0 n0 v U'.heap L ∧ FrameEnd U o U' L ({ frames := 1, cells := 1, slots := 6, locals := 60 } : Room).cells ({ frames := 1, cells := 1, slots := 6, locals := 60 } : Room).slots) := by
  refine MetFree.of_bodySF (plainFor_of_name own_pn32_6) hisR ?_
  intro p e s m args below meth c s₁ Bd hml0 hP hK
  obtain ⟨rfl, hZ, hh⟩ := hP
  have hx := Bd.exec
  have hby := Bd.bytes
  have hml : c.maxLocals = 5 := hml0
  have hown : s.vm.findClass "java/util/Arrays" = some m.cls := findClass_of_methodNamed Bd.named
  have hnm := (name_of_methodNamed Bd.named Bd.method).1
  have X0 : Stand p l e ({ frames := 1, cells := 1, slots := 6, locals := 60 } : Room) s m #[(.ref ba), (.int 0), (.int 6)] below meth c s₁ [] 0 0 := Stand.of_body Bd
  have e0 : s₁.heap = h0 := by rw [← hh, Bd.state]; rfl
  have NF := Fr.nil n0
  rw [own_ef32_6 m ba]
  show own_Dn p e below s (own_Q32_6 Z ba kb x0 x1 x2 x3 x4 x5 h0 n0) 1 6 s₁ (mkF m 0 #[.val (.ref ba), .val (.int 0), .val (.int 6), .unset, .unset] [])
  have KP := Keep.refl h0 []
  refine own_p (g' := (mkF m 2 #[rv ba, iv 0, iv 6, oU, oU] [(.int 6), (.int 0)])) (fun _ k => XS.iloadN X0.here hx rfl (hb hby own_dB30_0) rfl (XS.iloadN X0.here hx rfl (hb hby own_dB30_1) rfl k)) ?_
  obtain ⟨_, _, ⟨T1, L1, k1, n1⟩, -, X1, ⟨Lc1, hQ1, l1, y1, z1⟩, st1⟩ := Jvm.LawKit.callS X0 hx (y := own_y28) hown (mvT hZ (own_W hw 172 rfl)) (mvT hZ (own_W hw 173 rfl)) (mvT hZ (own_W hw 167 rfl)) (mvT hZ (own_W hw 174 rfl)) (by decide) (backOf (W := 0) (own_rm30_6 l Z a0 hw []  h0 n0 Zs ) hZ (own_W hw 174 rfl) (own_W hw 167 rfl) (by decide) (by decide)) (g := (mkF m 2 #[rv ba, iv 0, iv 6, oU, oU] [(.int 6), (.int 0)])) rfl (by rw [hml]; rfl) (argsL := [(.int 0), (.int 6)]) (rest := []) (lenOf own_pd32_6_0 rfl) rfl (Nat.le_refl _) (hb hby own_dB30_2) (fun _ _ => ⟨rfl, e0, (by decide : 0 + 0 ≤ _), (by decide : 0 + 0 ≤ _)⟩)
  dsimp only [Pt.U, Pt.locs, Pt.cells, Pt.slots] at X1 l1 y1 z1 st1 hQ1
  subst l1 y1 z1
  obtain ⟨rfl, NQ1, eq1⟩ := hQ1
  have NF := Fr.app NF NQ1
  refine own_go (T' := T1) (g' := (mkF m 5 #[rv ba, iv 0, iv 6, oU, oU] [])) (fun _ k => st1 _ k) ?_
  refine own_p (g' := (mkF m 8 #[rv ba, iv 0, iv 6, oU, oU] [(.int 6)])) (fun _ k => XS.iloadN X1.here hx rfl (hb hby own_dB30_5) rfl (XS.iloadN X1.here hx rfl (hb hby own_dB30_6) rfl (XS.isub X1.here hx rfl (hb hby own_dB30_7) rfl k))) ?_
  refine own_p (g' := (mkF m 10 #[rv ba, iv 0, iv 6, iv 6, oU] [(.int 6)])) (fun _ k => XS.istoreN X1.here hx rfl (hb hby own_dB30_8) rfl (l' := #[rv ba, iv 0, iv 6, iv 6, oU]) rfl (XS.iloadN X1.here hx rfl (hb hby own_dB30_9) rfl k)) ?_
  obtain ⟨T2, h2, k2, X2, e2, E2, A2, st2⟩ := newP X1 hx hZ (own_W hw 26 rfl) eq1 (g := (mkF m 10 #[rv ba, iv 0, iv 6, iv 6, oU] [(.int 6)])) rfl (hb hby own_dB30_10) rfl (by decide) (cap := 6) (by decide) (by decide) (by decide) (by decide)
  obtain ⟨b2, g2⟩ : ∃ z, z = h0.size := ⟨_, rfl⟩
  rw [← g2] at A2 st2
  have ne_ba_b2 : ba ≠ b2 := Nat.ne_of_lt (Nat.lt_of_lt_of_le V_ba.lt (Nat.le_of_eq g2.symm))
  have g_b2 : n0 ≤ b2 := Nat.le_trans Zs (Nat.le_of_eq g2.symm)
  have sz_b2 : h0.size ≤ b2 := Nat.le_trans KP.1 (Nat.le_of_eq g2.symm)
  have V_ba := V_ba.ext E2
  have KP := KP.ext E2
  have Zs := Nat.le_trans Zs E2.1
  have V_b2 : Arv Z h2 b2 k2 .byte (6 : Int32) [(.int 0), (.int 0), (.int 0), (.int 0), (.int 0), (.int 0)] (.int 0) := (Arv.new A2 (by decide)).pad (pad_rep [] (.int 0) 6)
  refine own_go (T' := T2) (g' := (mkF m 12 #[rv ba, iv 0, iv 6, iv 6, oU] [(.ref b2)])) (fun _ k => st2 _ k) ?_
  refine own_p (g' := (mkF m 16 #[rv ba, iv 0, iv 6, iv 6, rv b2] [(.int 0), (.ref ba)])) (fun _ k => XS.astore X2.here hx rfl (hb hby own_dB30_12) rfl rfl (l' := #[rv ba, iv 0, iv 6, iv 6, rv b2]) rfl (XS.aloadN X2.here hx rfl (hb hby own_dB30_14) rfl rfl (XS.iloadN X2.here hx rfl (hb hby own_dB30_15) rfl k))) ?_
  refine own_p (g' := (mkF m 20 #[rv ba, iv 0, iv 6, iv 6, rv b2] [(.ref ba), (.int 0), (.ref b2), (.int 0), (.ref ba)])) (fun _ k => XS.aload X2.here hx rfl (hb hby own_dB30_16) rfl rfl (XS.iconst X2.here hx rfl (hb hby own_dB30_18) (XS.aloadN X2.here hx rfl (hb hby own_dB30_19) rfl rfl k))) ?_
  obtain ⟨c_3, Ar_3, q_3, S_3, N_3, H_3, G_3⟩ := id V_ba
  refine own_go (T' := T2) (g' := (mkF m 21 #[rv ba, iv 0, iv 6, iv 6, rv b2] [(.int 16), (.int 0), (.ref b2), (.int 0), (.ref ba)])) (fun _ k => X2.arraylength hx (by rw [e2]; exact Ar_3.1) (State.isArrayOf_alike hZ.alike Ar_3.2.1) (g := (mkF m 20 #[rv ba, iv 0, iv 6, iv 6, rv b2] [(.ref ba), (.int 0), (.ref b2), (.int 0), (.ref ba)])) rfl rfl (hb hby own_dB30_20) _ (by rw [len_of S_3 N_3]; exact k)) ?_
  refine own_p (g' := (mkF m 24 #[rv ba, iv 0, iv 6, iv 6, rv b2] [(.int 6), (.int 16), (.int 0), (.ref b2), (.int 0), (.ref ba)])) (fun _ k => XS.iloadN X2.here hx rfl (hb hby own_dB30_21) rfl (XS.isub X2.here hx rfl (hb hby own_dB30_22) rfl (XS.iloadN X2.here hx rfl (hb hby own_dB30_23) rfl k))) ?_
  obtain ⟨_, _, ⟨T4, L4, k4, n4⟩, -, X4, ⟨Lc4, hQ4, l4, y4, z4⟩, st4⟩ := Jvm.LawKit.callS X2 hx (y := own_y29) hown (mvT hZ (own_W hw 175 rfl)) (mvT hZ (own_W hw 176 rfl)) (mvT hZ (own_W hw 177 rfl)) (mvT hZ (own_W hw 178 rfl)) (by decide) (backOf (W := 4) (own_rm31_6 l Z a0 hw []  h2 n0 Zs ) hZ (own_W hw 178 rfl) (own_W hw 177 rfl) (by decide) (by decide)) (g := (mkF m 24 #[rv ba, iv 0, iv 6, iv 6, rv b2] [(.int 6), (.int 16), (.int 0), (.ref b2), (.int 0), (.ref ba)])) rfl (by rw [hml]; rfl) (argsL := [(.int 16), (.int 6)]) (rest := [(.int 0), (.ref b2), (.int 0), (.ref ba)]) (lenOf own_pd32_6_1 rfl) rfl (Nat.le_refl _) (hb hby own_dB30_24) (fun _ _ => ⟨rfl, e2, (by decide : 1 + 0 ≤ _), (by decide : 6 + 0 ≤ _)⟩)
  dsimp only [Pt.U, Pt.locs, Pt.cells, Pt.slots] at X4 l4 y4 z4 st4 hQ4
  subst l4 y4 z4
  obtain ⟨rfl, NQ4, eq4⟩ := hQ4
  have NF := Fr.app NF NQ4
  refine own_go (T' := T4) (g' := (mkF m 27 #[rv ba, iv 0, iv 6, iv 6, rv b2] [(.int 6), (.int 0), (.ref b2), (.int 0), (.ref ba)])) (fun _ k => st4 _ k) ?_
  obtain ⟨T5, h5, L5, X5, e5, NF, K5, VC5, st5⟩ := cpA X4 hx hZ hown (own_W hw 179 rfl) (own_W hw 134 rfl) (own_W hw 132 rfl) (own_W hw 133 rfl) eq4 V_ba V_b2 (us := [(.int x0), (.int x1), (.int x2), (.int x3), (.int x4), (.int x5)]) (Or.inl ⟨rfl, rfl⟩) (sp := (0 : Int32)) (dp := (0 : Int32)) (nn := (6 : Int32)) (by decide) (by decide) (by decide) (by decide) (by decide) rfl (Nat.le_of_ble_eq_true rfl) NF g_b2 (g := (mkF m 27 #[rv ba, iv 0, iv 6, iv 6, rv b2] [(.int 6), (.int 0), (.ref b2), (.int 0), (.ref ba)])) rfl (by rw [hml]; rfl) rfl (hb hby own_dB30_27) (by decide) (W := 0) (Nat.le_refl _) (by decide +kernel)
  have V_ba := V_ba.keep K5 (ninS ne_ba_b2 nin0)
  have Zs := Nat.le_trans Zs K5.1
  have KP := KP.trans K5 ((allS (Or.inr sz_b2) all0))
  have V_b2 : Arv Z h5 b2 k2 .byte (6 : Int32) [(.int x0), (.int x1), (.int x2), (.int x3), (.int x4), (.int x5)] (.int 0) := VC5
  refine own_go (T' := T5) (g' := (mkF m 30 #[rv ba, iv 0, iv 6, iv 6, rv b2] [])) (fun _ k => st5 _ k) ?_
  refine own_p (g' := (mkF m 32 #[rv ba, iv 0, iv 6, iv 6, rv b2] [(.ref b2)])) (fun _ k => XS.aload X5.here hx rfl (hb hby own_dB30_30) rfl rfl k) ?_
  refine own_ret X5 Bd.notSynchronized (some (.ref b2)) (fun h => by rw [Bd.returns] at h; cases h) (fun fs hr => retOut X5 hx (t := (.array .byte)) Bd.returns rfl (Or.inr (Or.inr (Or.inr (Or.inr ⟨rfl, rfl, rfl⟩)))) (hb hby own_dB30_32) hr) ?_ (by decide) (by decide)
  show (own_Q32_6 Z ba kb x0 x1 x2 x3 x4 x5 h0 n0) (some (.ref b2)) T5.heap _
  rw [e5]
  exact ⟨NF, KP, b2, k2, rfl, sz_b2, g_b2, V_b2⟩
theorem own_pn33_6 : plainName "java/util/Arrays" = true := by first | (simp [plainName, overriddenIn]; done) | decide +kernel
theorem own_pd33_6_0 : parseMethodDescriptor "([BII)[B" = some ⟨[(.array .byte), .int, .int], some (.array .byte)⟩ := by decide +kernel
theorem own_ef33_6 (m : MethodId) (ba : Addr) : entryFrame m #[(.ref ba), (.int 0), (.int 6)] 3 = mkF m 0 #[.val (.ref ba), .val (.int 0), .val (.int 6)] [] := by first | (simp [entryFrame, mkF, argsToLocals, Value.category]; done) | rfl
def own_Q33_6 (Z : State) (ba : Addr) (kb : ClassId) (x0 : Int32) (x1 : Int32) (x2 : Int32) (x3 : Int32) (x4 : Int32) (x5 : Int32) (h0 : Heap) (n0 : Nat) (v : Option Value) (h : Heap) (L : List Loc) : Prop := Fr n0 L ∧ Keep h0 h [] ∧ (∃ (nb : Addr) (kn : ClassId), v = some (.ref nb) ∧ h0.size ≤ nb ∧ n0 ≤ nb ∧ Arv Z h nb kn .byte (6 : Int32) [(.int x0), (.int x1), (.int x2), (.int x3), (.int x4), (.int x5)] (.int 0))
set_option maxRecDepth 65536 in
set_option maxHeartbeats 40000000 in
theorem own_rm33_6 (l : Launch) (Z : State) (a0 : Array Value) (hw : ∀ d ∈ tables_1, d.before a0 Z = true) (ws : List Jvm.Cond) (ba : Addr) (kb : ClassId) (x0 : Int32) (x1 : Int32) (x2 : Int32) (x3 : Int32) (x4 : Int32) (x5 : Int32) (h0 : Heap) (n0 : Nat) (Zs : n0 ≤ h0.size) (V_ba : Arv Z h0 ba kb .byte (16 : Int32) [(.int x0), (.int x1), (.int x2), (.int x3), (.int x4), (.int x5), (.int 0), (.int 0), (.int 0), (.int 0), (.int 0), (.int 0), (.int 0), (.int 0), (.int 0), (.int 0)] (.int 0)) :
    MetFree l own_y31 (head1 (Jvm.Cond.code own_y31 jdk_65_method_132_code 3 (some (.array .byte)) :: ws) ({ frames := 2, cells := 1, slots := 6, locals := 76 } : Room)) (fun aA_ U => aA_ = #[(.ref ba), (.int 0), (.int 6)] ∧ Z.Warmed39 U.vm ∧ U.heap = h0) (fun _ _ _ _ _ => True) (fun _ U o U' => ∃ v L, o = .returned v ∧ own_Q33_6 Z ba kb x0 x1 x2 x3 x4 x5 h0 n0 v U'.heap L ∧ FrameEnd U o U' L ({ frames := 2, cells := 1, slots := 6, locals := 76 } : Room).cells ({ frames := 2, cells := 1, slots := 6, locals := 76 } : Room).slots) := by
  refine MetFree.of_bodySF (plainFor_of_name own_pn33_6) hisR ?_
  intro p e s m args below meth c s₁ Bd hml0 hP hK
  obtain ⟨rfl, hZ, hh⟩ := hP
  have hx := Bd.exec
  have hby := Bd.bytes
  have hml : c.maxLocals = 3 := hml0
  have hown : s.vm.findClass "java/util/Arrays" = some m.cls := findClass_of_methodNamed Bd.named
  have hnm := (name_of_methodNamed Bd.named Bd.method).1
  have X0 : Stand p l e ({ frames := 2, cells := 1, slots := 6, locals := 76 } : Room) s m #[(.ref ba), (.int 0), (.int 6)] below meth c s₁ [] 0 0 := Stand.of_body Bd
  have e0 : s₁.heap = h0 := by rw [← hh, Bd.state]; rfl
  have NF := Fr.nil n0
  rw [own_ef33_6 m ba]
  show own_Dn p e below s (own_Q33_6 Z ba kb x0 x1 x2 x3 x4 x5 h0 n0) 1 6 s₁ (mkF m 0 #[.val (.ref ba), .val (.int 0), .val (.int 6)] [])
  have KP := Keep.refl h0 []
  refine own_p (g' := (mkF m 5 #[rv ba, iv 0, iv 6] [(.int 6)])) (fun _ k => XS.iloadN X0.here hx rfl (hb hby own_dB31_0) rfl (XS.ifNo X0.here hx rfl (hb hby own_dB31_1) rfl (by decide) (XS.iloadN X0.here hx rfl (hb hby own_dB31_4) rfl k))) ?_
  refine own_p (g' := (mkF m 6 #[rv ba, iv 0, iv 6] [(.ref ba), (.int 6)])) (fun _ k => XS.aloadN X0.here hx rfl (hb hby own_dB31_5) rfl rfl k) ?_
  obtain ⟨c_1, Ar_1, q_1, S_1, N_1, H_1, G_1⟩ := id V_ba
  refine own_go (T' := s₁) (g' := (mkF m 7 #[rv ba, iv 0, iv 6] [(.int 16), (.int 6)])) (fun _ k => X0.arraylength hx (by rw [e0]; exact Ar_1.1) (State.isArrayOf_alike hZ.alike Ar_1.2.1) (g := (mkF m 6 #[rv ba, iv 0, iv 6] [(.ref ba), (.int 6)])) rfl rfl (hb hby own_dB31_6) _ (by rw [len_of S_1 N_1]; exact k)) ?_
  refine own_p (g' := (mkF m 12 #[rv ba, iv 0, iv 6] [(.int 0), (.ref ba)])) (fun _ k => XS.icmpNo X0.here hx rfl (hb hby own_dB31_7) rfl (by decide) (XS.aloadN X0.here hx rfl (hb hby own_dB31_10) rfl rfl (XS.iloadN X0.here hx rfl (hb hby own_dB31_11) rfl k))) ?_
  refine own_p (g' := (mkF m 13 #[rv ba, iv 0, iv 6] [(.int 6), (.int 0), (.ref ba)])) (fun _ k => XS.iloadN X0.here hx rfl (hb hby own_dB31_12) rfl k) ?_
  have lt_ba := V_ba.lt
  have KPo := KP
  obtain ⟨_, _, ⟨T2, L2, k2, n2⟩, -, X2, ⟨Lc2, hQ2, l2, y2, z2⟩, st2⟩ := Jvm.LawKit.callS X0 hx (y := own_y30) hown (mvT hZ (own_W hw 169 rfl)) (mvT hZ (own_W hw 170 rfl)) (mvT hZ (own_W hw 167 rfl)) (mvT hZ (own_W hw 171 rfl)) (by decide) (backOf (W := 0) (own_rm32_6 l Z a0 hw [] ba kb x0 x1 x2 x3 x4 x5 h0 n0 Zs V_ba) hZ (own_W hw 171 rfl) (own_W hw 167 rfl) (by decide) (by decide)) (g := (mkF m 13 #[rv ba, iv 0, iv 6] [(.int 6), (.int 0), (.ref ba)])) rfl (by rw [hml]; rfl) (argsL := [(.ref ba), (.int 0), (.int 6)]) (rest := []) (lenOf own_pd33_6_0 rfl) rfl (Nat.le_refl _) (hb hby own_dB31_13) (fun _ _ => ⟨rfl, e0, (by decide : 0 + 1 ≤ _), (by decide : 0 + 6 ≤ _)⟩)
  dsimp only [Pt.U, Pt.locs, Pt.cells, Pt.slots] at X2 l2 y2 z2 st2 hQ2
  subst l2 y2 z2
  obtain ⟨NQ2, K2, nb2, kn2, rfl, ge_nb2, g_nb2, V_nb2⟩ := hQ2
  have NF := Fr.app NF NQ2
  have V_ba := V_ba.keep K2 nin0
  have Zs := Nat.le_trans Zs K2.1
  have KP := KP.trans K2 (all0)
  have ne_ba_nb2 : ba ≠ nb2 := Nat.ne_of_lt (Nat.lt_of_lt_of_le lt_ba ge_nb2)
  have sz_nb2 : h0.size ≤ nb2 := Nat.le_trans KPo.1 ge_nb2
  refine own_go (T' := T2) (g' := (mkF m 16 #[rv ba, iv 0, iv 6] [(.ref nb2)])) (fun _ k => st2 _ k) ?_
  refine own_ret X2 Bd.notSynchronized (some (.ref nb2)) (fun h => by rw [Bd.returns] at h; cases h) (fun fs hr => retOut X2 hx (t := (.array .byte)) Bd.returns rfl (Or.inr (Or.inr (Or.inr (Or.inr ⟨rfl, rfl, rfl⟩)))) (hb hby own_dB31_16) hr) ?_ (by decide) (by decide)
  show (own_Q33_6 Z ba kb x0 x1 x2 x3 x4 x5 h0 n0) (some (.ref nb2)) T2.heap _
  exact ⟨NF, KP, nb2, kn2, rfl, sz_nb2, g_nb2, V_nb2⟩
theorem own_pn34_6 : plainName "java/lang/String" = true := by first | (simp [plainName, overriddenIn]; done) | decide +kernel
theorem own_pd34_6_0 : parseMethodDescriptor "()[B" = some ⟨[], some (.array .byte)⟩ := by decide +kernel
theorem own_pd34_6_1 : parseMethodDescriptor "()I" = some ⟨[], some .int⟩ := by decide +kernel
theorem own_pd34_6_2 : parseMethodDescriptor "()Z" = some ⟨[], some .boolean⟩ := by decide +kernel
theorem own_pd34_6_3 : parseMethodDescriptor "([BII)[B" = some ⟨[(.array .byte), .int, .int], some (.array .byte)⟩ := by decide +kernel
theorem own_ef34_6 (m : MethodId) (a : Addr) (sb : Addr) : entryFrame m #[(.ref a), (.ref sb), .null] 5 = mkF m 0 #[.val (.ref a), .val (.ref sb), .val .null, .unset, .unset] [] := by first | (simp [entryFrame, mkF, argsToLocals, Value.category]; done) | rfl
def own_Q34_6 (Z : State) (a : Addr) (sb : Addr) (cs : Int32) (fo : Value) (ba : Addr) (kb : ClassId) (x0 : Int32) (x1 : Int32) (x2 : Int32) (x3 : Int32) (x4 : Int32) (x5 : Int32) (h0 : Heap) (n0 : Nat) (v : Option Value) (h : Heap) (L : List Loc) : Prop := v = none ∧ Fr n0 L ∧ Keep h0 h [a] ∧ Exa Z h a "java/lang/String" ∧ (∃ (nb : Addr) (kn : ClassId), h0.size ≤ nb ∧ n0 ≤ nb ∧ Arv Z h nb kn .byte (6 : Int32) [(.int x0), (.int x1), (.int x2), (.int x3), (.int x4), (.int x5)] (.int 0) ∧ Fld Z h a "java/lang/String" "value" "[B" (.ref nb) ∧ Fld Z h a "java/lang/String" "coder" "B" (.int 0))
set_option maxRecDepth 65536 in
set_option maxHeartbeats 40000000 in
theorem own_rm34_6 (l : Launch) (Z : State) (a0 : Array Value) (hw : ∀ d ∈ tables_1, d.before a0 Z = true) (ws : List Jvm.Cond) (a : Addr) (sb : Addr) (cs : Int32) (fo : Value) (ba : Addr) (kb : ClassId) (x0 : Int32) (x1 : Int32) (x2 : Int32) (x3 : Int32) (x4 : Int32) (x5 : Int32) (h0 : Heap) (n0 : Nat) (Zs : n0 ≤ h0.size) (OL : Old Z n0 h0) (S_cs : Sta Z Z.heap "java/lang/String" "COMPACT_STRINGS" "Z" (.int cs)) (hcs : ¬ (cs = (0 : Int32))) (S_fo : Sta Z Z.heap "jdk/internal/util/Preconditions" "SIOOBE_FORMATTER" "Ljava/util/function/BiFunction;" fo) (hfo : fo.isRef = true) (F_a_value : Fld Z h0 a "java/lang/String" "value" "[B" .null) (F_a_coder : Fld Z h0 a "java/lang/String" "coder" "B" (.int 0)) (E_a : Exa Z h0 a "java/lang/String") (g_a : n0 ≤ a) (E_sb : Exa Z h0 sb "java/lang/StringBuilder") (F_sb_value : Fld Z h0 sb "java/lang/AbstractStringBuilder" "value" "[B" (.ref ba)) (F_sb_coder : Fld Z h0 sb "java/lang/AbstractStringBuilder" "coder" "B" (.int 0)) (F_sb_count : Fld Z h0 sb "java/lang/AbstractStringBuilder" "count" "I" (.int 6)) (V_ba : Arv Z h0 ba kb .byte (16 : Int32) [(.int x0), (.int x1), (.int x2), (.int x3), (.int x4), (.int x5), (.int 0), (.int 0), (.int 0), (.int 0), (.int 0), (.int 0), (.int 0), (.int 0), (.int 0), (.int 0)] (.int 0)) (ne_a_sb : a ≠ sb) (ne_a_ba : a ≠ ba) :
    MetFree l own_y32 (head1 (Jvm.Cond.code own_y32 jdk_42_method_150_code 5 none :: ws) ({ frames := 3, cells := 1, slots := 6, locals := 91 } : Room)) (fun aA_ U => aA_ = #[(.ref a), (.ref sb), .null] ∧ Z.Warmed39 U.vm ∧ U.heap = h0) (fun _ _ _ _ _ => True) (fun _ U o U' => ∃ v L, o = .returned v ∧ own_Q34_6 Z a sb cs fo ba kb x0 x1 x2 x3 x4 x5 h0 n0 v U'.heap L ∧ FrameEnd U o U' L ({ frames := 3, cells := 1, slots := 6, locals := 91 } : Room).cells ({ frames := 3, cells := 1, slots := 6, locals := 91 } : Room).slots) := by
  refine MetFree.of_bodySF (plainFor_of_name own_pn34_6) hisR ?_
  intro p e s m args below meth c s₁ Bd hml0 hP hK
  obtain ⟨rfl, hZ, hh⟩ := hP
  have hx := Bd.exec
  have hby := Bd.bytes
  have hml : c.maxLocals = 5 := hml0
  have hown : s.vm.findClass "java/lang/String" = some m.cls := findClass_of_methodNamed Bd.named
  have hnm := (name_of_methodNamed Bd.named Bd.method).1
  have X0 : Stand p l e ({ frames := 3, cells := 1, slots := 6, locals := 91 } : Room) s m #[(.ref a), (.ref sb), .null] below meth c s₁ [] 0 0 := Stand.of_body Bd
  have e0 : s₁.heap = h0 := by rw [← hh, Bd.state]; rfl
  have NF := Fr.nil n0
  rw [own_ef34_6 m a sb]
  show own_Dn p e below s (own_Q34_6 Z a sb cs fo ba kb x0 x1 x2 x3 x4 x5 h0 n0) 1 6 s₁ (mkF m 0 #[.val (.ref a), .val (.ref sb), .val .null, .unset, .unset] [])
  have KP := Keep.refl h0 [a]
  refine own_p (g' := (mkF m 1 #[rv a, rv sb, Slot.val .null, oU, oU] [(.ref a)])) (fun _ k => XS.aloadN X0.here hx rfl (hb hby own_dB32_0) rfl rfl k) ?_
  obtain ⟨T1, X1, e1, st1⟩ := initO X0 hx hZ hown (own_W hw 18 rfl) (own_W hw 19 rfl) (own_W hw 20 rfl) e0 (g := (mkF m 1 #[rv a, rv sb, Slot.val .null, oU, oU] [(.ref a)])) rfl (by rw [hml]; rfl) rfl (hb hby own_dB32_1) (by decide) (W := 0) (Nat.le_refl _) (by decide)
  refine own_go (T' := T1) (g' := (mkF m 4 #[rv a, rv sb, Slot.val .null, oU, oU] [])) (fun _ k => st1 _ k) ?_
  refine own_p (g' := (mkF m 5 #[rv a, rv sb, Slot.val .null, oU, oU] [(.ref sb)])) (fun _ k => XS.aloadN X1.here hx rfl (hb hby own_dB32_4) rfl rfl k) ?_
  obtain ⟨cq2, kq2, q2a, q2b, q2c⟩ := isOf hZ e1 E_sb
  obtain ⟨_, _, ⟨T2, L2, k2, n2⟩, -, X2, ⟨Lc2, hQ2, l2, y2, z2⟩, st2⟩ := X1.virtualBack hx (y := own_y26) (z := own_y26) hown (mvT hZ (own_W hw 147 rfl)) (mvT hZ (own_W hw 148 rfl)) (notFace_of_selects (args := #[]) (mvT hZ (own_W hw 150 rfl))) (mvT hZ (own_W hw 150 rfl)) (mvT hZ (own_W hw 149 rfl)) (by decide) (backOf (W := 0) (own_rm28 l Z a0 hw [] sb cs fo ba h0 n0 Zs OL S_cs hcs S_fo hfo  F_sb_value) hZ (own_W hw 151 rfl) (own_W hw 89 rfl) (by decide) (by decide)) q2a q2c (g := (mkF m 5 #[rv a, rv sb, Slot.val .null, oU, oU] [(.ref sb)])) rfl (by rw [hml]; rfl) (Steps.refl _) (argsL := []) (rest := []) (lenOf own_pd34_6_0 rfl) rfl (Nat.le_refl _) (hb hby own_dB32_5) (fun _ _ => ⟨rfl, e1, (by decide : 0 + 0 ≤ _), (by decide : 0 + 0 ≤ _)⟩)
  dsimp only [Pt.U, Pt.locs, Pt.cells, Pt.slots] at X2 l2 y2 z2 st2 hQ2
  subst l2 y2 z2
  obtain ⟨rfl, NQ2, eq2⟩ := hQ2
  have NF := Fr.app NF NQ2
  refine own_go (T' := T2) (g' := (mkF m 8 #[rv a, rv sb, Slot.val .null, oU, oU] [(.ref ba)])) (fun _ k => st2.trans k) ?_
  refine own_p (g' := (mkF m 10 #[rv a, rv sb, Slot.val .null, rv ba, oU] [(.ref sb)])) (fun _ k => XS.astoreN X2.here hx rfl (hb hby own_dB32_8) rfl rfl (l' := #[rv a, rv sb, Slot.val .null, rv ba, oU]) rfl (XS.aloadN X2.here hx rfl (hb hby own_dB32_9) rfl rfl k)) ?_
  obtain ⟨cq3, kq3, q3a, q3b, q3c⟩ := isOf hZ eq2 E_sb
  obtain ⟨_, _, ⟨T3, L3, k3, n3⟩, -, X3, ⟨Lc3, hQ3, l3, y3, z3⟩, st3⟩ := X2.virtualBack hx (y := own_y24) (z := own_y25) hown (mvT hZ (own_W hw 152 rfl)) (mvT hZ (own_W hw 153 rfl)) (own_nf (args := #[]) (y' := own_y19) rfl (mvT hZ (own_W hw 113 rfl))) (mvT hZ (own_W hw 155 rfl)) (mvT hZ (own_W hw 156 rfl)) (by decide) (backOf (W := 0) (own_rm27 l Z a0 hw [] sb cs fo (6 : Int32) h0 n0 Zs OL S_cs hcs S_fo hfo E_sb F_sb_count) hZ (own_W hw 157 rfl) (own_W hw 81 rfl) (by decide) (by decide)) q3a q3c (g := (mkF m 10 #[rv a, rv sb, Slot.val .null, rv ba, oU] [(.ref sb)])) rfl (by rw [hml]; rfl) (Steps.refl _) (argsL := []) (rest := []) (lenOf own_pd34_6_1 rfl) rfl (Nat.le_refl _) (hb hby own_dB32_10) (fun _ _ => ⟨rfl, eq2, (by decide : 0 + 0 ≤ _), (by decide : 0 + 0 ≤ _)⟩)
  dsimp only [Pt.U, Pt.locs, Pt.cells, Pt.slots] at X3 l3 y3 z3 st3 hQ3
  subst l3 y3 z3
  obtain ⟨rfl, NQ3, eq3⟩ := hQ3
  have NF := Fr.app NF NQ3
  refine own_go (T' := T3) (g' := (mkF m 13 #[rv a, rv sb, Slot.val .null, rv ba, oU] [(.int 6)])) (fun _ k => st3.trans k) ?_
  refine own_p (g' := (mkF m 16 #[rv a, rv sb, Slot.val .null, rv ba, iv 6] [(.ref sb)])) (fun _ k => XS.istore X3.here hx rfl (hb hby own_dB32_13) rfl (l' := #[rv a, rv sb, Slot.val .null, rv ba, iv 6]) rfl (XS.aloadN X3.here hx rfl (hb hby own_dB32_15) rfl rfl k)) ?_
  obtain ⟨cq4, kq4, q4a, q4b, q4c⟩ := isOf hZ eq3 E_sb
  obtain ⟨_, _, ⟨T4, L4, k4, n4⟩, -, X4, ⟨Lc4, hQ4, l4, y4, z4⟩, st4⟩ := X3.virtualBack hx (y := own_y27) (z := own_y27) hown (mvT hZ (own_W hw 160 rfl)) (mvT hZ (own_W hw 161 rfl)) (notFace_of_selects (args := #[]) (mvT hZ (own_W hw 163 rfl))) (mvT hZ (own_W hw 163 rfl)) (mvT hZ (own_W hw 162 rfl)) (by decide) (backOf (W := 0) (own_rm29 l Z a0 hw [] sb cs fo  h0 n0 Zs OL S_cs hcs S_fo hfo  F_sb_coder) hZ (own_W hw 164 rfl) (own_W hw 89 rfl) (by decide) (by decide)) q4a q4c (g := (mkF m 16 #[rv a, rv sb, Slot.val .null, rv ba, iv 6] [(.ref sb)])) rfl (by rw [hml]; rfl) (Steps.refl _) (argsL := []) (rest := []) (lenOf own_pd34_6_2 rfl) rfl (Nat.le_refl _) (hb hby own_dB32_16) (fun _ _ => ⟨rfl, eq3, (by decide : 0 + 0 ≤ _), (by decide : 0 + 0 ≤ _)⟩)
  dsimp only [Pt.U, Pt.locs, Pt.cells, Pt.slots] at X4 l4 y4 z4 st4 hQ4
  subst l4 y4 z4
  obtain ⟨rfl, NQ4, eq4⟩ := hQ4
  have NF := Fr.app NF NQ4
  refine own_go (T' := T4) (g' := (mkF m 19 #[rv a, rv sb, Slot.val .null, rv ba, iv 6] [(.int 1)])) (fun _ k => st4.trans k) ?_
  refine own_p (g' := (mkF m 24 #[rv a, rv sb, Slot.val .null, rv ba, iv 6] [(.int 0), (.ref a)])) (fun _ k => XS.ifNo X4.here hx rfl (hb hby own_dB32_19) rfl (by decide) (XS.aloadN X4.here hx rfl (hb hby own_dB32_22) rfl rfl (XS.iconst X4.here hx rfl (hb hby own_dB32_23) k))) ?_
  obtain ⟨T5, h5, X5, e5, W5, st5⟩ := putFN X4 hx hZ hown (own_W hw 33 rfl) Via.refl eq4 F_a_coder E_a (Or.inr ⟨(own_W hw 34 rfl), rfl, hnm⟩) (own_W hw 9 rfl) (ty := .byte) (v' := (.int 0)) (by decide) rfl (by decide) (g := (mkF m 24 #[rv a, rv sb, Slot.val .null, rv ba, iv 6] [(.int 0), (.ref a)])) rfl rfl (hb hby own_dB32_24)
  have E_a := E_a.wr W5
  have F_a_value := F_a_value.other W5 (Or.inr (slot_ne (Or.inr (own_W hw 36 rfl)) (Or.inr (own_W hw 34 rfl)) (by decide) (t := (.array .byte)) (t' := .byte) (by decide) (by decide)))
  have E_sb := E_sb.wr W5
  have F_sb_value := F_sb_value.other W5 (Or.inl (Ne.symm ne_a_sb))
  have F_sb_coder := F_sb_coder.other W5 (Or.inl (Ne.symm ne_a_sb))
  have F_sb_count := F_sb_count.other W5 (Or.inl (Ne.symm ne_a_sb))
  have V_ba := V_ba.other W5 (Ne.symm ne_a_ba)
  have OL := OL.wr W5 g_a
  have Zs := Nat.le_trans Zs (Keep.of_wr W5).1
  have F_a_coder := F_a_coder.same W5
  have KP := KP.wr W5 (Or.inl (by simp))
  have NF := Fr.snoc X5 NF g_a
  refine own_go (T' := T5) (g' := (mkF m 27 #[rv a, rv sb, Slot.val .null, rv ba, iv 6] [])) (fun _ k => st5 _ k) ?_
  refine own_p (g' := (mkF m 30 #[rv a, rv sb, Slot.val .null, rv ba, iv 6] [(.int 0), (.ref ba), (.ref a)])) (fun _ k => XS.aloadN X5.here hx rfl (hb hby own_dB32_27) rfl rfl (XS.aloadN X5.here hx rfl (hb hby own_dB32_28) rfl rfl (XS.iconst X5.here hx rfl (hb hby own_dB32_29) k))) ?_
  refine own_p (g' := (mkF m 32 #[rv a, rv sb, Slot.val .null, rv ba, iv 6] [(.int 6), (.int 0), (.ref ba), (.ref a)])) (fun _ k => XS.iload X5.here hx rfl (hb hby own_dB32_30) rfl k) ?_
  have lt_a := E_a.lt
  have lt_ba := V_ba.lt
  have lt_sb := E_sb.lt
  have KPo := KP
  obtain ⟨_, _, ⟨T6, L6, k6, n6⟩, -, X6, ⟨Lc6, hQ6, l6, y6, z6⟩, st6⟩ := Jvm.LawKit.callS X5 hx (y := own_y31) hown (mvT hZ (own_W hw 165 rfl)) (mvT hZ (own_W hw 166 rfl)) (mvT hZ (own_W hw 167 rfl)) (mvT hZ (own_W hw 168 rfl)) (by decide) (backOf (W := 1) (own_rm33_6 l Z a0 hw [] ba kb x0 x1 x2 x3 x4 x5 h5 n0 Zs V_ba) hZ (own_W hw 168 rfl) (own_W hw 167 rfl) (by decide) (by decide)) (g := (mkF m 32 #[rv a, rv sb, Slot.val .null, rv ba, iv 6] [(.int 6), (.int 0), (.ref ba), (.ref a)])) rfl (by rw [hml]; rfl) (argsL := [(.ref ba), (.int 0), (.int 6)]) (rest := [(.ref a)]) (lenOf own_pd34_6_3 rfl) rfl (Nat.le_refl _) (hb hby own_dB32_32) (fun _ _ => ⟨rfl, e5, (by decide : 0 + 1 ≤ _), (by decide : 0 + 6 ≤ _)⟩)
  dsimp only [Pt.U, Pt.locs, Pt.cells, Pt.slots] at X6 l6 y6 z6 st6 hQ6
  subst l6 y6 z6
  obtain ⟨NQ6, K6, nb6, kn6, rfl, ge_nb6, g_nb6, V_nb6⟩ := hQ6
  have NF := Fr.app NF NQ6
  have E_a := E_a.keep K6
  have F_a_value := F_a_value.keep K6 nin0
  have E_sb := E_sb.keep K6
  have F_sb_value := F_sb_value.keep K6 nin0
  have F_sb_coder := F_sb_coder.keep K6 nin0
  have F_sb_count := F_sb_count.keep K6 nin0
  have V_ba := V_ba.keep K6 nin0
  have OL := OL.keep K6 all0
  have F_a_coder := F_a_coder.keep K6 nin0
  have Zs := Nat.le_trans Zs K6.1
  have KP := KP.trans K6 (all0)
  have ne_a_nb6 : a ≠ nb6 := Nat.ne_of_lt (Nat.lt_of_lt_of_le lt_a ge_nb6)
  have ne_ba_nb6 : ba ≠ nb6 := Nat.ne_of_lt (Nat.lt_of_lt_of_le lt_ba ge_nb6)
  have ne_sb_nb6 : sb ≠ nb6 := Nat.ne_of_lt (Nat.lt_of_lt_of_le lt_sb ge_nb6)
  have sz_nb6 : h0.size ≤ nb6 := Nat.le_trans KPo.1 ge_nb6
  refine own_go (T' := T6) (g' := (mkF m 35 #[rv a, rv sb, Slot.val .null, rv ba, iv 6] [(.ref nb6), (.ref a)])) (fun _ k => st6 _ k) ?_
  obtain ⟨T7, h7, X7, e7, W7, st7⟩ := putF X6 hx hZ hown (host := "") (Or.inl (own_W hw 35 rfl)) Via.refl rfl F_a_value E_a (Or.inr ⟨(own_W hw 36 rfl), rfl, hnm⟩) (own_W hw 9 rfl) (ty := (.array .byte)) (by decide) rfl rfl (g := (mkF m 35 #[rv a, rv sb, Slot.val .null, rv ba, iv 6] [(.ref nb6), (.ref a)])) rfl rfl (hb hby own_dB32_35)
  have E_a := E_a.wr W7
  have E_sb := E_sb.wr W7
  have F_sb_value := F_sb_value.other W7 (Or.inl (Ne.symm ne_a_sb))
  have F_sb_coder := F_sb_coder.other W7 (Or.inl (Ne.symm ne_a_sb))
  have F_sb_count := F_sb_count.other W7 (Or.inl (Ne.symm ne_a_sb))
  have V_ba := V_ba.other W7 (Ne.symm ne_a_ba)
  have OL := OL.wr W7 g_a
  have F_a_coder := F_a_coder.other W7 (Or.inr (slot_ne (Or.inr (own_W hw 34 rfl)) (Or.inr (own_W hw 36 rfl)) (by decide) (t := .byte) (t' := (.array .byte)) (by decide) (by decide)))
  have V_nb6 := V_nb6.other W7 (Ne.symm ne_a_nb6)
  have Zs := Nat.le_trans Zs (Keep.of_wr W7).1
  have F_a_value := F_a_value.same W7
  have KP := KP.wr W7 (Or.inl (by simp))
  have NF := Fr.snoc X7 NF g_a
  refine own_go (T' := T7) (g' := (mkF m 38 #[rv a, rv sb, Slot.val .null, rv ba, iv 6] [])) (fun _ k => st7 _ k) ?_
  refine own_p (g' := (mkF m 97 #[rv a, rv sb, Slot.val .null, rv ba, iv 6] [])) (fun _ k => XS.goto X7.here hx rfl (pc0 := 38) (pc' := 97) rfl (hb hby own_dB32_38) (by decide) (by decide) k) ?_
  refine own_ret X7 Bd.notSynchronized none (fun _ => rfl) (fun fs hr => X7.returnOut hx Bd.returns (hb hby own_dB32_97) hr) ?_ (by decide) (by decide)
  show (own_Q34_6 Z a sb cs fo ba kb x0 x1 x2 x3 x4 x5 h0 n0) none T7.heap _
  rw [e7]
  exact ⟨rfl, NF, KP, E_a, nb6, kn6, sz_nb6, g_nb6, V_nb6, F_a_value, F_a_coder⟩
theorem own_pn35_6 : plainName "java/lang/String" = true := by first | (simp [plainName, overriddenIn]; done) | decide +kernel
theorem own_pd35_6_0 : parseMethodDescriptor "(Ljava/lang/AbstractStringBuilder;Ljava/lang/Void;)V" = some ⟨[(.object "java/lang/AbstractStringBuilder"), (.object "java/lang/Void")], none⟩ := by decide +kernel
theorem own_ef35_6 (m : MethodId) (a : Addr) (sb : Addr) : entryFrame m #[(.ref a), (.ref sb)] 2 = mkF m 0 #[.val (.ref a), .val (.ref sb)] [] := by first | (simp [entryFrame, mkF, argsToLocals, Value.category]; done) | rfl
def own_Q35_6 (Z : State) (a : Addr) (sb : Addr) (cs : Int32) (fo : Value) (ba : Addr) (kb : ClassId) (x0 : Int32) (x1 : Int32) (x2 : Int32) (x3 : Int32) (x4 : Int32) (x5 : Int32) (h0 : Heap) (n0 : Nat) (v : Option Value) (h : Heap) (L : List Loc) : Prop := v = none ∧ Fr n0 L ∧ Keep h0 h [a] ∧ Exa Z h a "java/lang/String" ∧ (∃ (nb : Addr) (kn : ClassId), h0.size ≤ nb ∧ n0 ≤ nb ∧ Arv Z h nb kn .byte (6 : Int32) [(.int x0), (.int x1), (.int x2), (.int x3), (.int x4), (.int x5)] (.int 0) ∧ Fld Z h a "java/lang/String" "value" "[B" (.ref nb) ∧ Fld Z h a "java/lang/String" "coder" "B" (.int 0))
set_option maxRecDepth 65536 in
set_option maxHeartbeats 40000000 in
theorem own_rm35_6 (l : Launch) (Z : State) (a0 : Array Value) (hw : ∀ d ∈ tables_1, d.before a0 Z = true) (ws : List Jvm.Cond) (a : Addr) (sb : Addr) (cs : Int32) (fo : Value) (ba : Addr) (kb : ClassId) (x0 : Int32) (x1 : Int32) (x2 : Int32) (x3 : Int32) (x4 : Int32) (x5 : Int32) (h0 : Heap) (n0 : Nat) (Zs : n0 ≤ h0.size) (OL : Old Z n0 h0) (S_cs : Sta Z Z.heap "java/lang/String" "COMPACT_STRINGS" "Z" (.int cs)) (hcs : ¬ (cs = (0 : Int32))) (S_fo : Sta Z Z.heap "jdk/internal/util/Preconditions" "SIOOBE_FORMATTER" "Ljava/util/function/BiFunction;" fo) (hfo : fo.isRef = true) (F_a_value : Fld Z h0 a "java/lang/String" "value" "[B" .null) (F_a_coder : Fld Z h0 a "java/lang/String" "coder" "B" (.int 0)) (E_a : Exa Z h0 a "java/lang/String") (g_a : n0 ≤ a) (E_sb : Exa Z h0 sb "java/lang/StringBuilder") (F_sb_value : Fld Z h0 sb "java/lang/AbstractStringBuilder" "value" "[B" (.ref ba)) (F_sb_coder : Fld Z h0 sb "java/lang/AbstractStringBuilder" "coder" "B" (.int 0)) (F_sb_count : Fld Z h0 sb "java/lang/AbstractStringBuilder" "count" "I" (.int 6)) (V_ba : Arv Z h0 ba kb .byte (16 : Int32) [(.int x0), (.int x1), (.int x2), (.int x3), (.int x4), (.int x5), (.int 0), (.int 0), (.int 0), (.int 0), (.int 0), (.int 0), (.int 0), (.int 0), (.int 0), (.int 0)] (.int 0)) (ne_a_sb : a ≠ sb) (ne_a_ba : a ≠ ba) :
    MetFree l own_y33 (head1 (Jvm.Cond.code own_y33 jdk_42_method_53_code 2 none :: ws) ({ frames := 4, cells := 1, slots := 6, locals := 107 } : Room)) (fun aA_ U => aA_ = #[(.ref a), (.ref sb)] ∧ Z.Warmed39 U.vm ∧ U.heap = h0) (fun _ _ _ _ _ => True) (fun _ U o U' => ∃ v L, o = .returned v ∧ own_Q35_6 Z a sb cs fo ba kb x0 x1 x2 x3 x4 x5 h0 n0 v U'.heap L ∧ FrameEnd U o U' L ({ frames := 4, cells := 1, slots := 6, locals := 107 } : Room).cells ({ frames := 4, cells := 1, slots := 6, locals := 107 } : Room).slots) := by
  refine MetFree.of_bodySF (plainFor_of_name own_pn35_6) hisR ?_
  intro p e s m args below meth c s₁ Bd hml0 hP hK
  obtain ⟨rfl, hZ, hh⟩ := hP
  have hx := Bd.exec
  have hby := Bd.bytes
  have hml : c.maxLocals = 2 := hml0
  have hown : s.vm.findClass "java/lang/String" = some m.cls := findClass_of_methodNamed Bd.named
  have hnm := (name_of_methodNamed Bd.named Bd.method).1
  have X0 : Stand p l e ({ frames := 4, cells := 1, slots := 6, locals := 107 } : Room) s m #[(.ref a), (.ref sb)] below meth c s₁ [] 0 0 := Stand.of_body Bd
  have e0 : s₁.heap = h0 := by rw [← hh, Bd.state]; rfl
  have NF := Fr.nil n0
  rw [own_ef35_6 m a sb]
  show own_Dn p e below s (own_Q35_6 Z a sb cs fo ba kb x0 x1 x2 x3 x4 x5 h0 n0) 1 6 s₁ (mkF m 0 #[.val (.ref a), .val (.ref sb)] [])
  have KP := Keep.refl h0 [a]
  refine own_p (g' := (mkF m 3 #[rv a, rv sb] [.null, (.ref sb), (.ref a)])) (fun _ k => XS.aloadN X0.here hx rfl (hb hby own_dB33_0) rfl rfl (XS.aloadN X0.here hx rfl (hb hby own_dB33_1) rfl rfl (XS.aconstNull X0.here hx rfl (hb hby own_dB33_2) k))) ?_
  have lt_a := E_a.lt
  have lt_ba := V_ba.lt
  have lt_sb := E_sb.lt
  have KPo := KP
  obtain ⟨_, _, ⟨T1, L1, k1, n1⟩, -, X1, ⟨Lc1, hQ1, l1, y1, z1⟩, st1⟩ := X0.specialBack hx (y := own_y32) rfl hown (mvT hZ (own_W hw 144 rfl)) (mvT hZ (own_W hw 145 rfl)) (mvT hZ (own_W hw 146 rfl)) (by decide) (backOf (W := 0) (own_rm34_6 l Z a0 hw [] a sb cs fo ba kb x0 x1 x2 x3 x4 x5 h0 n0 Zs OL S_cs hcs S_fo hfo F_a_value F_a_coder E_a g_a E_sb F_sb_value F_sb_coder F_sb_count V_ba ne_a_sb ne_a_ba) hZ (own_W hw 146 rfl) (own_W hw 10 rfl) (by decide) (by decide)) (g := (mkF m 3 #[rv a, rv sb] [.null, (.ref sb), (.ref a)])) rfl (by rw [hml]; rfl) (Steps.refl _) (a := a) (argsL := [(.ref sb), .null]) (rest := []) (lenOf own_pd35_6_0 rfl) rfl (Nat.le_refl _) (hb hby own_dB33_3) (fun _ _ => ⟨rfl, e0, (by decide : 0 + 1 ≤ _), (by decide : 0 + 6 ≤ _)⟩)
  dsimp only [Pt.U, Pt.locs, Pt.cells, Pt.slots] at X1 l1 y1 z1 st1 hQ1
  subst l1 y1 z1
  obtain ⟨rfl, NQ1, K1, E_a, nb1, kn1, ge_nb1, g_nb1, V_nb1, F_a_value, F_a_coder⟩ := hQ1
  have NF := Fr.app NF NQ1
  have E_sb := E_sb.keep K1
  have F_sb_value := F_sb_value.keep K1 (ninS (Ne.symm ne_a_sb) nin0)
  have F_sb_coder := F_sb_coder.keep K1 (ninS (Ne.symm ne_a_sb) nin0)
  have F_sb_count := F_sb_count.keep K1 (ninS (Ne.symm ne_a_sb) nin0)
  have V_ba := V_ba.keep K1 (ninS (Ne.symm ne_a_ba) nin0)
  have OL := OL.keep K1 (allS g_a all0)
  have Zs := Nat.le_trans Zs K1.1
  have KP := KP.trans K1 ((allS (Or.inl (by simp)) all0))
  have ne_a_nb1 : a ≠ nb1 := Nat.ne_of_lt (Nat.lt_of_lt_of_le lt_a ge_nb1)
  have ne_ba_nb1 : ba ≠ nb1 := Nat.ne_of_lt (Nat.lt_of_lt_of_le lt_ba ge_nb1)
  have ne_sb_nb1 : sb ≠ nb1 := Nat.ne_of_lt (Nat.lt_of_lt_of_le lt_sb ge_nb1)
  have sz_nb1 : h0.size ≤ nb1 := Nat.le_trans KPo.1 ge_nb1
  refine own_go (T' := T1) (g' := (mkF m 6 #[rv a, rv sb] [])) (fun _ k => st1.trans k) ?_
  refine own_ret X1 Bd.notSynchronized none (fun _ => rfl) (fun fs hr => X1.returnOut hx Bd.returns (hb hby own_dB33_6) hr) ?_ (by decide) (by decide)
  show (own_Q35_6 Z a sb cs fo ba kb x0 x1 x2 x3 x4 x5 h0 n0) none T1.heap _
  exact ⟨rfl, NF, KP, E_a, nb1, kn1, sz_nb1, g_nb1, V_nb1, F_a_value, F_a_coder⟩
theorem own_pn36_6 : plainName "java/lang/StringBuilder" = true := by first | (simp [plainName, overriddenIn]; done) | decide +kernel
theorem own_pd36_6_0 : parseMethodDescriptor "(Ljava/lang/StringBuilder;)V" = some ⟨[(.object "java/lang/StringBuilder")], none⟩ := by decide +kernel
theorem own_ef36_6 (m : MethodId) (sb : Addr) : entryFrame m #[(.ref sb)] 1 = mkF m 0 #[.val (.ref sb)] [] := by first | (simp [entryFrame, mkF, argsToLocals, Value.category]; done) | rfl
def own_Q36_6 (Z : State) (sb : Addr) (cs : Int32) (fo : Value) (ba : Addr) (kb : ClassId) (x0 : Int32) (x1 : Int32) (x2 : Int32) (x3 : Int32) (x4 : Int32) (x5 : Int32) (h0 : Heap) (n0 : Nat) (v : Option Value) (h : Heap) (L : List Loc) : Prop := Fr n0 L ∧ Keep h0 h [] ∧ (∃ (ts nb : Addr) (kn : ClassId), v = some (.ref ts) ∧ h0.size ≤ ts ∧ n0 ≤ ts ∧ h0.size ≤ nb ∧ n0 ≤ nb ∧ Exa Z h ts "java/lang/String" ∧ Arv Z h nb kn .byte (6 : Int32) [(.int x0), (.int x1), (.int x2), (.int x3), (.int x4), (.int x5)] (.int 0) ∧ Fld Z h ts "java/lang/String" "value" "[B" (.ref nb) ∧ Fld Z h ts "java/lang/String" "coder" "B" (.int 0))
set_option maxRecDepth 65536 in
set_option maxHeartbeats 40000000 in
theorem own_rm36_6 (l : Launch) (Z : State) (a0 : Array Value) (hw : ∀ d ∈ tables_1, d.before a0 Z = true) (ws : List Jvm.Cond) (sb : Addr) (cs : Int32) (fo : Value) (ba : Addr) (kb : ClassId) (x0 : Int32) (x1 : Int32) (x2 : Int32) (x3 : Int32) (x4 : Int32) (x5 : Int32) (h0 : Heap) (n0 : Nat) (Zs : n0 ≤ h0.size) (OL : Old Z n0 h0) (S_cs : Sta Z Z.heap "java/lang/String" "COMPACT_STRINGS" "Z" (.int cs)) (hcs : ¬ (cs = (0 : Int32))) (S_fo : Sta Z Z.heap "jdk/internal/util/Preconditions" "SIOOBE_FORMATTER" "Ljava/util/function/BiFunction;" fo) (hfo : fo.isRef = true) (E_sb : Exa Z h0 sb "java/lang/StringBuilder") (F_sb_value : Fld Z h0 sb "java/lang/AbstractStringBuilder" "value" "[B" (.ref ba)) (F_sb_coder : Fld Z h0 sb "java/lang/AbstractStringBuilder" "coder" "B" (.int 0)) (F_sb_count : Fld Z h0 sb "java/lang/AbstractStringBuilder" "count" "I" (.int 6)) (V_ba : Arv Z h0 ba kb .byte (16 : Int32) [(.int x0), (.int x1), (.int x2), (.int x3), (.int x4), (.int x5), (.int 0), (.int 0), (.int 0), (.int 0), (.int 0), (.int 0), (.int 0), (.int 0), (.int 0), (.int 0)] (.int 0)) :
    MetFree l own_y34 (head1 (Jvm.Cond.code own_y34 jdk_67_method_42_code 1 (some (.object "java/lang/String")) :: ws) ({ frames := 5, cells := 2, slots := 10, locals := 121 } : Room)) (fun aA_ U => aA_ = #[(.ref sb)] ∧ Z.Warmed39 U.vm ∧ U.heap = h0) (fun _ _ _ _ _ => True) (fun _ U o U' => ∃ v L, o = .returned v ∧ own_Q36_6 Z sb cs fo ba kb x0 x1 x2 x3 x4 x5 h0 n0 v U'.heap L ∧ FrameEnd U o U' L ({ frames := 5, cells := 2, slots := 10, locals := 121 } : Room).cells ({ frames := 5, cells := 2, slots := 10, locals := 121 } : Room).slots) := by
  refine MetFree.of_bodySF (plainFor_of_name own_pn36_6) hisR ?_
  intro p e s m args below meth c s₁ Bd hml0 hP hK
  obtain ⟨rfl, hZ, hh⟩ := hP
  have hx := Bd.exec
  have hby := Bd.bytes
  have hml : c.maxLocals = 1 := hml0
  have hown : s.vm.findClass "java/lang/StringBuilder" = some m.cls := findClass_of_methodNamed Bd.named
  have hnm := (name_of_methodNamed Bd.named Bd.method).1
  have X0 : Stand p l e ({ frames := 5, cells := 2, slots := 10, locals := 121 } : Room) s m #[(.ref sb)] below meth c s₁ [] 0 0 := Stand.of_body Bd
  have e0 : s₁.heap = h0 := by rw [← hh, Bd.state]; rfl
  have NF := Fr.nil n0
  rw [own_ef36_6 m sb]
  show own_Dn p e below s (own_Q36_6 Z sb cs fo ba kb x0 x1 x2 x3 x4 x5 h0 n0) 2 10 s₁ (mkF m 0 #[.val (.ref sb)] [])
  have KP := Keep.refl h0 []
  obtain ⟨T1, h1, X1, e1, E1, A1, D1, -, st1⟩ := newO X0 hx hZ hown (own_W hw 140 rfl) (own_W hw 9 rfl) (own_W hw 10 rfl) e0 (g := (mkF m 0 #[rv sb] [])) rfl (hb hby own_dB34_0) (by decide) (by decide)
  obtain ⟨b1, g1⟩ : ∃ z, z = h0.size := ⟨_, rfl⟩
  rw [← g1] at A1 D1 st1
  have ne_ba_b1 : ba ≠ b1 := Nat.ne_of_lt (Nat.lt_of_lt_of_le V_ba.lt (Nat.le_of_eq g1.symm))
  have ne_sb_b1 : sb ≠ b1 := Nat.ne_of_lt (Nat.lt_of_lt_of_le E_sb.lt (Nat.le_of_eq g1.symm))
  have g_b1 : n0 ≤ b1 := Nat.le_trans Zs (Nat.le_of_eq g1.symm)
  have sz_b1 : h0.size ≤ b1 := Nat.le_trans KP.1 (Nat.le_of_eq g1.symm)
  have E_sb := E_sb.ext E1
  have F_sb_value := F_sb_value.ext E1
  have F_sb_coder := F_sb_coder.ext E1
  have F_sb_count := F_sb_count.ext E1
  have V_ba := V_ba.ext E1
  have OL := OL.ext E1
  have KP := KP.ext E1
  have Zs := Nat.le_trans Zs E1.1
  have E_b1 := A1
  have F_b1_coder : Fld Z h1 b1 "java/lang/String" "coder" "B" (.int 0) := D1 (Or.inr (own_W hw 34 rfl)) (ty := .byte) (by decide)
  have F_b1_value : Fld Z h1 b1 "java/lang/String" "value" "[B" .null := D1 (Or.inr (own_W hw 36 rfl)) (ty := (.array .byte)) (by decide)
  refine own_go (T' := T1) (g' := (mkF m 3 #[rv sb] [(.ref b1)])) (fun _ k => st1 _ k) ?_
  refine own_p (g' := (mkF m 5 #[rv sb] [(.ref sb), (.ref b1), (.ref b1)])) (fun _ k => XS.dup X1.here hx rfl (hb hby own_dB34_3) rfl rfl (XS.aloadN X1.here hx rfl (hb hby own_dB34_4) rfl rfl k)) ?_
  have lt_b1 := E_b1.lt
  have lt_ba := V_ba.lt
  have lt_sb := E_sb.lt
  have KPo := KP
  obtain ⟨_, _, ⟨T2, L2, k2, n2⟩, -, X2, ⟨Lc2, hQ2, l2, y2, z2⟩, st2⟩ := X1.specialBack hx (y := own_y33) rfl hown (mvT hZ (own_W hw 141 rfl)) (mvT hZ (own_W hw 142 rfl)) (mvT hZ (own_W hw 143 rfl)) (by decide) (backOf (W := 1) (own_rm35_6 l Z a0 hw [] b1 sb cs fo ba kb x0 x1 x2 x3 x4 x5 h1 n0 Zs OL S_cs hcs S_fo hfo F_b1_value F_b1_coder E_b1 g_b1 E_sb F_sb_value F_sb_coder F_sb_count V_ba (Ne.symm ne_sb_b1) (Ne.symm ne_ba_b1)) hZ (own_W hw 143 rfl) (own_W hw 10 rfl) (by decide) (by decide)) (g := (mkF m 5 #[rv sb] [(.ref sb), (.ref b1), (.ref b1)])) rfl (by rw [hml]; rfl) (Steps.refl _) (a := b1) (argsL := [(.ref sb)]) (rest := [(.ref b1)]) (lenOf own_pd36_6_0 rfl) rfl (Nat.le_refl _) (hb hby own_dB34_5) (fun _ _ => ⟨rfl, e1, (by decide : 1 + 1 ≤ _), (by decide : 4 + 6 ≤ _)⟩)
  dsimp only [Pt.U, Pt.locs, Pt.cells, Pt.slots] at X2 l2 y2 z2 st2 hQ2
  subst l2 y2 z2
  obtain ⟨rfl, NQ2, K2, E_b1, nb2, kn2, ge_nb2, g_nb2, V_nb2, F_b1_value, F_b1_coder⟩ := hQ2
  have NF := Fr.app NF NQ2
  have E_sb := E_sb.keep K2
  have F_sb_value := F_sb_value.keep K2 (ninS ne_sb_b1 nin0)
  have F_sb_coder := F_sb_coder.keep K2 (ninS ne_sb_b1 nin0)
  have F_sb_count := F_sb_count.keep K2 (ninS ne_sb_b1 nin0)
  have V_ba := V_ba.keep K2 (ninS ne_ba_b1 nin0)
  have OL := OL.keep K2 (allS g_b1 all0)
  have Zs := Nat.le_trans Zs K2.1
  have KP := KP.trans K2 ((allS (Or.inr sz_b1) all0))
  have ne_b1_nb2 : b1 ≠ nb2 := Nat.ne_of_lt (Nat.lt_of_lt_of_le lt_b1 ge_nb2)
  have ne_ba_nb2 : ba ≠ nb2 := Nat.ne_of_lt (Nat.lt_of_lt_of_le lt_ba ge_nb2)
  have ne_sb_nb2 : sb ≠ nb2 := Nat.ne_of_lt (Nat.lt_of_lt_of_le lt_sb ge_nb2)
  have sz_nb2 : h0.size ≤ nb2 := Nat.le_trans KPo.1 ge_nb2
  refine own_go (T' := T2) (g' := (mkF m 8 #[rv sb] [(.ref b1)])) (fun _ k => st2.trans k) ?_
  refine own_ret X2 Bd.notSynchronized (some (.ref b1)) (fun h => by rw [Bd.returns] at h; cases h) (fun fs hr => retOut X2 hx (t := (.object "java/lang/String")) Bd.returns rfl (Or.inr (Or.inr (Or.inr (Or.inr ⟨rfl, rfl, rfl⟩)))) (hb hby own_dB34_8) hr) ?_ (by decide) (by decide)
  show (own_Q36_6 Z sb cs fo ba kb x0 x1 x2 x3 x4 x5 h0 n0) (some (.ref b1)) T2.heap _
  exact ⟨NF, KP, b1, nb2, kn2, rfl, sz_b1, g_b1, sz_nb2, g_nb2, E_b1, V_nb2, F_b1_value, F_b1_coder⟩
theorem own_dB35_0 : decode prog_21_method_1_code 0 = .ok (.aload_n 0, 1) := by decide +kernel
theorem own_dB35_1 : decode prog_21_method_1_code 1 = .ok (.invokespecial 1, 3) := by decide +kernel
theorem own_dB35_4 : decode prog_21_method_1_code 4 = .ok (.aload_n 1, 1) := by decide +kernel
theorem own_dB35_5 : decode prog_21_method_1_code 5 = .ok (.iconst 3, 1) := by decide +kernel
theorem own_dB35_6 : decode prog_21_method_1_code 6 = .ok (.iconst 3, 1) := by decide +kernel
theorem own_dB35_7 : decode prog_21_method_1_code 7 = .ok (.invokestatic 7, 3) := by decide +kernel
theorem own_dB35_10 : decode prog_21_method_1_code 10 = .ok (.ifCond .eq 12, 3) := by decide +kernel
theorem own_dB35_13 : decode prog_21_method_1_code 13 = .ok (.aload_n 2, 1) := by decide +kernel
theorem own_dB35_14 : decode prog_21_method_1_code 14 = .ok (.iconst 2, 1) := by decide +kernel
theorem own_dB35_15 : decode prog_21_method_1_code 15 = .ok (.iconst 3, 1) := by decide +kernel
theorem own_dB35_16 : decode prog_21_method_1_code 16 = .ok (.invokestatic 7, 3) := by decide +kernel
theorem own_dB35_19 : decode prog_21_method_1_code 19 = .ok (.ifCond .ne 39, 3) := by decide +kernel
theorem own_dB35_58 : decode prog_21_method_1_code 58 = .ok (.aload_n 0, 1) := by decide +kernel
theorem own_dB35_59 : decode prog_21_method_1_code 59 = .ok (.new 15, 3) := by decide +kernel
theorem own_dB35_62 : decode prog_21_method_1_code 62 = .ok (.dup, 1) := by decide +kernel
theorem own_dB35_63 : decode prog_21_method_1_code 63 = .ok (.invokespecial 17, 3) := by decide +kernel
theorem own_dB35_66 : decode prog_21_method_1_code 66 = .ok (.aload_n 1, 1) := by decide +kernel
theorem own_dB35_67 : decode prog_21_method_1_code 67 = .ok (.invokevirtual 20, 3) := by decide +kernel
theorem own_dB35_70 : decode prog_21_method_1_code 70 = .ok (.aload_n 2, 1) := by decide +kernel
theorem own_dB35_71 : decode prog_21_method_1_code 71 = .ok (.invokevirtual 20, 3) := by decide +kernel
theorem own_dB35_74 : decode prog_21_method_1_code 74 = .ok (.invokevirtual 26, 3) := by decide +kernel
theorem own_dB35_77 : decode prog_21_method_1_code 77 = .ok (.putfield 33, 3) := by decide +kernel
theorem own_dB35_80 : decode prog_21_method_1_code 80 = .ok (.aload_n 0, 1) := by decide +kernel
theorem own_dB35_81 : decode prog_21_method_1_code 81 = .ok (.aload_n 0, 1) := by decide +kernel
theorem own_dB35_82 : decode prog_21_method_1_code 82 = .ok (.getfield 33, 3) := by decide +kernel
theorem own_dB35_85 : decode prog_21_method_1_code 85 = .ok (.invokestatic 37, 3) := by decide +kernel
theorem own_dB35_88 : decode prog_21_method_1_code 88 = .ok (.putfield 41, 3) := by decide +kernel
theorem own_dB35_91 : decode prog_21_method_1_code 91 = .ok (.return_, 1) := by decide +kernel
theorem own_pn40_2 : plainName "com/example/carrier_name_resolver/carriernameresolver/card/Plmn" = true := by first | (simp [plainName, overriddenIn]; done) | decide +kernel
theorem own_pd40_2_0 : parseMethodDescriptor "(Ljava/lang/String;II)Z" = some ⟨[(.object "java/lang/String"), .int, .int], some .boolean⟩ := by decide +kernel
theorem own_pd40_2_1 : parseMethodDescriptor "()V" = some ⟨[], none⟩ := by decide +kernel
theorem own_pd40_2_2 : parseMethodDescriptor "(Ljava/lang/String;)Ljava/lang/StringBuilder;" = some ⟨[(.object "java/lang/String")], some (.object "java/lang/StringBuilder")⟩ := by decide +kernel
theorem own_pd40_2_3 : parseMethodDescriptor "()Ljava/lang/String;" = some ⟨[], some (.object "java/lang/String")⟩ := by decide +kernel
theorem own_pd40_2_4 : parseMethodDescriptor "(Ljava/lang/String;)I" = some ⟨[(.object "java/lang/String")], some .int⟩ := by decide +kernel
theorem own_ef40_2 (m : MethodId) (a : Addr) (sa : Addr) (sc : Addr) : entryFrame m #[(.ref a), (.ref sa), (.ref sc)] 3 = mkF m 0 #[.val (.ref a), .val (.ref sa), .val (.ref sc)] [] := by first | (simp [entryFrame, mkF, argsToLocals, Value.category]; done) | rfl
def own_Q40_2 (Z : State) (a : Addr) (sa : Addr) (sc : Addr) (cs : Int32) (fo : Value) (va : Addr) (kv : ClassId) (x0 : Int32) (x1 : Int32) (x2 : Int32) (vc : Addr) (kw : ClassId) (x3 : Int32) (x4 : Int32) (h0 : Heap) (n0 : Nat) (v : Option Value) (h : Heap) (L : List Loc) : Prop := v = none ∧ Fr n0 L ∧ Keep h0 h [a] ∧ Exa Z h a "com/example/carrier_name_resolver/carriernameresolver/card/Plmn" ∧ Fld Z h a "com/example/carrier_name_resolver/carriernameresolver/card/Plmn" "code" "I" (.int (own_cd [x0, x1, x2, x3, x4]))
set_option maxRecDepth 65536 in
set_option maxHeartbeats 40000000 in
theorem own_rm40_2 (l : Launch) (Z : State) (a0 : Array Value) (hw : ∀ d ∈ tables_1, d.before a0 Z = true) (ws : List Jvm.Cond) (a : Addr) (sa : Addr) (sc : Addr) (cs : Int32) (fo : Value) (va : Addr) (kv : ClassId) (x0 : Int32) (x1 : Int32) (x2 : Int32) (vc : Addr) (kw : ClassId) (x3 : Int32) (x4 : Int32) (h0 : Heap) (n0 : Nat) (Zs : n0 ≤ h0.size) (OL : Old Z n0 h0) (S_cs : Sta Z Z.heap "java/lang/String" "COMPACT_STRINGS" "Z" (.int cs)) (hcs : ¬ (cs = (0 : Int32))) (S_fo : Sta Z Z.heap "jdk/internal/util/Preconditions" "SIOOBE_FORMATTER" "Ljava/util/function/BiFunction;" fo) (hfo : fo.isRef = true) (F_a_digits : Fld Z h0 a "com/example/carrier_name_resolver/carriernameresolver/card/Plmn" "digits" "Ljava/lang/String;" .null) (F_a_code : Fld Z h0 a "com/example/carrier_name_resolver/carriernameresolver/card/Plmn" "code" "I" (.int 0)) (E_a : Exa Z h0 a "com/example/carrier_name_resolver/carriernameresolver/card/Plmn") (g_a : n0 ≤ a) (E_sa : Exa Z h0 sa "java/lang/String") (F_sa_value : Fld Z h0 sa "java/lang/String" "value" "[B" (.ref va)) (F_sa_coder : Fld Z h0 sa "java/lang/String" "coder" "B" (.int 0)) (V_va : Arv Z h0 va kv .byte (3 : Int32) [(.int x0), (.int x1), (.int x2)] (.int 0)) (hd_x0 : own_Dg x0) (hd_x1 : own_Dg x1) (hd_x2 : own_Dg x2) (E_sc : Exa Z h0 sc "java/lang/String") (F_sc_value : Fld Z h0 sc "java/lang/String" "value" "[B" (.ref vc)) (F_sc_coder : Fld Z h0 sc "java/lang/String" "coder" "B" (.int 0)) (V_vc : Arv Z h0 vc kw .byte (2 : Int32) [(.int x3), (.int x4)] (.int 0)) (hd_x3 : own_Dg x3) (hd_x4 : own_Dg x4) :
    MetFree l own_y35 (head1 (Jvm.Cond.code own_y35 prog_21_method_1_code 3 none :: ws) ({ frames := 6, cells := 4, slots := 29, locals := 134 } : Room)) (fun aA_ U => aA_ = #[(.ref a), (.ref sa), (.ref sc)] ∧ Z.Warmed39 U.vm ∧ U.heap = h0) (fun _ _ _ _ _ => True) (fun _ U o U' => ∃ v L, o = .returned v ∧ own_Q40_2 Z a sa sc cs fo va kv x0 x1 x2 vc kw x3 x4 h0 n0 v U'.heap L ∧ FrameEnd U o U' L ({ frames := 6, cells := 4, slots := 29, locals := 134 } : Room).cells ({ frames := 6, cells := 4, slots := 29, locals := 134 } : Room).slots) := by
  refine MetFree.of_bodySF (plainFor_of_name own_pn40_2) hisR ?_
  intro p e s m args below meth c s₁ Bd hml0 hP hK
  obtain ⟨rfl, hZ, hh⟩ := hP
  have hx := Bd.exec
  have hby := Bd.bytes
  have hml : c.maxLocals = 3 := hml0
  have hown : s.vm.findClass "com/example/carrier_name_resolver/carriernameresolver/card/Plmn" = some m.cls := findClass_of_methodNamed Bd.named
  have hnm := (name_of_methodNamed Bd.named Bd.method).1
  have X0 : Stand p l e ({ frames := 6, cells := 4, slots := 29, locals := 134 } : Room) s m #[(.ref a), (.ref sa), (.ref sc)] below meth c s₁ [] 0 0 := Stand.of_body Bd
  have e0 : s₁.heap = h0 := by rw [← hh, Bd.state]; rfl
  have NF := Fr.nil n0
  rw [own_ef40_2 m a sa sc]
  show own_Dn p e below s (own_Q40_2 Z a sa sc cs fo va kv x0 x1 x2 vc kw x3 x4 h0 n0) 4 29 s₁ (mkF m 0 #[.val (.ref a), .val (.ref sa), .val (.ref sc)] [])
  have KP := Keep.refl h0 [a]
  refine own_p (g' := (mkF m 1 #[rv a, rv sa, rv sc] [(.ref a)])) (fun _ k => XS.aloadN X0.here hx rfl (hb hby own_dB35_0) rfl rfl k) ?_
  obtain ⟨T1, X1, e1, st1⟩ := initO X0 hx hZ hown (own_W hw 43 rfl) (own_W hw 19 rfl) (own_W hw 20 rfl) e0 (g := (mkF m 1 #[rv a, rv sa, rv sc] [(.ref a)])) rfl (by rw [hml]; rfl) rfl (hb hby own_dB35_1) (by decide) (W := 0) (Nat.le_refl _) (by decide)
  refine own_go (T' := T1) (g' := (mkF m 4 #[rv a, rv sa, rv sc] [])) (fun _ k => st1 _ k) ?_
  refine own_p (g' := (mkF m 7 #[rv a, rv sa, rv sc] [(.int 3), (.int 3), (.ref sa)])) (fun _ k => XS.aloadN X1.here hx rfl (hb hby own_dB35_4) rfl rfl (XS.iconst X1.here hx rfl (hb hby own_dB35_5) (XS.iconst X1.here hx rfl (hb hby own_dB35_6) k))) ?_
  obtain ⟨_, _, ⟨T2, L2, k2, n2⟩, -, X2, ⟨Lc2, hQ2, l2, y2, z2⟩, st2⟩ := Jvm.LawKit.callS X1 hx (y := own_y14) hown (mvT hZ (own_W hw 44 rfl)) (mvT hZ (own_W hw 45 rfl)) (mvT hZ (own_W hw 39 rfl)) (mvT hZ (own_W hw 46 rfl)) (by decide) (backOf (W := 0) (own_rm15_3 l Z a0 hw [] sa (3 : Int32) cs fo va kv x0 x1 x2 h0 n0 Zs OL S_cs hcs S_fo hfo (by decide) E_sa F_sa_value F_sa_coder V_va hd_x0 hd_x1 hd_x2) hZ (own_W hw 46 rfl) (own_W hw 39 rfl) (by decide) (by decide)) (g := (mkF m 7 #[rv a, rv sa, rv sc] [(.int 3), (.int 3), (.ref sa)])) rfl (by rw [hml]; rfl) (argsL := [(.ref sa), (.int 3), (.int 3)]) (rest := []) (lenOf own_pd40_2_0 rfl) rfl (Nat.le_refl _) (hb hby own_dB35_7) (fun _ _ => ⟨rfl, e1, (by decide : 0 + 0 ≤ _), (by decide : 0 + 0 ≤ _)⟩)
  dsimp only [Pt.U, Pt.locs, Pt.cells, Pt.slots] at X2 l2 y2 z2 st2 hQ2
  subst l2 y2 z2
  obtain ⟨rfl, NQ2, eq2⟩ := hQ2
  have NF := Fr.app NF NQ2
  refine own_go (T' := T2) (g' := (mkF m 10 #[rv a, rv sa, rv sc] [(.int 1)])) (fun _ k => st2 _ k) ?_
  refine own_p (g' := (mkF m 15 #[rv a, rv sa, rv sc] [(.int 2), (.ref sc)])) (fun _ k => XS.ifNo X2.here hx rfl (hb hby own_dB35_10) rfl (by decide) (XS.aloadN X2.here hx rfl (hb hby own_dB35_13) rfl rfl (XS.iconst X2.here hx rfl (hb hby own_dB35_14) k))) ?_
  refine own_p (g' := (mkF m 16 #[rv a, rv sa, rv sc] [(.int 3), (.int 2), (.ref sc)])) (fun _ k => XS.iconst X2.here hx rfl (hb hby own_dB35_15) k) ?_
  obtain ⟨_, _, ⟨T3, L3, k3, n3⟩, -, X3, ⟨Lc3, hQ3, l3, y3, z3⟩, st3⟩ := Jvm.LawKit.callS X2 hx (y := own_y14) hown (mvT hZ (own_W hw 44 rfl)) (mvT hZ (own_W hw 45 rfl)) (mvT hZ (own_W hw 39 rfl)) (mvT hZ (own_W hw 46 rfl)) (by decide) (backOf (W := 0) (own_rm15_2 l Z a0 hw [] sc (2 : Int32) cs fo vc kw x3 x4 h0 n0 Zs OL S_cs hcs S_fo hfo (by decide) E_sc F_sc_value F_sc_coder V_vc hd_x3 hd_x4) hZ (own_W hw 46 rfl) (own_W hw 39 rfl) (by decide) (by decide)) (g := (mkF m 16 #[rv a, rv sa, rv sc] [(.int 3), (.int 2), (.ref sc)])) rfl (by rw [hml]; rfl) (argsL := [(.ref sc), (.int 2), (.int 3)]) (rest := []) (lenOf own_pd40_2_0 rfl) rfl (Nat.le_refl _) (hb hby own_dB35_16) (fun _ _ => ⟨rfl, eq2, (by decide : 0 + 0 ≤ _), (by decide : 0 + 0 ≤ _)⟩)
  dsimp only [Pt.U, Pt.locs, Pt.cells, Pt.slots] at X3 l3 y3 z3 st3 hQ3
  subst l3 y3 z3
  obtain ⟨rfl, NQ3, eq3⟩ := hQ3
  have NF := Fr.app NF NQ3
  refine own_go (T' := T3) (g' := (mkF m 19 #[rv a, rv sa, rv sc] [(.int 1)])) (fun _ k => st3 _ k) ?_
  refine own_p (g' := (mkF m 59 #[rv a, rv sa, rv sc] [(.ref a)])) (fun _ k => XS.ifYes X3.here hx rfl (pc0 := 19) (pc' := 58) rfl (hb hby own_dB35_19) rfl (by decide) (by decide) (by decide) (XS.aloadN X3.here hx rfl (hb hby own_dB35_58) rfl rfl k)) ?_
  obtain ⟨T4, h4, X4, e4, E4, A4, D4, -, st4⟩ := newO X3 hx hZ hown (own_W hw 79 rfl) (own_W hw 80 rfl) (own_W hw 81 rfl) eq3 (g := (mkF m 59 #[rv a, rv sa, rv sc] [(.ref a)])) rfl (hb hby own_dB35_59) (by decide) (by decide)
  obtain ⟨b4, g4⟩ : ∃ z, z = h0.size := ⟨_, rfl⟩
  rw [← g4] at A4 D4 st4
  have ne_a_b4 : a ≠ b4 := Nat.ne_of_lt (Nat.lt_of_lt_of_le E_a.lt (Nat.le_of_eq g4.symm))
  have ne_sa_b4 : sa ≠ b4 := Nat.ne_of_lt (Nat.lt_of_lt_of_le E_sa.lt (Nat.le_of_eq g4.symm))
  have ne_sc_b4 : sc ≠ b4 := Nat.ne_of_lt (Nat.lt_of_lt_of_le E_sc.lt (Nat.le_of_eq g4.symm))
  have ne_va_b4 : va ≠ b4 := Nat.ne_of_lt (Nat.lt_of_lt_of_le V_va.lt (Nat.le_of_eq g4.symm))
  have ne_vc_b4 : vc ≠ b4 := Nat.ne_of_lt (Nat.lt_of_lt_of_le V_vc.lt (Nat.le_of_eq g4.symm))
  have g_b4 : n0 ≤ b4 := Nat.le_trans Zs (Nat.le_of_eq g4.symm)
  have sz_b4 : h0.size ≤ b4 := Nat.le_trans KP.1 (Nat.le_of_eq g4.symm)
  have E_a := E_a.ext E4
  have F_a_digits := F_a_digits.ext E4
  have F_a_code := F_a_code.ext E4
  have E_sa := E_sa.ext E4
  have F_sa_value := F_sa_value.ext E4
  have F_sa_coder := F_sa_coder.ext E4
  have V_va := V_va.ext E4
  have E_sc := E_sc.ext E4
  have F_sc_value := F_sc_value.ext E4
  have F_sc_coder := F_sc_coder.ext E4
  have V_vc := V_vc.ext E4
  have OL := OL.ext E4
  have KP := KP.ext E4
  have Zs := Nat.le_trans Zs E4.1
  have E_b4 := A4
  have F_b4_value : Fld Z h4 b4 "java/lang/AbstractStringBuilder" "value" "[B" .null := D4 (Or.inl (own_W hw 94 rfl)) (ty := (.array .byte)) (by decide)
  have F_b4_coder : Fld Z h4 b4 "java/lang/AbstractStringBuilder" "coder" "B" (.int 0) := D4 (Or.inl (own_W hw 96 rfl)) (ty := .byte) (by decide)
  have F_b4_count : Fld Z h4 b4 "java/lang/AbstractStringBuilder" "count" "I" (.int 0) := D4 (Or.inl (own_W hw 109 rfl)) (ty := .int) (by decide)
  refine own_go (T' := T4) (g' := (mkF m 62 #[rv a, rv sa, rv sc] [(.ref b4), (.ref a)])) (fun _ k => st4 _ k) ?_
  refine own_p (g' := (mkF m 63 #[rv a, rv sa, rv sc] [(.ref b4), (.ref b4), (.ref a)])) (fun _ k => XS.dup X4.here hx rfl (hb hby own_dB35_62) rfl rfl k) ?_
  have lt_a := E_a.lt
  have lt_b4 := E_b4.lt
  have lt_sa := E_sa.lt
  have lt_sc := E_sc.lt
  have lt_va := V_va.lt
  have lt_vc := V_vc.lt
  have KPo := KP
  obtain ⟨_, _, ⟨T5, L5, k5, n5⟩, -, X5, ⟨Lc5, hQ5, l5, y5, z5⟩, st5⟩ := X4.specialBack hx (y := own_y17) rfl hown (mvT hZ (own_W hw 82 rfl)) (mvT hZ (own_W hw 83 rfl)) (mvT hZ (own_W hw 84 rfl)) (by decide) (backOf (W := 2) (own_rm18 l Z a0 hw [] b4 cs fo h4 n0 Zs OL S_cs hcs S_fo hfo F_b4_value F_b4_coder F_b4_count E_b4 g_b4) hZ (own_W hw 84 rfl) (own_W hw 81 rfl) (by decide) (by decide)) (g := (mkF m 63 #[rv a, rv sa, rv sc] [(.ref b4), (.ref b4), (.ref a)])) rfl (by rw [hml]; rfl) (Steps.refl _) (a := b4) (argsL := []) (rest := [(.ref b4), (.ref a)]) (lenOf own_pd40_2_1 rfl) rfl (Nat.le_refl _) (hb hby own_dB35_63) (fun _ _ => ⟨rfl, e4, (by decide : 1 + 1 ≤ _), (by decide : 4 + 16 ≤ _)⟩)
  dsimp only [Pt.U, Pt.locs, Pt.cells, Pt.slots] at X5 l5 y5 z5 st5 hQ5
  subst l5 y5 z5
  obtain ⟨rfl, NQ5, K5, E_b4, nb5, kn5, ge_nb5, g_nb5, V_nb5, F_b4_value, F_b4_coder, F_b4_count⟩ := hQ5
  have NF := Fr.app NF NQ5
  have E_a := E_a.keep K5
  have F_a_digits := F_a_digits.keep K5 (ninS ne_a_b4 nin0)
  have F_a_code := F_a_code.keep K5 (ninS ne_a_b4 nin0)
  have E_sa := E_sa.keep K5
  have F_sa_value := F_sa_value.keep K5 (ninS ne_sa_b4 nin0)
  have F_sa_coder := F_sa_coder.keep K5 (ninS ne_sa_b4 nin0)
  have V_va := V_va.keep K5 (ninS ne_va_b4 nin0)
  have E_sc := E_sc.keep K5
  have F_sc_value := F_sc_value.keep K5 (ninS ne_sc_b4 nin0)
  have F_sc_coder := F_sc_coder.keep K5 (ninS ne_sc_b4 nin0)
  have V_vc := V_vc.keep K5 (ninS ne_vc_b4 nin0)
  have OL := OL.keep K5 (allS g_b4 all0)
  have Zs := Nat.le_trans Zs K5.1
  have KP := KP.trans K5 ((allS (Or.inr sz_b4) all0))
  have ne_a_nb5 : a ≠ nb5 := Nat.ne_of_lt (Nat.lt_of_lt_of_le lt_a ge_nb5)
  have ne_b4_nb5 : b4 ≠ nb5 := Nat.ne_of_lt (Nat.lt_of_lt_of_le lt_b4 ge_nb5)
  have ne_sa_nb5 : sa ≠ nb5 := Nat.ne_of_lt (Nat.lt_of_lt_of_le lt_sa ge_nb5)
  have ne_sc_nb5 : sc ≠ nb5 := Nat.ne_of_lt (Nat.lt_of_lt_of_le lt_sc ge_nb5)
  have ne_va_nb5 : va ≠ nb5 := Nat.ne_of_lt (Nat.lt_of_lt_of_le lt_va ge_nb5)
  have ne_vc_nb5 : vc ≠ nb5 := Nat.ne_of_lt (Nat.lt_of_lt_of_le lt_vc ge_nb5)
  have sz_nb5 : h0.size ≤ nb5 := Nat.le_trans KPo.1 ge_nb5
  refine own_go (T' := T5) (g' := (mkF m 66 #[rv a, rv sa, rv sc] [(.ref b4), (.ref a)])) (fun _ k => st5.trans k) ?_
  refine own_p (g' := (mkF m 67 #[rv a, rv sa, rv sc] [(.ref sa), (.ref b4), (.ref a)])) (fun _ k => XS.aloadN X5.here hx rfl (hb hby own_dB35_66) rfl rfl k) ?_
  obtain ⟨cq6, kq6, q6a, q6b, q6c⟩ := isOf hZ rfl E_b4
  obtain ⟨_, _, ⟨T6, L6, k6, n6⟩, -, X6, ⟨Lc6, hQ6, l6, y6, z6⟩, st6⟩ := X5.virtualBack hx (y := own_y23) (z := own_y23) hown (mvT hZ (own_W hw 97 rfl)) (mvT hZ (own_W hw 98 rfl)) (notFace_of_selects (args := #[]) (mvT hZ (own_W hw 100 rfl))) (mvT hZ (own_W hw 100 rfl)) (mvT hZ (own_W hw 99 rfl)) (by decide) (backOf (W := 1) (own_rm25_3_0 l Z a0 hw [] b4 sa cs fo nb5 va kv kn5 x0 x1 x2 T5.heap n0 Zs OL S_cs hcs S_fo hfo E_b4 g_b4 F_b4_value F_b4_coder F_b4_count E_sa F_sa_value F_sa_coder V_va hd_x0 hd_x1 hd_x2 V_nb5 g_nb5 ne_va_nb5 ne_sa_nb5 ne_b4_nb5 (Ne.symm ne_sa_b4) (Ne.symm ne_va_b4)) hZ (own_W hw 101 rfl) (own_W hw 81 rfl) (by decide) (by decide)) q6a q6c (g := (mkF m 67 #[rv a, rv sa, rv sc] [(.ref sa), (.ref b4), (.ref a)])) rfl (by rw [hml]; rfl) (Steps.refl _) (argsL := [(.ref sa)]) (rest := [(.ref a)]) (lenOf own_pd40_2_2 rfl) rfl (Nat.le_refl _) (hb hby own_dB35_67) (fun _ _ => ⟨rfl, rfl, (by decide : 2 + 0 ≤ _), (by decide : 20 + 0 ≤ _)⟩)
  dsimp only [Pt.U, Pt.locs, Pt.cells, Pt.slots] at X6 l6 y6 z6 st6 hQ6
  subst l6 y6 z6
  obtain ⟨rfl, NQ6, K6, E_b4, V_nb5, F_b4_value, F_b4_coder, F_b4_count⟩ := hQ6
  have NF := Fr.app NF NQ6
  have E_a := E_a.keep K6
  have F_a_digits := F_a_digits.keep K6 (ninS ne_a_b4 (ninS ne_a_nb5 nin0))
  have F_a_code := F_a_code.keep K6 (ninS ne_a_b4 (ninS ne_a_nb5 nin0))
  have E_sa := E_sa.keep K6
  have F_sa_value := F_sa_value.keep K6 (ninS ne_sa_b4 (ninS ne_sa_nb5 nin0))
  have F_sa_coder := F_sa_coder.keep K6 (ninS ne_sa_b4 (ninS ne_sa_nb5 nin0))
  have V_va := V_va.keep K6 (ninS ne_va_b4 (ninS ne_va_nb5 nin0))
  have E_sc := E_sc.keep K6
  have F_sc_value := F_sc_value.keep K6 (ninS ne_sc_b4 (ninS ne_sc_nb5 nin0))
  have F_sc_coder := F_sc_coder.keep K6 (ninS ne_sc_b4 (ninS ne_sc_nb5 nin0))
  have V_vc := V_vc.keep K6 (ninS ne_vc_b4 (ninS ne_vc_nb5 nin0))
  have OL := OL.keep K6 (allS g_b4 (allS g_nb5 all0))
  have Zs := Nat.le_trans Zs K6.1
  have KP := KP.trans K6 ((allS (Or.inr sz_b4) (allS (Or.inr sz_nb5) all0)))
  refine own_go (T' := T6) (g' := (mkF m 70 #[rv a, rv sa, rv sc] [(.ref b4), (.ref a)])) (fun _ k => st6.trans k) ?_
  refine own_p (g' := (mkF m 71 #[rv a, rv sa, rv sc] [(.ref sc), (.ref b4), (.ref a)])) (fun _ k => XS.aloadN X6.here hx rfl (hb hby own_dB35_70) rfl rfl k) ?_
  obtain ⟨cq7, kq7, q7a, q7b, q7c⟩ := isOf hZ rfl E_b4
  obtain ⟨_, _, ⟨T7, L7, k7, n7⟩, -, X7, ⟨Lc7, hQ7, l7, y7, z7⟩, st7⟩ := X6.virtualBack hx (y := own_y23) (z := own_y23) hown (mvT hZ (own_W hw 97 rfl)) (mvT hZ (own_W hw 98 rfl)) (notFace_of_selects (args := #[]) (mvT hZ (own_W hw 100 rfl))) (mvT hZ (own_W hw 100 rfl)) (mvT hZ (own_W hw 99 rfl)) (by decide) (backOf (W := 1) (own_rm25_2_3 l Z a0 hw [] b4 sc cs fo nb5 vc kw kn5 x0 x1 x2 x3 x4 T6.heap n0 Zs OL S_cs hcs S_fo hfo E_b4 g_b4 F_b4_value F_b4_coder F_b4_count E_sc F_sc_value F_sc_coder V_vc hd_x3 hd_x4 V_nb5 g_nb5 ne_vc_nb5 ne_sc_nb5 ne_b4_nb5 (Ne.symm ne_sc_b4) (Ne.symm ne_vc_b4)) hZ (own_W hw 101 rfl) (own_W hw 81 rfl) (by decide) (by decide)) q7a q7c (g := (mkF m 71 #[rv a, rv sa, rv sc] [(.ref sc), (.ref b4), (.ref a)])) rfl (by rw [hml]; rfl) (Steps.refl _) (argsL := [(.ref sc)]) (rest := [(.ref a)]) (lenOf own_pd40_2_2 rfl) rfl (Nat.le_refl _) (hb hby own_dB35_71) (fun _ _ => ⟨rfl, rfl, (by decide : 2 + 0 ≤ _), (by decide : 20 + 0 ≤ _)⟩)
  dsimp only [Pt.U, Pt.locs, Pt.cells, Pt.slots] at X7 l7 y7 z7 st7 hQ7
  subst l7 y7 z7
  obtain ⟨rfl, NQ7, K7, E_b4, V_nb5, F_b4_value, F_b4_coder, F_b4_count⟩ := hQ7
  have NF := Fr.app NF NQ7
  have E_a := E_a.keep K7
  have F_a_digits := F_a_digits.keep K7 (ninS ne_a_b4 (ninS ne_a_nb5 nin0))
  have F_a_code := F_a_code.keep K7 (ninS ne_a_b4 (ninS ne_a_nb5 nin0))
  have E_sa := E_sa.keep K7
  have F_sa_value := F_sa_value.keep K7 (ninS ne_sa_b4 (ninS ne_sa_nb5 nin0))
  have F_sa_coder := F_sa_coder.keep K7 (ninS ne_sa_b4 (ninS ne_sa_nb5 nin0))
  have V_va := V_va.keep K7 (ninS ne_va_b4 (ninS ne_va_nb5 nin0))
  have E_sc := E_sc.keep K7
  have F_sc_value := F_sc_value.keep K7 (ninS ne_sc_b4 (ninS ne_sc_nb5 nin0))
  have F_sc_coder := F_sc_coder.keep K7 (ninS ne_sc_b4 (ninS ne_sc_nb5 nin0))
  have V_vc := V_vc.keep K7 (ninS ne_vc_b4 (ninS ne_vc_nb5 nin0))
  have OL := OL.keep K7 (allS g_b4 (allS g_nb5 all0))
  have Zs := Nat.le_trans Zs K7.1
  have KP := KP.trans K7 ((allS (Or.inr sz_b4) (allS (Or.inr sz_nb5) all0)))
  refine own_go (T' := T7) (g' := (mkF m 74 #[rv a, rv sa, rv sc] [(.ref b4), (.ref a)])) (fun _ k => st7.trans k) ?_
  have lt_a := E_a.lt
  have lt_b4 := E_b4.lt
  have lt_nb5 := V_nb5.lt
  have KPo := KP
  obtain ⟨cq8, kq8, q8a, q8b, q8c⟩ := isOf hZ rfl E_b4
  obtain ⟨_, _, ⟨T8, L8, k8, n8⟩, -, X8, ⟨Lc8, hQ8, l8, y8, z8⟩, st8⟩ := X7.virtualBack hx (y := own_y34) (z := own_y34) hown (mvT hZ (own_W hw 135 rfl)) (mvT hZ (own_W hw 136 rfl)) (notFace_of_selects (args := #[]) (mvT hZ (own_W hw 138 rfl))) (mvT hZ (own_W hw 138 rfl)) (mvT hZ (own_W hw 137 rfl)) (by decide) (backOf (W := 1) (own_rm36_5 l Z a0 hw [] b4 cs fo nb5 kn5 x0 x1 x2 x3 x4 T7.heap n0 Zs OL S_cs hcs S_fo hfo E_b4 F_b4_value F_b4_coder F_b4_count V_nb5) hZ (own_W hw 139 rfl) (own_W hw 81 rfl) (by decide) (by decide)) q8a q8c (g := (mkF m 74 #[rv a, rv sa, rv sc] [(.ref b4), (.ref a)])) rfl (by rw [hml]; rfl) (Steps.refl _) (argsL := []) (rest := [(.ref a)]) (lenOf own_pd40_2_3 rfl) rfl (Nat.le_refl _) (hb hby own_dB35_74) (fun _ _ => ⟨rfl, rfl, (by decide : 2 + 2 ≤ _), (by decide : 20 + 9 ≤ _)⟩)
  dsimp only [Pt.U, Pt.locs, Pt.cells, Pt.slots] at X8 l8 y8 z8 st8 hQ8
  subst l8 y8 z8
  obtain ⟨NQ8, K8, ts8, nb8, kn8, rfl, ge_ts8, g_ts8, ge_nb8, g_nb8, E_ts8, V_nb8, F_ts8_value, F_ts8_coder⟩ := hQ8
  have NF := Fr.app NF NQ8
  have E_a := E_a.keep K8
  have F_a_digits := F_a_digits.keep K8 nin0
  have F_a_code := F_a_code.keep K8 nin0
  have OL := OL.keep K8 all0
  have E_b4 := E_b4.keep K8
  have F_b4_value := F_b4_value.keep K8 nin0
  have F_b4_coder := F_b4_coder.keep K8 nin0
  have F_b4_count := F_b4_count.keep K8 nin0
  have V_nb5 := V_nb5.keep K8 nin0
  have Zs := Nat.le_trans Zs K8.1
  have KP := KP.trans K8 (all0)
  have ne_a_ts8 : a ≠ ts8 := Nat.ne_of_lt (Nat.lt_of_lt_of_le lt_a ge_ts8)
  have ne_b4_ts8 : b4 ≠ ts8 := Nat.ne_of_lt (Nat.lt_of_lt_of_le lt_b4 ge_ts8)
  have ne_nb5_ts8 : nb5 ≠ ts8 := Nat.ne_of_lt (Nat.lt_of_lt_of_le lt_nb5 ge_ts8)
  have sz_ts8 : h0.size ≤ ts8 := Nat.le_trans KPo.1 ge_ts8
  have ne_a_nb8 : a ≠ nb8 := Nat.ne_of_lt (Nat.lt_of_lt_of_le lt_a ge_nb8)
  have ne_b4_nb8 : b4 ≠ nb8 := Nat.ne_of_lt (Nat.lt_of_lt_of_le lt_b4 ge_nb8)
  have ne_nb5_nb8 : nb5 ≠ nb8 := Nat.ne_of_lt (Nat.lt_of_lt_of_le lt_nb5 ge_nb8)
  have sz_nb8 : h0.size ≤ nb8 := Nat.le_trans KPo.1 ge_nb8
  refine own_go (T' := T8) (g' := (mkF m 77 #[rv a, rv sa, rv sc] [(.ref ts8), (.ref a)])) (fun _ k => st8.trans k) ?_
  obtain ⟨T9, h9, X9, e9, W9, st9⟩ := putF X8 hx hZ hown (host := "") (Or.inl (own_W hw 180 rfl)) Via.refl rfl F_a_digits E_a (Or.inr ⟨(own_W hw 181 rfl), rfl, hnm⟩) (own_W hw 38 rfl) (ty := (.object "java/lang/String")) (by decide) rfl rfl (g := (mkF m 77 #[rv a, rv sa, rv sc] [(.ref ts8), (.ref a)])) rfl rfl (hb hby own_dB35_77)
  have E_a := E_a.wr W9
  have F_a_code := F_a_code.other W9 (Or.inr (slot_ne (Or.inr (own_W hw 187 rfl)) (Or.inr (own_W hw 181 rfl)) (by decide) (t := .int) (t' := (.object "java/lang/String")) (by decide) (by decide)))
  have OL := OL.wr W9 g_a
  have E_b4 := E_b4.wr W9
  have F_b4_value := F_b4_value.other W9 (Or.inl (Ne.symm ne_a_b4))
  have F_b4_coder := F_b4_coder.other W9 (Or.inl (Ne.symm ne_a_b4))
  have F_b4_count := F_b4_count.other W9 (Or.inl (Ne.symm ne_a_b4))
  have V_nb5 := V_nb5.other W9 (Ne.symm ne_a_nb5)
  have E_ts8 := E_ts8.wr W9
  have F_ts8_value := F_ts8_value.other W9 (Or.inl (Ne.symm ne_a_ts8))
  have F_ts8_coder := F_ts8_coder.other W9 (Or.inl (Ne.symm ne_a_ts8))
  have V_nb8 := V_nb8.other W9 (Ne.symm ne_a_nb8)
  have Zs := Nat.le_trans Zs (Keep.of_wr W9).1
  have F_a_digits := F_a_digits.same W9
  have KP := KP.wr W9 (Or.inl (by simp))
  have NF := Fr.snoc X9 NF g_a
  refine own_go (T' := T9) (g' := (mkF m 80 #[rv a, rv sa, rv sc] [])) (fun _ k => st9 _ k) ?_
  refine own_p (g' := (mkF m 82 #[rv a, rv sa, rv sc] [(.ref a), (.ref a)])) (fun _ k => XS.aloadN X9.here hx rfl (hb hby own_dB35_80) rfl rfl (XS.aloadN X9.here hx rfl (hb hby own_dB35_81) rfl rfl k)) ?_
  obtain ⟨T10, X10, e10, st10⟩ := getF X9 hx hZ hown (host := "") (Or.inl (own_W hw 180 rfl)) Via.refl e9 F_a_digits (g := (mkF m 82 #[rv a, rv sa, rv sc] [(.ref a), (.ref a)])) rfl rfl (hb hby own_dB35_82)
  refine own_go (T' := T10) (g' := (mkF m 85 #[rv a, rv sa, rv sc] [(.ref ts8), (.ref a)])) (fun _ k => st10 _ k) ?_
  obtain ⟨_, _, ⟨T11, L11, k11, n11⟩, -, X11, ⟨Lc11, hQ11, l11, y11, z11⟩, st11⟩ := Jvm.LawKit.callS X10 hx (y := own_y15) hown (mvT hZ (own_W hw 182 rfl)) (mvT hZ (own_W hw 183 rfl)) (mvT hZ (own_W hw 39 rfl)) (mvT hZ (own_W hw 184 rfl)) (by decide) (backOf (W := 1) (own_rm16_5 l Z a0 hw [] ts8 cs fo nb8 kn8 x0 x1 x2 x3 x4 h9 n0 Zs OL S_cs hcs S_fo hfo E_ts8 F_ts8_value F_ts8_coder V_nb8 hd_x0 hd_x1 hd_x2 hd_x3 hd_x4) hZ (own_W hw 184 rfl) (own_W hw 39 rfl) (by decide) (by decide)) (g := (mkF m 85 #[rv a, rv sa, rv sc] [(.ref ts8), (.ref a)])) rfl (by rw [hml]; rfl) (argsL := [(.ref ts8)]) (rest := [(.ref a)]) (lenOf own_pd40_2_4 rfl) rfl (Nat.le_refl _) (hb hby own_dB35_85) (fun _ _ => ⟨rfl, e10, (by decide : 4 + 0 ≤ _), (by decide : 29 + 0 ≤ _)⟩)
  dsimp only [Pt.U, Pt.locs, Pt.cells, Pt.slots] at X11 l11 y11 z11 st11 hQ11
  subst l11 y11 z11
  obtain ⟨rfl, NQ11, eq11⟩ := hQ11
  have NF := Fr.app NF NQ11
  refine own_go (T' := T11) (g' := (mkF m 88 #[rv a, rv sa, rv sc] [(.int (own_cd [x0, x1, x2, x3, x4])), (.ref a)])) (fun _ k => st11 _ k) ?_
  obtain ⟨T12, h12, X12, e12, W12, st12⟩ := putF X11 hx hZ hown (host := "") (Or.inl (own_W hw 186 rfl)) Via.refl eq11 F_a_code E_a (Or.inr ⟨(own_W hw 187 rfl), rfl, hnm⟩) (own_W hw 38 rfl) (ty := .int) (by decide) rfl rfl (g := (mkF m 88 #[rv a, rv sa, rv sc] [(.int (own_cd [x0, x1, x2, x3, x4])), (.ref a)])) rfl rfl (hb hby own_dB35_88)
  have E_a := E_a.wr W12
  have OL := OL.wr W12 g_a
  have E_b4 := E_b4.wr W12
  have F_b4_value := F_b4_value.other W12 (Or.inl (Ne.symm ne_a_b4))
  have F_b4_coder := F_b4_coder.other W12 (Or.inl (Ne.symm ne_a_b4))
  have F_b4_count := F_b4_count.other W12 (Or.inl (Ne.symm ne_a_b4))
  have V_nb5 := V_nb5.other W12 (Ne.symm ne_a_nb5)
  have E_ts8 := E_ts8.wr W12
  have F_ts8_value := F_ts8_value.other W12 (Or.inl (Ne.symm ne_a_ts8))
  have F_ts8_coder := F_ts8_coder.other W12 (Or.inl (Ne.symm ne_a_ts8))
  have V_nb8 := V_nb8.other W12 (Ne.symm ne_a_nb8)
  have F_a_digits := F_a_digits.other W12 (Or.inr (slot_ne (Or.inr (own_W hw 181 rfl)) (Or.inr (own_W hw 187 rfl)) (by decide) (t := (.object "java/lang/String")) (t' := .int) (by decide) (by decide)))
  have Zs := Nat.le_trans Zs (Keep.of_wr W12).1
  have F_a_code := F_a_code.same W12
  have KP := KP.wr W12 (Or.inl (by simp))
  have NF := Fr.snoc X12 NF g_a
  refine own_go (T' := T12) (g' := (mkF m 91 #[rv a, rv sa, rv sc] [])) (fun _ k => st12 _ k) ?_
  refine own_ret X12 Bd.notSynchronized none (fun _ => rfl) (fun fs hr => X12.returnOut hx Bd.returns (hb hby own_dB35_91) hr) ?_ (by decide) (by decide)
  show (own_Q40_2 Z a sa sc cs fo va kv x0 x1 x2 vc kw x3 x4 h0 n0) none T12.heap _
  rw [e12]
  exact ⟨rfl, NF, KP, E_a, F_a_code⟩
theorem own_pn40_3 : plainName "com/example/carrier_name_resolver/carriernameresolver/card/Plmn" = true := by first | (simp [plainName, overriddenIn]; done) | decide +kernel
theorem own_pd40_3_0 : parseMethodDescriptor "(Ljava/lang/String;II)Z" = some ⟨[(.object "java/lang/String"), .int, .int], some .boolean⟩ := by decide +kernel
theorem own_pd40_3_1 : parseMethodDescriptor "()V" = some ⟨[], none⟩ := by decide +kernel
theorem own_pd40_3_2 : parseMethodDescriptor "(Ljava/lang/String;)Ljava/lang/StringBuilder;" = some ⟨[(.object "java/lang/String")], some (.object "java/lang/StringBuilder")⟩ := by decide +kernel
theorem own_pd40_3_3 : parseMethodDescriptor "()Ljava/lang/String;" = some ⟨[], some (.object "java/lang/String")⟩ := by decide +kernel
theorem own_pd40_3_4 : parseMethodDescriptor "(Ljava/lang/String;)I" = some ⟨[(.object "java/lang/String")], some .int⟩ := by decide +kernel
theorem own_ef40_3 (m : MethodId) (a : Addr) (sa : Addr) (sc : Addr) : entryFrame m #[(.ref a), (.ref sa), (.ref sc)] 3 = mkF m 0 #[.val (.ref a), .val (.ref sa), .val (.ref sc)] [] := by first | (simp [entryFrame, mkF, argsToLocals, Value.category]; done) | rfl
def own_Q40_3 (Z : State) (a : Addr) (sa : Addr) (sc : Addr) (cs : Int32) (fo : Value) (va : Addr) (kv : ClassId) (x0 : Int32) (x1 : Int32) (x2 : Int32) (vc : Addr) (kw : ClassId) (x3 : Int32) (x4 : Int32) (x5 : Int32) (h0 : Heap) (n0 : Nat) (v : Option Value) (h : Heap) (L : List Loc) : Prop := v = none ∧ Fr n0 L ∧ Keep h0 h [a] ∧ Exa Z h a "com/example/carrier_name_resolver/carriernameresolver/card/Plmn" ∧ Fld Z h a "com/example/carrier_name_resolver/carriernameresolver/card/Plmn" "code" "I" (.int (own_cd [x0, x1, x2, x3, x4, x5] ||| (16777216 : Int32)))
set_option maxRecDepth 65536 in
set_option maxHeartbeats 40000000 in
theorem own_rm40_3 (l : Launch) (Z : State) (a0 : Array Value) (hw : ∀ d ∈ tables_1, d.before a0 Z = true) (ws : List Jvm.Cond) (a : Addr) (sa : Addr) (sc : Addr) (cs : Int32) (fo : Value) (va : Addr) (kv : ClassId) (x0 : Int32) (x1 : Int32) (x2 : Int32) (vc : Addr) (kw : ClassId) (x3 : Int32) (x4 : Int32) (x5 : Int32) (h0 : Heap) (n0 : Nat) (Zs : n0 ≤ h0.size) (OL : Old Z n0 h0) (S_cs : Sta Z Z.heap "java/lang/String" "COMPACT_STRINGS" "Z" (.int cs)) (hcs : ¬ (cs = (0 : Int32))) (S_fo : Sta Z Z.heap "jdk/internal/util/Preconditions" "SIOOBE_FORMATTER" "Ljava/util/function/BiFunction;" fo) (hfo : fo.isRef = true) (F_a_digits : Fld Z h0 a "com/example/carrier_name_resolver/carriernameresolver/card/Plmn" "digits" "Ljava/lang/String;" .null) (F_a_code : Fld Z h0 a "com/example/carrier_name_resolver/carriernameresolver/card/Plmn" "code" "I" (.int 0)) (E_a : Exa Z h0 a "com/example/carrier_name_resolver/carriernameresolver/card/Plmn") (g_a : n0 ≤ a) (E_sa : Exa Z h0 sa "java/lang/String") (F_sa_value : Fld Z h0 sa "java/lang/String" "value" "[B" (.ref va)) (F_sa_coder : Fld Z h0 sa "java/lang/String" "coder" "B" (.int 0)) (V_va : Arv Z h0 va kv .byte (3 : Int32) [(.int x0), (.int x1), (.int x2)] (.int 0)) (hd_x0 : own_Dg x0) (hd_x1 : own_Dg x1) (hd_x2 : own_Dg x2) (E_sc : Exa Z h0 sc "java/lang/String") (F_sc_value : Fld Z h0 sc "java/lang/String" "value" "[B" (.ref vc)) (F_sc_coder : Fld Z h0 sc "java/lang/String" "coder" "B" (.int 0)) (V_vc : Arv Z h0 vc kw .byte (3 : Int32) [(.int x3), (.int x4), (.int x5)] (.int 0)) (hd_x3 : own_Dg x3) (hd_x4 : own_Dg x4) (hd_x5 : own_Dg x5) :
    MetFree l own_y35 (head1 (Jvm.Cond.code own_y35 prog_21_method_1_code 3 none :: ws) ({ frames := 6, cells := 4, slots := 30, locals := 134 } : Room)) (fun aA_ U => aA_ = #[(.ref a), (.ref sa), (.ref sc)] ∧ Z.Warmed39 U.vm ∧ U.heap = h0) (fun _ _ _ _ _ => True) (fun _ U o U' => ∃ v L, o = .returned v ∧ own_Q40_3 Z a sa sc cs fo va kv x0 x1 x2 vc kw x3 x4 x5 h0 n0 v U'.heap L ∧ FrameEnd U o U' L ({ frames := 6, cells := 4, slots := 30, locals := 134 } : Room).cells ({ frames := 6, cells := 4, slots := 30, locals := 134 } : Room).slots) := by
  refine MetFree.of_bodySF (plainFor_of_name own_pn40_3) hisR ?_
  intro p e s m args below meth c s₁ Bd hml0 hP hK
  obtain ⟨rfl, hZ, hh⟩ := hP
  have hx := Bd.exec
  have hby := Bd.bytes
  have hml : c.maxLocals = 3 := hml0
  have hown : s.vm.findClass "com/example/carrier_name_resolver/carriernameresolver/card/Plmn" = some m.cls := findClass_of_methodNamed Bd.named
  have hnm := (name_of_methodNamed Bd.named Bd.method).1
  have X0 : Stand p l e ({ frames := 6, cells := 4, slots := 30, locals := 134 } : Room) s m #[(.ref a), (.ref sa), (.ref sc)] below meth c s₁ [] 0 0 := Stand.of_body Bd
  have e0 : s₁.heap = h0 := by rw [← hh, Bd.state]; rfl
  have NF := Fr.nil n0
  rw [own_ef40_3 m a sa sc]
  show own_Dn p e below s (own_Q40_3 Z a sa sc cs fo va kv x0 x1 x2 vc kw x3 x4 x5 h0 n0) 4 30 s₁ (mkF m 0 #[.val (.ref a), .val (.ref sa), .val (.ref sc)] [])
  have KP := Keep.refl h0 [a]
  refine own_p (g' := (mkF m 1 #[rv a, rv sa, rv sc] [(.ref a)])) (fun _ k => XS.aloadN X0.here hx rfl (hb hby own_dB35_0) rfl rfl k) ?_
  obtain ⟨T1, X1, e1, st1⟩ := initO X0 hx hZ hown (own_W hw 43 rfl) (own_W hw 19 rfl) (own_W hw 20 rfl) e0 (g := (mkF m 1 #[rv a, rv sa, rv sc] [(.ref a)])) rfl (by rw [hml]; rfl) rfl (hb hby own_dB35_1) (by decide) (W := 0) (Nat.le_refl _) (by decide)
  refine own_go (T' := T1) (g' := (mkF m 4 #[rv a, rv sa, rv sc] [])) (fun _ k => st1 _ k) ?_
  refine own_p (g' := (mkF m 7 #[rv a, rv sa, rv sc] [(.int 3), (.int 3), (.ref sa)])) (fun _ k => XS.aloadN X1.here hx rfl (hb hby own_dB35_4) rfl rfl (XS.iconst X1.here hx rfl (hb hby own_dB35_5) (XS.iconst X1.here hx rfl (hb hby own_dB35_6) k))) ?_
  obtain ⟨_, _, ⟨T2, L2, k2, n2⟩, -, X2, ⟨Lc2, hQ2, l2, y2, z2⟩, st2⟩ := Jvm.LawKit.callS X1 hx (y := own_y14) hown (mvT hZ (own_W hw 44 rfl)) (mvT hZ (own_W hw 45 rfl)) (mvT hZ (own_W hw 39 rfl)) (mvT hZ (own_W hw 46 rfl)) (by decide) (backOf (W := 0) (own_rm15_3 l Z a0 hw [] sa (3 : Int32) cs fo va kv x0 x1 x2 h0 n0 Zs OL S_cs hcs S_fo hfo (by decide) E_sa F_sa_value F_sa_coder V_va hd_x0 hd_x1 hd_x2) hZ (own_W hw 46 rfl) (own_W hw 39 rfl) (by decide) (by decide)) (g := (mkF m 7 #[rv a, rv sa, rv sc] [(.int 3), (.int 3), (.ref sa)])) rfl (by rw [hml]; rfl) (argsL := [(.ref sa), (.int 3), (.int 3)]) (rest := []) (lenOf own_pd40_3_0 rfl) rfl (Nat.le_refl _) (hb hby own_dB35_7) (fun _ _ => ⟨rfl, e1, (by decide : 0 + 0 ≤ _), (by decide : 0 + 0 ≤ _)⟩)
  dsimp only [Pt.U, Pt.locs, Pt.cells, Pt.slots] at X2 l2 y2 z2 st2 hQ2
  subst l2 y2 z2
  obtain ⟨rfl, NQ2, eq2⟩ := hQ2
  have NF := Fr.app NF NQ2
  refine own_go (T' := T2) (g' := (mkF m 10 #[rv a, rv sa, rv sc] [(.int 1)])) (fun _ k => st2 _ k) ?_
  refine own_p (g' := (mkF m 15 #[rv a, rv sa, rv sc] [(.int 2), (.ref sc)])) (fun _ k => XS.ifNo X2.here hx rfl (hb hby own_dB35_10) rfl (by decide) (XS.aloadN X2.here hx rfl (hb hby own_dB35_13) rfl rfl (XS.iconst X2.here hx rfl (hb hby own_dB35_14) k))) ?_
  refine own_p (g' := (mkF m 16 #[rv a, rv sa, rv sc] [(.int 3), (.int 2), (.ref sc)])) (fun _ k => XS.iconst X2.here hx rfl (hb hby own_dB35_15) k) ?_
  obtain ⟨_, _, ⟨T3, L3, k3, n3⟩, -, X3, ⟨Lc3, hQ3, l3, y3, z3⟩, st3⟩ := Jvm.LawKit.callS X2 hx (y := own_y14) hown (mvT hZ (own_W hw 44 rfl)) (mvT hZ (own_W hw 45 rfl)) (mvT hZ (own_W hw 39 rfl)) (mvT hZ (own_W hw 46 rfl)) (by decide) (backOf (W := 0) (own_rm15_3 l Z a0 hw [] sc (2 : Int32) cs fo vc kw x3 x4 x5 h0 n0 Zs OL S_cs hcs S_fo hfo (by decide) E_sc F_sc_value F_sc_coder V_vc hd_x3 hd_x4 hd_x5) hZ (own_W hw 46 rfl) (own_W hw 39 rfl) (by decide) (by decide)) (g := (mkF m 16 #[rv a, rv sa, rv sc] [(.int 3), (.int 2), (.ref sc)])) rfl (by rw [hml]; rfl) (argsL := [(.ref sc), (.int 2), (.int 3)]) (rest := []) (lenOf own_pd40_3_0 rfl) rfl (Nat.le_refl _) (hb hby own_dB35_16) (fun _ _ => ⟨rfl, eq2, (by decide : 0 + 0 ≤ _), (by decide : 0 + 0 ≤ _)⟩)
  dsimp only [Pt.U, Pt.locs, Pt.cells, Pt.slots] at X3 l3 y3 z3 st3 hQ3
  subst l3 y3 z3
  obtain ⟨rfl, NQ3, eq3⟩ := hQ3
  have NF := Fr.app NF NQ3
  refine own_go (T' := T3) (g' := (mkF m 19 #[rv a, rv sa, rv sc] [(.int 1)])) (fun _ k => st3 _ k) ?_
  refine own_p (g' := (mkF m 59 #[rv a, rv sa, rv sc] [(.ref a)])) (fun _ k => XS.ifYes X3.here hx rfl (pc0 := 19) (pc' := 58) rfl (hb hby own_dB35_19) rfl (by decide) (by decide) (by decide) (XS.aloadN X3.here hx rfl (hb hby own_dB35_58) rfl rfl k)) ?_
  obtain ⟨T4, h4, X4, e4, E4, A4, D4, -, st4⟩ := newO X3 hx hZ hown (own_W hw 79 rfl) (own_W hw 80 rfl) (own_W hw 81 rfl) eq3 (g := (mkF m 59 #[rv a, rv sa, rv sc] [(.ref a)])) rfl (hb hby own_dB35_59) (by decide) (by decide)
  obtain ⟨b4, g4⟩ : ∃ z, z = h0.size := ⟨_, rfl⟩
  rw [← g4] at A4 D4 st4
  have ne_a_b4 : a ≠ b4 := Nat.ne_of_lt (Nat.lt_of_lt_of_le E_a.lt (Nat.le_of_eq g4.symm))
  have ne_sa_b4 : sa ≠ b4 := Nat.ne_of_lt (Nat.lt_of_lt_of_le E_sa.lt (Nat.le_of_eq g4.symm))
  have ne_sc_b4 : sc ≠ b4 := Nat.ne_of_lt (Nat.lt_of_lt_of_le E_sc.lt (Nat.le_of_eq g4.symm))
  have ne_va_b4 : va ≠ b4 := Nat.ne_of_lt (Nat.lt_of_lt_of_le V_va.lt (Nat.le_of_eq g4.symm))
  have ne_vc_b4 : vc ≠ b4 := Nat.ne_of_lt (Nat.lt_of_lt_of_le V_vc.lt (Nat.le_of_eq g4.symm))
  have g_b4 : n0 ≤ b4 := Nat.le_trans Zs (Nat.le_of_eq g4.symm)
  have sz_b4 : h0.size ≤ b4 := Nat.le_trans KP.1 (Nat.le_of_eq g4.symm)
  have E_a := E_a.ext E4
  have F_a_digits := F_a_digits.ext E4
  have F_a_code := F_a_code.ext E4
  have E_sa := E_sa.ext E4
  have F_sa_value := F_sa_value.ext E4
  have F_sa_coder := F_sa_coder.ext E4
  have V_va := V_va.ext E4
  have E_sc := E_sc.ext E4
  have F_sc_value := F_sc_value.ext E4
  have F_sc_coder := F_sc_coder.ext E4
  have V_vc := V_vc.ext E4
  have OL := OL.ext E4
  have KP := KP.ext E4
  have Zs := Nat.le_trans Zs E4.1
  have E_b4 := A4
  have F_b4_value : Fld Z h4 b4 "java/lang/AbstractStringBuilder" "value" "[B" .null := D4 (Or.inl (own_W hw 94 rfl)) (ty := (.array .byte)) (by decide)
  have F_b4_coder : Fld Z h4 b4 "java/lang/AbstractStringBuilder" "coder" "B" (.int 0) := D4 (Or.inl (own_W hw 96 rfl)) (ty := .byte) (by decide)
  have F_b4_count : Fld Z h4 b4 "java/lang/AbstractStringBuilder" "count" "I" (.int 0) := D4 (Or.inl (own_W hw 109 rfl)) (ty := .int) (by decide)
  refine own_go (T' := T4) (g' := (mkF m 62 #[rv a, rv sa, rv sc] [(.ref b4), (.ref a)])) (fun _ k => st4 _ k) ?_
  refine own_p (g' := (mkF m 63 #[rv a, rv sa, rv sc] [(.ref b4), (.ref b4), (.ref a)])) (fun _ k => XS.dup X4.here hx rfl (hb hby own_dB35_62) rfl rfl k) ?_
  have lt_a := E_a.lt
  have lt_b4 := E_b4.lt
  have lt_sa := E_sa.lt
  have lt_sc := E_sc.lt
  have lt_va := V_va.lt
  have lt_vc := V_vc.lt
  have KPo := KP
  obtain ⟨_, _, ⟨T5, L5, k5, n5⟩, -, X5, ⟨Lc5, hQ5, l5, y5, z5⟩, st5⟩ := X4.specialBack hx (y := own_y17) rfl hown (mvT hZ (own_W hw 82 rfl)) (mvT hZ (own_W hw 83 rfl)) (mvT hZ (own_W hw 84 rfl)) (by decide) (backOf (W := 2) (own_rm18 l Z a0 hw [] b4 cs fo h4 n0 Zs OL S_cs hcs S_fo hfo F_b4_value F_b4_coder F_b4_count E_b4 g_b4) hZ (own_W hw 84 rfl) (own_W hw 81 rfl) (by decide) (by decide)) (g := (mkF m 63 #[rv a, rv sa, rv sc] [(.ref b4), (.ref b4), (.ref a)])) rfl (by rw [hml]; rfl) (Steps.refl _) (a := b4) (argsL := []) (rest := [(.ref b4), (.ref a)]) (lenOf own_pd40_3_1 rfl) rfl (Nat.le_refl _) (hb hby own_dB35_63) (fun _ _ => ⟨rfl, e4, (by decide : 1 + 1 ≤ _), (by decide : 4 + 16 ≤ _)⟩)
  dsimp only [Pt.U, Pt.locs, Pt.cells, Pt.slots] at X5 l5 y5 z5 st5 hQ5
  subst l5 y5 z5
  obtain ⟨rfl, NQ5, K5, E_b4, nb5, kn5, ge_nb5, g_nb5, V_nb5, F_b4_value, F_b4_coder, F_b4_count⟩ := hQ5
  have NF := Fr.app NF NQ5
  have E_a := E_a.keep K5
  have F_a_digits := F_a_digits.keep K5 (ninS ne_a_b4 nin0)
  have F_a_code := F_a_code.keep K5 (ninS ne_a_b4 nin0)
  have E_sa := E_sa.keep K5
  have F_sa_value := F_sa_value.keep K5 (ninS ne_sa_b4 nin0)
  have F_sa_coder := F_sa_coder.keep K5 (ninS ne_sa_b4 nin0)
  have V_va := V_va.keep K5 (ninS ne_va_b4 nin0)
  have E_sc := E_sc.keep K5
  have F_sc_value := F_sc_value.keep K5 (ninS ne_sc_b4 nin0)
  have F_sc_coder := F_sc_coder.keep K5 (ninS ne_sc_b4 nin0)
  have V_vc := V_vc.keep K5 (ninS ne_vc_b4 nin0)
  have OL := OL.keep K5 (allS g_b4 all0)
  have Zs := Nat.le_trans Zs K5.1
  have KP := KP.trans K5 ((allS (Or.inr sz_b4) all0))
  have ne_a_nb5 : a ≠ nb5 := Nat.ne_of_lt (Nat.lt_of_lt_of_le lt_a ge_nb5)
  have ne_b4_nb5 : b4 ≠ nb5 := Nat.ne_of_lt (Nat.lt_of_lt_of_le lt_b4 ge_nb5)
  have ne_sa_nb5 : sa ≠ nb5 := Nat.ne_of_lt (Nat.lt_of_lt_of_le lt_sa ge_nb5)
  have ne_sc_nb5 : sc ≠ nb5 := Nat.ne_of_lt (Nat.lt_of_lt_of_le lt_sc ge_nb5)
  have ne_va_nb5 : va ≠ nb5 := Nat.ne_of_lt (Nat.lt_of_lt_of_le lt_va ge_nb5)
  have ne_vc_nb5 : vc ≠ nb5 := Nat.ne_of_lt (Nat.lt_of_lt_of_le lt_vc ge_nb5)
  have sz_nb5 : h0.size ≤ nb5 := Nat.le_trans KPo.1 ge_nb5
  refine own_go (T' := T5) (g' := (mkF m 66 #[rv a, rv sa, rv sc] [(.ref b4), (.ref a)])) (fun _ k => st5.trans k) ?_
  refine own_p (g' := (mkF m 67 #[rv a, rv sa, rv sc] [(.ref sa), (.ref b4), (.ref a)])) (fun _ k => XS.aloadN X5.here hx rfl (hb hby own_dB35_66) rfl rfl k) ?_
  obtain ⟨cq6, kq6, q6a, q6b, q6c⟩ := isOf hZ rfl E_b4
  obtain ⟨_, _, ⟨T6, L6, k6, n6⟩, -, X6, ⟨Lc6, hQ6, l6, y6, z6⟩, st6⟩ := X5.virtualBack hx (y := own_y23) (z := own_y23) hown (mvT hZ (own_W hw 97 rfl)) (mvT hZ (own_W hw 98 rfl)) (notFace_of_selects (args := #[]) (mvT hZ (own_W hw 100 rfl))) (mvT hZ (own_W hw 100 rfl)) (mvT hZ (own_W hw 99 rfl)) (by decide) (backOf (W := 1) (own_rm25_3_0 l Z a0 hw [] b4 sa cs fo nb5 va kv kn5 x0 x1 x2 T5.heap n0 Zs OL S_cs hcs S_fo hfo E_b4 g_b4 F_b4_value F_b4_coder F_b4_count E_sa F_sa_value F_sa_coder V_va hd_x0 hd_x1 hd_x2 V_nb5 g_nb5 ne_va_nb5 ne_sa_nb5 ne_b4_nb5 (Ne.symm ne_sa_b4) (Ne.symm ne_va_b4)) hZ (own_W hw 101 rfl) (own_W hw 81 rfl) (by decide) (by decide)) q6a q6c (g := (mkF m 67 #[rv a, rv sa, rv sc] [(.ref sa), (.ref b4), (.ref a)])) rfl (by rw [hml]; rfl) (Steps.refl _) (argsL := [(.ref sa)]) (rest := [(.ref a)]) (lenOf own_pd40_3_2 rfl) rfl (Nat.le_refl _) (hb hby own_dB35_67) (fun _ _ => ⟨rfl, rfl, (by decide : 2 + 0 ≤ _), (by decide : 20 + 0 ≤ _)⟩)
  dsimp only [Pt.U, Pt.locs, Pt.cells, Pt.slots] at X6 l6 y6 z6 st6 hQ6
  subst l6 y6 z6
  obtain ⟨rfl, NQ6, K6, E_b4, V_nb5, F_b4_value, F_b4_coder, F_b4_count⟩ := hQ6
  have NF := Fr.app NF NQ6
  have E_a := E_a.keep K6
  have F_a_digits := F_a_digits.keep K6 (ninS ne_a_b4 (ninS ne_a_nb5 nin0))
  have F_a_code := F_a_code.keep K6 (ninS ne_a_b4 (ninS ne_a_nb5 nin0))
  have E_sa := E_sa.keep K6
  have F_sa_value := F_sa_value.keep K6 (ninS ne_sa_b4 (ninS ne_sa_nb5 nin0))
  have F_sa_coder := F_sa_coder.keep K6 (ninS ne_sa_b4 (ninS ne_sa_nb5 nin0))
  have V_va := V_va.keep K6 (ninS ne_va_b4 (ninS ne_va_nb5 nin0))
  have E_sc := E_sc.keep K6
  have F_sc_value := F_sc_value.keep K6 (ninS ne_sc_b4 (ninS ne_sc_nb5 nin0))
  have F_sc_coder := F_sc_coder.keep K6 (ninS ne_sc_b4 (ninS ne_sc_nb5 nin0))
  have V_vc := V_vc.keep K6 (ninS ne_vc_b4 (ninS ne_vc_nb5 nin0))
  have OL := OL.keep K6 (allS g_b4 (allS g_nb5 all0))
  have Zs := Nat.le_trans Zs K6.1
  have KP := KP.trans K6 ((allS (Or.inr sz_b4) (allS (Or.inr sz_nb5) all0)))
  refine own_go (T' := T6) (g' := (mkF m 70 #[rv a, rv sa, rv sc] [(.ref b4), (.ref a)])) (fun _ k => st6.trans k) ?_
  refine own_p (g' := (mkF m 71 #[rv a, rv sa, rv sc] [(.ref sc), (.ref b4), (.ref a)])) (fun _ k => XS.aloadN X6.here hx rfl (hb hby own_dB35_70) rfl rfl k) ?_
  obtain ⟨cq7, kq7, q7a, q7b, q7c⟩ := isOf hZ rfl E_b4
  obtain ⟨_, _, ⟨T7, L7, k7, n7⟩, -, X7, ⟨Lc7, hQ7, l7, y7, z7⟩, st7⟩ := X6.virtualBack hx (y := own_y23) (z := own_y23) hown (mvT hZ (own_W hw 97 rfl)) (mvT hZ (own_W hw 98 rfl)) (notFace_of_selects (args := #[]) (mvT hZ (own_W hw 100 rfl))) (mvT hZ (own_W hw 100 rfl)) (mvT hZ (own_W hw 99 rfl)) (by decide) (backOf (W := 1) (own_rm25_3_3 l Z a0 hw [] b4 sc cs fo nb5 vc kw kn5 x0 x1 x2 x3 x4 x5 T6.heap n0 Zs OL S_cs hcs S_fo hfo E_b4 g_b4 F_b4_value F_b4_coder F_b4_count E_sc F_sc_value F_sc_coder V_vc hd_x3 hd_x4 hd_x5 V_nb5 g_nb5 ne_vc_nb5 ne_sc_nb5 ne_b4_nb5 (Ne.symm ne_sc_b4) (Ne.symm ne_vc_b4)) hZ (own_W hw 101 rfl) (own_W hw 81 rfl) (by decide) (by decide)) q7a q7c (g := (mkF m 71 #[rv a, rv sa, rv sc] [(.ref sc), (.ref b4), (.ref a)])) rfl (by rw [hml]; rfl) (Steps.refl _) (argsL := [(.ref sc)]) (rest := [(.ref a)]) (lenOf own_pd40_3_2 rfl) rfl (Nat.le_refl _) (hb hby own_dB35_71) (fun _ _ => ⟨rfl, rfl, (by decide : 2 + 0 ≤ _), (by decide : 20 + 0 ≤ _)⟩)
  dsimp only [Pt.U, Pt.locs, Pt.cells, Pt.slots] at X7 l7 y7 z7 st7 hQ7
  subst l7 y7 z7
  obtain ⟨rfl, NQ7, K7, E_b4, V_nb5, F_b4_value, F_b4_coder, F_b4_count⟩ := hQ7
  have NF := Fr.app NF NQ7
  have E_a := E_a.keep K7
  have F_a_digits := F_a_digits.keep K7 (ninS ne_a_b4 (ninS ne_a_nb5 nin0))
  have F_a_code := F_a_code.keep K7 (ninS ne_a_b4 (ninS ne_a_nb5 nin0))
  have E_sa := E_sa.keep K7
  have F_sa_value := F_sa_value.keep K7 (ninS ne_sa_b4 (ninS ne_sa_nb5 nin0))
  have F_sa_coder := F_sa_coder.keep K7 (ninS ne_sa_b4 (ninS ne_sa_nb5 nin0))
  have V_va := V_va.keep K7 (ninS ne_va_b4 (ninS ne_va_nb5 nin0))
  have E_sc := E_sc.keep K7
  have F_sc_value := F_sc_value.keep K7 (ninS ne_sc_b4 (ninS ne_sc_nb5 nin0))
  have F_sc_coder := F_sc_coder.keep K7 (ninS ne_sc_b4 (ninS ne_sc_nb5 nin0))
  have V_vc := V_vc.keep K7 (ninS ne_vc_b4 (ninS ne_vc_nb5 nin0))
  have OL := OL.keep K7 (allS g_b4 (allS g_nb5 all0))
  have Zs := Nat.le_trans Zs K7.1
  have KP := KP.trans K7 ((allS (Or.inr sz_b4) (allS (Or.inr sz_nb5) all0)))
  refine own_go (T' := T7) (g' := (mkF m 74 #[rv a, rv sa, rv sc] [(.ref b4), (.ref a)])) (fun _ k => st7.trans k) ?_
  have lt_a := E_a.lt
  have lt_b4 := E_b4.lt
  have lt_nb5 := V_nb5.lt
  have KPo := KP
  obtain ⟨cq8, kq8, q8a, q8b, q8c⟩ := isOf hZ rfl E_b4
  obtain ⟨_, _, ⟨T8, L8, k8, n8⟩, -, X8, ⟨Lc8, hQ8, l8, y8, z8⟩, st8⟩ := X7.virtualBack hx (y := own_y34) (z := own_y34) hown (mvT hZ (own_W hw 135 rfl)) (mvT hZ (own_W hw 136 rfl)) (notFace_of_selects (args := #[]) (mvT hZ (own_W hw 138 rfl))) (mvT hZ (own_W hw 138 rfl)) (mvT hZ (own_W hw 137 rfl)) (by decide) (backOf (W := 1) (own_rm36_6 l Z a0 hw [] b4 cs fo nb5 kn5 x0 x1 x2 x3 x4 x5 T7.heap n0 Zs OL S_cs hcs S_fo hfo E_b4 F_b4_value F_b4_coder F_b4_count V_nb5) hZ (own_W hw 139 rfl) (own_W hw 81 rfl) (by decide) (by decide)) q8a q8c (g := (mkF m 74 #[rv a, rv sa, rv sc] [(.ref b4), (.ref a)])) rfl (by rw [hml]; rfl) (Steps.refl _) (argsL := []) (rest := [(.ref a)]) (lenOf own_pd40_3_3 rfl) rfl (Nat.le_refl _) (hb hby own_dB35_74) (fun _ _ => ⟨rfl, rfl, (by decide : 2 + 2 ≤ _), (by decide : 20 + 10 ≤ _)⟩)
  dsimp only [Pt.U, Pt.locs, Pt.cells, Pt.slots] at X8 l8 y8 z8 st8 hQ8
  subst l8 y8 z8
  obtain ⟨NQ8, K8, ts8, nb8, kn8, rfl, ge_ts8, g_ts8, ge_nb8, g_nb8, E_ts8, V_nb8, F_ts8_value, F_ts8_coder⟩ := hQ8
  have NF := Fr.app NF NQ8
  have E_a := E_a.keep K8
  have F_a_digits := F_a_digits.keep K8 nin0
  have F_a_code := F_a_code.keep K8 nin0
  have OL := OL.keep K8 all0
  have E_b4 := E_b4.keep K8
  have F_b4_value := F_b4_value.keep K8 nin0
  have F_b4_coder := F_b4_coder.keep K8 nin0
  have F_b4_count := F_b4_count.keep K8 nin0
  have V_nb5 := V_nb5.keep K8 nin0
  have Zs := Nat.le_trans Zs K8.1
  have KP := KP.trans K8 (all0)
  have ne_a_ts8 : a ≠ ts8 := Nat.ne_of_lt (Nat.lt_of_lt_of_le lt_a ge_ts8)
  have ne_b4_ts8 : b4 ≠ ts8 := Nat.ne_of_lt (Nat.lt_of_lt_of_le lt_b4 ge_ts8)
  have ne_nb5_ts8 : nb5 ≠ ts8 := Nat.ne_of_lt (Nat.lt_of_lt_of_le lt_nb5 ge_ts8)
  have sz_ts8 : h0.size ≤ ts8 := Nat.le_trans KPo.1 ge_ts8
  have ne_a_nb8 : a ≠ nb8 := Nat.ne_of_lt (Nat.lt_of_lt_of_le lt_a ge_nb8)
  have ne_b4_nb8 : b4 ≠ nb8 := Nat.ne_of_lt (Nat.lt_of_lt_of_le lt_b4 ge_nb8)
  have ne_nb5_nb8 : nb5 ≠ nb8 := Nat.ne_of_lt (Nat.lt_of_lt_of_le lt_nb5 ge_nb8)
  have sz_nb8 : h0.size ≤ nb8 := Nat.le_trans KPo.1 ge_nb8
  refine own_go (T' := T8) (g' := (mkF m 77 #[rv a, rv sa, rv sc] [(.ref ts8), (.ref a)])) (fun _ k => st8.trans k) ?_
  obtain ⟨T9, h9, X9, e9, W9, st9⟩ := putF X8 hx hZ hown (host := "") (Or.inl (own_W hw 180 rfl)) Via.refl rfl F_a_digits E_a (Or.inr ⟨(own_W hw 181 rfl), rfl, hnm⟩) (own_W hw 38 rfl) (ty := (.object "java/lang/String")) (by decide) rfl rfl (g := (mkF m 77 #[rv a, rv sa, rv sc] [(.ref ts8), (.ref a)])) rfl rfl (hb hby own_dB35_77)
  have E_a := E_a.wr W9
  have F_a_code := F_a_code.other W9 (Or.inr (slot_ne (Or.inr (own_W hw 187 rfl)) (Or.inr (own_W hw 181 rfl)) (by decide) (t := .int) (t' := (.object "java/lang/String")) (by decide) (by decide)))
  have OL := OL.wr W9 g_a
  have E_b4 := E_b4.wr W9
  have F_b4_value := F_b4_value.other W9 (Or.inl (Ne.symm ne_a_b4))
  have F_b4_coder := F_b4_coder.other W9 (Or.inl (Ne.symm ne_a_b4))
  have F_b4_count := F_b4_count.other W9 (Or.inl (Ne.symm ne_a_b4))
  have V_nb5 := V_nb5.other W9 (Ne.symm ne_a_nb5)
  have E_ts8 := E_ts8.wr W9
  have F_ts8_value := F_ts8_value.other W9 (Or.inl (Ne.symm ne_a_ts8))
  have F_ts8_coder := F_ts8_coder.other W9 (Or.inl (Ne.symm ne_a_ts8))
  have V_nb8 := V_nb8.other W9 (Ne.symm ne_a_nb8)
  have Zs := Nat.le_trans Zs (Keep.of_wr W9).1
  have F_a_digits := F_a_digits.same W9
  have KP := KP.wr W9 (Or.inl (by simp))
  have NF := Fr.snoc X9 NF g_a
  refine own_go (T' := T9) (g' := (mkF m 80 #[rv a, rv sa, rv sc] [])) (fun _ k => st9 _ k) ?_
  refine own_p (g' := (mkF m 82 #[rv a, rv sa, rv sc] [(.ref a), (.ref a)])) (fun _ k => XS.aloadN X9.here hx rfl (hb hby own_dB35_80) rfl rfl (XS.aloadN X9.here hx rfl (hb hby own_dB35_81) rfl rfl k)) ?_
  obtain ⟨T10, X10, e10, st10⟩ := getF X9 hx hZ hown (host := "") (Or.inl (own_W hw 180 rfl)) Via.refl e9 F_a_digits (g := (mkF m 82 #[rv a, rv sa, rv sc] [(.ref a), (.ref a)])) rfl rfl (hb hby own_dB35_82)
  refine own_go (T' := T10) (g' := (mkF m 85 #[rv a, rv sa, rv sc] [(.ref ts8), (.ref a)])) (fun _ k => st10 _ k) ?_
  obtain ⟨_, _, ⟨T11, L11, k11, n11⟩, -, X11, ⟨Lc11, hQ11, l11, y11, z11⟩, st11⟩ := Jvm.LawKit.callS X10 hx (y := own_y15) hown (mvT hZ (own_W hw 182 rfl)) (mvT hZ (own_W hw 183 rfl)) (mvT hZ (own_W hw 39 rfl)) (mvT hZ (own_W hw 184 rfl)) (by decide) (backOf (W := 1) (own_rm16_6 l Z a0 hw [] ts8 cs fo nb8 kn8 x0 x1 x2 x3 x4 x5 h9 n0 Zs OL S_cs hcs S_fo hfo E_ts8 F_ts8_value F_ts8_coder V_nb8 hd_x0 hd_x1 hd_x2 hd_x3 hd_x4 hd_x5) hZ (own_W hw 184 rfl) (own_W hw 39 rfl) (by decide) (by decide)) (g := (mkF m 85 #[rv a, rv sa, rv sc] [(.ref ts8), (.ref a)])) rfl (by rw [hml]; rfl) (argsL := [(.ref ts8)]) (rest := [(.ref a)]) (lenOf own_pd40_3_4 rfl) rfl (Nat.le_refl _) (hb hby own_dB35_85) (fun _ _ => ⟨rfl, e10, (by decide : 4 + 0 ≤ _), (by decide : 30 + 0 ≤ _)⟩)
  dsimp only [Pt.U, Pt.locs, Pt.cells, Pt.slots] at X11 l11 y11 z11 st11 hQ11
  subst l11 y11 z11
  obtain ⟨rfl, NQ11, eq11⟩ := hQ11
  have NF := Fr.app NF NQ11
  refine own_go (T' := T11) (g' := (mkF m 88 #[rv a, rv sa, rv sc] [(.int (own_cd [x0, x1, x2, x3, x4, x5] ||| (16777216 : Int32))), (.ref a)])) (fun _ k => st11 _ k) ?_
  obtain ⟨T12, h12, X12, e12, W12, st12⟩ := putF X11 hx hZ hown (host := "") (Or.inl (own_W hw 186 rfl)) Via.refl eq11 F_a_code E_a (Or.inr ⟨(own_W hw 187 rfl), rfl, hnm⟩) (own_W hw 38 rfl) (ty := .int) (by decide) rfl rfl (g := (mkF m 88 #[rv a, rv sa, rv sc] [(.int (own_cd [x0, x1, x2, x3, x4, x5] ||| (16777216 : Int32))), (.ref a)])) rfl rfl (hb hby own_dB35_88)
  have E_a := E_a.wr W12
  have OL := OL.wr W12 g_a
  have E_b4 := E_b4.wr W12
  have F_b4_value := F_b4_value.other W12 (Or.inl (Ne.symm ne_a_b4))
  have F_b4_coder := F_b4_coder.other W12 (Or.inl (Ne.symm ne_a_b4))
  have F_b4_count := F_b4_count.other W12 (Or.inl (Ne.symm ne_a_b4))
  have V_nb5 := V_nb5.other W12 (Ne.symm ne_a_nb5)
  have E_ts8 := E_ts8.wr W12
  have F_ts8_value := F_ts8_value.other W12 (Or.inl (Ne.symm ne_a_ts8))
  have F_ts8_coder := F_ts8_coder.other W12 (Or.inl (Ne.symm ne_a_ts8))
  have V_nb8 := V_nb8.other W12 (Ne.symm ne_a_nb8)
  have F_a_digits := F_a_digits.other W12 (Or.inr (slot_ne (Or.inr (own_W hw 181 rfl)) (Or.inr (own_W hw 187 rfl)) (by decide) (t := (.object "java/lang/String")) (t' := .int) (by decide) (by decide)))
  have Zs := Nat.le_trans Zs (Keep.of_wr W12).1
  have F_a_code := F_a_code.same W12
  have KP := KP.wr W12 (Or.inl (by simp))
  have NF := Fr.snoc X12 NF g_a
  refine own_go (T' := T12) (g' := (mkF m 91 #[rv a, rv sa, rv sc] [])) (fun _ k => st12 _ k) ?_
  refine own_ret X12 Bd.notSynchronized none (fun _ => rfl) (fun fs hr => X12.returnOut hx Bd.returns (hb hby own_dB35_91) hr) ?_ (by decide) (by decide)
  show (own_Q40_3 Z a sa sc cs fo va kv x0 x1 x2 vc kw x3 x4 x5 h0 n0) none T12.heap _
  rw [e12]
  exact ⟨rfl, NF, KP, E_a, F_a_code⟩
theorem own_dB36_0 : decode prog_21_method_11_code 0 = .ok (.aload_n 1, 1) := by decide +kernel
theorem own_dB36_1 : decode prog_21_method_11_code 1 = .ok (.instanceof 8, 3) := by decide +kernel
theorem own_dB36_4 : decode prog_21_method_11_code 4 = .ok (.ifCond .eq 21, 3) := by decide +kernel
theorem own_dB36_25 : decode prog_21_method_11_code 25 = .ok (.iconst 0, 1) := by decide +kernel
theorem own_dB36_26 : decode prog_21_method_11_code 26 = .ok (.ireturn, 1) := by decide +kernel
theorem own_pn41 : plainName "com/example/carrier_name_resolver/carriernameresolver/card/Plmn" = true := by first | (simp [plainName, overriddenIn]; done) | decide +kernel
theorem own_ef41 (m : MethodId) (a : Addr) : entryFrame m #[(.ref a), .null] 2 = mkF m 0 #[.val (.ref a), .val .null] [] := by first | (simp [entryFrame, mkF, argsToLocals, Value.category]; done) | rfl
def own_Q41 (Z : State) (a : Addr) (h0 : Heap) (n0 : Nat) (v : Option Value) (h : Heap) (L : List Loc) : Prop := v = some (.int 0) ∧ Fr n0 L ∧ h = h0
set_option maxRecDepth 65536 in
set_option maxHeartbeats 40000000 in
theorem own_rm41 (l : Launch) (Z : State) (a0 : Array Value) (hw : ∀ d ∈ tables_1, d.before a0 Z = true) (ws : List Jvm.Cond) (a : Addr) (h0 : Heap) (n0 : Nat) (Zs : n0 ≤ h0.size)  :
    MetFree l own_y36 (head1 (Jvm.Cond.code own_y36 prog_21_method_11_code 2 (some .boolean) :: ws) ({ frames := 0, cells := 0, slots := 0, locals := 0 } : Room)) (fun aA_ U => aA_ = #[(.ref a), .null] ∧ Z.Warmed39 U.vm ∧ U.heap = h0) (fun _ _ _ _ _ => True) (fun _ U o U' => ∃ v L, o = .returned v ∧ own_Q41 Z a h0 n0 v U'.heap L ∧ FrameEnd U o U' L ({ frames := 0, cells := 0, slots := 0, locals := 0 } : Room).cells ({ frames := 0, cells := 0, slots := 0, locals := 0 } : Room).slots) := by
  refine MetFree.of_bodySF (plainFor_of_name own_pn41) hisR ?_
  intro p e s m args below meth c s₁ Bd hml0 hP hK
  obtain ⟨rfl, hZ, hh⟩ := hP
  have hx := Bd.exec
  have hby := Bd.bytes
  have hml : c.maxLocals = 2 := hml0
  have hown : s.vm.findClass "com/example/carrier_name_resolver/carriernameresolver/card/Plmn" = some m.cls := findClass_of_methodNamed Bd.named
  have hnm := (name_of_methodNamed Bd.named Bd.method).1
  have X0 : Stand p l e ({ frames := 0, cells := 0, slots := 0, locals := 0 } : Room) s m #[(.ref a), .null] below meth c s₁ [] 0 0 := Stand.of_body Bd
  have e0 : s₁.heap = h0 := by rw [← hh, Bd.state]; rfl
  have NF := Fr.nil n0
  rw [own_ef41 m a]
  show own_Dn p e below s (own_Q41 Z a h0 n0) 0 0 s₁ (mkF m 0 #[.val (.ref a), .val .null] [])
  refine own_p (g' := (mkF m 1 #[rv a, Slot.val .null] [.null])) (fun _ k => XS.aloadN X0.here hx rfl (hb hby own_dB36_0) rfl rfl k) ?_
  refine own_go (T' := s₁) (g' := (mkF m 4 #[rv a, Slot.val .null] [(.int 0)])) (fun _ k => X0.instanceofNull hx (g := (mkF m 1 #[rv a, Slot.val .null] [.null])) rfl rfl (hb hby own_dB36_1) _ k) ?_
  refine own_p (g' := (mkF m 26 #[rv a, Slot.val .null] [(.int 0)])) (fun _ k => XS.ifYes X0.here hx rfl (pc0 := 4) (pc' := 25) rfl (hb hby own_dB36_4) rfl (by decide) (by decide) (by decide) (XS.iconst X0.here hx rfl (hb hby own_dB36_25) k)) ?_
  refine own_ret X0 Bd.notSynchronized (some (.int 0)) (fun h => by rw [Bd.returns] at h; cases h) (fun fs hr => retN X0 hx (t := .boolean) Bd.returns (by simp) (hb hby own_dB36_26) hr) ?_ (by decide) (by decide)
  show (own_Q41 Z a h0 n0) (some (.int 0)) s₁.heap _
  rw [e0]
  exact ⟨rfl, NF, rfl⟩
theorem own_pn42 : plainName "com/example/carrier_name_resolver/carriernameresolver/card/Plmn" = true := by first | (simp [plainName, overriddenIn]; done) | decide +kernel
theorem own_ef42 (m : MethodId) (a : Addr) (b : Addr) : entryFrame m #[(.ref a), (.ref b)] 2 = mkF m 0 #[.val (.ref a), .val (.ref b)] [] := by first | (simp [entryFrame, mkF, argsToLocals, Value.category]; done) | rfl
def own_Q42 (Z : State) (a : Addr) (b : Addr) (h0 : Heap) (n0 : Nat) (v : Option Value) (h : Heap) (L : List Loc) : Prop := v = some (.int 0) ∧ Fr n0 L ∧ h = h0
set_option maxRecDepth 65536 in
set_option maxHeartbeats 40000000 in
theorem own_rm42 (l : Launch) (Z : State) (a0 : Array Value) (hw : ∀ d ∈ tables_1, d.before a0 Z = true) (ws : List Jvm.Cond) (a : Addr) (b : Addr) (h0 : Heap) (n0 : Nat) (Zs : n0 ≤ h0.size) (E_b : Exa Z h0 b "java/lang/String") :
    MetFree l own_y36 (head1 (Jvm.Cond.code own_y36 prog_21_method_11_code 2 (some .boolean) :: ws) ({ frames := 0, cells := 0, slots := 0, locals := 0 } : Room)) (fun aA_ U => aA_ = #[(.ref a), (.ref b)] ∧ Z.Warmed39 U.vm ∧ U.heap = h0) (fun _ _ _ _ _ => True) (fun _ U o U' => ∃ v L, o = .returned v ∧ own_Q42 Z a b h0 n0 v U'.heap L ∧ FrameEnd U o U' L ({ frames := 0, cells := 0, slots := 0, locals := 0 } : Room).cells ({ frames := 0, cells := 0, slots := 0, locals := 0 } : Room).slots) := by
  refine MetFree.of_bodySF (plainFor_of_name own_pn42) hisR ?_
  intro p e s m args below meth c s₁ Bd hml0 hP hK
  obtain ⟨rfl, hZ, hh⟩ := hP
  have hx := Bd.exec
  have hby := Bd.bytes
  have hml : c.maxLocals = 2 := hml0
  have hown : s.vm.findClass "com/example/carrier_name_resolver/carriernameresolver/card/Plmn" = some m.cls := findClass_of_methodNamed Bd.named
  have hnm := (name_of_methodNamed Bd.named Bd.method).1
  have X0 : Stand p l e ({ frames := 0, cells := 0, slots := 0, locals := 0 } : Room) s m #[(.ref a), (.ref b)] below meth c s₁ [] 0 0 := Stand.of_body Bd
  have e0 : s₁.heap = h0 := by rw [← hh, Bd.state]; rfl
  have NF := Fr.nil n0
  rw [own_ef42 m a b]
  show own_Dn p e below s (own_Q42 Z a b h0 n0) 0 0 s₁ (mkF m 0 #[.val (.ref a), .val (.ref b)] [])
  refine own_p (g' := (mkF m 1 #[rv a, rv b] [(.ref b)])) (fun _ k => XS.aloadN X0.here hx rfl (hb hby own_dB36_0) rfl rfl k) ?_
  obtain ⟨T1, X1, e1, st1⟩ := instNo X0 hx hZ hown (own_W hw 193 rfl) e0 E_b (own_notPL Z a0 hw) (g := (mkF m 1 #[rv a, rv b] [(.ref b)])) rfl rfl (hb hby own_dB36_1)
  refine own_go (T' := T1) (g' := (mkF m 4 #[rv a, rv b] [(.int 0)])) (fun _ k => st1 _ k) ?_
  refine own_p (g' := (mkF m 26 #[rv a, rv b] [(.int 0)])) (fun _ k => XS.ifYes X1.here hx rfl (pc0 := 4) (pc' := 25) rfl (hb hby own_dB36_4) rfl (by decide) (by decide) (by decide) (XS.iconst X1.here hx rfl (hb hby own_dB36_25) k)) ?_
  refine own_ret X1 Bd.notSynchronized (some (.int 0)) (fun h => by rw [Bd.returns] at h; cases h) (fun fs hr => retN X1 hx (t := .boolean) Bd.returns (by simp) (hb hby own_dB36_26) hr) ?_ (by decide) (by decide)
  show (own_Q42 Z a b h0 n0) (some (.int 0)) T1.heap _
  rw [e1]
  exact ⟨rfl, NF, rfl⟩
theorem own_dB36_7 : decode prog_21_method_11_code 7 = .ok (.aload_n 0, 1) := by decide +kernel
theorem own_dB36_8 : decode prog_21_method_11_code 8 = .ok (.getfield 41, 3) := by decide +kernel
theorem own_dB36_11 : decode prog_21_method_11_code 11 = .ok (.aload_n 1, 1) := by decide +kernel
theorem own_dB36_12 : decode prog_21_method_11_code 12 = .ok (.checkcast 8, 3) := by decide +kernel
theorem own_dB36_15 : decode prog_21_method_11_code 15 = .ok (.getfield 41, 3) := by decide +kernel
theorem own_dB36_18 : decode prog_21_method_11_code 18 = .ok (.if_icmp .ne 7, 3) := by decide +kernel
theorem own_dB36_21 : decode prog_21_method_11_code 21 = .ok (.iconst 1, 1) := by decide +kernel
theorem own_dB36_22 : decode prog_21_method_11_code 22 = .ok (.goto 4, 3) := by decide +kernel
theorem own_pn43 : plainName "com/example/carrier_name_resolver/carriernameresolver/card/Plmn" = true := by first | (simp [plainName, overriddenIn]; done) | decide +kernel
theorem own_ef43 (m : MethodId) (a : Addr) : entryFrame m #[(.ref a), (.ref a)] 2 = mkF m 0 #[.val (.ref a), .val (.ref a)] [] := by first | (simp [entryFrame, mkF, argsToLocals, Value.category]; done) | rfl
def own_Q43 (Z : State) (a : Addr) (u : Int32) (h0 : Heap) (n0 : Nat) (v : Option Value) (h : Heap) (L : List Loc) : Prop := v = some (.int 1) ∧ Fr n0 L ∧ h = h0
set_option maxRecDepth 65536 in
set_option maxHeartbeats 40000000 in
theorem own_rm43 (l : Launch) (Z : State) (a0 : Array Value) (hw : ∀ d ∈ tables_1, d.before a0 Z = true) (ws : List Jvm.Cond) (a : Addr) (u : Int32) (h0 : Heap) (n0 : Nat) (Zs : n0 ≤ h0.size) (E_a : Exa Z h0 a "com/example/carrier_name_resolver/carriernameresolver/card/Plmn") (F_a_code : Fld Z h0 a "com/example/carrier_name_resolver/carriernameresolver/card/Plmn" "code" "I" (.int u)) :
    MetFree l own_y36 (head1 (Jvm.Cond.code own_y36 prog_21_method_11_code 2 (some .boolean) :: ws) ({ frames := 0, cells := 0, slots := 0, locals := 0 } : Room)) (fun aA_ U => aA_ = #[(.ref a), (.ref a)] ∧ Z.Warmed39 U.vm ∧ U.heap = h0) (fun _ _ _ _ _ => True) (fun _ U o U' => ∃ v L, o = .returned v ∧ own_Q43 Z a u h0 n0 v U'.heap L ∧ FrameEnd U o U' L ({ frames := 0, cells := 0, slots := 0, locals := 0 } : Room).cells ({ frames := 0, cells := 0, slots := 0, locals := 0 } : Room).slots) := by
  refine MetFree.of_bodySF (plainFor_of_name own_pn43) hisR ?_
  intro p e s m args below meth c s₁ Bd hml0 hP hK
  obtain ⟨rfl, hZ, hh⟩ := hP
  have hx := Bd.exec
  have hby := Bd.bytes
  have hml : c.maxLocals = 2 := hml0
  have hown : s.vm.findClass "com/example/carrier_name_resolver/carriernameresolver/card/Plmn" = some m.cls := findClass_of_methodNamed Bd.named
  have hnm := (name_of_methodNamed Bd.named Bd.method).1
  have X0 : Stand p l e ({ frames := 0, cells := 0, slots := 0, locals := 0 } : Room) s m #[(.ref a), (.ref a)] below meth c s₁ [] 0 0 := Stand.of_body Bd
  have e0 : s₁.heap = h0 := by rw [← hh, Bd.state]; rfl
  have NF := Fr.nil n0
  rw [own_ef43 m a]
  show own_Dn p e below s (own_Q43 Z a u h0 n0) 0 0 s₁ (mkF m 0 #[.val (.ref a), .val (.ref a)] [])
  refine own_p (g' := (mkF m 1 #[rv a, rv a] [(.ref a)])) (fun _ k => XS.aloadN X0.here hx rfl (hb hby own_dB36_0) rfl rfl k) ?_
  obtain ⟨T1, X1, e1, st1⟩ := instY X0 hx hZ hown (own_W hw 193 rfl) e0 (Ins.self E_a) (g := (mkF m 1 #[rv a, rv a] [(.ref a)])) rfl rfl (hb hby own_dB36_1)
  refine own_go (T' := T1) (g' := (mkF m 4 #[rv a, rv a] [(.int 1)])) (fun _ k => st1 _ k) ?_
  refine own_p (g' := (mkF m 8 #[rv a, rv a] [(.ref a)])) (fun _ k => XS.ifNo X1.here hx rfl (hb hby own_dB36_4) rfl (by decide) (XS.aloadN X1.here hx rfl (hb hby own_dB36_7) rfl rfl k)) ?_
  obtain ⟨T2, X2, e2, st2⟩ := getF X1 hx hZ hown (host := "") (Or.inl (own_W hw 186 rfl)) Via.refl e1 F_a_code (g := (mkF m 8 #[rv a, rv a] [(.ref a)])) rfl rfl (hb hby own_dB36_8)
  refine own_go (T' := T2) (g' := (mkF m 11 #[rv a, rv a] [(.int u)])) (fun _ k => st2 _ k) ?_
  refine own_p (g' := (mkF m 12 #[rv a, rv a] [(.ref a), (.int u)])) (fun _ k => XS.aloadN X2.here hx rfl (hb hby own_dB36_11) rfl rfl k) ?_
  obtain ⟨T3, X3, e3, st3⟩ := castY X2 hx hZ hown (own_W hw 193 rfl) e2 (Ins.self E_a) (g := (mkF m 12 #[rv a, rv a] [(.ref a), (.int u)])) rfl rfl (hb hby own_dB36_12)
  refine own_go (T' := T3) (g' := (mkF m 15 #[rv a, rv a] [(.ref a), (.int u)])) (fun _ k => st3 _ k) ?_
  obtain ⟨T4, X4, e4, st4⟩ := getF X3 hx hZ hown (host := "") (Or.inl (own_W hw 186 rfl)) Via.refl e3 F_a_code (g := (mkF m 15 #[rv a, rv a] [(.ref a), (.int u)])) rfl rfl (hb hby own_dB36_15)
  refine own_go (T' := T4) (g' := (mkF m 18 #[rv a, rv a] [(.int u), (.int u)])) (fun _ k => st4 _ k) ?_
  refine own_p (g' := (mkF m 26 #[rv a, rv a] [(.int 1)])) (fun _ k => XS.icmpNo X4.here hx rfl (hb hby own_dB36_18) rfl (teq (rfl : u = u)).2 (XS.iconst X4.here hx rfl (hb hby own_dB36_21) (XS.goto X4.here hx rfl (pc0 := 22) (pc' := 26) rfl (hb hby own_dB36_22) (by decide) (by decide) k))) ?_
  refine own_ret X4 Bd.notSynchronized (some (.int 1)) (fun h => by rw [Bd.returns] at h; cases h) (fun fs hr => retN X4 hx (t := .boolean) Bd.returns (by simp) (hb hby own_dB36_26) hr) ?_ (by decide) (by decide)
  show (own_Q43 Z a u h0 n0) (some (.int 1)) T4.heap _
  rw [e4]
  exact ⟨rfl, NF, rfl⟩
theorem own_pn44 : plainName "com/example/carrier_name_resolver/carriernameresolver/card/Plmn" = true := by first | (simp [plainName, overriddenIn]; done) | decide +kernel
theorem own_ef44 (m : MethodId) (a : Addr) (b : Addr) : entryFrame m #[(.ref a), (.ref b)] 2 = mkF m 0 #[.val (.ref a), .val (.ref b)] [] := by first | (simp [entryFrame, mkF, argsToLocals, Value.category]; done) | rfl
def own_Q44 (Z : State) (a : Addr) (b : Addr) (u : Int32) (ub : Int32) (h0 : Heap) (n0 : Nat) (v : Option Value) (h : Heap) (L : List Loc) : Prop := ∃ r : Int32, v = some (.int r) ∧ Fr n0 L ∧ h = h0 ∧ ((r = (1 : Int32) ∧ u = ub) ∨ (r = (0 : Int32) ∧ ¬ (u = ub)))
set_option maxRecDepth 65536 in
set_option maxHeartbeats 40000000 in
theorem own_rm44 (l : Launch) (Z : State) (a0 : Array Value) (hw : ∀ d ∈ tables_1, d.before a0 Z = true) (ws : List Jvm.Cond) (a : Addr) (b : Addr) (u : Int32) (ub : Int32) (h0 : Heap) (n0 : Nat) (Zs : n0 ≤ h0.size) (E_b : Exa Z h0 b "com/example/carrier_name_resolver/carriernameresolver/card/Plmn") (F_a_code : Fld Z h0 a "com/example/carrier_name_resolver/carriernameresolver/card/Plmn" "code" "I" (.int u)) (F_b_code : Fld Z h0 b "com/example/carrier_name_resolver/carriernameresolver/card/Plmn" "code" "I" (.int ub)) :
    MetFree l own_y36 (head1 (Jvm.Cond.code own_y36 prog_21_method_11_code 2 (some .boolean) :: ws) ({ frames := 0, cells := 0, slots := 0, locals := 0 } : Room)) (fun aA_ U => aA_ = #[(.ref a), (.ref b)] ∧ Z.Warmed39 U.vm ∧ U.heap = h0) (fun _ _ _ _ _ => True) (fun _ U o U' => ∃ v L, o = .returned v ∧ own_Q44 Z a b u ub h0 n0 v U'.heap L ∧ FrameEnd U o U' L ({ frames := 0, cells := 0, slots := 0, locals := 0 } : Room).cells ({ frames := 0, cells := 0, slots := 0, locals := 0 } : Room).slots) := by
  refine MetFree.of_bodySF (plainFor_of_name own_pn44) hisR ?_
  intro p e s m args below meth c s₁ Bd hml0 hP hK
  obtain ⟨rfl, hZ, hh⟩ := hP
  have hx := Bd.exec
  have hby := Bd.bytes
  have hml : c.maxLocals = 2 := hml0
  have hown : s.vm.findClass "com/example/carrier_name_resolver/carriernameresolver/card/Plmn" = some m.cls := findClass_of_methodNamed Bd.named
  have hnm := (name_of_methodNamed Bd.named Bd.method).1
  have X0 : Stand p l e ({ frames := 0, cells := 0, slots := 0, locals := 0 } : Room) s m #[(.ref a), (.ref b)] below meth c s₁ [] 0 0 := Stand.of_body Bd
  have e0 : s₁.heap = h0 := by rw [← hh, Bd.state]; rfl
  have NF := Fr.nil n0
  rw [own_ef44 m a b]
  show own_Dn p e below s (own_Q44 Z a b u ub h0 n0) 0 0 s₁ (mkF m 0 #[.val (.ref a), .val (.ref b)] [])
  refine own_p (g' := (mkF m 1 #[rv a, rv b] [(.ref b)])) (fun _ k => XS.aloadN X0.here hx rfl (hb hby own_dB36_0) rfl rfl k) ?_
  obtain ⟨T1, X1, e1, st1⟩ := instY X0 hx hZ hown (own_W hw 193 rfl) e0 (Ins.self E_b) (g := (mkF m 1 #[rv a, rv b] [(.ref b)])) rfl rfl (hb hby own_dB36_1)
  refine own_go (T' := T1) (g' := (mkF m 4 #[rv a, rv b] [(.int 1)])) (fun _ k => st1 _ k) ?_
  refine own_p (g' := (mkF m 8 #[rv a, rv b] [(.ref a)])) (fun _ k => XS.ifNo X1.here hx rfl (hb hby own_dB36_4) rfl (by decide) (XS.aloadN X1.here hx rfl (hb hby own_dB36_7) rfl rfl k)) ?_
  obtain ⟨T2, X2, e2, st2⟩ := getF X1 hx hZ hown (host := "") (Or.inl (own_W hw 186 rfl)) Via.refl e1 F_a_code (g := (mkF m 8 #[rv a, rv b] [(.ref a)])) rfl rfl (hb hby own_dB36_8)
  refine own_go (T' := T2) (g' := (mkF m 11 #[rv a, rv b] [(.int u)])) (fun _ k => st2 _ k) ?_
  refine own_p (g' := (mkF m 12 #[rv a, rv b] [(.ref b), (.int u)])) (fun _ k => XS.aloadN X2.here hx rfl (hb hby own_dB36_11) rfl rfl k) ?_
  obtain ⟨T3, X3, e3, st3⟩ := castY X2 hx hZ hown (own_W hw 193 rfl) e2 (Ins.self E_b) (g := (mkF m 12 #[rv a, rv b] [(.ref b), (.int u)])) rfl rfl (hb hby own_dB36_12)
  refine own_go (T' := T3) (g' := (mkF m 15 #[rv a, rv b] [(.ref b), (.int u)])) (fun _ k => st3 _ k) ?_
  obtain ⟨T4, X4, e4, st4⟩ := getF X3 hx hZ hown (host := "") (Or.inl (own_W hw 186 rfl)) Via.refl e3 F_b_code (g := (mkF m 15 #[rv a, rv b] [(.ref b), (.int u)])) rfl rfl (hb hby own_dB36_15)
  refine own_go (T' := T4) (g' := (mkF m 18 #[rv a, rv b] [(.int ub), (.int u)])) (fun _ k => st4 _ k) ?_
  by_cases c5 : u = ub
  · refine own_p (g' := (mkF m 26 #[rv a, rv b] [(.int 1)])) (fun _ k => XS.icmpNo X4.here hx rfl (hb hby own_dB36_18) rfl (teq c5).2 (XS.iconst X4.here hx rfl (hb hby own_dB36_21) (XS.goto X4.here hx rfl (pc0 := 22) (pc' := 26) rfl (hb hby own_dB36_22) (by decide) (by decide) k))) ?_
    refine own_ret X4 Bd.notSynchronized (some (.int 1)) (fun h => by rw [Bd.returns] at h; cases h) (fun fs hr => retN X4 hx (t := .boolean) Bd.returns (by simp) (hb hby own_dB36_26) hr) ?_ (by decide) (by decide)
    show (own_Q44 Z a b u ub h0 n0) (some (.int 1)) T4.heap _
    rw [e4]
    exact ⟨_, rfl, NF, rfl, Or.inl ⟨rfl, c5⟩⟩
  · refine own_p (g' := (mkF m 26 #[rv a, rv b] [(.int 0)])) (fun _ k => XS.icmpYes X4.here hx rfl (pc0 := 18) (pc' := 25) rfl (hb hby own_dB36_18) rfl (feq c5).2 (by decide) (by decide) (XS.iconst X4.here hx rfl (hb hby own_dB36_25) k)) ?_
    refine own_ret X4 Bd.notSynchronized (some (.int 0)) (fun h => by rw [Bd.returns] at h; cases h) (fun fs hr => retN X4 hx (t := .boolean) Bd.returns (by simp) (hb hby own_dB36_26) hr) ?_ (by decide) (by decide)
    show (own_Q44 Z a b u ub h0 n0) (some (.int 0)) T4.heap _
    rw [e4]
    exact ⟨_, rfl, NF, rfl, Or.inr ⟨rfl, c5⟩⟩
theorem own_pn0 : plainName "com/example/carrier_name_resolver/carriernameresolver/card/PlmnEqualsPinLaw" = true := by first | (simp [plainName, overriddenIn]; done) | decide +kernel
theorem own_pd0_0 : parseMethodDescriptor "(II)C" = some ⟨[.int, .int], some .char⟩ := by decide +kernel
theorem own_pd0_1 : parseMethodDescriptor "(IICI)C" = some ⟨[.int, .int, .char, .int], some .char⟩ := by decide +kernel
theorem own_pd0_2 : parseMethodDescriptor "(Ljava/lang/Object;)Z" = some ⟨[(.object "java/lang/Object")], some .boolean⟩ := by decide +kernel
theorem own_pd0_3 : parseMethodDescriptor "([C)V" = some ⟨[(.array .char)], none⟩ := by decide +kernel
theorem own_pd0_4 : parseMethodDescriptor "(Ljava/lang/String;Ljava/lang/String;)V" = some ⟨[(.object "java/lang/String"), (.object "java/lang/String")], none⟩ := by decide +kernel
theorem own_ef0 (m : MethodId) (i0 : Int32) (i1 : Int32) (i2 : Int32) (i3 : Int32) : entryFrame m #[(.int i0), (.int i1), (.int i2), (.int i3)] maxLocals = mkF m 0 #[.val (.int i0), .val (.int i1), .val (.int i2), .val (.int i3), .unset, .unset, .unset, .unset, .unset, .unset, .unset, .unset, .unset, .unset, .unset, .unset, .unset, .unset, .unset, .unset, .unset, .unset, .unset, .unset, .unset, .unset, .unset, .unset, .unset, .unset, .unset] [] := by first | (simp [entryFrame, mkF, argsToLocals, Value.category, maxLocals]; done) | rfl
def own_Q0 (Z : State) (i0 : Int32) (i1 : Int32) (i2 : Int32) (i3 : Int32) (cs : Int32) (fo : Value) (h0 : Heap) (n0 : Nat) (v : Option Value) (h : Heap) (L : List Loc) : Prop := v = some (.int 1) ∧ Fr n0 L
set_option maxRecDepth 65536 in
set_option maxHeartbeats 40000000 in
theorem own_rm0 (l : Launch) (Z : State) (a0 : Array Value) (hw : ∀ d ∈ tables_1, d.before a0 Z = true) (ws : List Jvm.Cond) (i0 : Int32) (i1 : Int32) (i2 : Int32) (i3 : Int32) (cs : Int32) (fo : Value) (h0 : Heap) (n0 : Nat) (Zs : n0 ≤ h0.size) (OL : Old Z n0 h0) (S_cs : Sta Z Z.heap "java/lang/String" "COMPACT_STRINGS" "Z" (.int cs)) (hcs : ¬ (cs = (0 : Int32))) (S_fo : Sta Z Z.heap "jdk/internal/util/Preconditions" "SIOOBE_FORMATTER" "Ljava/util/function/BiFunction;" fo) (hfo : fo.isRef = true) :
    MetFree l x (head1 (Jvm.Cond.code x code maxLocals ret :: ws) room_1) (fun aA_ U => aA_ = #[(.int i0), (.int i1), (.int i2), (.int i3)] ∧ Z.Warmed39 U.vm ∧ U.heap = h0) (fun _ _ _ _ _ => True) (fun _ U o U' => ∃ v L, o = .returned v ∧ own_Q0 Z i0 i1 i2 i3 cs fo h0 n0 v U'.heap L ∧ FrameEnd U o U' L room_1.cells room_1.slots) := by
  refine MetFree.of_bodySF (plainFor_of_name own_pn0) hisR ?_
  intro p e s m args below meth c s₁ Bd hml0 hP hK
  obtain ⟨rfl, hZ, hh⟩ := hP
  have hx := Bd.exec
  have hby := Bd.bytes
  have hml : c.maxLocals = 31 := hml0
  have hown : s.vm.findClass "com/example/carrier_name_resolver/carriernameresolver/card/PlmnEqualsPinLaw" = some m.cls := findClass_of_methodNamed Bd.named
  have hnm := (name_of_methodNamed Bd.named Bd.method).1
  replace X0 : Stand p l e room_1 s m #[(.int i0), (.int i1), (.int i2), (.int i3)] below meth c s₁ [] 0 0 := Stand.of_body Bd
  replace e0 : s₁.heap = h0 := by rw [← hh, Bd.state]; rfl
  replace NF := Fr.nil n0
  rw [own_ef0 m i0 i1 i2 i3]
  show own_Dn p e below s (own_Q0 Z i0 i1 i2 i3 cs fo h0 n0) room_1.cells room_1.slots s₁ (mkF m 0 #[.val (.int i0), .val (.int i1), .val (.int i2), .val (.int i3), .unset, .unset, .unset, .unset, .unset, .unset, .unset, .unset, .unset, .unset, .unset, .unset, .unset, .unset, .unset, .unset, .unset, .unset, .unset, .unset, .unset, .unset, .unset, .unset, .unset, .unset, .unset] [])
  have J3 : ∀ (z1 : Int32), (z1.toInt = 0 ∨ z1.toInt = 1) → own_Dn p e below s (own_Q0 Z i0 i1 i2 i3 cs fo h0 n0) room_1.cells room_1.slots s₁ (mkF m 11 #[iv i0, iv i1, iv i2, iv i3, oU, oU, oU, oU, oU, oU, oU, oU, oU, oU, oU, oU, oU, oU, oU, oU, oU, oU, oU, oU, oU, oU, oU, oU, oU, oU, oU] [(.int z1)]) := by
    intro z1 hz2
    refine own_p (g' := (mkF m 13 #[iv i0, iv i1, iv i2, iv i3, iv z1, oU, oU, oU, oU, oU, oU, oU, oU, oU, oU, oU, oU, oU, oU, oU, oU, oU, oU, oU, oU, oU, oU, oU, oU, oU, oU] [])) (fun _ k => XS.istore X0.here hx rfl (hb hby at_11) rfl (l' := #[iv i0, iv i1, iv i2, iv i3, iv z1, oU, oU, oU, oU, oU, oU, oU, oU, oU, oU, oU, oU, oU, oU, oU, oU, oU, oU, oU, oU, oU, oU, oU, oU, oU, oU]) rfl k) ?_
    have J6 : ∀ (z4 : Int32), (z4.toInt = 0 ∨ z4.toInt = 1) → own_Dn p e below s (own_Q0 Z i0 i1 i2 i3 cs fo h0 n0) room_1.cells room_1.slots s₁ (mkF m 24 #[iv i0, iv i1, iv i2, iv i3, iv z1, oU, oU, oU, oU, oU, oU, oU, oU, oU, oU, oU, oU, oU, oU, oU, oU, oU, oU, oU, oU, oU, oU, oU, oU, oU, oU] [(.int z4)]) := by
      intro z4 hz5
      refine own_p (g' := (mkF m 28 #[iv i0, iv i1, iv i2, iv i3, iv z1, iv z4, oU, oU, oU, oU, oU, oU, oU, oU, oU, oU, oU, oU, oU, oU, oU, oU, oU, oU, oU, oU, oU, oU, oU, oU, oU] [(.int 2), (.int i3)])) (fun _ k => XS.istore X0.here hx rfl (hb hby at_24) rfl (l' := #[iv i0, iv i1, iv i2, iv i3, iv z1, iv z4, oU, oU, oU, oU, oU, oU, oU, oU, oU, oU, oU, oU, oU, oU, oU, oU, oU, oU, oU, oU, oU, oU, oU, oU, oU]) rfl (XS.iloadN X0.here hx rfl (hb hby at_26) rfl (XS.iconst X0.here hx rfl (hb hby at_27) k))) ?_
      refine own_p (g' := (mkF m 31 #[iv i0, iv i1, iv i2, iv i3, iv z1, iv z4, oU, oU, oU, oU, oU, oU, oU, oU, oU, oU, oU, oU, oU, oU, oU, oU, oU, oU, oU, oU, oU, oU, oU, oU, oU] [(.int (((i3.toUInt32 >>> ((2 : Int32) &&& 31).toUInt32).toInt32) &&& (3 : Int32)))])) (fun _ k => XS.iushr X0.here hx rfl (hb hby at_28) rfl (XS.iconst X0.here hx rfl (hb hby at_29) (XS.iand X0.here hx rfl (hb hby at_30) rfl k))) ?_
      refine own_p (g' := (mkF m 33 #[iv i0, iv i1, iv i2, iv i3, iv z1, iv z4, iv (((i3.toUInt32 >>> ((2 : Int32) &&& 31).toUInt32).toInt32) &&& (3 : Int32)), oU, oU, oU, oU, oU, oU, oU, oU, oU, oU, oU, oU, oU, oU, oU, oU, oU, oU, oU, oU, oU, oU, oU, oU] [])) (fun _ k => XS.istore X0.here hx rfl (hb hby at_31) rfl (l' := #[iv i0, iv i1, iv i2, iv i3, iv z1, iv z4, iv (((i3.toUInt32 >>> ((2 : Int32) &&& 31).toUInt32).toInt32) &&& (3 : Int32)), oU, oU, oU, oU, oU, oU, oU, oU, oU, oU, oU, oU, oU, oU, oU, oU, oU, oU, oU, oU, oU, oU, oU, oU]) rfl k) ?_
      generalize (((i3.toUInt32 >>> ((2 : Int32) &&& 31).toUInt32).toInt32) &&& (3 : Int32)) = kd
      refine own_p (g' := (mkF m 35 #[iv i0, iv i1, iv i2, iv i3, iv z1, iv z4, iv kd, oU, oU, oU, oU, oU, oU, oU, oU, oU, oU, oU, oU, oU, oU, oU, oU, oU, oU, oU, oU, oU, oU, oU, oU] [(.int 0), (.int i0)])) (fun _ k => XS.iloadN X0.here hx rfl (hb hby at_33) rfl (XS.iconst X0.here hx rfl (hb hby at_34) k)) ?_
      obtain ⟨_, _, ⟨T7, L7, k7, n7⟩, -, X7, ⟨Lc7, hQ7, l7, y7, z7⟩, st7⟩ := Jvm.LawKit.callS X0 hx (y := own_y0) hown (mvT hZ (own_W hw 0 rfl)) (mvT hZ (own_W hw 1 rfl)) (mvT hZ (own_W hw 2 rfl)) (mvT hZ (own_W hw 3 rfl)) (by decide) (backOf (W := 0) (own_rm1 l Z a0 hw [] i0 (0 : Int32) h0 n0 Zs ) hZ (own_W hw 3 rfl) (own_W hw 2 rfl) (by decide) (by decide)) (g := (mkF m 35 #[iv i0, iv i1, iv i2, iv i3, iv z1, iv z4, iv kd, oU, oU, oU, oU, oU, oU, oU, oU, oU, oU, oU, oU, oU, oU, oU, oU, oU, oU, oU, oU, oU, oU, oU, oU] [(.int 0), (.int i0)])) rfl (by rw [hml]; rfl) (argsL := [(.int i0), (.int 0)]) (rest := []) (lenOf own_pd0_0 rfl) rfl (Nat.le_refl _) (hb hby at_35) (fun _ _ => ⟨rfl, e0, (by decide : 0 + 0 ≤ _), (by decide : 0 + 0 ≤ _)⟩)
      dsimp only [Pt.U, Pt.locs, Pt.cells, Pt.slots] at X7 l7 y7 z7 st7 hQ7
      subst l7 y7 z7
      clear X0 e0
      obtain ⟨dg7, rfl, NQ7, eq7, hd_dg7⟩ := hQ7
      replace NF := Fr.app NF NQ7
      clear NQ7
      obtain ⟨lc7, Y7, NG7⟩ := own_lo X7 NF
      clear X7
      replace NF := NG7
      clear NG7
      refine own_go (T' := T7) (g' := (mkF m 38 #[iv i0, iv i1, iv i2, iv i3, iv z1, iv z4, iv kd, oU, oU, oU, oU, oU, oU, oU, oU, oU, oU, oU, oU, oU, oU, oU, oU, oU, oU, oU, oU, oU, oU, oU, oU] [(.int dg7)])) (fun _ k => st7 _ k) ?_
      clear st7
      refine own_p (g' := (mkF m 42 #[iv i0, iv i1, iv i2, iv i3, iv z1, iv z4, iv kd, iv dg7, oU, oU, oU, oU, oU, oU, oU, oU, oU, oU, oU, oU, oU, oU, oU, oU, oU, oU, oU, oU, oU, oU, oU] [(.int 1), (.int i0)])) (fun _ k => XS.istore Y7.here hx rfl (hb hby at_38) rfl (l' := #[iv i0, iv i1, iv i2, iv i3, iv z1, iv z4, iv kd, iv dg7, oU, oU, oU, oU, oU, oU, oU, oU, oU, oU, oU, oU, oU, oU, oU, oU, oU, oU, oU, oU, oU, oU, oU]) rfl (XS.iloadN Y7.here hx rfl (hb hby at_40) rfl (XS.iconst Y7.here hx rfl (hb hby at_41) k))) ?_
      obtain ⟨_, _, ⟨T8, L8, k8, n8⟩, -, X8, ⟨Lc8, hQ8, l8, y8, z8⟩, st8⟩ := Jvm.LawKit.callS Y7 hx (y := own_y0) hown (mvT hZ (own_W hw 0 rfl)) (mvT hZ (own_W hw 1 rfl)) (mvT hZ (own_W hw 2 rfl)) (mvT hZ (own_W hw 3 rfl)) (by decide) (backOf (W := 0) (own_rm1 l Z a0 hw [] i0 (1 : Int32) h0 n0 Zs ) hZ (own_W hw 3 rfl) (own_W hw 2 rfl) (by decide) (by decide)) (g := (mkF m 42 #[iv i0, iv i1, iv i2, iv i3, iv z1, iv z4, iv kd, iv dg7, oU, oU, oU, oU, oU, oU, oU, oU, oU, oU, oU, oU, oU, oU, oU, oU, oU, oU, oU, oU, oU, oU, oU] [(.int 1), (.int i0)])) rfl (by rw [hml]; rfl) (argsL := [(.int i0), (.int 1)]) (rest := []) (lenOf own_pd0_0 rfl) rfl (Nat.le_refl _) (hb hby at_42) (fun _ _ => ⟨rfl, eq7, (by decide : 0 + 0 ≤ _), (by decide : 0 + 0 ≤ _)⟩)
      dsimp only [Pt.U, Pt.locs, Pt.cells, Pt.slots] at X8 l8 y8 z8 st8 hQ8
      subst l8 y8 z8
      clear Y7 eq7
      obtain ⟨dg8, rfl, NQ8, eq8, hd_dg8⟩ := hQ8
      replace NF := Fr.app NF NQ8
      clear NQ8
      obtain ⟨lc8, Y8, NG8⟩ := own_lo X8 NF
      clear X8
      replace NF := NG8
      clear NG8
      refine own_go (T' := T8) (g' := (mkF m 45 #[iv i0, iv i1, iv i2, iv i3, iv z1, iv z4, iv kd, iv dg7, oU, oU, oU, oU, oU, oU, oU, oU, oU, oU, oU, oU, oU, oU, oU, oU, oU, oU, oU, oU, oU, oU, oU] [(.int dg8)])) (fun _ k => st8 _ k) ?_
      clear st8
      refine own_p (g' := (mkF m 49 #[iv i0, iv i1, iv i2, iv i3, iv z1, iv z4, iv kd, iv dg7, iv dg8, oU, oU, oU, oU, oU, oU, oU, oU, oU, oU, oU, oU, oU, oU, oU, oU, oU, oU, oU, oU, oU, oU] [(.int 2), (.int i0)])) (fun _ k => XS.istore Y8.here hx rfl (hb hby at_45) rfl (l' := #[iv i0, iv i1, iv i2, iv i3, iv z1, iv z4, iv kd, iv dg7, iv dg8, oU, oU, oU, oU, oU, oU, oU, oU, oU, oU, oU, oU, oU, oU, oU, oU, oU, oU, oU, oU, oU, oU]) rfl (XS.iloadN Y8.here hx rfl (hb hby at_47) rfl (XS.iconst Y8.here hx rfl (hb hby at_48) k))) ?_
      obtain ⟨_, _, ⟨T9, L9, k9, n9⟩, -, X9, ⟨Lc9, hQ9, l9, y9, z9⟩, st9⟩ := Jvm.LawKit.callS Y8 hx (y := own_y0) hown (mvT hZ (own_W hw 0 rfl)) (mvT hZ (own_W hw 1 rfl)) (mvT hZ (own_W hw 2 rfl)) (mvT hZ (own_W hw 3 rfl)) (by decide) (backOf (W := 0) (own_rm1 l Z a0 hw [] i0 (2 : Int32) h0 n0 Zs ) hZ (own_W hw 3 rfl) (own_W hw 2 rfl) (by decide) (by decide)) (g := (mkF m 49 #[iv i0, iv i1, iv i2, iv i3, iv z1, iv z4, iv kd, iv dg7, iv dg8, oU, oU, oU, oU, oU, oU, oU, oU, oU, oU, oU, oU, oU, oU, oU, oU, oU, oU, oU, oU, oU, oU] [(.int 2), (.int i0)])) rfl (by rw [hml]; rfl) (argsL := [(.int i0), (.int 2)]) (rest := []) (lenOf own_pd0_0 rfl) rfl (Nat.le_refl _) (hb hby at_49) (fun _ _ => ⟨rfl, eq8, (by decide : 0 + 0 ≤ _), (by decide : 0 + 0 ≤ _)⟩)
      dsimp only [Pt.U, Pt.locs, Pt.cells, Pt.slots] at X9 l9 y9 z9 st9 hQ9
      subst l9 y9 z9
      clear Y8 eq8
      obtain ⟨dg9, rfl, NQ9, eq9, hd_dg9⟩ := hQ9
      replace NF := Fr.app NF NQ9
      clear NQ9
      obtain ⟨lc9, Y9, NG9⟩ := own_lo X9 NF
      clear X9
      replace NF := NG9
      clear NG9
      refine own_go (T' := T9) (g' := (mkF m 52 #[iv i0, iv i1, iv i2, iv i3, iv z1, iv z4, iv kd, iv dg7, iv dg8, oU, oU, oU, oU, oU, oU, oU, oU, oU, oU, oU, oU, oU, oU, oU, oU, oU, oU, oU, oU, oU, oU] [(.int dg9)])) (fun _ k => st9 _ k) ?_
      clear st9
      refine own_p (g' := (mkF m 56 #[iv i0, iv i1, iv i2, iv i3, iv z1, iv z4, iv kd, iv dg7, iv dg8, iv dg9, oU, oU, oU, oU, oU, oU, oU, oU, oU, oU, oU, oU, oU, oU, oU, oU, oU, oU, oU, oU, oU] [(.int 3), (.int i0)])) (fun _ k => XS.istore Y9.here hx rfl (hb hby at_52) rfl (l' := #[iv i0, iv i1, iv i2, iv i3, iv z1, iv z4, iv kd, iv dg7, iv dg8, iv dg9, oU, oU, oU, oU, oU, oU, oU, oU, oU, oU, oU, oU, oU, oU, oU, oU, oU, oU, oU, oU, oU]) rfl (XS.iloadN Y9.here hx rfl (hb hby at_54) rfl (XS.iconst Y9.here hx rfl (hb hby at_55) k))) ?_
      obtain ⟨_, _, ⟨T10, L10, k10, n10⟩, -, X10, ⟨Lc10, hQ10, l10, y10, z10⟩, st10⟩ := Jvm.LawKit.callS Y9 hx (y := own_y0) hown (mvT hZ (own_W hw 0 rfl)) (mvT hZ (own_W hw 1 rfl)) (mvT hZ (own_W hw 2 rfl)) (mvT hZ (own_W hw 3 rfl)) (by decide) (backOf (W := 0) (own_rm1 l Z a0 hw [] i0 (3 : Int32) h0 n0 Zs ) hZ (own_W hw 3 rfl) (own_W hw 2 rfl) (by decide) (by decide)) (g := (mkF m 56 #[iv i0, iv i1, iv i2, iv i3, iv z1, iv z4, iv kd, iv dg7, iv dg8, iv dg9, oU, oU, oU, oU, oU, oU, oU, oU, oU, oU, oU, oU, oU, oU, oU, oU, oU, oU, oU, oU, oU] [(.int 3), (.int i0)])) rfl (by rw [hml]; rfl) (argsL := [(.int i0), (.int 3)]) (rest := []) (lenOf own_pd0_0 rfl) rfl (Nat.le_refl _) (hb hby at_56) (fun _ _ => ⟨rfl, eq9, (by decide : 0 + 0 ≤ _), (by decide : 0 + 0 ≤ _)⟩)
      dsimp only [Pt.U, Pt.locs, Pt.cells, Pt.slots] at X10 l10 y10 z10 st10 hQ10
      subst l10 y10 z10
      clear Y9 eq9
      obtain ⟨dg10, rfl, NQ10, eq10, hd_dg10⟩ := hQ10
      replace NF := Fr.app NF NQ10
      clear NQ10
      obtain ⟨lc10, Y10, NG10⟩ := own_lo X10 NF
      clear X10
      replace NF := NG10
      clear NG10
      refine own_go (T' := T10) (g' := (mkF m 59 #[iv i0, iv i1, iv i2, iv i3, iv z1, iv z4, iv kd, iv dg7, iv dg8, iv dg9, oU, oU, oU, oU, oU, oU, oU, oU, oU, oU, oU, oU, oU, oU, oU, oU, oU, oU, oU, oU, oU] [(.int dg10)])) (fun _ k => st10 _ k) ?_
      clear st10
      refine own_p (g' := (mkF m 63 #[iv i0, iv i1, iv i2, iv i3, iv z1, iv z4, iv kd, iv dg7, iv dg8, iv dg9, iv dg10, oU, oU, oU, oU, oU, oU, oU, oU, oU, oU, oU, oU, oU, oU, oU, oU, oU, oU, oU, oU] [(.int 4), (.int i0)])) (fun _ k => XS.istore Y10.here hx rfl (hb hby at_59) rfl (l' := #[iv i0, iv i1, iv i2, iv i3, iv z1, iv z4, iv kd, iv dg7, iv dg8, iv dg9, iv dg10, oU, oU, oU, oU, oU, oU, oU, oU, oU, oU, oU, oU, oU, oU, oU, oU, oU, oU, oU, oU]) rfl (XS.iloadN Y10.here hx rfl (hb hby at_61) rfl (XS.iconst Y10.here hx rfl (hb hby at_62) k))) ?_
      obtain ⟨_, _, ⟨T11, L11, k11, n11⟩, -, X11, ⟨Lc11, hQ11, l11, y11, z11⟩, st11⟩ := Jvm.LawKit.callS Y10 hx (y := own_y0) hown (mvT hZ (own_W hw 0 rfl)) (mvT hZ (own_W hw 1 rfl)) (mvT hZ (own_W hw 2 rfl)) (mvT hZ (own_W hw 3 rfl)) (by decide) (backOf (W := 0) (own_rm1 l Z a0 hw [] i0 (4 : Int32) h0 n0 Zs ) hZ (own_W hw 3 rfl) (own_W hw 2 rfl) (by decide) (by decide)) (g := (mkF m 63 #[iv i0, iv i1, iv i2, iv i3, iv z1, iv z4, iv kd, iv dg7, iv dg8, iv dg9, iv dg10, oU, oU, oU, oU, oU, oU, oU, oU, oU, oU, oU, oU, oU, oU, oU, oU, oU, oU, oU, oU] [(.int 4), (.int i0)])) rfl (by rw [hml]; rfl) (argsL := [(.int i0), (.int 4)]) (rest := []) (lenOf own_pd0_0 rfl) rfl (Nat.le_refl _) (hb hby at_63) (fun _ _ => ⟨rfl, eq10, (by decide : 0 + 0 ≤ _), (by decide : 0 + 0 ≤ _)⟩)
      dsimp only [Pt.U, Pt.locs, Pt.cells, Pt.slots] at X11 l11 y11 z11 st11 hQ11
      subst l11 y11 z11
      clear Y10 eq10
      obtain ⟨dg11, rfl, NQ11, eq11, hd_dg11⟩ := hQ11
      replace NF := Fr.app NF NQ11
      clear NQ11
      obtain ⟨lc11, Y11, NG11⟩ := own_lo X11 NF
      clear X11
      replace NF := NG11
      clear NG11
      refine own_go (T' := T11) (g' := (mkF m 66 #[iv i0, iv i1, iv i2, iv i3, iv z1, iv z4, iv kd, iv dg7, iv dg8, iv dg9, iv dg10, oU, oU, oU, oU, oU, oU, oU, oU, oU, oU, oU, oU, oU, oU, oU, oU, oU, oU, oU, oU] [(.int dg11)])) (fun _ k => st11 _ k) ?_
      clear st11
      refine own_p (g' := (mkF m 70 #[iv i0, iv i1, iv i2, iv i3, iv z1, iv z4, iv kd, iv dg7, iv dg8, iv dg9, iv dg10, iv dg11, oU, oU, oU, oU, oU, oU, oU, oU, oU, oU, oU, oU, oU, oU, oU, oU, oU, oU, oU] [(.int 5), (.int i0)])) (fun _ k => XS.istore Y11.here hx rfl (hb hby at_66) rfl (l' := #[iv i0, iv i1, iv i2, iv i3, iv z1, iv z4, iv kd, iv dg7, iv dg8, iv dg9, iv dg10, iv dg11, oU, oU, oU, oU, oU, oU, oU, oU, oU, oU, oU, oU, oU, oU, oU, oU, oU, oU, oU]) rfl (XS.iloadN Y11.here hx rfl (hb hby at_68) rfl (XS.iconst Y11.here hx rfl (hb hby at_69) k))) ?_
      obtain ⟨_, _, ⟨T12, L12, k12, n12⟩, -, X12, ⟨Lc12, hQ12, l12, y12, z12⟩, st12⟩ := Jvm.LawKit.callS Y11 hx (y := own_y0) hown (mvT hZ (own_W hw 0 rfl)) (mvT hZ (own_W hw 1 rfl)) (mvT hZ (own_W hw 2 rfl)) (mvT hZ (own_W hw 3 rfl)) (by decide) (backOf (W := 0) (own_rm1 l Z a0 hw [] i0 (5 : Int32) h0 n0 Zs ) hZ (own_W hw 3 rfl) (own_W hw 2 rfl) (by decide) (by decide)) (g := (mkF m 70 #[iv i0, iv i1, iv i2, iv i3, iv z1, iv z4, iv kd, iv dg7, iv dg8, iv dg9, iv dg10, iv dg11, oU, oU, oU, oU, oU, oU, oU, oU, oU, oU, oU, oU, oU, oU, oU, oU, oU, oU, oU] [(.int 5), (.int i0)])) rfl (by rw [hml]; rfl) (argsL := [(.int i0), (.int 5)]) (rest := []) (lenOf own_pd0_0 rfl) rfl (Nat.le_refl _) (hb hby at_70) (fun _ _ => ⟨rfl, eq11, (by decide : 0 + 0 ≤ _), (by decide : 0 + 0 ≤ _)⟩)
      dsimp only [Pt.U, Pt.locs, Pt.cells, Pt.slots] at X12 l12 y12 z12 st12 hQ12
      subst l12 y12 z12
      clear Y11 eq11
      obtain ⟨dg12, rfl, NQ12, eq12, hd_dg12⟩ := hQ12
      replace NF := Fr.app NF NQ12
      clear NQ12
      obtain ⟨lc12, Y12, NG12⟩ := own_lo X12 NF
      clear X12
      replace NF := NG12
      clear NG12
      refine own_go (T' := T12) (g' := (mkF m 73 #[iv i0, iv i1, iv i2, iv i3, iv z1, iv z4, iv kd, iv dg7, iv dg8, iv dg9, iv dg10, iv dg11, oU, oU, oU, oU, oU, oU, oU, oU, oU, oU, oU, oU, oU, oU, oU, oU, oU, oU, oU] [(.int dg12)])) (fun _ k => st12 _ k) ?_
      clear st12
      refine own_p (g' := (mkF m 77 #[iv i0, iv i1, iv i2, iv i3, iv z1, iv z4, iv kd, iv dg7, iv dg8, iv dg9, iv dg10, iv dg11, iv dg12, oU, oU, oU, oU, oU, oU, oU, oU, oU, oU, oU, oU, oU, oU, oU, oU, oU, oU] [(.int 0), (.int i2)])) (fun _ k => XS.istore Y12.here hx rfl (hb hby at_73) rfl (l' := #[iv i0, iv i1, iv i2, iv i3, iv z1, iv z4, iv kd, iv dg7, iv dg8, iv dg9, iv dg10, iv dg11, iv dg12, oU, oU, oU, oU, oU, oU, oU, oU, oU, oU, oU, oU, oU, oU, oU, oU, oU, oU]) rfl (XS.iloadN Y12.here hx rfl (hb hby at_75) rfl (XS.iconst Y12.here hx rfl (hb hby at_76) k))) ?_
      refine own_p (g' := (mkF m 80 #[iv i0, iv i1, iv i2, iv i3, iv z1, iv z4, iv kd, iv dg7, iv dg8, iv dg9, iv dg10, iv dg11, iv dg12, oU, oU, oU, oU, oU, oU, oU, oU, oU, oU, oU, oU, oU, oU, oU, oU, oU, oU] [(.int i1), (.int dg7), (.int 0), (.int i2)])) (fun _ k => XS.iload Y12.here hx rfl (hb hby at_77) rfl (XS.iloadN Y12.here hx rfl (hb hby at_79) rfl k)) ?_
      obtain ⟨_, _, ⟨T13, L13, k13, n13⟩, -, X13, ⟨Lc13, hQ13, l13, y13, z13⟩, st13⟩ := Jvm.LawKit.callS Y12 hx (y := own_y1) hown (mvT hZ (own_W hw 4 rfl)) (mvT hZ (own_W hw 5 rfl)) (mvT hZ (own_W hw 2 rfl)) (mvT hZ (own_W hw 6 rfl)) (by decide) (backOf (W := 0) (own_rm2 l Z a0 hw [] i2 (0 : Int32) dg7 i1 h0 n0 Zs hd_dg7) hZ (own_W hw 6 rfl) (own_W hw 2 rfl) (by decide) (by decide)) (g := (mkF m 80 #[iv i0, iv i1, iv i2, iv i3, iv z1, iv z4, iv kd, iv dg7, iv dg8, iv dg9, iv dg10, iv dg11, iv dg12, oU, oU, oU, oU, oU, oU, oU, oU, oU, oU, oU, oU, oU, oU, oU, oU, oU, oU] [(.int i1), (.int dg7), (.int 0), (.int i2)])) rfl (by rw [hml]; rfl) (argsL := [(.int i2), (.int 0), (.int dg7), (.int i1)]) (rest := []) (lenOf own_pd0_1 rfl) rfl (Nat.le_refl _) (hb hby at_80) (fun _ _ => ⟨rfl, eq12, (by decide : 0 + 0 ≤ _), (by decide : 0 + 0 ≤ _)⟩)
      dsimp only [Pt.U, Pt.locs, Pt.cells, Pt.slots] at X13 l13 y13 z13 st13 hQ13
      subst l13 y13 z13
      clear Y12 eq12
      obtain ⟨dg13, rfl, NQ13, eq13, hd_dg13⟩ := hQ13
      replace NF := Fr.app NF NQ13
      clear NQ13
      obtain ⟨lc13, Y13, NG13⟩ := own_lo X13 NF
      clear X13
      replace NF := NG13
      clear NG13
      refine own_go (T' := T13) (g' := (mkF m 83 #[iv i0, iv i1, iv i2, iv i3, iv z1, iv z4, iv kd, iv dg7, iv dg8, iv dg9, iv dg10, iv dg11, iv dg12, oU, oU, oU, oU, oU, oU, oU, oU, oU, oU, oU, oU, oU, oU, oU, oU, oU, oU] [(.int dg13)])) (fun _ k => st13 _ k) ?_
      clear st13
      refine own_p (g' := (mkF m 87 #[iv i0, iv i1, iv i2, iv i3, iv z1, iv z4, iv kd, iv dg7, iv dg8, iv dg9, iv dg10, iv dg11, iv dg12, iv dg13, oU, oU, oU, oU, oU, oU, oU, oU, oU, oU, oU, oU, oU, oU, oU, oU, oU] [(.int 1), (.int i2)])) (fun _ k => XS.istore Y13.here hx rfl (hb hby at_83) rfl (l' := #[iv i0, iv i1, iv i2, iv i3, iv z1, iv z4, iv kd, iv dg7, iv dg8, iv dg9, iv dg10, iv dg11, iv dg12, iv dg13, oU, oU, oU, oU, oU, oU, oU, oU, oU, oU, oU, oU, oU, oU, oU, oU, oU]) rfl (XS.iloadN Y13.here hx rfl (hb hby at_85) rfl (XS.iconst Y13.here hx rfl (hb hby at_86) k))) ?_
      refine own_p (g' := (mkF m 90 #[iv i0, iv i1, iv i2, iv i3, iv z1, iv z4, iv kd, iv dg7, iv dg8, iv dg9, iv dg10, iv dg11, iv dg12, iv dg13, oU, oU, oU, oU, oU, oU, oU, oU, oU, oU, oU, oU, oU, oU, oU, oU, oU] [(.int i1), (.int dg8), (.int 1), (.int i2)])) (fun _ k => XS.iload Y13.here hx rfl (hb hby at_87) rfl (XS.iloadN Y13.here hx rfl (hb hby at_89) rfl k)) ?_
      obtain ⟨_, _, ⟨T14, L14, k14, n14⟩, -, X14, ⟨Lc14, hQ14, l14, y14, z14⟩, st14⟩ := Jvm.LawKit.callS Y13 hx (y := own_y1) hown (mvT hZ (own_W hw 4 rfl)) (mvT hZ (own_W hw 5 rfl)) (mvT hZ (own_W hw 2 rfl)) (mvT hZ (own_W hw 6 rfl)) (by decide) (backOf (W := 0) (own_rm2 l Z a0 hw [] i2 (1 : Int32) dg8 i1 h0 n0 Zs hd_dg8) hZ (own_W hw 6 rfl) (own_W hw 2 rfl) (by decide) (by decide)) (g := (mkF m 90 #[iv i0, iv i1, iv i2, iv i3, iv z1, iv z4, iv kd, iv dg7, iv dg8, iv dg9, iv dg10, iv dg11, iv dg12, iv dg13, oU, oU, oU, oU, oU, oU, oU, oU, oU, oU, oU, oU, oU, oU, oU, oU, oU] [(.int i1), (.int dg8), (.int 1), (.int i2)])) rfl (by rw [hml]; rfl) (argsL := [(.int i2), (.int 1), (.int dg8), (.int i1)]) (rest := []) (lenOf own_pd0_1 rfl) rfl (Nat.le_refl _) (hb hby at_90) (fun _ _ => ⟨rfl, eq13, (by decide : 0 + 0 ≤ _), (by decide : 0 + 0 ≤ _)⟩)
      dsimp only [Pt.U, Pt.locs, Pt.cells, Pt.slots] at X14 l14 y14 z14 st14 hQ14
      subst l14 y14 z14
      clear Y13 eq13
      obtain ⟨dg14, rfl, NQ14, eq14, hd_dg14⟩ := hQ14
      replace NF := Fr.app NF NQ14
      clear NQ14
      obtain ⟨lc14, Y14, NG14⟩ := own_lo X14 NF
      clear X14
      replace NF := NG14
      clear NG14
      refine own_go (T' := T14) (g' := (mkF m 93 #[iv i0, iv i1, iv i2, iv i3, iv z1, iv z4, iv kd, iv dg7, iv dg8, iv dg9, iv dg10, iv dg11, iv dg12, iv dg13, oU, oU, oU, oU, oU, oU, oU, oU, oU, oU, oU, oU, oU, oU, oU, oU, oU] [(.int dg14)])) (fun _ k => st14 _ k) ?_
      clear st14
      refine own_p (g' := (mkF m 97 #[iv i0, iv i1, iv i2, iv i3, iv z1, iv z4, iv kd, iv dg7, iv dg8, iv dg9, iv dg10, iv dg11, iv dg12, iv dg13, iv dg14, oU, oU, oU, oU, oU, oU, oU, oU, oU, oU, oU, oU, oU, oU, oU, oU] [(.int 2), (.int i2)])) (fun _ k => XS.istore Y14.here hx rfl (hb hby at_93) rfl (l' := #[iv i0, iv i1, iv i2, iv i3, iv z1, iv z4, iv kd, iv dg7, iv dg8, iv dg9, iv dg10, iv dg11, iv dg12, iv dg13, iv dg14, oU, oU, oU, oU, oU, oU, oU, oU, oU, oU, oU, oU, oU, oU, oU, oU]) rfl (XS.iloadN Y14.here hx rfl (hb hby at_95) rfl (XS.iconst Y14.here hx rfl (hb hby at_96) k))) ?_
      refine own_p (g' := (mkF m 100 #[iv i0, iv i1, iv i2, iv i3, iv z1, iv z4, iv kd, iv dg7, iv dg8, iv dg9, iv dg10, iv dg11, iv dg12, iv dg13, iv dg14, oU, oU, oU, oU, oU, oU, oU, oU, oU, oU, oU, oU, oU, oU, oU, oU] [(.int i1), (.int dg9), (.int 2), (.int i2)])) (fun _ k => XS.iload Y14.here hx rfl (hb hby at_97) rfl (XS.iloadN Y14.here hx rfl (hb hby at_99) rfl k)) ?_
      obtain ⟨_, _, ⟨T15, L15, k15, n15⟩, -, X15, ⟨Lc15, hQ15, l15, y15, z15⟩, st15⟩ := Jvm.LawKit.callS Y14 hx (y := own_y1) hown (mvT hZ (own_W hw 4 rfl)) (mvT hZ (own_W hw 5 rfl)) (mvT hZ (own_W hw 2 rfl)) (mvT hZ (own_W hw 6 rfl)) (by decide) (backOf (W := 0) (own_rm2 l Z a0 hw [] i2 (2 : Int32) dg9 i1 h0 n0 Zs hd_dg9) hZ (own_W hw 6 rfl) (own_W hw 2 rfl) (by decide) (by decide)) (g := (mkF m 100 #[iv i0, iv i1, iv i2, iv i3, iv z1, iv z4, iv kd, iv dg7, iv dg8, iv dg9, iv dg10, iv dg11, iv dg12, iv dg13, iv dg14, oU, oU, oU, oU, oU, oU, oU, oU, oU, oU, oU, oU, oU, oU, oU, oU] [(.int i1), (.int dg9), (.int 2), (.int i2)])) rfl (by rw [hml]; rfl) (argsL := [(.int i2), (.int 2), (.int dg9), (.int i1)]) (rest := []) (lenOf own_pd0_1 rfl) rfl (Nat.le_refl _) (hb hby at_100) (fun _ _ => ⟨rfl, eq14, (by decide : 0 + 0 ≤ _), (by decide : 0 + 0 ≤ _)⟩)
      dsimp only [Pt.U, Pt.locs, Pt.cells, Pt.slots] at X15 l15 y15 z15 st15 hQ15
      subst l15 y15 z15
      clear Y14 eq14
      obtain ⟨dg15, rfl, NQ15, eq15, hd_dg15⟩ := hQ15
      replace NF := Fr.app NF NQ15
      clear NQ15
      obtain ⟨lc15, Y15, NG15⟩ := own_lo X15 NF
      clear X15
      replace NF := NG15
      clear NG15
      refine own_go (T' := T15) (g' := (mkF m 103 #[iv i0, iv i1, iv i2, iv i3, iv z1, iv z4, iv kd, iv dg7, iv dg8, iv dg9, iv dg10, iv dg11, iv dg12, iv dg13, iv dg14, oU, oU, oU, oU, oU, oU, oU, oU, oU, oU, oU, oU, oU, oU, oU, oU] [(.int dg15)])) (fun _ k => st15 _ k) ?_
      clear st15
      refine own_p (g' := (mkF m 107 #[iv i0, iv i1, iv i2, iv i3, iv z1, iv z4, iv kd, iv dg7, iv dg8, iv dg9, iv dg10, iv dg11, iv dg12, iv dg13, iv dg14, iv dg15, oU, oU, oU, oU, oU, oU, oU, oU, oU, oU, oU, oU, oU, oU, oU] [(.int 3), (.int i2)])) (fun _ k => XS.istore Y15.here hx rfl (hb hby at_103) rfl (l' := #[iv i0, iv i1, iv i2, iv i3, iv z1, iv z4, iv kd, iv dg7, iv dg8, iv dg9, iv dg10, iv dg11, iv dg12, iv dg13, iv dg14, iv dg15, oU, oU, oU, oU, oU, oU, oU, oU, oU, oU, oU, oU, oU, oU, oU]) rfl (XS.iloadN Y15.here hx rfl (hb hby at_105) rfl (XS.iconst Y15.here hx rfl (hb hby at_106) k))) ?_
      refine own_p (g' := (mkF m 110 #[iv i0, iv i1, iv i2, iv i3, iv z1, iv z4, iv kd, iv dg7, iv dg8, iv dg9, iv dg10, iv dg11, iv dg12, iv dg13, iv dg14, iv dg15, oU, oU, oU, oU, oU, oU, oU, oU, oU, oU, oU, oU, oU, oU, oU] [(.int i1), (.int dg10), (.int 3), (.int i2)])) (fun _ k => XS.iload Y15.here hx rfl (hb hby at_107) rfl (XS.iloadN Y15.here hx rfl (hb hby at_109) rfl k)) ?_
      obtain ⟨_, _, ⟨T16, L16, k16, n16⟩, -, X16, ⟨Lc16, hQ16, l16, y16, z16⟩, st16⟩ := Jvm.LawKit.callS Y15 hx (y := own_y1) hown (mvT hZ (own_W hw 4 rfl)) (mvT hZ (own_W hw 5 rfl)) (mvT hZ (own_W hw 2 rfl)) (mvT hZ (own_W hw 6 rfl)) (by decide) (backOf (W := 0) (own_rm2 l Z a0 hw [] i2 (3 : Int32) dg10 i1 h0 n0 Zs hd_dg10) hZ (own_W hw 6 rfl) (own_W hw 2 rfl) (by decide) (by decide)) (g := (mkF m 110 #[iv i0, iv i1, iv i2, iv i3, iv z1, iv z4, iv kd, iv dg7, iv dg8, iv dg9, iv dg10, iv dg11, iv dg12, iv dg13, iv dg14, iv dg15, oU, oU, oU, oU, oU, oU, oU, oU, oU, oU, oU, oU, oU, oU, oU] [(.int i1), (.int dg10), (.int 3), (.int i2)])) rfl (by rw [hml]; rfl) (argsL := [(.int i2), (.int 3), (.int dg10), (.int i1)]) (rest := []) (lenOf own_pd0_1 rfl) rfl (Nat.le_refl _) (hb hby at_110) (fun _ _ => ⟨rfl, eq15, (by decide : 0 + 0 ≤ _), (by decide : 0 + 0 ≤ _)⟩)
      dsimp only [Pt.U, Pt.locs, Pt.cells, Pt.slots] at X16 l16 y16 z16 st16 hQ16
      subst l16 y16 z16
      clear Y15 eq15
      obtain ⟨dg16, rfl, NQ16, eq16, hd_dg16⟩ := hQ16
      replace NF := Fr.app NF NQ16
      clear NQ16
      obtain ⟨lc16, Y16, NG16⟩ := own_lo X16 NF
      clear X16
      replace NF := NG16
      clear NG16
      refine own_go (T' := T16) (g' := (mkF m 113 #[iv i0, iv i1, iv i2, iv i3, iv z1, iv z4, iv kd, iv dg7, iv dg8, iv dg9, iv dg10, iv dg11, iv dg12, iv dg13, iv dg14, iv dg15, oU, oU, oU, oU, oU, oU, oU, oU, oU, oU, oU, oU, oU, oU, oU] [(.int dg16)])) (fun _ k => st16 _ k) ?_
      clear st16
      refine own_p (g' := (mkF m 117 #[iv i0, iv i1, iv i2, iv i3, iv z1, iv z4, iv kd, iv dg7, iv dg8, iv dg9, iv dg10, iv dg11, iv dg12, iv dg13, iv dg14, iv dg15, iv dg16, oU, oU, oU, oU, oU, oU, oU, oU, oU, oU, oU, oU, oU, oU] [(.int 4), (.int i2)])) (fun _ k => XS.istore Y16.here hx rfl (hb hby at_113) rfl (l' := #[iv i0, iv i1, iv i2, iv i3, iv z1, iv z4, iv kd, iv dg7, iv dg8, iv dg9, iv dg10, iv dg11, iv dg12, iv dg13, iv dg14, iv dg15, iv dg16, oU, oU, oU, oU, oU, oU, oU, oU, oU, oU, oU, oU, oU, oU]) rfl (XS.iloadN Y16.here hx rfl (hb hby at_115) rfl (XS.iconst Y16.here hx rfl (hb hby at_116) k))) ?_
      refine own_p (g' := (mkF m 120 #[iv i0, iv i1, iv i2, iv i3, iv z1, iv z4, iv kd, iv dg7, iv dg8, iv dg9, iv dg10, iv dg11, iv dg12, iv dg13, iv dg14, iv dg15, iv dg16, oU, oU, oU, oU, oU, oU, oU, oU, oU, oU, oU, oU, oU, oU] [(.int i1), (.int dg11), (.int 4), (.int i2)])) (fun _ k => XS.iload Y16.here hx rfl (hb hby at_117) rfl (XS.iloadN Y16.here hx rfl (hb hby at_119) rfl k)) ?_
      obtain ⟨_, _, ⟨T17, L17, k17, n17⟩, -, X17, ⟨Lc17, hQ17, l17, y17, z17⟩, st17⟩ := Jvm.LawKit.callS Y16 hx (y := own_y1) hown (mvT hZ (own_W hw 4 rfl)) (mvT hZ (own_W hw 5 rfl)) (mvT hZ (own_W hw 2 rfl)) (mvT hZ (own_W hw 6 rfl)) (by decide) (backOf (W := 0) (own_rm2 l Z a0 hw [] i2 (4 : Int32) dg11 i1 h0 n0 Zs hd_dg11) hZ (own_W hw 6 rfl) (own_W hw 2 rfl) (by decide) (by decide)) (g := (mkF m 120 #[iv i0, iv i1, iv i2, iv i3, iv z1, iv z4, iv kd, iv dg7, iv dg8, iv dg9, iv dg10, iv dg11, iv dg12, iv dg13, iv dg14, iv dg15, iv dg16, oU, oU, oU, oU, oU, oU, oU, oU, oU, oU, oU, oU, oU, oU] [(.int i1), (.int dg11), (.int 4), (.int i2)])) rfl (by rw [hml]; rfl) (argsL := [(.int i2), (.int 4), (.int dg11), (.int i1)]) (rest := []) (lenOf own_pd0_1 rfl) rfl (Nat.le_refl _) (hb hby at_120) (fun _ _ => ⟨rfl, eq16, (by decide : 0 + 0 ≤ _), (by decide : 0 + 0 ≤ _)⟩)
      dsimp only [Pt.U, Pt.locs, Pt.cells, Pt.slots] at X17 l17 y17 z17 st17 hQ17
      subst l17 y17 z17
      clear Y16 eq16
      obtain ⟨dg17, rfl, NQ17, eq17, hd_dg17⟩ := hQ17
      replace NF := Fr.app NF NQ17
      clear NQ17
      obtain ⟨lc17, Y17, NG17⟩ := own_lo X17 NF
      clear X17
      replace NF := NG17
      clear NG17
      refine own_go (T' := T17) (g' := (mkF m 123 #[iv i0, iv i1, iv i2, iv i3, iv z1, iv z4, iv kd, iv dg7, iv dg8, iv dg9, iv dg10, iv dg11, iv dg12, iv dg13, iv dg14, iv dg15, iv dg16, oU, oU, oU, oU, oU, oU, oU, oU, oU, oU, oU, oU, oU, oU] [(.int dg17)])) (fun _ k => st17 _ k) ?_
      clear st17
      refine own_p (g' := (mkF m 127 #[iv i0, iv i1, iv i2, iv i3, iv z1, iv z4, iv kd, iv dg7, iv dg8, iv dg9, iv dg10, iv dg11, iv dg12, iv dg13, iv dg14, iv dg15, iv dg16, iv dg17, oU, oU, oU, oU, oU, oU, oU, oU, oU, oU, oU, oU, oU] [(.int 5), (.int i2)])) (fun _ k => XS.istore Y17.here hx rfl (hb hby at_123) rfl (l' := #[iv i0, iv i1, iv i2, iv i3, iv z1, iv z4, iv kd, iv dg7, iv dg8, iv dg9, iv dg10, iv dg11, iv dg12, iv dg13, iv dg14, iv dg15, iv dg16, iv dg17, oU, oU, oU, oU, oU, oU, oU, oU, oU, oU, oU, oU, oU]) rfl (XS.iloadN Y17.here hx rfl (hb hby at_125) rfl (XS.iconst Y17.here hx rfl (hb hby at_126) k))) ?_
      refine own_p (g' := (mkF m 130 #[iv i0, iv i1, iv i2, iv i3, iv z1, iv z4, iv kd, iv dg7, iv dg8, iv dg9, iv dg10, iv dg11, iv dg12, iv dg13, iv dg14, iv dg15, iv dg16, iv dg17, oU, oU, oU, oU, oU, oU, oU, oU, oU, oU, oU, oU, oU] [(.int i1), (.int dg12), (.int 5), (.int i2)])) (fun _ k => XS.iload Y17.here hx rfl (hb hby at_127) rfl (XS.iloadN Y17.here hx rfl (hb hby at_129) rfl k)) ?_
      obtain ⟨_, _, ⟨T18, L18, k18, n18⟩, -, X18, ⟨Lc18, hQ18, l18, y18, z18⟩, st18⟩ := Jvm.LawKit.callS Y17 hx (y := own_y1) hown (mvT hZ (own_W hw 4 rfl)) (mvT hZ (own_W hw 5 rfl)) (mvT hZ (own_W hw 2 rfl)) (mvT hZ (own_W hw 6 rfl)) (by decide) (backOf (W := 0) (own_rm2 l Z a0 hw [] i2 (5 : Int32) dg12 i1 h0 n0 Zs hd_dg12) hZ (own_W hw 6 rfl) (own_W hw 2 rfl) (by decide) (by decide)) (g := (mkF m 130 #[iv i0, iv i1, iv i2, iv i3, iv z1, iv z4, iv kd, iv dg7, iv dg8, iv dg9, iv dg10, iv dg11, iv dg12, iv dg13, iv dg14, iv dg15, iv dg16, iv dg17, oU, oU, oU, oU, oU, oU, oU, oU, oU, oU, oU, oU, oU] [(.int i1), (.int dg12), (.int 5), (.int i2)])) rfl (by rw [hml]; rfl) (argsL := [(.int i2), (.int 5), (.int dg12), (.int i1)]) (rest := []) (lenOf own_pd0_1 rfl) rfl (Nat.le_refl _) (hb hby at_130) (fun _ _ => ⟨rfl, eq17, (by decide : 0 + 0 ≤ _), (by decide : 0 + 0 ≤ _)⟩)
      dsimp only [Pt.U, Pt.locs, Pt.cells, Pt.slots] at X18 l18 y18 z18 st18 hQ18
      subst l18 y18 z18
      clear Y17 eq17
      obtain ⟨dg18, rfl, NQ18, eq18, hd_dg18⟩ := hQ18
      replace NF := Fr.app NF NQ18
      clear NQ18
      obtain ⟨lc18, Y18, NG18⟩ := own_lo X18 NF
      clear X18
      replace NF := NG18
      clear NG18
      refine own_go (T' := T18) (g' := (mkF m 133 #[iv i0, iv i1, iv i2, iv i3, iv z1, iv z4, iv kd, iv dg7, iv dg8, iv dg9, iv dg10, iv dg11, iv dg12, iv dg13, iv dg14, iv dg15, iv dg16, iv dg17, oU, oU, oU, oU, oU, oU, oU, oU, oU, oU, oU, oU, oU] [(.int dg18)])) (fun _ k => st18 _ k) ?_
      clear st18
      refine own_p (g' := (mkF m 136 #[iv i0, iv i1, iv i2, iv i3, iv z1, iv z4, iv kd, iv dg7, iv dg8, iv dg9, iv dg10, iv dg11, iv dg12, iv dg13, iv dg14, iv dg15, iv dg16, iv dg17, iv dg18, oU, oU, oU, oU, oU, oU, oU, oU, oU, oU, oU, oU] [(.int 3)])) (fun _ k => XS.istore Y18.here hx rfl (hb hby at_133) rfl (l' := #[iv i0, iv i1, iv i2, iv i3, iv z1, iv z4, iv kd, iv dg7, iv dg8, iv dg9, iv dg10, iv dg11, iv dg12, iv dg13, iv dg14, iv dg15, iv dg16, iv dg17, iv dg18, oU, oU, oU, oU, oU, oU, oU, oU, oU, oU, oU, oU]) rfl (XS.iconst Y18.here hx rfl (hb hby at_135) k)) ?_
      obtain ⟨T19, h19, k19, X19, e19, E19, A19, st19⟩ := newP Y18 hx hZ (own_W hw 7 rfl) eq18 (g := (mkF m 136 #[iv i0, iv i1, iv i2, iv i3, iv z1, iv z4, iv kd, iv dg7, iv dg8, iv dg9, iv dg10, iv dg11, iv dg12, iv dg13, iv dg14, iv dg15, iv dg16, iv dg17, iv dg18, oU, oU, oU, oU, oU, oU, oU, oU, oU, oU, oU, oU] [(.int 3)])) rfl (hb hby at_136) rfl (by decide) (cap := 3) (by decide) (by decide) (by decide) (by decide)
      clear Y18 eq18
      obtain ⟨b19, g19⟩ : ∃ z, z = h0.size := ⟨_, rfl⟩
      rw [← g19] at A19 st19
      replace g_b19 : n0 ≤ b19 := Nat.le_trans Zs (Nat.le_of_eq g19.symm)
      replace OL := OL.ext E19
      replace Zs := Nat.le_trans Zs E19.1
      clear E19
      replace V_b19 : Arv Z h19 b19 k19 .char (3 : Int32) [(.int 0), (.int 0), (.int 0)] (.int 0) := (Arv.new A19 (by decide)).pad (pad_rep [] (.int 0) 3)
      clear A19
      refine own_go (T' := T19) (g' := (mkF m 138 #[iv i0, iv i1, iv i2, iv i3, iv z1, iv z4, iv kd, iv dg7, iv dg8, iv dg9, iv dg10, iv dg11, iv dg12, iv dg13, iv dg14, iv dg15, iv dg16, iv dg17, iv dg18, oU, oU, oU, oU, oU, oU, oU, oU, oU, oU, oU, oU] [(.ref b19)])) (fun _ k => st19 _ k) ?_
      clear st19
      refine own_p (g' := (mkF m 142 #[iv i0, iv i1, iv i2, iv i3, iv z1, iv z4, iv kd, iv dg7, iv dg8, iv dg9, iv dg10, iv dg11, iv dg12, iv dg13, iv dg14, iv dg15, iv dg16, iv dg17, iv dg18, oU, oU, oU, oU, oU, oU, oU, oU, oU, oU, oU, oU] [(.int dg7), (.int 0), (.ref b19), (.ref b19)])) (fun _ k => XS.dup X19.here hx rfl (hb hby at_138) rfl rfl (XS.iconst X19.here hx rfl (hb hby at_139) (XS.iload X19.here hx rfl (hb hby at_140) rfl k))) ?_
      obtain ⟨c_20, Ar_20, q_20, S_20, N_20, H_20, G_20⟩ := id V_b19
      replace hin_20 : ¬ ((0 : Int32) < 0 ∨ c_20.slots.size ≤ ((0 : Int32)).toNatClampNeg) := inb_of S_20 ⟨by decide, by decide⟩
      obtain ⟨T20, h20, X20, e20, W20, st20⟩ := stC X19 hx hZ e19 Ar_20 (j := (0 : Int32)) hin_20 (g := (mkF m 142 #[iv i0, iv i1, iv i2, iv i3, iv z1, iv z4, iv kd, iv dg7, iv dg8, iv dg9, iv dg10, iv dg11, iv dg12, iv dg13, iv dg14, iv dg15, iv dg16, iv dg17, iv dg18, oU, oU, oU, oU, oU, oU, oU, oU, oU, oU, oU, oU] [(.int dg7), (.int 0), (.ref b19), (.ref b19)])) rfl rfl (hb hby at_142)
      clear X19 e19 hin_20
      replace OL := OL.wr W20 g_b19
      replace Zs := Nat.le_trans Zs (Keep.of_wr W20).1
      replace V_b19 := Arv.set Ar_20 q_20 S_20 N_20 H_20 G_20 (fits_nar_char _) W20 0 rfl (Nat.le_of_ble_eq_true rfl)
      clear Ar_20 G_20 H_20 N_20 S_20 W20 q_20
      replace NF := Fr.snoc X20 NF g_b19
      obtain ⟨lc20, Y20, NG20⟩ := own_lo X20 NF
      clear X20
      replace NF := NG20
      clear NG20
      refine own_go (T' := T20) (g' := (mkF m 143 #[iv i0, iv i1, iv i2, iv i3, iv z1, iv z4, iv kd, iv dg7, iv dg8, iv dg9, iv dg10, iv dg11, iv dg12, iv dg13, iv dg14, iv dg15, iv dg16, iv dg17, iv dg18, oU, oU, oU, oU, oU, oU, oU, oU, oU, oU, oU, oU] [(.ref b19)])) (fun _ k => st20 _ k) ?_
      clear st20
      refine own_p (g' := (mkF m 147 #[iv i0, iv i1, iv i2, iv i3, iv z1, iv z4, iv kd, iv dg7, iv dg8, iv dg9, iv dg10, iv dg11, iv dg12, iv dg13, iv dg14, iv dg15, iv dg16, iv dg17, iv dg18, oU, oU, oU, oU, oU, oU, oU, oU, oU, oU, oU, oU] [(.int dg8), (.int 1), (.ref b19), (.ref b19)])) (fun _ k => XS.dup Y20.here hx rfl (hb hby at_143) rfl rfl (XS.iconst Y20.here hx rfl (hb hby at_144) (XS.iload Y20.here hx rfl (hb hby at_145) rfl k))) ?_
      obtain ⟨c_21, Ar_21, q_21, S_21, N_21, H_21, G_21⟩ := id V_b19
      replace hin_21 : ¬ ((1 : Int32) < 0 ∨ c_21.slots.size ≤ ((1 : Int32)).toNatClampNeg) := inb_of S_21 ⟨by decide, by decide⟩
      obtain ⟨T21, h21, X21, e21, W21, st21⟩ := stC Y20 hx hZ e20 Ar_21 (j := (1 : Int32)) hin_21 (g := (mkF m 147 #[iv i0, iv i1, iv i2, iv i3, iv z1, iv z4, iv kd, iv dg7, iv dg8, iv dg9, iv dg10, iv dg11, iv dg12, iv dg13, iv dg14, iv dg15, iv dg16, iv dg17, iv dg18, oU, oU, oU, oU, oU, oU, oU, oU, oU, oU, oU, oU] [(.int dg8), (.int 1), (.ref b19), (.ref b19)])) rfl rfl (hb hby at_147)
      clear Y20 e20 hin_21
      replace OL := OL.wr W21 g_b19
      replace Zs := Nat.le_trans Zs (Keep.of_wr W21).1
      replace V_b19 := Arv.set Ar_21 q_21 S_21 N_21 H_21 G_21 (fits_nar_char _) W21 1 rfl (Nat.le_of_ble_eq_true rfl)
      clear Ar_21 G_21 H_21 N_21 S_21 W21 q_21
      replace NF := Fr.snoc X21 NF g_b19
      obtain ⟨lc21, Y21, NG21⟩ := own_lo X21 NF
      clear X21
      replace NF := NG21
      clear NG21
      refine own_go (T' := T21) (g' := (mkF m 148 #[iv i0, iv i1, iv i2, iv i3, iv z1, iv z4, iv kd, iv dg7, iv dg8, iv dg9, iv dg10, iv dg11, iv dg12, iv dg13, iv dg14, iv dg15, iv dg16, iv dg17, iv dg18, oU, oU, oU, oU, oU, oU, oU, oU, oU, oU, oU, oU] [(.ref b19)])) (fun _ k => st21 _ k) ?_
      clear st21
      refine own_p (g' := (mkF m 152 #[iv i0, iv i1, iv i2, iv i3, iv z1, iv z4, iv kd, iv dg7, iv dg8, iv dg9, iv dg10, iv dg11, iv dg12, iv dg13, iv dg14, iv dg15, iv dg16, iv dg17, iv dg18, oU, oU, oU, oU, oU, oU, oU, oU, oU, oU, oU, oU] [(.int dg9), (.int 2), (.ref b19), (.ref b19)])) (fun _ k => XS.dup Y21.here hx rfl (hb hby at_148) rfl rfl (XS.iconst Y21.here hx rfl (hb hby at_149) (XS.iload Y21.here hx rfl (hb hby at_150) rfl k))) ?_
      obtain ⟨c_22, Ar_22, q_22, S_22, N_22, H_22, G_22⟩ := id V_b19
      replace hin_22 : ¬ ((2 : Int32) < 0 ∨ c_22.slots.size ≤ ((2 : Int32)).toNatClampNeg) := inb_of S_22 ⟨by decide, by decide⟩
      obtain ⟨T22, h22, X22, e22, W22, st22⟩ := stC Y21 hx hZ e21 Ar_22 (j := (2 : Int32)) hin_22 (g := (mkF m 152 #[iv i0, iv i1, iv i2, iv i3, iv z1, iv z4, iv kd, iv dg7, iv dg8, iv dg9, iv dg10, iv dg11, iv dg12, iv dg13, iv dg14, iv dg15, iv dg16, iv dg17, iv dg18, oU, oU, oU, oU, oU, oU, oU, oU, oU, oU, oU, oU] [(.int dg9), (.int 2), (.ref b19), (.ref b19)])) rfl rfl (hb hby at_152)
      clear Y21 e21 hin_22
      replace OL := OL.wr W22 g_b19
      replace Zs := Nat.le_trans Zs (Keep.of_wr W22).1
      replace V_b19 := Arv.set Ar_22 q_22 S_22 N_22 H_22 G_22 (fits_nar_char _) W22 2 rfl (Nat.le_of_ble_eq_true rfl)
      clear Ar_22 G_22 H_22 N_22 S_22 W22 q_22
      replace NF := Fr.snoc X22 NF g_b19
      clear g_b19
      obtain ⟨lc22, Y22, NG22⟩ := own_lo X22 NF
      clear X22
      replace NF := NG22
      clear NG22
      refine own_go (T' := T22) (g' := (mkF m 153 #[iv i0, iv i1, iv i2, iv i3, iv z1, iv z4, iv kd, iv dg7, iv dg8, iv dg9, iv dg10, iv dg11, iv dg12, iv dg13, iv dg14, iv dg15, iv dg16, iv dg17, iv dg18, oU, oU, oU, oU, oU, oU, oU, oU, oU, oU, oU, oU] [(.ref b19)])) (fun _ k => st22 _ k) ?_
      clear st22
      refine own_p (g' := (mkF m 156 #[iv i0, iv i1, iv i2, iv i3, iv z1, iv z4, iv kd, iv dg7, iv dg8, iv dg9, iv dg10, iv dg11, iv dg12, iv dg13, iv dg14, iv dg15, iv dg16, iv dg17, iv dg18, rv b19, oU, oU, oU, oU, oU, oU, oU, oU, oU, oU, oU] [(.int 2)])) (fun _ k => XS.astore Y22.here hx rfl (hb hby at_153) rfl rfl (l' := #[iv i0, iv i1, iv i2, iv i3, iv z1, iv z4, iv kd, iv dg7, iv dg8, iv dg9, iv dg10, iv dg11, iv dg12, iv dg13, iv dg14, iv dg15, iv dg16, iv dg17, iv dg18, rv b19, oU, oU, oU, oU, oU, oU, oU, oU, oU, oU, oU]) rfl (XS.iconst Y22.here hx rfl (hb hby at_155) k)) ?_
      obtain ⟨T23, h23, k23, X23, e23, E23, A23, st23⟩ := newP Y22 hx hZ (own_W hw 7 rfl) e22 (g := (mkF m 156 #[iv i0, iv i1, iv i2, iv i3, iv z1, iv z4, iv kd, iv dg7, iv dg8, iv dg9, iv dg10, iv dg11, iv dg12, iv dg13, iv dg14, iv dg15, iv dg16, iv dg17, iv dg18, rv b19, oU, oU, oU, oU, oU, oU, oU, oU, oU, oU, oU] [(.int 2)])) rfl (hb hby at_156) rfl (by decide) (cap := 2) (by decide) (by decide) (by decide) (by decide)
      clear Y22 e22
      obtain ⟨b23, g23⟩ : ∃ z, z = h22.size := ⟨_, rfl⟩
      rw [← g23] at A23 st23
      replace ne_b19_b23 : b19 ≠ b23 := Nat.ne_of_lt (Nat.lt_of_lt_of_le V_b19.lt (Nat.le_of_eq g23.symm))
      replace g_b23 : n0 ≤ b23 := Nat.le_trans Zs (Nat.le_of_eq g23.symm)
      replace OL := OL.ext E23
      replace V_b19 := V_b19.ext E23
      replace Zs := Nat.le_trans Zs E23.1
      clear E23
      replace V_b23 : Arv Z h23 b23 k23 .char (2 : Int32) [(.int 0), (.int 0)] (.int 0) := (Arv.new A23 (by decide)).pad (pad_rep [] (.int 0) 2)
      clear A23
      refine own_go (T' := T23) (g' := (mkF m 158 #[iv i0, iv i1, iv i2, iv i3, iv z1, iv z4, iv kd, iv dg7, iv dg8, iv dg9, iv dg10, iv dg11, iv dg12, iv dg13, iv dg14, iv dg15, iv dg16, iv dg17, iv dg18, rv b19, oU, oU, oU, oU, oU, oU, oU, oU, oU, oU, oU] [(.ref b23)])) (fun _ k => st23 _ k) ?_
      clear st23
      refine own_p (g' := (mkF m 162 #[iv i0, iv i1, iv i2, iv i3, iv z1, iv z4, iv kd, iv dg7, iv dg8, iv dg9, iv dg10, iv dg11, iv dg12, iv dg13, iv dg14, iv dg15, iv dg16, iv dg17, iv dg18, rv b19, oU, oU, oU, oU, oU, oU, oU, oU, oU, oU, oU] [(.int dg10), (.int 0), (.ref b23), (.ref b23)])) (fun _ k => XS.dup X23.here hx rfl (hb hby at_158) rfl rfl (XS.iconst X23.here hx rfl (hb hby at_159) (XS.iload X23.here hx rfl (hb hby at_160) rfl k))) ?_
      obtain ⟨c_24, Ar_24, q_24, S_24, N_24, H_24, G_24⟩ := id V_b23
      replace hin_24 : ¬ ((0 : Int32) < 0 ∨ c_24.slots.size ≤ ((0 : Int32)).toNatClampNeg) := inb_of S_24 ⟨by decide, by decide⟩
      obtain ⟨T24, h24, X24, e24, W24, st24⟩ := stC X23 hx hZ e23 Ar_24 (j := (0 : Int32)) hin_24 (g := (mkF m 162 #[iv i0, iv i1, iv i2, iv i3, iv z1, iv z4, iv kd, iv dg7, iv dg8, iv dg9, iv dg10, iv dg11, iv dg12, iv dg13, iv dg14, iv dg15, iv dg16, iv dg17, iv dg18, rv b19, oU, oU, oU, oU, oU, oU, oU, oU, oU, oU, oU] [(.int dg10), (.int 0), (.ref b23), (.ref b23)])) rfl rfl (hb hby at_162)
      clear X23 e23 hin_24
      replace OL := OL.wr W24 g_b23
      replace V_b19 := V_b19.other W24 ne_b19_b23
      replace Zs := Nat.le_trans Zs (Keep.of_wr W24).1
      replace V_b23 := Arv.set Ar_24 q_24 S_24 N_24 H_24 G_24 (fits_nar_char _) W24 0 rfl (Nat.le_of_ble_eq_true rfl)
      clear Ar_24 G_24 H_24 N_24 S_24 W24 q_24
      replace NF := Fr.snoc X24 NF g_b23
      obtain ⟨lc24, Y24, NG24⟩ := own_lo X24 NF
      clear X24
      replace NF := NG24
      clear NG24
      refine own_go (T' := T24) (g' := (mkF m 163 #[iv i0, iv i1, iv i2, iv i3, iv z1, iv z4, iv kd, iv dg7, iv dg8, iv dg9, iv dg10, iv dg11, iv dg12, iv dg13, iv dg14, iv dg15, iv dg16, iv dg17, iv dg18, rv b19, oU, oU, oU, oU, oU, oU, oU, oU, oU, oU, oU] [(.ref b23)])) (fun _ k => st24 _ k) ?_
      clear st24
      refine own_p (g' := (mkF m 167 #[iv i0, iv i1, iv i2, iv i3, iv z1, iv z4, iv kd, iv dg7, iv dg8, iv dg9, iv dg10, iv dg11, iv dg12, iv dg13, iv dg14, iv dg15, iv dg16, iv dg17, iv dg18, rv b19, oU, oU, oU, oU, oU, oU, oU, oU, oU, oU, oU] [(.int dg11), (.int 1), (.ref b23), (.ref b23)])) (fun _ k => XS.dup Y24.here hx rfl (hb hby at_163) rfl rfl (XS.iconst Y24.here hx rfl (hb hby at_164) (XS.iload Y24.here hx rfl (hb hby at_165) rfl k))) ?_
      obtain ⟨c_25, Ar_25, q_25, S_25, N_25, H_25, G_25⟩ := id V_b23
      replace hin_25 : ¬ ((1 : Int32) < 0 ∨ c_25.slots.size ≤ ((1 : Int32)).toNatClampNeg) := inb_of S_25 ⟨by decide, by decide⟩
      obtain ⟨T25, h25, X25, e25, W25, st25⟩ := stC Y24 hx hZ e24 Ar_25 (j := (1 : Int32)) hin_25 (g := (mkF m 167 #[iv i0, iv i1, iv i2, iv i3, iv z1, iv z4, iv kd, iv dg7, iv dg8, iv dg9, iv dg10, iv dg11, iv dg12, iv dg13, iv dg14, iv dg15, iv dg16, iv dg17, iv dg18, rv b19, oU, oU, oU, oU, oU, oU, oU, oU, oU, oU, oU] [(.int dg11), (.int 1), (.ref b23), (.ref b23)])) rfl rfl (hb hby at_167)
      clear Y24 e24 hin_25
      replace OL := OL.wr W25 g_b23
      replace V_b19 := V_b19.other W25 ne_b19_b23
      clear ne_b19_b23
      replace Zs := Nat.le_trans Zs (Keep.of_wr W25).1
      replace V_b23 := Arv.set Ar_25 q_25 S_25 N_25 H_25 G_25 (fits_nar_char _) W25 1 rfl (Nat.le_of_ble_eq_true rfl)
      clear Ar_25 G_25 H_25 N_25 S_25 W25 q_25
      replace NF := Fr.snoc X25 NF g_b23
      clear g_b23
      obtain ⟨lc25, Y25, NG25⟩ := own_lo X25 NF
      clear X25
      replace NF := NG25
      clear NG25
      refine own_go (T' := T25) (g' := (mkF m 168 #[iv i0, iv i1, iv i2, iv i3, iv z1, iv z4, iv kd, iv dg7, iv dg8, iv dg9, iv dg10, iv dg11, iv dg12, iv dg13, iv dg14, iv dg15, iv dg16, iv dg17, iv dg18, rv b19, oU, oU, oU, oU, oU, oU, oU, oU, oU, oU, oU] [(.ref b23)])) (fun _ k => st25 _ k) ?_
      clear st25
      refine own_p (g' := (mkF m 171 #[iv i0, iv i1, iv i2, iv i3, iv z1, iv z4, iv kd, iv dg7, iv dg8, iv dg9, iv dg10, iv dg11, iv dg12, iv dg13, iv dg14, iv dg15, iv dg16, iv dg17, iv dg18, rv b19, rv b23, oU, oU, oU, oU, oU, oU, oU, oU, oU, oU] [(.int 3)])) (fun _ k => XS.astore Y25.here hx rfl (hb hby at_168) rfl rfl (l' := #[iv i0, iv i1, iv i2, iv i3, iv z1, iv z4, iv kd, iv dg7, iv dg8, iv dg9, iv dg10, iv dg11, iv dg12, iv dg13, iv dg14, iv dg15, iv dg16, iv dg17, iv dg18, rv b19, rv b23, oU, oU, oU, oU, oU, oU, oU, oU, oU, oU]) rfl (XS.iconst Y25.here hx rfl (hb hby at_170) k)) ?_
      obtain ⟨T26, h26, k26, X26, e26, E26, A26, st26⟩ := newP Y25 hx hZ (own_W hw 7 rfl) e25 (g := (mkF m 171 #[iv i0, iv i1, iv i2, iv i3, iv z1, iv z4, iv kd, iv dg7, iv dg8, iv dg9, iv dg10, iv dg11, iv dg12, iv dg13, iv dg14, iv dg15, iv dg16, iv dg17, iv dg18, rv b19, rv b23, oU, oU, oU, oU, oU, oU, oU, oU, oU, oU] [(.int 3)])) rfl (hb hby at_171) rfl (by decide) (cap := 3) (by decide) (by decide) (by decide) (by decide)
      clear Y25 e25
      obtain ⟨b26, g26⟩ : ∃ z, z = h25.size := ⟨_, rfl⟩
      rw [← g26] at A26 st26
      replace ne_b19_b26 : b19 ≠ b26 := Nat.ne_of_lt (Nat.lt_of_lt_of_le V_b19.lt (Nat.le_of_eq g26.symm))
      replace ne_b23_b26 : b23 ≠ b26 := Nat.ne_of_lt (Nat.lt_of_lt_of_le V_b23.lt (Nat.le_of_eq g26.symm))
      replace g_b26 : n0 ≤ b26 := Nat.le_trans Zs (Nat.le_of_eq g26.symm)
      replace OL := OL.ext E26
      replace V_b19 := V_b19.ext E26
      replace V_b23 := V_b23.ext E26
      replace Zs := Nat.le_trans Zs E26.1
      clear E26
      replace V_b26 : Arv Z h26 b26 k26 .char (3 : Int32) [(.int 0), (.int 0), (.int 0)] (.int 0) := (Arv.new A26 (by decide)).pad (pad_rep [] (.int 0) 3)
      clear A26
      refine own_go (T' := T26) (g' := (mkF m 173 #[iv i0, iv i1, iv i2, iv i3, iv z1, iv z4, iv kd, iv dg7, iv dg8, iv dg9, iv dg10, iv dg11, iv dg12, iv dg13, iv dg14, iv dg15, iv dg16, iv dg17, iv dg18, rv b19, rv b23, oU, oU, oU, oU, oU, oU, oU, oU, oU, oU] [(.ref b26)])) (fun _ k => st26 _ k) ?_
      clear st26
      refine own_p (g' := (mkF m 177 #[iv i0, iv i1, iv i2, iv i3, iv z1, iv z4, iv kd, iv dg7, iv dg8, iv dg9, iv dg10, iv dg11, iv dg12, iv dg13, iv dg14, iv dg15, iv dg16, iv dg17, iv dg18, rv b19, rv b23, oU, oU, oU, oU, oU, oU, oU, oU, oU, oU] [(.int dg10), (.int 0), (.ref b26), (.ref b26)])) (fun _ k => XS.dup X26.here hx rfl (hb hby at_173) rfl rfl (XS.iconst X26.here hx rfl (hb hby at_174) (XS.iload X26.here hx rfl (hb hby at_175) rfl k))) ?_
      obtain ⟨c_27, Ar_27, q_27, S_27, N_27, H_27, G_27⟩ := id V_b26
      replace hin_27 : ¬ ((0 : Int32) < 0 ∨ c_27.slots.size ≤ ((0 : Int32)).toNatClampNeg) := inb_of S_27 ⟨by decide, by decide⟩
      obtain ⟨T27, h27, X27, e27, W27, st27⟩ := stC X26 hx hZ e26 Ar_27 (j := (0 : Int32)) hin_27 (g := (mkF m 177 #[iv i0, iv i1, iv i2, iv i3, iv z1, iv z4, iv kd, iv dg7, iv dg8, iv dg9, iv dg10, iv dg11, iv dg12, iv dg13, iv dg14, iv dg15, iv dg16, iv dg17, iv dg18, rv b19, rv b23, oU, oU, oU, oU, oU, oU, oU, oU, oU, oU] [(.int dg10), (.int 0), (.ref b26), (.ref b26)])) rfl rfl (hb hby at_177)
      clear X26 e26 hin_27
      replace OL := OL.wr W27 g_b26
      replace V_b19 := V_b19.other W27 ne_b19_b26
      replace V_b23 := V_b23.other W27 ne_b23_b26
      replace Zs := Nat.le_trans Zs (Keep.of_wr W27).1
      replace V_b26 := Arv.set Ar_27 q_27 S_27 N_27 H_27 G_27 (fits_nar_char _) W27 0 rfl (Nat.le_of_ble_eq_true rfl)
      clear Ar_27 G_27 H_27 N_27 S_27 W27 q_27
      replace NF := Fr.snoc X27 NF g_b26
      obtain ⟨lc27, Y27, NG27⟩ := own_lo X27 NF
      clear X27
      replace NF := NG27
      clear NG27
      refine own_go (T' := T27) (g' := (mkF m 178 #[iv i0, iv i1, iv i2, iv i3, iv z1, iv z4, iv kd, iv dg7, iv dg8, iv dg9, iv dg10, iv dg11, iv dg12, iv dg13, iv dg14, iv dg15, iv dg16, iv dg17, iv dg18, rv b19, rv b23, oU, oU, oU, oU, oU, oU, oU, oU, oU, oU] [(.ref b26)])) (fun _ k => st27 _ k) ?_
      clear st27
      refine own_p (g' := (mkF m 182 #[iv i0, iv i1, iv i2, iv i3, iv z1, iv z4, iv kd, iv dg7, iv dg8, iv dg9, iv dg10, iv dg11, iv dg12, iv dg13, iv dg14, iv dg15, iv dg16, iv dg17, iv dg18, rv b19, rv b23, oU, oU, oU, oU, oU, oU, oU, oU, oU, oU] [(.int dg11), (.int 1), (.ref b26), (.ref b26)])) (fun _ k => XS.dup Y27.here hx rfl (hb hby at_178) rfl rfl (XS.iconst Y27.here hx rfl (hb hby at_179) (XS.iload Y27.here hx rfl (hb hby at_180) rfl k))) ?_
      obtain ⟨c_28, Ar_28, q_28, S_28, N_28, H_28, G_28⟩ := id V_b26
      replace hin_28 : ¬ ((1 : Int32) < 0 ∨ c_28.slots.size ≤ ((1 : Int32)).toNatClampNeg) := inb_of S_28 ⟨by decide, by decide⟩
      obtain ⟨T28, h28, X28, e28, W28, st28⟩ := stC Y27 hx hZ e27 Ar_28 (j := (1 : Int32)) hin_28 (g := (mkF m 182 #[iv i0, iv i1, iv i2, iv i3, iv z1, iv z4, iv kd, iv dg7, iv dg8, iv dg9, iv dg10, iv dg11, iv dg12, iv dg13, iv dg14, iv dg15, iv dg16, iv dg17, iv dg18, rv b19, rv b23, oU, oU, oU, oU, oU, oU, oU, oU, oU, oU] [(.int dg11), (.int 1), (.ref b26), (.ref b26)])) rfl rfl (hb hby at_182)
      clear Y27 e27 hin_28
      replace OL := OL.wr W28 g_b26
      replace V_b19 := V_b19.other W28 ne_b19_b26
      replace V_b23 := V_b23.other W28 ne_b23_b26
      replace Zs := Nat.le_trans Zs (Keep.of_wr W28).1
      replace V_b26 := Arv.set Ar_28 q_28 S_28 N_28 H_28 G_28 (fits_nar_char _) W28 1 rfl (Nat.le_of_ble_eq_true rfl)
      clear Ar_28 G_28 H_28 N_28 S_28 W28 q_28
      replace NF := Fr.snoc X28 NF g_b26
      obtain ⟨lc28, Y28, NG28⟩ := own_lo X28 NF
      clear X28
      replace NF := NG28
      clear NG28
      refine own_go (T' := T28) (g' := (mkF m 183 #[iv i0, iv i1, iv i2, iv i3, iv z1, iv z4, iv kd, iv dg7, iv dg8, iv dg9, iv dg10, iv dg11, iv dg12, iv dg13, iv dg14, iv dg15, iv dg16, iv dg17, iv dg18, rv b19, rv b23, oU, oU, oU, oU, oU, oU, oU, oU, oU, oU] [(.ref b26)])) (fun _ k => st28 _ k) ?_
      clear st28
      refine own_p (g' := (mkF m 187 #[iv i0, iv i1, iv i2, iv i3, iv z1, iv z4, iv kd, iv dg7, iv dg8, iv dg9, iv dg10, iv dg11, iv dg12, iv dg13, iv dg14, iv dg15, iv dg16, iv dg17, iv dg18, rv b19, rv b23, oU, oU, oU, oU, oU, oU, oU, oU, oU, oU] [(.int dg12), (.int 2), (.ref b26), (.ref b26)])) (fun _ k => XS.dup Y28.here hx rfl (hb hby at_183) rfl rfl (XS.iconst Y28.here hx rfl (hb hby at_184) (XS.iload Y28.here hx rfl (hb hby at_185) rfl k))) ?_
      obtain ⟨c_29, Ar_29, q_29, S_29, N_29, H_29, G_29⟩ := id V_b26
      replace hin_29 : ¬ ((2 : Int32) < 0 ∨ c_29.slots.size ≤ ((2 : Int32)).toNatClampNeg) := inb_of S_29 ⟨by decide, by decide⟩
      obtain ⟨T29, h29, X29, e29, W29, st29⟩ := stC Y28 hx hZ e28 Ar_29 (j := (2 : Int32)) hin_29 (g := (mkF m 187 #[iv i0, iv i1, iv i2, iv i3, iv z1, iv z4, iv kd, iv dg7, iv dg8, iv dg9, iv dg10, iv dg11, iv dg12, iv dg13, iv dg14, iv dg15, iv dg16, iv dg17, iv dg18, rv b19, rv b23, oU, oU, oU, oU, oU, oU, oU, oU, oU, oU] [(.int dg12), (.int 2), (.ref b26), (.ref b26)])) rfl rfl (hb hby at_187)
      clear Y28 e28 hin_29
      replace OL := OL.wr W29 g_b26
      replace V_b19 := V_b19.other W29 ne_b19_b26
      clear ne_b19_b26
      replace V_b23 := V_b23.other W29 ne_b23_b26
      clear ne_b23_b26
      replace Zs := Nat.le_trans Zs (Keep.of_wr W29).1
      replace V_b26 := Arv.set Ar_29 q_29 S_29 N_29 H_29 G_29 (fits_nar_char _) W29 2 rfl (Nat.le_of_ble_eq_true rfl)
      clear Ar_29 G_29 H_29 N_29 S_29 W29 q_29
      replace NF := Fr.snoc X29 NF g_b26
      clear g_b26
      obtain ⟨lc29, Y29, NG29⟩ := own_lo X29 NF
      clear X29
      replace NF := NG29
      clear NG29
      refine own_go (T' := T29) (g' := (mkF m 188 #[iv i0, iv i1, iv i2, iv i3, iv z1, iv z4, iv kd, iv dg7, iv dg8, iv dg9, iv dg10, iv dg11, iv dg12, iv dg13, iv dg14, iv dg15, iv dg16, iv dg17, iv dg18, rv b19, rv b23, oU, oU, oU, oU, oU, oU, oU, oU, oU, oU] [(.ref b26)])) (fun _ k => st29 _ k) ?_
      clear st29
      refine own_p (g' := (mkF m 191 #[iv i0, iv i1, iv i2, iv i3, iv z1, iv z4, iv kd, iv dg7, iv dg8, iv dg9, iv dg10, iv dg11, iv dg12, iv dg13, iv dg14, iv dg15, iv dg16, iv dg17, iv dg18, rv b19, rv b23, rv b26, oU, oU, oU, oU, oU, oU, oU, oU, oU] [(.int 3)])) (fun _ k => XS.astore Y29.here hx rfl (hb hby at_188) rfl rfl (l' := #[iv i0, iv i1, iv i2, iv i3, iv z1, iv z4, iv kd, iv dg7, iv dg8, iv dg9, iv dg10, iv dg11, iv dg12, iv dg13, iv dg14, iv dg15, iv dg16, iv dg17, iv dg18, rv b19, rv b23, rv b26, oU, oU, oU, oU, oU, oU, oU, oU, oU]) rfl (XS.iconst Y29.here hx rfl (hb hby at_190) k)) ?_
      obtain ⟨T30, h30, k30, X30, e30, E30, A30, st30⟩ := newP Y29 hx hZ (own_W hw 7 rfl) e29 (g := (mkF m 191 #[iv i0, iv i1, iv i2, iv i3, iv z1, iv z4, iv kd, iv dg7, iv dg8, iv dg9, iv dg10, iv dg11, iv dg12, iv dg13, iv dg14, iv dg15, iv dg16, iv dg17, iv dg18, rv b19, rv b23, rv b26, oU, oU, oU, oU, oU, oU, oU, oU, oU] [(.int 3)])) rfl (hb hby at_191) rfl (by decide) (cap := 3) (by decide) (by decide) (by decide) (by decide)
      clear Y29 e29
      obtain ⟨b30, g30⟩ : ∃ z, z = h29.size := ⟨_, rfl⟩
      rw [← g30] at A30 st30
      replace ne_b19_b30 : b19 ≠ b30 := Nat.ne_of_lt (Nat.lt_of_lt_of_le V_b19.lt (Nat.le_of_eq g30.symm))
      replace ne_b23_b30 : b23 ≠ b30 := Nat.ne_of_lt (Nat.lt_of_lt_of_le V_b23.lt (Nat.le_of_eq g30.symm))
      replace ne_b26_b30 : b26 ≠ b30 := Nat.ne_of_lt (Nat.lt_of_lt_of_le V_b26.lt (Nat.le_of_eq g30.symm))
      replace g_b30 : n0 ≤ b30 := Nat.le_trans Zs (Nat.le_of_eq g30.symm)
      replace OL := OL.ext E30
      replace V_b19 := V_b19.ext E30
      replace V_b23 := V_b23.ext E30
      replace V_b26 := V_b26.ext E30
      replace Zs := Nat.le_trans Zs E30.1
      clear E30
      replace V_b30 : Arv Z h30 b30 k30 .char (3 : Int32) [(.int 0), (.int 0), (.int 0)] (.int 0) := (Arv.new A30 (by decide)).pad (pad_rep [] (.int 0) 3)
      clear A30
      refine own_go (T' := T30) (g' := (mkF m 193 #[iv i0, iv i1, iv i2, iv i3, iv z1, iv z4, iv kd, iv dg7, iv dg8, iv dg9, iv dg10, iv dg11, iv dg12, iv dg13, iv dg14, iv dg15, iv dg16, iv dg17, iv dg18, rv b19, rv b23, rv b26, oU, oU, oU, oU, oU, oU, oU, oU, oU] [(.ref b30)])) (fun _ k => st30 _ k) ?_
      clear st30
      refine own_p (g' := (mkF m 197 #[iv i0, iv i1, iv i2, iv i3, iv z1, iv z4, iv kd, iv dg7, iv dg8, iv dg9, iv dg10, iv dg11, iv dg12, iv dg13, iv dg14, iv dg15, iv dg16, iv dg17, iv dg18, rv b19, rv b23, rv b26, oU, oU, oU, oU, oU, oU, oU, oU, oU] [(.int dg13), (.int 0), (.ref b30), (.ref b30)])) (fun _ k => XS.dup X30.here hx rfl (hb hby at_193) rfl rfl (XS.iconst X30.here hx rfl (hb hby at_194) (XS.iload X30.here hx rfl (hb hby at_195) rfl k))) ?_
      obtain ⟨c_31, Ar_31, q_31, S_31, N_31, H_31, G_31⟩ := id V_b30
      replace hin_31 : ¬ ((0 : Int32) < 0 ∨ c_31.slots.size ≤ ((0 : Int32)).toNatClampNeg) := inb_of S_31 ⟨by decide, by decide⟩
      obtain ⟨T31, h31, X31, e31, W31, st31⟩ := stC X30 hx hZ e30 Ar_31 (j := (0 : Int32)) hin_31 (g := (mkF m 197 #[iv i0, iv i1, iv i2, iv i3, iv z1, iv z4, iv kd, iv dg7, iv dg8, iv dg9, iv dg10, iv dg11, iv dg12, iv dg13, iv dg14, iv dg15, iv dg16, iv dg17, iv dg18, rv b19, rv b23, rv b26, oU, oU, oU, oU, oU, oU, oU, oU, oU] [(.int dg13), (.int 0), (.ref b30), (.ref b30)])) rfl rfl (hb hby at_197)
      clear X30 e30 hin_31
      replace OL := OL.wr W31 g_b30
      replace V_b19 := V_b19.other W31 ne_b19_b30
      replace V_b23 := V_b23.other W31 ne_b23_b30
      replace V_b26 := V_b26.other W31 ne_b26_b30
      replace Zs := Nat.le_trans Zs (Keep.of_wr W31).1
      replace V_b30 := Arv.set Ar_31 q_31 S_31 N_31 H_31 G_31 (fits_nar_char _) W31 0 rfl (Nat.le_of_ble_eq_true rfl)
      clear Ar_31 G_31 H_31 N_31 S_31 W31 q_31
      replace NF := Fr.snoc X31 NF g_b30
      obtain ⟨lc31, Y31, NG31⟩ := own_lo X31 NF
      clear X31
      replace NF := NG31
      clear NG31
      refine own_go (T' := T31) (g' := (mkF m 198 #[iv i0, iv i1, iv i2, iv i3, iv z1, iv z4, iv kd, iv dg7, iv dg8, iv dg9, iv dg10, iv dg11, iv dg12, iv dg13, iv dg14, iv dg15, iv dg16, iv dg17, iv dg18, rv b19, rv b23, rv b26, oU, oU, oU, oU, oU, oU, oU, oU, oU] [(.ref b30)])) (fun _ k => st31 _ k) ?_
      clear st31
      refine own_p (g' := (mkF m 202 #[iv i0, iv i1, iv i2, iv i3, iv z1, iv z4, iv kd, iv dg7, iv dg8, iv dg9, iv dg10, iv dg11, iv dg12, iv dg13, iv dg14, iv dg15, iv dg16, iv dg17, iv dg18, rv b19, rv b23, rv b26, oU, oU, oU, oU, oU, oU, oU, oU, oU] [(.int dg14), (.int 1), (.ref b30), (.ref b30)])) (fun _ k => XS.dup Y31.here hx rfl (hb hby at_198) rfl rfl (XS.iconst Y31.here hx rfl (hb hby at_199) (XS.iload Y31.here hx rfl (hb hby at_200) rfl k))) ?_
      obtain ⟨c_32, Ar_32, q_32, S_32, N_32, H_32, G_32⟩ := id V_b30
      replace hin_32 : ¬ ((1 : Int32) < 0 ∨ c_32.slots.size ≤ ((1 : Int32)).toNatClampNeg) := inb_of S_32 ⟨by decide, by decide⟩
      obtain ⟨T32, h32, X32, e32, W32, st32⟩ := stC Y31 hx hZ e31 Ar_32 (j := (1 : Int32)) hin_32 (g := (mkF m 202 #[iv i0, iv i1, iv i2, iv i3, iv z1, iv z4, iv kd, iv dg7, iv dg8, iv dg9, iv dg10, iv dg11, iv dg12, iv dg13, iv dg14, iv dg15, iv dg16, iv dg17, iv dg18, rv b19, rv b23, rv b26, oU, oU, oU, oU, oU, oU, oU, oU, oU] [(.int dg14), (.int 1), (.ref b30), (.ref b30)])) rfl rfl (hb hby at_202)
      clear Y31 e31 hin_32
      replace OL := OL.wr W32 g_b30
      replace V_b19 := V_b19.other W32 ne_b19_b30
      replace V_b23 := V_b23.other W32 ne_b23_b30
      replace V_b26 := V_b26.other W32 ne_b26_b30
      replace Zs := Nat.le_trans Zs (Keep.of_wr W32).1
      replace V_b30 := Arv.set Ar_32 q_32 S_32 N_32 H_32 G_32 (fits_nar_char _) W32 1 rfl (Nat.le_of_ble_eq_true rfl)
      clear Ar_32 G_32 H_32 N_32 S_32 W32 q_32
      replace NF := Fr.snoc X32 NF g_b30
      obtain ⟨lc32, Y32, NG32⟩ := own_lo X32 NF
      clear X32
      replace NF := NG32
      clear NG32
      refine own_go (T' := T32) (g' := (mkF m 203 #[iv i0, iv i1, iv i2, iv i3, iv z1, iv z4, iv kd, iv dg7, iv dg8, iv dg9, iv dg10, iv dg11, iv dg12, iv dg13, iv dg14, iv dg15, iv dg16, iv dg17, iv dg18, rv b19, rv b23, rv b26, oU, oU, oU, oU, oU, oU, oU, oU, oU] [(.ref b30)])) (fun _ k => st32 _ k) ?_
      clear st32
      refine own_p (g' := (mkF m 207 #[iv i0, iv i1, iv i2, iv i3, iv z1, iv z4, iv kd, iv dg7, iv dg8, iv dg9, iv dg10, iv dg11, iv dg12, iv dg13, iv dg14, iv dg15, iv dg16, iv dg17, iv dg18, rv b19, rv b23, rv b26, oU, oU, oU, oU, oU, oU, oU, oU, oU] [(.int dg15), (.int 2), (.ref b30), (.ref b30)])) (fun _ k => XS.dup Y32.here hx rfl (hb hby at_203) rfl rfl (XS.iconst Y32.here hx rfl (hb hby at_204) (XS.iload Y32.here hx rfl (hb hby at_205) rfl k))) ?_
      obtain ⟨c_33, Ar_33, q_33, S_33, N_33, H_33, G_33⟩ := id V_b30
      replace hin_33 : ¬ ((2 : Int32) < 0 ∨ c_33.slots.size ≤ ((2 : Int32)).toNatClampNeg) := inb_of S_33 ⟨by decide, by decide⟩
      obtain ⟨T33, h33, X33, e33, W33, st33⟩ := stC Y32 hx hZ e32 Ar_33 (j := (2 : Int32)) hin_33 (g := (mkF m 207 #[iv i0, iv i1, iv i2, iv i3, iv z1, iv z4, iv kd, iv dg7, iv dg8, iv dg9, iv dg10, iv dg11, iv dg12, iv dg13, iv dg14, iv dg15, iv dg16, iv dg17, iv dg18, rv b19, rv b23, rv b26, oU, oU, oU, oU, oU, oU, oU, oU, oU] [(.int dg15), (.int 2), (.ref b30), (.ref b30)])) rfl rfl (hb hby at_207)
      clear Y32 e32 hin_33
      replace OL := OL.wr W33 g_b30
      replace V_b19 := V_b19.other W33 ne_b19_b30
      clear ne_b19_b30
      replace V_b23 := V_b23.other W33 ne_b23_b30
      clear ne_b23_b30
      replace V_b26 := V_b26.other W33 ne_b26_b30
      clear ne_b26_b30
      replace Zs := Nat.le_trans Zs (Keep.of_wr W33).1
      replace V_b30 := Arv.set Ar_33 q_33 S_33 N_33 H_33 G_33 (fits_nar_char _) W33 2 rfl (Nat.le_of_ble_eq_true rfl)
      clear Ar_33 G_33 H_33 N_33 S_33 W33 q_33
      replace NF := Fr.snoc X33 NF g_b30
      clear g_b30
      obtain ⟨lc33, Y33, NG33⟩ := own_lo X33 NF
      clear X33
      replace NF := NG33
      clear NG33
      refine own_go (T' := T33) (g' := (mkF m 208 #[iv i0, iv i1, iv i2, iv i3, iv z1, iv z4, iv kd, iv dg7, iv dg8, iv dg9, iv dg10, iv dg11, iv dg12, iv dg13, iv dg14, iv dg15, iv dg16, iv dg17, iv dg18, rv b19, rv b23, rv b26, oU, oU, oU, oU, oU, oU, oU, oU, oU] [(.ref b30)])) (fun _ k => st33 _ k) ?_
      clear st33
      refine own_p (g' := (mkF m 211 #[iv i0, iv i1, iv i2, iv i3, iv z1, iv z4, iv kd, iv dg7, iv dg8, iv dg9, iv dg10, iv dg11, iv dg12, iv dg13, iv dg14, iv dg15, iv dg16, iv dg17, iv dg18, rv b19, rv b23, rv b26, rv b30, oU, oU, oU, oU, oU, oU, oU, oU] [(.int 2)])) (fun _ k => XS.astore Y33.here hx rfl (hb hby at_208) rfl rfl (l' := #[iv i0, iv i1, iv i2, iv i3, iv z1, iv z4, iv kd, iv dg7, iv dg8, iv dg9, iv dg10, iv dg11, iv dg12, iv dg13, iv dg14, iv dg15, iv dg16, iv dg17, iv dg18, rv b19, rv b23, rv b26, rv b30, oU, oU, oU, oU, oU, oU, oU, oU]) rfl (XS.iconst Y33.here hx rfl (hb hby at_210) k)) ?_
      obtain ⟨T34, h34, k34, X34, e34, E34, A34, st34⟩ := newP Y33 hx hZ (own_W hw 7 rfl) e33 (g := (mkF m 211 #[iv i0, iv i1, iv i2, iv i3, iv z1, iv z4, iv kd, iv dg7, iv dg8, iv dg9, iv dg10, iv dg11, iv dg12, iv dg13, iv dg14, iv dg15, iv dg16, iv dg17, iv dg18, rv b19, rv b23, rv b26, rv b30, oU, oU, oU, oU, oU, oU, oU, oU] [(.int 2)])) rfl (hb hby at_211) rfl (by decide) (cap := 2) (by decide) (by decide) (by decide) (by decide)
      clear Y33 e33
      obtain ⟨b34, g34⟩ : ∃ z, z = h33.size := ⟨_, rfl⟩
      rw [← g34] at A34 st34
      replace ne_b19_b34 : b19 ≠ b34 := Nat.ne_of_lt (Nat.lt_of_lt_of_le V_b19.lt (Nat.le_of_eq g34.symm))
      replace ne_b23_b34 : b23 ≠ b34 := Nat.ne_of_lt (Nat.lt_of_lt_of_le V_b23.lt (Nat.le_of_eq g34.symm))
      replace ne_b26_b34 : b26 ≠ b34 := Nat.ne_of_lt (Nat.lt_of_lt_of_le V_b26.lt (Nat.le_of_eq g34.symm))
      replace ne_b30_b34 : b30 ≠ b34 := Nat.ne_of_lt (Nat.lt_of_lt_of_le V_b30.lt (Nat.le_of_eq g34.symm))
      replace g_b34 : n0 ≤ b34 := Nat.le_trans Zs (Nat.le_of_eq g34.symm)
      replace OL := OL.ext E34
      replace V_b19 := V_b19.ext E34
      replace V_b23 := V_b23.ext E34
      replace V_b26 := V_b26.ext E34
      replace V_b30 := V_b30.ext E34
      replace Zs := Nat.le_trans Zs E34.1
      clear E34
      replace V_b34 : Arv Z h34 b34 k34 .char (2 : Int32) [(.int 0), (.int 0)] (.int 0) := (Arv.new A34 (by decide)).pad (pad_rep [] (.int 0) 2)
      clear A34
      refine own_go (T' := T34) (g' := (mkF m 213 #[iv i0, iv i1, iv i2, iv i3, iv z1, iv z4, iv kd, iv dg7, iv dg8, iv dg9, iv dg10, iv dg11, iv dg12, iv dg13, iv dg14, iv dg15, iv dg16, iv dg17, iv dg18, rv b19, rv b23, rv b26, rv b30, oU, oU, oU, oU, oU, oU, oU, oU] [(.ref b34)])) (fun _ k => st34 _ k) ?_
      clear st34
      refine own_p (g' := (mkF m 217 #[iv i0, iv i1, iv i2, iv i3, iv z1, iv z4, iv kd, iv dg7, iv dg8, iv dg9, iv dg10, iv dg11, iv dg12, iv dg13, iv dg14, iv dg15, iv dg16, iv dg17, iv dg18, rv b19, rv b23, rv b26, rv b30, oU, oU, oU, oU, oU, oU, oU, oU] [(.int dg16), (.int 0), (.ref b34), (.ref b34)])) (fun _ k => XS.dup X34.here hx rfl (hb hby at_213) rfl rfl (XS.iconst X34.here hx rfl (hb hby at_214) (XS.iload X34.here hx rfl (hb hby at_215) rfl k))) ?_
      obtain ⟨c_35, Ar_35, q_35, S_35, N_35, H_35, G_35⟩ := id V_b34
      replace hin_35 : ¬ ((0 : Int32) < 0 ∨ c_35.slots.size ≤ ((0 : Int32)).toNatClampNeg) := inb_of S_35 ⟨by decide, by decide⟩
      obtain ⟨T35, h35, X35, e35, W35, st35⟩ := stC X34 hx hZ e34 Ar_35 (j := (0 : Int32)) hin_35 (g := (mkF m 217 #[iv i0, iv i1, iv i2, iv i3, iv z1, iv z4, iv kd, iv dg7, iv dg8, iv dg9, iv dg10, iv dg11, iv dg12, iv dg13, iv dg14, iv dg15, iv dg16, iv dg17, iv dg18, rv b19, rv b23, rv b26, rv b30, oU, oU, oU, oU, oU, oU, oU, oU] [(.int dg16), (.int 0), (.ref b34), (.ref b34)])) rfl rfl (hb hby at_217)
      clear X34 e34 hin_35
      replace OL := OL.wr W35 g_b34
      replace V_b19 := V_b19.other W35 ne_b19_b34
      replace V_b23 := V_b23.other W35 ne_b23_b34
      replace V_b26 := V_b26.other W35 ne_b26_b34
      replace V_b30 := V_b30.other W35 ne_b30_b34
      replace Zs := Nat.le_trans Zs (Keep.of_wr W35).1
      replace V_b34 := Arv.set Ar_35 q_35 S_35 N_35 H_35 G_35 (fits_nar_char _) W35 0 rfl (Nat.le_of_ble_eq_true rfl)
      clear Ar_35 G_35 H_35 N_35 S_35 W35 q_35
      replace NF := Fr.snoc X35 NF g_b34
      obtain ⟨lc35, Y35, NG35⟩ := own_lo X35 NF
      clear X35
      replace NF := NG35
      clear NG35
      refine own_go (T' := T35) (g' := (mkF m 218 #[iv i0, iv i1, iv i2, iv i3, iv z1, iv z4, iv kd, iv dg7, iv dg8, iv dg9, iv dg10, iv dg11, iv dg12, iv dg13, iv dg14, iv dg15, iv dg16, iv dg17, iv dg18, rv b19, rv b23, rv b26, rv b30, oU, oU, oU, oU, oU, oU, oU, oU] [(.ref b34)])) (fun _ k => st35 _ k) ?_
      clear st35
      refine own_p (g' := (mkF m 222 #[iv i0, iv i1, iv i2, iv i3, iv z1, iv z4, iv kd, iv dg7, iv dg8, iv dg9, iv dg10, iv dg11, iv dg12, iv dg13, iv dg14, iv dg15, iv dg16, iv dg17, iv dg18, rv b19, rv b23, rv b26, rv b30, oU, oU, oU, oU, oU, oU, oU, oU] [(.int dg17), (.int 1), (.ref b34), (.ref b34)])) (fun _ k => XS.dup Y35.here hx rfl (hb hby at_218) rfl rfl (XS.iconst Y35.here hx rfl (hb hby at_219) (XS.iload Y35.here hx rfl (hb hby at_220) rfl k))) ?_
      obtain ⟨c_36, Ar_36, q_36, S_36, N_36, H_36, G_36⟩ := id V_b34
      replace hin_36 : ¬ ((1 : Int32) < 0 ∨ c_36.slots.size ≤ ((1 : Int32)).toNatClampNeg) := inb_of S_36 ⟨by decide, by decide⟩
      obtain ⟨T36, h36, X36, e36, W36, st36⟩ := stC Y35 hx hZ e35 Ar_36 (j := (1 : Int32)) hin_36 (g := (mkF m 222 #[iv i0, iv i1, iv i2, iv i3, iv z1, iv z4, iv kd, iv dg7, iv dg8, iv dg9, iv dg10, iv dg11, iv dg12, iv dg13, iv dg14, iv dg15, iv dg16, iv dg17, iv dg18, rv b19, rv b23, rv b26, rv b30, oU, oU, oU, oU, oU, oU, oU, oU] [(.int dg17), (.int 1), (.ref b34), (.ref b34)])) rfl rfl (hb hby at_222)
      clear Y35 e35 hin_36
      replace OL := OL.wr W36 g_b34
      replace V_b19 := V_b19.other W36 ne_b19_b34
      clear ne_b19_b34
      replace V_b23 := V_b23.other W36 ne_b23_b34
      clear ne_b23_b34
      replace V_b26 := V_b26.other W36 ne_b26_b34
      clear ne_b26_b34
      replace V_b30 := V_b30.other W36 ne_b30_b34
      clear ne_b30_b34
      replace Zs := Nat.le_trans Zs (Keep.of_wr W36).1
      replace V_b34 := Arv.set Ar_36 q_36 S_36 N_36 H_36 G_36 (fits_nar_char _) W36 1 rfl (Nat.le_of_ble_eq_true rfl)
      clear Ar_36 G_36 H_36 N_36 S_36 W36 q_36
      replace NF := Fr.snoc X36 NF g_b34
      clear g_b34
      obtain ⟨lc36, Y36, NG36⟩ := own_lo X36 NF
      clear X36
      replace NF := NG36
      clear NG36
      refine own_go (T' := T36) (g' := (mkF m 223 #[iv i0, iv i1, iv i2, iv i3, iv z1, iv z4, iv kd, iv dg7, iv dg8, iv dg9, iv dg10, iv dg11, iv dg12, iv dg13, iv dg14, iv dg15, iv dg16, iv dg17, iv dg18, rv b19, rv b23, rv b26, rv b30, oU, oU, oU, oU, oU, oU, oU, oU] [(.ref b34)])) (fun _ k => st36 _ k) ?_
      clear st36
      refine own_p (g' := (mkF m 226 #[iv i0, iv i1, iv i2, iv i3, iv z1, iv z4, iv kd, iv dg7, iv dg8, iv dg9, iv dg10, iv dg11, iv dg12, iv dg13, iv dg14, iv dg15, iv dg16, iv dg17, iv dg18, rv b19, rv b23, rv b26, rv b30, rv b34, oU, oU, oU, oU, oU, oU, oU] [(.int 3)])) (fun _ k => XS.astore Y36.here hx rfl (hb hby at_223) rfl rfl (l' := #[iv i0, iv i1, iv i2, iv i3, iv z1, iv z4, iv kd, iv dg7, iv dg8, iv dg9, iv dg10, iv dg11, iv dg12, iv dg13, iv dg14, iv dg15, iv dg16, iv dg17, iv dg18, rv b19, rv b23, rv b26, rv b30, rv b34, oU, oU, oU, oU, oU, oU, oU]) rfl (XS.iconst Y36.here hx rfl (hb hby at_225) k)) ?_
      obtain ⟨T37, h37, k37, X37, e37, E37, A37, st37⟩ := newP Y36 hx hZ (own_W hw 7 rfl) e36 (g := (mkF m 226 #[iv i0, iv i1, iv i2, iv i3, iv z1, iv z4, iv kd, iv dg7, iv dg8, iv dg9, iv dg10, iv dg11, iv dg12, iv dg13, iv dg14, iv dg15, iv dg16, iv dg17, iv dg18, rv b19, rv b23, rv b26, rv b30, rv b34, oU, oU, oU, oU, oU, oU, oU] [(.int 3)])) rfl (hb hby at_226) rfl (by decide) (cap := 3) (by decide) (by decide) (by decide) (by decide)
      clear Y36 e36
      obtain ⟨b37, g37⟩ : ∃ z, z = h36.size := ⟨_, rfl⟩
      rw [← g37] at A37 st37
      replace ne_b19_b37 : b19 ≠ b37 := Nat.ne_of_lt (Nat.lt_of_lt_of_le V_b19.lt (Nat.le_of_eq g37.symm))
      replace ne_b23_b37 : b23 ≠ b37 := Nat.ne_of_lt (Nat.lt_of_lt_of_le V_b23.lt (Nat.le_of_eq g37.symm))
      replace ne_b26_b37 : b26 ≠ b37 := Nat.ne_of_lt (Nat.lt_of_lt_of_le V_b26.lt (Nat.le_of_eq g37.symm))
      replace ne_b30_b37 : b30 ≠ b37 := Nat.ne_of_lt (Nat.lt_of_lt_of_le V_b30.lt (Nat.le_of_eq g37.symm))
      replace ne_b34_b37 : b34 ≠ b37 := Nat.ne_of_lt (Nat.lt_of_lt_of_le V_b34.lt (Nat.le_of_eq g37.symm))
      replace g_b37 : n0 ≤ b37 := Nat.le_trans Zs (Nat.le_of_eq g37.symm)
      replace OL := OL.ext E37
      replace V_b19 := V_b19.ext E37
      replace V_b23 := V_b23.ext E37
      replace V_b26 := V_b26.ext E37
      replace V_b30 := V_b30.ext E37
      replace V_b34 := V_b34.ext E37
      replace Zs := Nat.le_trans Zs E37.1
      clear E37
      replace V_b37 : Arv Z h37 b37 k37 .char (3 : Int32) [(.int 0), (.int 0), (.int 0)] (.int 0) := (Arv.new A37 (by decide)).pad (pad_rep [] (.int 0) 3)
      clear A37
      refine own_go (T' := T37) (g' := (mkF m 228 #[iv i0, iv i1, iv i2, iv i3, iv z1, iv z4, iv kd, iv dg7, iv dg8, iv dg9, iv dg10, iv dg11, iv dg12, iv dg13, iv dg14, iv dg15, iv dg16, iv dg17, iv dg18, rv b19, rv b23, rv b26, rv b30, rv b34, oU, oU, oU, oU, oU, oU, oU] [(.ref b37)])) (fun _ k => st37 _ k) ?_
      clear st37
      refine own_p (g' := (mkF m 232 #[iv i0, iv i1, iv i2, iv i3, iv z1, iv z4, iv kd, iv dg7, iv dg8, iv dg9, iv dg10, iv dg11, iv dg12, iv dg13, iv dg14, iv dg15, iv dg16, iv dg17, iv dg18, rv b19, rv b23, rv b26, rv b30, rv b34, oU, oU, oU, oU, oU, oU, oU] [(.int dg16), (.int 0), (.ref b37), (.ref b37)])) (fun _ k => XS.dup X37.here hx rfl (hb hby at_228) rfl rfl (XS.iconst X37.here hx rfl (hb hby at_229) (XS.iload X37.here hx rfl (hb hby at_230) rfl k))) ?_
      obtain ⟨c_38, Ar_38, q_38, S_38, N_38, H_38, G_38⟩ := id V_b37
      replace hin_38 : ¬ ((0 : Int32) < 0 ∨ c_38.slots.size ≤ ((0 : Int32)).toNatClampNeg) := inb_of S_38 ⟨by decide, by decide⟩
      obtain ⟨T38, h38, X38, e38, W38, st38⟩ := stC X37 hx hZ e37 Ar_38 (j := (0 : Int32)) hin_38 (g := (mkF m 232 #[iv i0, iv i1, iv i2, iv i3, iv z1, iv z4, iv kd, iv dg7, iv dg8, iv dg9, iv dg10, iv dg11, iv dg12, iv dg13, iv dg14, iv dg15, iv dg16, iv dg17, iv dg18, rv b19, rv b23, rv b26, rv b30, rv b34, oU, oU, oU, oU, oU, oU, oU] [(.int dg16), (.int 0), (.ref b37), (.ref b37)])) rfl rfl (hb hby at_232)
      clear X37 e37 hin_38
      replace OL := OL.wr W38 g_b37
      replace V_b19 := V_b19.other W38 ne_b19_b37
      replace V_b23 := V_b23.other W38 ne_b23_b37
      replace V_b26 := V_b26.other W38 ne_b26_b37
      replace V_b30 := V_b30.other W38 ne_b30_b37
      replace V_b34 := V_b34.other W38 ne_b34_b37
      replace Zs := Nat.le_trans Zs (Keep.of_wr W38).1
      replace V_b37 := Arv.set Ar_38 q_38 S_38 N_38 H_38 G_38 (fits_nar_char _) W38 0 rfl (Nat.le_of_ble_eq_true rfl)
      clear Ar_38 G_38 H_38 N_38 S_38 W38 q_38
      replace NF := Fr.snoc X38 NF g_b37
      obtain ⟨lc38, Y38, NG38⟩ := own_lo X38 NF
      clear X38
      replace NF := NG38
      clear NG38
      refine own_go (T' := T38) (g' := (mkF m 233 #[iv i0, iv i1, iv i2, iv i3, iv z1, iv z4, iv kd, iv dg7, iv dg8, iv dg9, iv dg10, iv dg11, iv dg12, iv dg13, iv dg14, iv dg15, iv dg16, iv dg17, iv dg18, rv b19, rv b23, rv b26, rv b30, rv b34, oU, oU, oU, oU, oU, oU, oU] [(.ref b37)])) (fun _ k => st38 _ k) ?_
      clear st38
      refine own_p (g' := (mkF m 237 #[iv i0, iv i1, iv i2, iv i3, iv z1, iv z4, iv kd, iv dg7, iv dg8, iv dg9, iv dg10, iv dg11, iv dg12, iv dg13, iv dg14, iv dg15, iv dg16, iv dg17, iv dg18, rv b19, rv b23, rv b26, rv b30, rv b34, oU, oU, oU, oU, oU, oU, oU] [(.int dg17), (.int 1), (.ref b37), (.ref b37)])) (fun _ k => XS.dup Y38.here hx rfl (hb hby at_233) rfl rfl (XS.iconst Y38.here hx rfl (hb hby at_234) (XS.iload Y38.here hx rfl (hb hby at_235) rfl k))) ?_
      obtain ⟨c_39, Ar_39, q_39, S_39, N_39, H_39, G_39⟩ := id V_b37
      replace hin_39 : ¬ ((1 : Int32) < 0 ∨ c_39.slots.size ≤ ((1 : Int32)).toNatClampNeg) := inb_of S_39 ⟨by decide, by decide⟩
      obtain ⟨T39, h39, X39, e39, W39, st39⟩ := stC Y38 hx hZ e38 Ar_39 (j := (1 : Int32)) hin_39 (g := (mkF m 237 #[iv i0, iv i1, iv i2, iv i3, iv z1, iv z4, iv kd, iv dg7, iv dg8, iv dg9, iv dg10, iv dg11, iv dg12, iv dg13, iv dg14, iv dg15, iv dg16, iv dg17, iv dg18, rv b19, rv b23, rv b26, rv b30, rv b34, oU, oU, oU, oU, oU, oU, oU] [(.int dg17), (.int 1), (.ref b37), (.ref b37)])) rfl rfl (hb hby at_237)
      clear Y38 e38 hin_39
      replace OL := OL.wr W39 g_b37
      replace V_b19 := V_b19.other W39 ne_b19_b37
      replace V_b23 := V_b23.other W39 ne_b23_b37
      replace V_b26 := V_b26.other W39 ne_b26_b37
      replace V_b30 := V_b30.other W39 ne_b30_b37
      replace V_b34 := V_b34.other W39 ne_b34_b37
      replace Zs := Nat.le_trans Zs (Keep.of_wr W39).1
      replace V_b37 := Arv.set Ar_39 q_39 S_39 N_39 H_39 G_39 (fits_nar_char _) W39 1 rfl (Nat.le_of_ble_eq_true rfl)
      clear Ar_39 G_39 H_39 N_39 S_39 W39 q_39
      replace NF := Fr.snoc X39 NF g_b37
      obtain ⟨lc39, Y39, NG39⟩ := own_lo X39 NF
      clear X39
      replace NF := NG39
      clear NG39
      refine own_go (T' := T39) (g' := (mkF m 238 #[iv i0, iv i1, iv i2, iv i3, iv z1, iv z4, iv kd, iv dg7, iv dg8, iv dg9, iv dg10, iv dg11, iv dg12, iv dg13, iv dg14, iv dg15, iv dg16, iv dg17, iv dg18, rv b19, rv b23, rv b26, rv b30, rv b34, oU, oU, oU, oU, oU, oU, oU] [(.ref b37)])) (fun _ k => st39 _ k) ?_
      clear st39
      refine own_p (g' := (mkF m 242 #[iv i0, iv i1, iv i2, iv i3, iv z1, iv z4, iv kd, iv dg7, iv dg8, iv dg9, iv dg10, iv dg11, iv dg12, iv dg13, iv dg14, iv dg15, iv dg16, iv dg17, iv dg18, rv b19, rv b23, rv b26, rv b30, rv b34, oU, oU, oU, oU, oU, oU, oU] [(.int dg18), (.int 2), (.ref b37), (.ref b37)])) (fun _ k => XS.dup Y39.here hx rfl (hb hby at_238) rfl rfl (XS.iconst Y39.here hx rfl (hb hby at_239) (XS.iload Y39.here hx rfl (hb hby at_240) rfl k))) ?_
      obtain ⟨c_40, Ar_40, q_40, S_40, N_40, H_40, G_40⟩ := id V_b37
      replace hin_40 : ¬ ((2 : Int32) < 0 ∨ c_40.slots.size ≤ ((2 : Int32)).toNatClampNeg) := inb_of S_40 ⟨by decide, by decide⟩
      obtain ⟨T40, h40, X40, e40, W40, st40⟩ := stC Y39 hx hZ e39 Ar_40 (j := (2 : Int32)) hin_40 (g := (mkF m 242 #[iv i0, iv i1, iv i2, iv i3, iv z1, iv z4, iv kd, iv dg7, iv dg8, iv dg9, iv dg10, iv dg11, iv dg12, iv dg13, iv dg14, iv dg15, iv dg16, iv dg17, iv dg18, rv b19, rv b23, rv b26, rv b30, rv b34, oU, oU, oU, oU, oU, oU, oU] [(.int dg18), (.int 2), (.ref b37), (.ref b37)])) rfl rfl (hb hby at_242)
      clear Y39 e39 hin_40
      replace OL := OL.wr W40 g_b37
      replace V_b19 := V_b19.other W40 ne_b19_b37
      clear ne_b19_b37
      replace V_b23 := V_b23.other W40 ne_b23_b37
      clear ne_b23_b37
      replace V_b26 := V_b26.other W40 ne_b26_b37
      clear ne_b26_b37
      replace V_b30 := V_b30.other W40 ne_b30_b37
      clear ne_b30_b37
      replace V_b34 := V_b34.other W40 ne_b34_b37
      clear ne_b34_b37
      replace Zs := Nat.le_trans Zs (Keep.of_wr W40).1
      replace V_b37 := Arv.set Ar_40 q_40 S_40 N_40 H_40 G_40 (fits_nar_char _) W40 2 rfl (Nat.le_of_ble_eq_true rfl)
      clear Ar_40 G_40 H_40 N_40 S_40 W40 q_40
      replace NF := Fr.snoc X40 NF g_b37
      clear g_b37
      obtain ⟨lc40, Y40, NG40⟩ := own_lo X40 NF
      clear X40
      replace NF := NG40
      clear NG40
      refine own_go (T' := T40) (g' := (mkF m 243 #[iv i0, iv i1, iv i2, iv i3, iv z1, iv z4, iv kd, iv dg7, iv dg8, iv dg9, iv dg10, iv dg11, iv dg12, iv dg13, iv dg14, iv dg15, iv dg16, iv dg17, iv dg18, rv b19, rv b23, rv b26, rv b30, rv b34, oU, oU, oU, oU, oU, oU, oU] [(.ref b37)])) (fun _ k => st40 _ k) ?_
      clear st40
      refine own_p (g' := (mkF m 246 #[iv i0, iv i1, iv i2, iv i3, iv z1, iv z4, iv kd, iv dg7, iv dg8, iv dg9, iv dg10, iv dg11, iv dg12, iv dg13, iv dg14, iv dg15, iv dg16, iv dg17, iv dg18, rv b19, rv b23, rv b26, rv b30, rv b34, rv b37, oU, oU, oU, oU, oU, oU] [(.int 5)])) (fun _ k => XS.astore Y40.here hx rfl (hb hby at_243) rfl rfl (l' := #[iv i0, iv i1, iv i2, iv i3, iv z1, iv z4, iv kd, iv dg7, iv dg8, iv dg9, iv dg10, iv dg11, iv dg12, iv dg13, iv dg14, iv dg15, iv dg16, iv dg17, iv dg18, rv b19, rv b23, rv b26, rv b30, rv b34, rv b37, oU, oU, oU, oU, oU, oU]) rfl (XS.iconst Y40.here hx rfl (hb hby at_245) k)) ?_
      obtain ⟨T41, h41, k41, X41, e41, E41, A41, st41⟩ := newP Y40 hx hZ (own_W hw 7 rfl) e40 (g := (mkF m 246 #[iv i0, iv i1, iv i2, iv i3, iv z1, iv z4, iv kd, iv dg7, iv dg8, iv dg9, iv dg10, iv dg11, iv dg12, iv dg13, iv dg14, iv dg15, iv dg16, iv dg17, iv dg18, rv b19, rv b23, rv b26, rv b30, rv b34, rv b37, oU, oU, oU, oU, oU, oU] [(.int 5)])) rfl (hb hby at_246) rfl (by decide) (cap := 5) (by decide) (by decide) (by decide) (by decide)
      clear Y40 e40
      obtain ⟨b41, g41⟩ : ∃ z, z = h40.size := ⟨_, rfl⟩
      rw [← g41] at A41 st41
      replace ne_b19_b41 : b19 ≠ b41 := Nat.ne_of_lt (Nat.lt_of_lt_of_le V_b19.lt (Nat.le_of_eq g41.symm))
      replace ne_b23_b41 : b23 ≠ b41 := Nat.ne_of_lt (Nat.lt_of_lt_of_le V_b23.lt (Nat.le_of_eq g41.symm))
      replace ne_b26_b41 : b26 ≠ b41 := Nat.ne_of_lt (Nat.lt_of_lt_of_le V_b26.lt (Nat.le_of_eq g41.symm))
      replace ne_b30_b41 : b30 ≠ b41 := Nat.ne_of_lt (Nat.lt_of_lt_of_le V_b30.lt (Nat.le_of_eq g41.symm))
      replace ne_b34_b41 : b34 ≠ b41 := Nat.ne_of_lt (Nat.lt_of_lt_of_le V_b34.lt (Nat.le_of_eq g41.symm))
      replace ne_b37_b41 : b37 ≠ b41 := Nat.ne_of_lt (Nat.lt_of_lt_of_le V_b37.lt (Nat.le_of_eq g41.symm))
      replace g_b41 : n0 ≤ b41 := Nat.le_trans Zs (Nat.le_of_eq g41.symm)
      replace OL := OL.ext E41
      replace V_b19 := V_b19.ext E41
      replace V_b23 := V_b23.ext E41
      replace V_b26 := V_b26.ext E41
      replace V_b30 := V_b30.ext E41
      replace V_b34 := V_b34.ext E41
      replace V_b37 := V_b37.ext E41
      replace Zs := Nat.le_trans Zs E41.1
      clear E41
      replace V_b41 : Arv Z h41 b41 k41 .char (5 : Int32) [(.int 0), (.int 0), (.int 0), (.int 0), (.int 0)] (.int 0) := (Arv.new A41 (by decide)).pad (pad_rep [] (.int 0) 5)
      clear A41
      refine own_go (T' := T41) (g' := (mkF m 248 #[iv i0, iv i1, iv i2, iv i3, iv z1, iv z4, iv kd, iv dg7, iv dg8, iv dg9, iv dg10, iv dg11, iv dg12, iv dg13, iv dg14, iv dg15, iv dg16, iv dg17, iv dg18, rv b19, rv b23, rv b26, rv b30, rv b34, rv b37, oU, oU, oU, oU, oU, oU] [(.ref b41)])) (fun _ k => st41 _ k) ?_
      clear st41
      refine own_p (g' := (mkF m 252 #[iv i0, iv i1, iv i2, iv i3, iv z1, iv z4, iv kd, iv dg7, iv dg8, iv dg9, iv dg10, iv dg11, iv dg12, iv dg13, iv dg14, iv dg15, iv dg16, iv dg17, iv dg18, rv b19, rv b23, rv b26, rv b30, rv b34, rv b37, oU, oU, oU, oU, oU, oU] [(.int dg7), (.int 0), (.ref b41), (.ref b41)])) (fun _ k => XS.dup X41.here hx rfl (hb hby at_248) rfl rfl (XS.iconst X41.here hx rfl (hb hby at_249) (XS.iload X41.here hx rfl (hb hby at_250) rfl k))) ?_
      obtain ⟨c_42, Ar_42, q_42, S_42, N_42, H_42, G_42⟩ := id V_b41
      replace hin_42 : ¬ ((0 : Int32) < 0 ∨ c_42.slots.size ≤ ((0 : Int32)).toNatClampNeg) := inb_of S_42 ⟨by decide, by decide⟩
      obtain ⟨T42, h42, X42, e42, W42, st42⟩ := stC X41 hx hZ e41 Ar_42 (j := (0 : Int32)) hin_42 (g := (mkF m 252 #[iv i0, iv i1, iv i2, iv i3, iv z1, iv z4, iv kd, iv dg7, iv dg8, iv dg9, iv dg10, iv dg11, iv dg12, iv dg13, iv dg14, iv dg15, iv dg16, iv dg17, iv dg18, rv b19, rv b23, rv b26, rv b30, rv b34, rv b37, oU, oU, oU, oU, oU, oU] [(.int dg7), (.int 0), (.ref b41), (.ref b41)])) rfl rfl (hb hby at_252)
      clear X41 e41 hin_42
      replace OL := OL.wr W42 g_b41
      replace V_b19 := V_b19.other W42 ne_b19_b41
      replace V_b23 := V_b23.other W42 ne_b23_b41
      replace V_b26 := V_b26.other W42 ne_b26_b41
      replace V_b30 := V_b30.other W42 ne_b30_b41
      replace V_b34 := V_b34.other W42 ne_b34_b41
      replace V_b37 := V_b37.other W42 ne_b37_b41
      replace Zs := Nat.le_trans Zs (Keep.of_wr W42).1
      replace V_b41 := Arv.set Ar_42 q_42 S_42 N_42 H_42 G_42 (fits_nar_char _) W42 0 rfl (Nat.le_of_ble_eq_true rfl)
      clear Ar_42 G_42 H_42 N_42 S_42 W42 q_42
      replace NF := Fr.snoc X42 NF g_b41
      obtain ⟨lc42, Y42, NG42⟩ := own_lo X42 NF
      clear X42
      replace NF := NG42
      clear NG42
      refine own_go (T' := T42) (g' := (mkF m 253 #[iv i0, iv i1, iv i2, iv i3, iv z1, iv z4, iv kd, iv dg7, iv dg8, iv dg9, iv dg10, iv dg11, iv dg12, iv dg13, iv dg14, iv dg15, iv dg16, iv dg17, iv dg18, rv b19, rv b23, rv b26, rv b30, rv b34, rv b37, oU, oU, oU, oU, oU, oU] [(.ref b41)])) (fun _ k => st42 _ k) ?_
      clear st42
      refine own_p (g' := (mkF m 257 #[iv i0, iv i1, iv i2, iv i3, iv z1, iv z4, iv kd, iv dg7, iv dg8, iv dg9, iv dg10, iv dg11, iv dg12, iv dg13, iv dg14, iv dg15, iv dg16, iv dg17, iv dg18, rv b19, rv b23, rv b26, rv b30, rv b34, rv b37, oU, oU, oU, oU, oU, oU] [(.int dg8), (.int 1), (.ref b41), (.ref b41)])) (fun _ k => XS.dup Y42.here hx rfl (hb hby at_253) rfl rfl (XS.iconst Y42.here hx rfl (hb hby at_254) (XS.iload Y42.here hx rfl (hb hby at_255) rfl k))) ?_
      obtain ⟨c_43, Ar_43, q_43, S_43, N_43, H_43, G_43⟩ := id V_b41
      replace hin_43 : ¬ ((1 : Int32) < 0 ∨ c_43.slots.size ≤ ((1 : Int32)).toNatClampNeg) := inb_of S_43 ⟨by decide, by decide⟩
      obtain ⟨T43, h43, X43, e43, W43, st43⟩ := stC Y42 hx hZ e42 Ar_43 (j := (1 : Int32)) hin_43 (g := (mkF m 257 #[iv i0, iv i1, iv i2, iv i3, iv z1, iv z4, iv kd, iv dg7, iv dg8, iv dg9, iv dg10, iv dg11, iv dg12, iv dg13, iv dg14, iv dg15, iv dg16, iv dg17, iv dg18, rv b19, rv b23, rv b26, rv b30, rv b34, rv b37, oU, oU, oU, oU, oU, oU] [(.int dg8), (.int 1), (.ref b41), (.ref b41)])) rfl rfl (hb hby at_257)
      clear Y42 e42 hin_43
      replace OL := OL.wr W43 g_b41
      replace V_b19 := V_b19.other W43 ne_b19_b41
      replace V_b23 := V_b23.other W43 ne_b23_b41
      replace V_b26 := V_b26.other W43 ne_b26_b41
      replace V_b30 := V_b30.other W43 ne_b30_b41
      replace V_b34 := V_b34.other W43 ne_b34_b41
      replace V_b37 := V_b37.other W43 ne_b37_b41
      replace Zs := Nat.le_trans Zs (Keep.of_wr W43).1
      replace V_b41 := Arv.set Ar_43 q_43 S_43 N_43 H_43 G_43 (fits_nar_char _) W43 1 rfl (Nat.le_of_ble_eq_true rfl)
      clear Ar_43 G_43 H_43 N_43 S_43 W43 q_43
      replace NF := Fr.snoc X43 NF g_b41
      obtain ⟨lc43, Y43, NG43⟩ := own_lo X43 NF
      clear X43
      replace NF := NG43
      clear NG43
      refine own_go (T' := T43) (g' := (mkF m 258 #[iv i0, iv i1, iv i2, iv i3, iv z1, iv z4, iv kd, iv dg7, iv dg8, iv dg9, iv dg10, iv dg11, iv dg12, iv dg13, iv dg14, iv dg15, iv dg16, iv dg17, iv dg18, rv b19, rv b23, rv b26, rv b30, rv b34, rv b37, oU, oU, oU, oU, oU, oU] [(.ref b41)])) (fun _ k => st43 _ k) ?_
      clear st43
      refine own_p (g' := (mkF m 262 #[iv i0, iv i1, iv i2, iv i3, iv z1, iv z4, iv kd, iv dg7, iv dg8, iv dg9, iv dg10, iv dg11, iv dg12, iv dg13, iv dg14, iv dg15, iv dg16, iv dg17, iv dg18, rv b19, rv b23, rv b26, rv b30, rv b34, rv b37, oU, oU, oU, oU, oU, oU] [(.int dg9), (.int 2), (.ref b41), (.ref b41)])) (fun _ k => XS.dup Y43.here hx rfl (hb hby at_258) rfl rfl (XS.iconst Y43.here hx rfl (hb hby at_259) (XS.iload Y43.here hx rfl (hb hby at_260) rfl k))) ?_
      obtain ⟨c_44, Ar_44, q_44, S_44, N_44, H_44, G_44⟩ := id V_b41
      replace hin_44 : ¬ ((2 : Int32) < 0 ∨ c_44.slots.size ≤ ((2 : Int32)).toNatClampNeg) := inb_of S_44 ⟨by decide, by decide⟩
      obtain ⟨T44, h44, X44, e44, W44, st44⟩ := stC Y43 hx hZ e43 Ar_44 (j := (2 : Int32)) hin_44 (g := (mkF m 262 #[iv i0, iv i1, iv i2, iv i3, iv z1, iv z4, iv kd, iv dg7, iv dg8, iv dg9, iv dg10, iv dg11, iv dg12, iv dg13, iv dg14, iv dg15, iv dg16, iv dg17, iv dg18, rv b19, rv b23, rv b26, rv b30, rv b34, rv b37, oU, oU, oU, oU, oU, oU] [(.int dg9), (.int 2), (.ref b41), (.ref b41)])) rfl rfl (hb hby at_262)
      clear Y43 e43 hin_44
      replace OL := OL.wr W44 g_b41
      replace V_b19 := V_b19.other W44 ne_b19_b41
      replace V_b23 := V_b23.other W44 ne_b23_b41
      replace V_b26 := V_b26.other W44 ne_b26_b41
      replace V_b30 := V_b30.other W44 ne_b30_b41
      replace V_b34 := V_b34.other W44 ne_b34_b41
      replace V_b37 := V_b37.other W44 ne_b37_b41
      replace Zs := Nat.le_trans Zs (Keep.of_wr W44).1
      replace V_b41 := Arv.set Ar_44 q_44 S_44 N_44 H_44 G_44 (fits_nar_char _) W44 2 rfl (Nat.le_of_ble_eq_true rfl)
      clear Ar_44 G_44 H_44 N_44 S_44 W44 q_44
      replace NF := Fr.snoc X44 NF g_b41
      obtain ⟨lc44, Y44, NG44⟩ := own_lo X44 NF
      clear X44
      replace NF := NG44
      clear NG44
      refine own_go (T' := T44) (g' := (mkF m 263 #[iv i0, iv i1, iv i2, iv i3, iv z1, iv z4, iv kd, iv dg7, iv dg8, iv dg9, iv dg10, iv dg11, iv dg12, iv dg13, iv dg14, iv dg15, iv dg16, iv dg17, iv dg18, rv b19, rv b23, rv b26, rv b30, rv b34, rv b37, oU, oU, oU, oU, oU, oU] [(.ref b41)])) (fun _ k => st44 _ k) ?_
      clear st44
      refine own_p (g' := (mkF m 267 #[iv i0, iv i1, iv i2, iv i3, iv z1, iv z4, iv kd, iv dg7, iv dg8, iv dg9, iv dg10, iv dg11, iv dg12, iv dg13, iv dg14, iv dg15, iv dg16, iv dg17, iv dg18, rv b19, rv b23, rv b26, rv b30, rv b34, rv b37, oU, oU, oU, oU, oU, oU] [(.int dg10), (.int 3), (.ref b41), (.ref b41)])) (fun _ k => XS.dup Y44.here hx rfl (hb hby at_263) rfl rfl (XS.iconst Y44.here hx rfl (hb hby at_264) (XS.iload Y44.here hx rfl (hb hby at_265) rfl k))) ?_
      obtain ⟨c_45, Ar_45, q_45, S_45, N_45, H_45, G_45⟩ := id V_b41
      replace hin_45 : ¬ ((3 : Int32) < 0 ∨ c_45.slots.size ≤ ((3 : Int32)).toNatClampNeg) := inb_of S_45 ⟨by decide, by decide⟩
      obtain ⟨T45, h45, X45, e45, W45, st45⟩ := stC Y44 hx hZ e44 Ar_45 (j := (3 : Int32)) hin_45 (g := (mkF m 267 #[iv i0, iv i1, iv i2, iv i3, iv z1, iv z4, iv kd, iv dg7, iv dg8, iv dg9, iv dg10, iv dg11, iv dg12, iv dg13, iv dg14, iv dg15, iv dg16, iv dg17, iv dg18, rv b19, rv b23, rv b26, rv b30, rv b34, rv b37, oU, oU, oU, oU, oU, oU] [(.int dg10), (.int 3), (.ref b41), (.ref b41)])) rfl rfl (hb hby at_267)
      clear Y44 e44 hin_45
      replace OL := OL.wr W45 g_b41
      replace V_b19 := V_b19.other W45 ne_b19_b41
      replace V_b23 := V_b23.other W45 ne_b23_b41
      replace V_b26 := V_b26.other W45 ne_b26_b41
      replace V_b30 := V_b30.other W45 ne_b30_b41
      replace V_b34 := V_b34.other W45 ne_b34_b41
      replace V_b37 := V_b37.other W45 ne_b37_b41
      replace Zs := Nat.le_trans Zs (Keep.of_wr W45).1
      replace V_b41 := Arv.set Ar_45 q_45 S_45 N_45 H_45 G_45 (fits_nar_char _) W45 3 rfl (Nat.le_of_ble_eq_true rfl)
      clear Ar_45 G_45 H_45 N_45 S_45 W45 q_45
      replace NF := Fr.snoc X45 NF g_b41
      obtain ⟨lc45, Y45, NG45⟩ := own_lo X45 NF
      clear X45
      replace NF := NG45
      clear NG45
      refine own_go (T' := T45) (g' := (mkF m 268 #[iv i0, iv i1, iv i2, iv i3, iv z1, iv z4, iv kd, iv dg7, iv dg8, iv dg9, iv dg10, iv dg11, iv dg12, iv dg13, iv dg14, iv dg15, iv dg16, iv dg17, iv dg18, rv b19, rv b23, rv b26, rv b30, rv b34, rv b37, oU, oU, oU, oU, oU, oU] [(.ref b41)])) (fun _ k => st45 _ k) ?_
      clear st45
      refine own_p (g' := (mkF m 272 #[iv i0, iv i1, iv i2, iv i3, iv z1, iv z4, iv kd, iv dg7, iv dg8, iv dg9, iv dg10, iv dg11, iv dg12, iv dg13, iv dg14, iv dg15, iv dg16, iv dg17, iv dg18, rv b19, rv b23, rv b26, rv b30, rv b34, rv b37, oU, oU, oU, oU, oU, oU] [(.int dg11), (.int 4), (.ref b41), (.ref b41)])) (fun _ k => XS.dup Y45.here hx rfl (hb hby at_268) rfl rfl (XS.iconst Y45.here hx rfl (hb hby at_269) (XS.iload Y45.here hx rfl (hb hby at_270) rfl k))) ?_
      obtain ⟨c_46, Ar_46, q_46, S_46, N_46, H_46, G_46⟩ := id V_b41
      replace hin_46 : ¬ ((4 : Int32) < 0 ∨ c_46.slots.size ≤ ((4 : Int32)).toNatClampNeg) := inb_of S_46 ⟨by decide, by decide⟩
      obtain ⟨T46, h46, X46, e46, W46, st46⟩ := stC Y45 hx hZ e45 Ar_46 (j := (4 : Int32)) hin_46 (g := (mkF m 272 #[iv i0, iv i1, iv i2, iv i3, iv z1, iv z4, iv kd, iv dg7, iv dg8, iv dg9, iv dg10, iv dg11, iv dg12, iv dg13, iv dg14, iv dg15, iv dg16, iv dg17, iv dg18, rv b19, rv b23, rv b26, rv b30, rv b34, rv b37, oU, oU, oU, oU, oU, oU] [(.int dg11), (.int 4), (.ref b41), (.ref b41)])) rfl rfl (hb hby at_272)
      clear Y45 e45 hin_46
      replace OL := OL.wr W46 g_b41
      replace V_b19 := V_b19.other W46 ne_b19_b41
      clear ne_b19_b41
      replace V_b23 := V_b23.other W46 ne_b23_b41
      clear ne_b23_b41
      replace V_b26 := V_b26.other W46 ne_b26_b41
      clear ne_b26_b41
      replace V_b30 := V_b30.other W46 ne_b30_b41
      clear ne_b30_b41
      replace V_b34 := V_b34.other W46 ne_b34_b41
      clear ne_b34_b41
      replace V_b37 := V_b37.other W46 ne_b37_b41
      clear ne_b37_b41
      replace Zs := Nat.le_trans Zs (Keep.of_wr W46).1
      replace V_b41 := Arv.set Ar_46 q_46 S_46 N_46 H_46 G_46 (fits_nar_char _) W46 4 rfl (Nat.le_of_ble_eq_true rfl)
      clear Ar_46 G_46 H_46 N_46 S_46 W46 q_46
      replace NF := Fr.snoc X46 NF g_b41
      clear g_b41
      obtain ⟨lc46, Y46, NG46⟩ := own_lo X46 NF
      clear X46
      replace NF := NG46
      clear NG46
      refine own_go (T' := T46) (g' := (mkF m 273 #[iv i0, iv i1, iv i2, iv i3, iv z1, iv z4, iv kd, iv dg7, iv dg8, iv dg9, iv dg10, iv dg11, iv dg12, iv dg13, iv dg14, iv dg15, iv dg16, iv dg17, iv dg18, rv b19, rv b23, rv b26, rv b30, rv b34, rv b37, oU, oU, oU, oU, oU, oU] [(.ref b41)])) (fun _ k => st46 _ k) ?_
      clear st46
      refine own_p (g' := (mkF m 277 #[iv i0, iv i1, iv i2, iv i3, iv z1, iv z4, iv kd, iv dg7, iv dg8, iv dg9, iv dg10, iv dg11, iv dg12, iv dg13, iv dg14, iv dg15, iv dg16, iv dg17, iv dg18, rv b19, rv b23, rv b26, rv b30, rv b34, rv b37, rv b41, oU, oU, oU, oU, oU] [(.int 6)])) (fun _ k => XS.astore Y46.here hx rfl (hb hby at_273) rfl rfl (l' := #[iv i0, iv i1, iv i2, iv i3, iv z1, iv z4, iv kd, iv dg7, iv dg8, iv dg9, iv dg10, iv dg11, iv dg12, iv dg13, iv dg14, iv dg15, iv dg16, iv dg17, iv dg18, rv b19, rv b23, rv b26, rv b30, rv b34, rv b37, rv b41, oU, oU, oU, oU, oU]) rfl (XS.bipush Y46.here hx rfl (hb hby at_275) k)) ?_
      obtain ⟨T47, h47, k47, X47, e47, E47, A47, st47⟩ := newP Y46 hx hZ (own_W hw 7 rfl) e46 (g := (mkF m 277 #[iv i0, iv i1, iv i2, iv i3, iv z1, iv z4, iv kd, iv dg7, iv dg8, iv dg9, iv dg10, iv dg11, iv dg12, iv dg13, iv dg14, iv dg15, iv dg16, iv dg17, iv dg18, rv b19, rv b23, rv b26, rv b30, rv b34, rv b37, rv b41, oU, oU, oU, oU, oU] [(.int 6)])) rfl (hb hby at_277) rfl (by decide) (cap := 6) (by decide) (by decide) (by decide) (by decide)
      clear Y46 e46
      obtain ⟨b47, g47⟩ : ∃ z, z = h46.size := ⟨_, rfl⟩
      rw [← g47] at A47 st47
      replace ne_b19_b47 : b19 ≠ b47 := Nat.ne_of_lt (Nat.lt_of_lt_of_le V_b19.lt (Nat.le_of_eq g47.symm))
      replace ne_b23_b47 : b23 ≠ b47 := Nat.ne_of_lt (Nat.lt_of_lt_of_le V_b23.lt (Nat.le_of_eq g47.symm))
      replace ne_b26_b47 : b26 ≠ b47 := Nat.ne_of_lt (Nat.lt_of_lt_of_le V_b26.lt (Nat.le_of_eq g47.symm))
      replace ne_b30_b47 : b30 ≠ b47 := Nat.ne_of_lt (Nat.lt_of_lt_of_le V_b30.lt (Nat.le_of_eq g47.symm))
      replace ne_b34_b47 : b34 ≠ b47 := Nat.ne_of_lt (Nat.lt_of_lt_of_le V_b34.lt (Nat.le_of_eq g47.symm))
      replace ne_b37_b47 : b37 ≠ b47 := Nat.ne_of_lt (Nat.lt_of_lt_of_le V_b37.lt (Nat.le_of_eq g47.symm))
      replace ne_b41_b47 : b41 ≠ b47 := Nat.ne_of_lt (Nat.lt_of_lt_of_le V_b41.lt (Nat.le_of_eq g47.symm))
      replace g_b47 : n0 ≤ b47 := Nat.le_trans Zs (Nat.le_of_eq g47.symm)
      replace OL := OL.ext E47
      replace V_b19 := V_b19.ext E47
      replace V_b23 := V_b23.ext E47
      replace V_b26 := V_b26.ext E47
      replace V_b30 := V_b30.ext E47
      replace V_b34 := V_b34.ext E47
      replace V_b37 := V_b37.ext E47
      replace V_b41 := V_b41.ext E47
      replace Zs := Nat.le_trans Zs E47.1
      clear E47
      replace V_b47 : Arv Z h47 b47 k47 .char (6 : Int32) [(.int 0), (.int 0), (.int 0), (.int 0), (.int 0), (.int 0)] (.int 0) := (Arv.new A47 (by decide)).pad (pad_rep [] (.int 0) 6)
      clear A47
      refine own_go (T' := T47) (g' := (mkF m 279 #[iv i0, iv i1, iv i2, iv i3, iv z1, iv z4, iv kd, iv dg7, iv dg8, iv dg9, iv dg10, iv dg11, iv dg12, iv dg13, iv dg14, iv dg15, iv dg16, iv dg17, iv dg18, rv b19, rv b23, rv b26, rv b30, rv b34, rv b37, rv b41, oU, oU, oU, oU, oU] [(.ref b47)])) (fun _ k => st47 _ k) ?_
      clear st47
      refine own_p (g' := (mkF m 283 #[iv i0, iv i1, iv i2, iv i3, iv z1, iv z4, iv kd, iv dg7, iv dg8, iv dg9, iv dg10, iv dg11, iv dg12, iv dg13, iv dg14, iv dg15, iv dg16, iv dg17, iv dg18, rv b19, rv b23, rv b26, rv b30, rv b34, rv b37, rv b41, oU, oU, oU, oU, oU] [(.int dg7), (.int 0), (.ref b47), (.ref b47)])) (fun _ k => XS.dup X47.here hx rfl (hb hby at_279) rfl rfl (XS.iconst X47.here hx rfl (hb hby at_280) (XS.iload X47.here hx rfl (hb hby at_281) rfl k))) ?_
      obtain ⟨c_48, Ar_48, q_48, S_48, N_48, H_48, G_48⟩ := id V_b47
      replace hin_48 : ¬ ((0 : Int32) < 0 ∨ c_48.slots.size ≤ ((0 : Int32)).toNatClampNeg) := inb_of S_48 ⟨by decide, by decide⟩
      obtain ⟨T48, h48, X48, e48, W48, st48⟩ := stC X47 hx hZ e47 Ar_48 (j := (0 : Int32)) hin_48 (g := (mkF m 283 #[iv i0, iv i1, iv i2, iv i3, iv z1, iv z4, iv kd, iv dg7, iv dg8, iv dg9, iv dg10, iv dg11, iv dg12, iv dg13, iv dg14, iv dg15, iv dg16, iv dg17, iv dg18, rv b19, rv b23, rv b26, rv b30, rv b34, rv b37, rv b41, oU, oU, oU, oU, oU] [(.int dg7), (.int 0), (.ref b47), (.ref b47)])) rfl rfl (hb hby at_283)
      clear X47 e47 hin_48
      replace OL := OL.wr W48 g_b47
      replace V_b19 := V_b19.other W48 ne_b19_b47
      replace V_b23 := V_b23.other W48 ne_b23_b47
      replace V_b26 := V_b26.other W48 ne_b26_b47
      replace V_b30 := V_b30.other W48 ne_b30_b47
      replace V_b34 := V_b34.other W48 ne_b34_b47
      replace V_b37 := V_b37.other W48 ne_b37_b47
      replace V_b41 := V_b41.other W48 ne_b41_b47
      replace Zs := Nat.le_trans Zs (Keep.of_wr W48).1
      replace V_b47 := Arv.set Ar_48 q_48 S_48 N_48 H_48 G_48 (fits_nar_char _) W48 0 rfl (Nat.le_of_ble_eq_true rfl)
      clear Ar_48 G_48 H_48 N_48 S_48 W48 q_48
      replace NF := Fr.snoc X48 NF g_b47
      obtain ⟨lc48, Y48, NG48⟩ := own_lo X48 NF
      clear X48
      replace NF := NG48
      clear NG48
      refine own_go (T' := T48) (g' := (mkF m 284 #[iv i0, iv i1, iv i2, iv i3, iv z1, iv z4, iv kd, iv dg7, iv dg8, iv dg9, iv dg10, iv dg11, iv dg12, iv dg13, iv dg14, iv dg15, iv dg16, iv dg17, iv dg18, rv b19, rv b23, rv b26, rv b30, rv b34, rv b37, rv b41, oU, oU, oU, oU, oU] [(.ref b47)])) (fun _ k => st48 _ k) ?_
      clear st48
      refine own_p (g' := (mkF m 288 #[iv i0, iv i1, iv i2, iv i3, iv z1, iv z4, iv kd, iv dg7, iv dg8, iv dg9, iv dg10, iv dg11, iv dg12, iv dg13, iv dg14, iv dg15, iv dg16, iv dg17, iv dg18, rv b19, rv b23, rv b26, rv b30, rv b34, rv b37, rv b41, oU, oU, oU, oU, oU] [(.int dg8), (.int 1), (.ref b47), (.ref b47)])) (fun _ k => XS.dup Y48.here hx rfl (hb hby at_284) rfl rfl (XS.iconst Y48.here hx rfl (hb hby at_285) (XS.iload Y48.here hx rfl (hb hby at_286) rfl k))) ?_
      obtain ⟨c_49, Ar_49, q_49, S_49, N_49, H_49, G_49⟩ := id V_b47
      replace hin_49 : ¬ ((1 : Int32) < 0 ∨ c_49.slots.size ≤ ((1 : Int32)).toNatClampNeg) := inb_of S_49 ⟨by decide, by decide⟩
      obtain ⟨T49, h49, X49, e49, W49, st49⟩ := stC Y48 hx hZ e48 Ar_49 (j := (1 : Int32)) hin_49 (g := (mkF m 288 #[iv i0, iv i1, iv i2, iv i3, iv z1, iv z4, iv kd, iv dg7, iv dg8, iv dg9, iv dg10, iv dg11, iv dg12, iv dg13, iv dg14, iv dg15, iv dg16, iv dg17, iv dg18, rv b19, rv b23, rv b26, rv b30, rv b34, rv b37, rv b41, oU, oU, oU, oU, oU] [(.int dg8), (.int 1), (.ref b47), (.ref b47)])) rfl rfl (hb hby at_288)
      clear Y48 e48 hin_49
      replace OL := OL.wr W49 g_b47
      replace V_b19 := V_b19.other W49 ne_b19_b47
      replace V_b23 := V_b23.other W49 ne_b23_b47
      replace V_b26 := V_b26.other W49 ne_b26_b47
      replace V_b30 := V_b30.other W49 ne_b30_b47
      replace V_b34 := V_b34.other W49 ne_b34_b47
      replace V_b37 := V_b37.other W49 ne_b37_b47
      replace V_b41 := V_b41.other W49 ne_b41_b47
      replace Zs := Nat.le_trans Zs (Keep.of_wr W49).1
      replace V_b47 := Arv.set Ar_49 q_49 S_49 N_49 H_49 G_49 (fits_nar_char _) W49 1 rfl (Nat.le_of_ble_eq_true rfl)
      clear Ar_49 G_49 H_49 N_49 S_49 W49 q_49
      replace NF := Fr.snoc X49 NF g_b47
      obtain ⟨lc49, Y49, NG49⟩ := own_lo X49 NF
      clear X49
      replace NF := NG49
      clear NG49
      refine own_go (T' := T49) (g' := (mkF m 289 #[iv i0, iv i1, iv i2, iv i3, iv z1, iv z4, iv kd, iv dg7, iv dg8, iv dg9, iv dg10, iv dg11, iv dg12, iv dg13, iv dg14, iv dg15, iv dg16, iv dg17, iv dg18, rv b19, rv b23, rv b26, rv b30, rv b34, rv b37, rv b41, oU, oU, oU, oU, oU] [(.ref b47)])) (fun _ k => st49 _ k) ?_
      clear st49
      refine own_p (g' := (mkF m 293 #[iv i0, iv i1, iv i2, iv i3, iv z1, iv z4, iv kd, iv dg7, iv dg8, iv dg9, iv dg10, iv dg11, iv dg12, iv dg13, iv dg14, iv dg15, iv dg16, iv dg17, iv dg18, rv b19, rv b23, rv b26, rv b30, rv b34, rv b37, rv b41, oU, oU, oU, oU, oU] [(.int dg9), (.int 2), (.ref b47), (.ref b47)])) (fun _ k => XS.dup Y49.here hx rfl (hb hby at_289) rfl rfl (XS.iconst Y49.here hx rfl (hb hby at_290) (XS.iload Y49.here hx rfl (hb hby at_291) rfl k))) ?_
      obtain ⟨c_50, Ar_50, q_50, S_50, N_50, H_50, G_50⟩ := id V_b47
      replace hin_50 : ¬ ((2 : Int32) < 0 ∨ c_50.slots.size ≤ ((2 : Int32)).toNatClampNeg) := inb_of S_50 ⟨by decide, by decide⟩
      obtain ⟨T50, h50, X50, e50, W50, st50⟩ := stC Y49 hx hZ e49 Ar_50 (j := (2 : Int32)) hin_50 (g := (mkF m 293 #[iv i0, iv i1, iv i2, iv i3, iv z1, iv z4, iv kd, iv dg7, iv dg8, iv dg9, iv dg10, iv dg11, iv dg12, iv dg13, iv dg14, iv dg15, iv dg16, iv dg17, iv dg18, rv b19, rv b23, rv b26, rv b30, rv b34, rv b37, rv b41, oU, oU, oU, oU, oU] [(.int dg9), (.int 2), (.ref b47), (.ref b47)])) rfl rfl (hb hby at_293)
      clear Y49 e49 hin_50
      replace OL := OL.wr W50 g_b47
      replace V_b19 := V_b19.other W50 ne_b19_b47
      replace V_b23 := V_b23.other W50 ne_b23_b47
      replace V_b26 := V_b26.other W50 ne_b26_b47
      replace V_b30 := V_b30.other W50 ne_b30_b47
      replace V_b34 := V_b34.other W50 ne_b34_b47
      replace V_b37 := V_b37.other W50 ne_b37_b47
      replace V_b41 := V_b41.other W50 ne_b41_b47
      replace Zs := Nat.le_trans Zs (Keep.of_wr W50).1
      replace V_b47 := Arv.set Ar_50 q_50 S_50 N_50 H_50 G_50 (fits_nar_char _) W50 2 rfl (Nat.le_of_ble_eq_true rfl)
      clear Ar_50 G_50 H_50 N_50 S_50 W50 q_50
      replace NF := Fr.snoc X50 NF g_b47
      obtain ⟨lc50, Y50, NG50⟩ := own_lo X50 NF
      clear X50
      replace NF := NG50
      clear NG50
      refine own_go (T' := T50) (g' := (mkF m 294 #[iv i0, iv i1, iv i2, iv i3, iv z1, iv z4, iv kd, iv dg7, iv dg8, iv dg9, iv dg10, iv dg11, iv dg12, iv dg13, iv dg14, iv dg15, iv dg16, iv dg17, iv dg18, rv b19, rv b23, rv b26, rv b30, rv b34, rv b37, rv b41, oU, oU, oU, oU, oU] [(.ref b47)])) (fun _ k => st50 _ k) ?_
      clear st50
      refine own_p (g' := (mkF m 298 #[iv i0, iv i1, iv i2, iv i3, iv z1, iv z4, iv kd, iv dg7, iv dg8, iv dg9, iv dg10, iv dg11, iv dg12, iv dg13, iv dg14, iv dg15, iv dg16, iv dg17, iv dg18, rv b19, rv b23, rv b26, rv b30, rv b34, rv b37, rv b41, oU, oU, oU, oU, oU] [(.int dg10), (.int 3), (.ref b47), (.ref b47)])) (fun _ k => XS.dup Y50.here hx rfl (hb hby at_294) rfl rfl (XS.iconst Y50.here hx rfl (hb hby at_295) (XS.iload Y50.here hx rfl (hb hby at_296) rfl k))) ?_
      obtain ⟨c_51, Ar_51, q_51, S_51, N_51, H_51, G_51⟩ := id V_b47
      replace hin_51 : ¬ ((3 : Int32) < 0 ∨ c_51.slots.size ≤ ((3 : Int32)).toNatClampNeg) := inb_of S_51 ⟨by decide, by decide⟩
      obtain ⟨T51, h51, X51, e51, W51, st51⟩ := stC Y50 hx hZ e50 Ar_51 (j := (3 : Int32)) hin_51 (g := (mkF m 298 #[iv i0, iv i1, iv i2, iv i3, iv z1, iv z4, iv kd, iv dg7, iv dg8, iv dg9, iv dg10, iv dg11, iv dg12, iv dg13, iv dg14, iv dg15, iv dg16, iv dg17, iv dg18, rv b19, rv b23, rv b26, rv b30, rv b34, rv b37, rv b41, oU, oU, oU, oU, oU] [(.int dg10), (.int 3), (.ref b47), (.ref b47)])) rfl rfl (hb hby at_298)
      clear Y50 e50 hin_51
      replace OL := OL.wr W51 g_b47
      replace V_b19 := V_b19.other W51 ne_b19_b47
      replace V_b23 := V_b23.other W51 ne_b23_b47
      replace V_b26 := V_b26.other W51 ne_b26_b47
      replace V_b30 := V_b30.other W51 ne_b30_b47
      replace V_b34 := V_b34.other W51 ne_b34_b47
      replace V_b37 := V_b37.other W51 ne_b37_b47
      replace V_b41 := V_b41.other W51 ne_b41_b47
      replace Zs := Nat.le_trans Zs (Keep.of_wr W51).1
      replace V_b47 := Arv.set Ar_51 q_51 S_51 N_51 H_51 G_51 (fits_nar_char _) W51 3 rfl (Nat.le_of_ble_eq_true rfl)
      clear Ar_51 G_51 H_51 N_51 S_51 W51 q_51
      replace NF := Fr.snoc X51 NF g_b47
      obtain ⟨lc51, Y51, NG51⟩ := own_lo X51 NF
      clear X51
      replace NF := NG51
      clear NG51
      refine own_go (T' := T51) (g' := (mkF m 299 #[iv i0, iv i1, iv i2, iv i3, iv z1, iv z4, iv kd, iv dg7, iv dg8, iv dg9, iv dg10, iv dg11, iv dg12, iv dg13, iv dg14, iv dg15, iv dg16, iv dg17, iv dg18, rv b19, rv b23, rv b26, rv b30, rv b34, rv b37, rv b41, oU, oU, oU, oU, oU] [(.ref b47)])) (fun _ k => st51 _ k) ?_
      clear st51
      refine own_p (g' := (mkF m 303 #[iv i0, iv i1, iv i2, iv i3, iv z1, iv z4, iv kd, iv dg7, iv dg8, iv dg9, iv dg10, iv dg11, iv dg12, iv dg13, iv dg14, iv dg15, iv dg16, iv dg17, iv dg18, rv b19, rv b23, rv b26, rv b30, rv b34, rv b37, rv b41, oU, oU, oU, oU, oU] [(.int dg11), (.int 4), (.ref b47), (.ref b47)])) (fun _ k => XS.dup Y51.here hx rfl (hb hby at_299) rfl rfl (XS.iconst Y51.here hx rfl (hb hby at_300) (XS.iload Y51.here hx rfl (hb hby at_301) rfl k))) ?_
      obtain ⟨c_52, Ar_52, q_52, S_52, N_52, H_52, G_52⟩ := id V_b47
      replace hin_52 : ¬ ((4 : Int32) < 0 ∨ c_52.slots.size ≤ ((4 : Int32)).toNatClampNeg) := inb_of S_52 ⟨by decide, by decide⟩
      obtain ⟨T52, h52, X52, e52, W52, st52⟩ := stC Y51 hx hZ e51 Ar_52 (j := (4 : Int32)) hin_52 (g := (mkF m 303 #[iv i0, iv i1, iv i2, iv i3, iv z1, iv z4, iv kd, iv dg7, iv dg8, iv dg9, iv dg10, iv dg11, iv dg12, iv dg13, iv dg14, iv dg15, iv dg16, iv dg17, iv dg18, rv b19, rv b23, rv b26, rv b30, rv b34, rv b37, rv b41, oU, oU, oU, oU, oU] [(.int dg11), (.int 4), (.ref b47), (.ref b47)])) rfl rfl (hb hby at_303)
      clear Y51 e51 hin_52
      replace OL := OL.wr W52 g_b47
      replace V_b19 := V_b19.other W52 ne_b19_b47
      replace V_b23 := V_b23.other W52 ne_b23_b47
      replace V_b26 := V_b26.other W52 ne_b26_b47
      replace V_b30 := V_b30.other W52 ne_b30_b47
      replace V_b34 := V_b34.other W52 ne_b34_b47
      replace V_b37 := V_b37.other W52 ne_b37_b47
      replace V_b41 := V_b41.other W52 ne_b41_b47
      replace Zs := Nat.le_trans Zs (Keep.of_wr W52).1
      replace V_b47 := Arv.set Ar_52 q_52 S_52 N_52 H_52 G_52 (fits_nar_char _) W52 4 rfl (Nat.le_of_ble_eq_true rfl)
      clear Ar_52 G_52 H_52 N_52 S_52 W52 q_52
      replace NF := Fr.snoc X52 NF g_b47
      obtain ⟨lc52, Y52, NG52⟩ := own_lo X52 NF
      clear X52
      replace NF := NG52
      clear NG52
      refine own_go (T' := T52) (g' := (mkF m 304 #[iv i0, iv i1, iv i2, iv i3, iv z1, iv z4, iv kd, iv dg7, iv dg8, iv dg9, iv dg10, iv dg11, iv dg12, iv dg13, iv dg14, iv dg15, iv dg16, iv dg17, iv dg18, rv b19, rv b23, rv b26, rv b30, rv b34, rv b37, rv b41, oU, oU, oU, oU, oU] [(.ref b47)])) (fun _ k => st52 _ k) ?_
      clear st52
      refine own_p (g' := (mkF m 308 #[iv i0, iv i1, iv i2, iv i3, iv z1, iv z4, iv kd, iv dg7, iv dg8, iv dg9, iv dg10, iv dg11, iv dg12, iv dg13, iv dg14, iv dg15, iv dg16, iv dg17, iv dg18, rv b19, rv b23, rv b26, rv b30, rv b34, rv b37, rv b41, oU, oU, oU, oU, oU] [(.int dg12), (.int 5), (.ref b47), (.ref b47)])) (fun _ k => XS.dup Y52.here hx rfl (hb hby at_304) rfl rfl (XS.iconst Y52.here hx rfl (hb hby at_305) (XS.iload Y52.here hx rfl (hb hby at_306) rfl k))) ?_
      obtain ⟨c_53, Ar_53, q_53, S_53, N_53, H_53, G_53⟩ := id V_b47
      replace hin_53 : ¬ ((5 : Int32) < 0 ∨ c_53.slots.size ≤ ((5 : Int32)).toNatClampNeg) := inb_of S_53 ⟨by decide, by decide⟩
      obtain ⟨T53, h53, X53, e53, W53, st53⟩ := stC Y52 hx hZ e52 Ar_53 (j := (5 : Int32)) hin_53 (g := (mkF m 308 #[iv i0, iv i1, iv i2, iv i3, iv z1, iv z4, iv kd, iv dg7, iv dg8, iv dg9, iv dg10, iv dg11, iv dg12, iv dg13, iv dg14, iv dg15, iv dg16, iv dg17, iv dg18, rv b19, rv b23, rv b26, rv b30, rv b34, rv b37, rv b41, oU, oU, oU, oU, oU] [(.int dg12), (.int 5), (.ref b47), (.ref b47)])) rfl rfl (hb hby at_308)
      clear Y52 e52 hin_53
      replace OL := OL.wr W53 g_b47
      replace V_b19 := V_b19.other W53 ne_b19_b47
      clear ne_b19_b47
      replace V_b23 := V_b23.other W53 ne_b23_b47
      clear ne_b23_b47
      replace V_b26 := V_b26.other W53 ne_b26_b47
      clear ne_b26_b47
      replace V_b30 := V_b30.other W53 ne_b30_b47
      clear ne_b30_b47
      replace V_b34 := V_b34.other W53 ne_b34_b47
      clear ne_b34_b47
      replace V_b37 := V_b37.other W53 ne_b37_b47
      clear ne_b37_b47
      replace V_b41 := V_b41.other W53 ne_b41_b47
      clear ne_b41_b47
      replace Zs := Nat.le_trans Zs (Keep.of_wr W53).1
      replace V_b47 := Arv.set Ar_53 q_53 S_53 N_53 H_53 G_53 (fits_nar_char _) W53 5 rfl (Nat.le_of_ble_eq_true rfl)
      clear Ar_53 G_53 H_53 N_53 S_53 W53 q_53
      replace NF := Fr.snoc X53 NF g_b47
      clear g_b47
      obtain ⟨lc53, Y53, NG53⟩ := own_lo X53 NF
      clear X53
      replace NF := NG53
      clear NG53
      refine own_go (T' := T53) (g' := (mkF m 309 #[iv i0, iv i1, iv i2, iv i3, iv z1, iv z4, iv kd, iv dg7, iv dg8, iv dg9, iv dg10, iv dg11, iv dg12, iv dg13, iv dg14, iv dg15, iv dg16, iv dg17, iv dg18, rv b19, rv b23, rv b26, rv b30, rv b34, rv b37, rv b41, oU, oU, oU, oU, oU] [(.ref b47)])) (fun _ k => st53 _ k) ?_
      clear st53
      refine own_p (g' := (mkF m 311 #[iv i0, iv i1, iv i2, iv i3, iv z1, iv z4, iv kd, iv dg7, iv dg8, iv dg9, iv dg10, iv dg11, iv dg12, iv dg13, iv dg14, iv dg15, iv dg16, iv dg17, iv dg18, rv b19, rv b23, rv b26, rv b30, rv b34, rv b37, rv b41, rv b47, oU, oU, oU, oU] [])) (fun _ k => XS.astore Y53.here hx rfl (hb hby at_309) rfl rfl (l' := #[iv i0, iv i1, iv i2, iv i3, iv z1, iv z4, iv kd, iv dg7, iv dg8, iv dg9, iv dg10, iv dg11, iv dg12, iv dg13, iv dg14, iv dg15, iv dg16, iv dg17, iv dg18, rv b19, rv b23, rv b26, rv b30, rv b34, rv b37, rv b41, rv b47, oU, oU, oU, oU]) rfl k) ?_
      have JA : ∀ (tq : Addr) (pp : Addr) (cp : Int32) (TLJA : State) (locs : List Loc) (hLJA : Heap), ((z1 = (0 : Int32) ∧ cp = own_cd [dg7, dg8, dg9, dg10, dg11]) ∨ (¬ (z1 = (0 : Int32)) ∧ cp = own_cd [dg7, dg8, dg9, dg10, dg11, dg12] ||| (16777216 : Int32))) → Stand p l e room_1 s m #[(.int i0), (.int i1), (.int i2), (.int i3)] below meth c TLJA locs 20 107 → TLJA.heap = hLJA → Fr n0 locs → n0 ≤ hLJA.size → Old Z n0 hLJA → Arv Z hLJA b30 k30 .char (3 : Int32) [(.int (nar .char dg13)), (.int (nar .char dg14)), (.int (nar .char dg15))] (.int 0) → Arv Z hLJA b34 k34 .char (2 : Int32) [(.int (nar .char dg16)), (.int (nar .char dg17))] (.int 0) → Arv Z hLJA b37 k37 .char (3 : Int32) [(.int (nar .char dg16)), (.int (nar .char dg17)), (.int (nar .char dg18))] (.int 0) → Exa Z hLJA tq "java/lang/String" → Exa Z hLJA pp "com/example/carrier_name_resolver/carriernameresolver/card/Plmn" → Fld Z hLJA pp "com/example/carrier_name_resolver/carriernameresolver/card/Plmn" "code" "I" (.int cp) → own_Dn p e below s (own_Q0 Z i0 i1 i2 i3 cs fo h0 n0) room_1.cells room_1.slots TLJA (mkF m 383 #[iv i0, iv i1, iv i2, iv i3, iv z1, iv z4, iv kd, iv dg7, iv dg8, iv dg9, iv dg10, iv dg11, iv dg12, iv dg13, iv dg14, iv dg15, iv dg16, iv dg17, iv dg18, rv b19, rv b23, rv b26, rv b30, rv b34, rv b37, rv b41, rv b47, rv tq, rv pp, oU, oU] []) := by
        clear V_b19 V_b23 V_b26 V_b41 V_b47 Y53 e53
        intro tq pp cp TLJA locs hLJA hcp XL eL NF Zs OL V_b30 V_b34 V_b37 E_tq E_pp F_pp_code
        have JB : ∀ (qq : Addr) (cq : Int32) (TLJB : State) (locs : List Loc) (hLJB : Heap), ((z4 = (0 : Int32) ∧ cq = own_cd [dg13, dg14, dg15, dg16, dg17]) ∨ (¬ (z4 = (0 : Int32)) ∧ cq = own_cd [dg13, dg14, dg15, dg16, dg17, dg18] ||| (16777216 : Int32))) → (pp ≠ qq) → Stand p l e room_1 s m #[(.int i0), (.int i1), (.int i2), (.int i3)] below meth c TLJB locs 32 187 → TLJB.heap = hLJB → Fr n0 locs → n0 ≤ hLJB.size → Old Z n0 hLJB → Exa Z hLJB tq "java/lang/String" → Exa Z hLJB pp "com/example/carrier_name_resolver/carriernameresolver/card/Plmn" → Fld Z hLJB pp "com/example/carrier_name_resolver/carriernameresolver/card/Plmn" "code" "I" (.int cp) → Exa Z hLJB qq "com/example/carrier_name_resolver/carriernameresolver/card/Plmn" → Fld Z hLJB qq "com/example/carrier_name_resolver/carriernameresolver/card/Plmn" "code" "I" (.int cq) → own_Dn p e below s (own_Q0 Z i0 i1 i2 i3 cs fo h0 n0) room_1.cells room_1.slots TLJB (mkF m 427 #[iv i0, iv i1, iv i2, iv i3, iv z1, iv z4, iv kd, iv dg7, iv dg8, iv dg9, iv dg10, iv dg11, iv dg12, iv dg13, iv dg14, iv dg15, iv dg16, iv dg17, iv dg18, rv b19, rv b23, rv b26, rv b30, rv b34, rv b37, rv b41, rv b47, rv tq, rv pp, rv qq, oU] []) := by
          clear V_b30 V_b34 V_b37
          intro qq cq TLJB locs hLJB hcq ne_pp_qq XL eL NF Zs OL E_tq E_pp F_pp_code E_qq F_qq_code
          have hcc := own_codes hz2 hz5 hd_dg7 hd_dg8 hd_dg9 hd_dg10 hd_dg11 hd_dg12 hd_dg13 hd_dg14 hd_dg15 hd_dg16 hd_dg17 hd_dg18 hcp hcq
          refine own_p (g' := (mkF m 430 #[iv i0, iv i1, iv i2, iv i3, iv z1, iv z4, iv kd, iv dg7, iv dg8, iv dg9, iv dg10, iv dg11, iv dg12, iv dg13, iv dg14, iv dg15, iv dg16, iv dg17, iv dg18, rv b19, rv b23, rv b26, rv b30, rv b34, rv b37, rv b41, rv b47, rv tq, rv pp, rv qq, oU] [(.int 1), (.int kd)])) (fun _ k => XS.iload XL.here hx rfl (hb hby at_427) rfl (XS.iconst XL.here hx rfl (hb hby at_429) k)) ?_
          by_cases c54 : kd = (1 : Int32)
          · refine own_p (g' := (mkF m 436 #[iv i0, iv i1, iv i2, iv i3, iv z1, iv z4, iv kd, iv dg7, iv dg8, iv dg9, iv dg10, iv dg11, iv dg12, iv dg13, iv dg14, iv dg15, iv dg16, iv dg17, iv dg18, rv b19, rv b23, rv b26, rv b30, rv b34, rv b37, rv b41, rv b47, rv tq, rv pp, rv qq, oU] [.null, (.ref pp)])) (fun _ k => XS.icmpNo XL.here hx rfl (hb hby at_430) rfl (teq c54).2 (XS.aload XL.here hx rfl (hb hby at_433) rfl rfl (XS.aconstNull XL.here hx rfl (hb hby at_435) k))) ?_
            obtain ⟨cq55, kq55, q55a, q55b, q55c⟩ := isOf hZ eL E_pp
            clear q55b
            obtain ⟨_, _, ⟨T55, L55, k55, n55⟩, -, X55, ⟨Lc55, hQ55, l55, y55, z55⟩, st55⟩ := XL.virtualBack hx (y := own_y36) (z := own_y36) hown (mvT hZ (own_W hw 188 rfl)) (mvT hZ (own_W hw 189 rfl)) (notFace_of_selects (args := #[]) (mvT hZ (own_W hw 191 rfl))) (mvT hZ (own_W hw 191 rfl)) (mvT hZ (own_W hw 190 rfl)) (by decide) (backOf (W := 0) (own_rm41 l Z a0 hw [] pp hLJB n0 Zs ) hZ (own_W hw 192 rfl) (own_W hw 39 rfl) (by decide) (by decide)) q55a q55c (g := (mkF m 436 #[iv i0, iv i1, iv i2, iv i3, iv z1, iv z4, iv kd, iv dg7, iv dg8, iv dg9, iv dg10, iv dg11, iv dg12, iv dg13, iv dg14, iv dg15, iv dg16, iv dg17, iv dg18, rv b19, rv b23, rv b26, rv b30, rv b34, rv b37, rv b41, rv b47, rv tq, rv pp, rv qq, oU] [.null, (.ref pp)])) rfl (by rw [hml]; rfl) (Steps.refl _) (argsL := [.null]) (rest := []) (lenOf own_pd0_2 rfl) rfl (Nat.le_refl _) (hb hby at_436) (fun _ _ => ⟨rfl, eL, (by decide : 32 + 0 ≤ _), (by decide : 187 + 0 ≤ _)⟩)
            dsimp only [Pt.U, Pt.locs, Pt.cells, Pt.slots] at X55 l55 y55 z55 st55 hQ55
            subst l55 y55 z55
            clear q55a q55c
            obtain ⟨rfl, NQ55, eq55⟩ := hQ55
            replace NF := Fr.app NF NQ55
            clear NQ55
            obtain ⟨lc55, Y55, NG55⟩ := own_lo X55 NF
            clear X55
            replace NF := NG55
            clear NG55
            refine own_go (T' := T55) (g' := (mkF m 439 #[iv i0, iv i1, iv i2, iv i3, iv z1, iv z4, iv kd, iv dg7, iv dg8, iv dg9, iv dg10, iv dg11, iv dg12, iv dg13, iv dg14, iv dg15, iv dg16, iv dg17, iv dg18, rv b19, rv b23, rv b26, rv b30, rv b34, rv b37, rv b41, rv b47, rv tq, rv pp, rv qq, oU] [(.int 0)])) (fun _ k => st55.trans k) ?_
            clear st55
            refine own_p (g' := (mkF m 447 #[iv i0, iv i1, iv i2, iv i3, iv z1, iv z4, iv kd, iv dg7, iv dg8, iv dg9, iv dg10, iv dg11, iv dg12, iv dg13, iv dg14, iv dg15, iv dg16, iv dg17, iv dg18, rv b19, rv b23, rv b26, rv b30, rv b34, rv b37, rv b41, rv b47, rv tq, rv pp, rv qq, oU] [(.int 1)])) (fun _ k => XS.ifNo Y55.here hx rfl (hb hby at_439) rfl (by decide) (XS.iconst Y55.here hx rfl (hb hby at_442) (XS.goto Y55.here hx rfl (pc0 := 443) (pc' := 447) rfl (hb hby at_443) (by decide) (by decide) k))) ?_
            refine own_ret Y55 Bd.notSynchronized (some (.int 1)) (fun h => by rw [Bd.returns] at h; cases h) (fun fs hr => retN Y55 hx (t := .boolean) Bd.returns (by simp) (hb hby at_447) hr) ?_ (by decide) (by decide)
            clear Y55
            show (own_Q0 Z i0 i1 i2 i3 cs fo h0 n0) (some (.int 1)) T55.heap _
            rw [eq55]
            clear eq55
            exact ⟨rfl, NF⟩
          · refine own_p (g' := (mkF m 451 #[iv i0, iv i1, iv i2, iv i3, iv z1, iv z4, iv kd, iv dg7, iv dg8, iv dg9, iv dg10, iv dg11, iv dg12, iv dg13, iv dg14, iv dg15, iv dg16, iv dg17, iv dg18, rv b19, rv b23, rv b26, rv b30, rv b34, rv b37, rv b41, rv b47, rv tq, rv pp, rv qq, oU] [(.int 2), (.int kd)])) (fun _ k => XS.icmpYes XL.here hx rfl (pc0 := 430) (pc' := 448) rfl (hb hby at_430) rfl (feq c54).2 (by decide) (by decide) (XS.iload XL.here hx rfl (hb hby at_448) rfl (XS.iconst XL.here hx rfl (hb hby at_450) k))) ?_
            by_cases c56 : kd = (2 : Int32)
            · refine own_p (g' := (mkF m 458 #[iv i0, iv i1, iv i2, iv i3, iv z1, iv z4, iv kd, iv dg7, iv dg8, iv dg9, iv dg10, iv dg11, iv dg12, iv dg13, iv dg14, iv dg15, iv dg16, iv dg17, iv dg18, rv b19, rv b23, rv b26, rv b30, rv b34, rv b37, rv b41, rv b47, rv tq, rv pp, rv qq, oU] [(.ref tq), (.ref pp)])) (fun _ k => XS.icmpNo XL.here hx rfl (hb hby at_451) rfl (teq c56).2 (XS.aload XL.here hx rfl (hb hby at_454) rfl rfl (XS.aload XL.here hx rfl (hb hby at_456) rfl rfl k))) ?_
              obtain ⟨cq57, kq57, q57a, q57b, q57c⟩ := isOf hZ eL E_pp
              clear q57b
              obtain ⟨_, _, ⟨T57, L57, k57, n57⟩, -, X57, ⟨Lc57, hQ57, l57, y57, z57⟩, st57⟩ := XL.virtualBack hx (y := own_y36) (z := own_y36) hown (mvT hZ (own_W hw 188 rfl)) (mvT hZ (own_W hw 189 rfl)) (notFace_of_selects (args := #[]) (mvT hZ (own_W hw 191 rfl))) (mvT hZ (own_W hw 191 rfl)) (mvT hZ (own_W hw 190 rfl)) (by decide) (backOf (W := 0) (own_rm42 l Z a0 hw [] pp tq hLJB n0 Zs E_tq) hZ (own_W hw 192 rfl) (own_W hw 39 rfl) (by decide) (by decide)) q57a q57c (g := (mkF m 458 #[iv i0, iv i1, iv i2, iv i3, iv z1, iv z4, iv kd, iv dg7, iv dg8, iv dg9, iv dg10, iv dg11, iv dg12, iv dg13, iv dg14, iv dg15, iv dg16, iv dg17, iv dg18, rv b19, rv b23, rv b26, rv b30, rv b34, rv b37, rv b41, rv b47, rv tq, rv pp, rv qq, oU] [(.ref tq), (.ref pp)])) rfl (by rw [hml]; rfl) (Steps.refl _) (argsL := [(.ref tq)]) (rest := []) (lenOf own_pd0_2 rfl) rfl (Nat.le_refl _) (hb hby at_458) (fun _ _ => ⟨rfl, eL, (by decide : 32 + 0 ≤ _), (by decide : 187 + 0 ≤ _)⟩)
              dsimp only [Pt.U, Pt.locs, Pt.cells, Pt.slots] at X57 l57 y57 z57 st57 hQ57
              subst l57 y57 z57
              clear q57a q57c
              obtain ⟨rfl, NQ57, eq57⟩ := hQ57
              replace NF := Fr.app NF NQ57
              clear NQ57
              obtain ⟨lc57, Y57, NG57⟩ := own_lo X57 NF
              clear X57
              replace NF := NG57
              clear NG57
              refine own_go (T' := T57) (g' := (mkF m 461 #[iv i0, iv i1, iv i2, iv i3, iv z1, iv z4, iv kd, iv dg7, iv dg8, iv dg9, iv dg10, iv dg11, iv dg12, iv dg13, iv dg14, iv dg15, iv dg16, iv dg17, iv dg18, rv b19, rv b23, rv b26, rv b30, rv b34, rv b37, rv b41, rv b47, rv tq, rv pp, rv qq, oU] [(.int 0)])) (fun _ k => st57.trans k) ?_
              clear st57
              refine own_p (g' := (mkF m 469 #[iv i0, iv i1, iv i2, iv i3, iv z1, iv z4, iv kd, iv dg7, iv dg8, iv dg9, iv dg10, iv dg11, iv dg12, iv dg13, iv dg14, iv dg15, iv dg16, iv dg17, iv dg18, rv b19, rv b23, rv b26, rv b30, rv b34, rv b37, rv b41, rv b47, rv tq, rv pp, rv qq, oU] [(.int 1)])) (fun _ k => XS.ifNo Y57.here hx rfl (hb hby at_461) rfl (by decide) (XS.iconst Y57.here hx rfl (hb hby at_464) (XS.goto Y57.here hx rfl (pc0 := 465) (pc' := 469) rfl (hb hby at_465) (by decide) (by decide) k))) ?_
              refine own_ret Y57 Bd.notSynchronized (some (.int 1)) (fun h => by rw [Bd.returns] at h; cases h) (fun fs hr => retN Y57 hx (t := .boolean) Bd.returns (by simp) (hb hby at_469) hr) ?_ (by decide) (by decide)
              clear Y57
              show (own_Q0 Z i0 i1 i2 i3 cs fo h0 n0) (some (.int 1)) T57.heap _
              rw [eq57]
              clear eq57
              exact ⟨rfl, NF⟩
            · refine own_p (g' := (mkF m 473 #[iv i0, iv i1, iv i2, iv i3, iv z1, iv z4, iv kd, iv dg7, iv dg8, iv dg9, iv dg10, iv dg11, iv dg12, iv dg13, iv dg14, iv dg15, iv dg16, iv dg17, iv dg18, rv b19, rv b23, rv b26, rv b30, rv b34, rv b37, rv b41, rv b47, rv tq, rv pp, rv qq, oU] [(.int 3), (.int kd)])) (fun _ k => XS.icmpYes XL.here hx rfl (pc0 := 451) (pc' := 470) rfl (hb hby at_451) rfl (feq c56).2 (by decide) (by decide) (XS.iload XL.here hx rfl (hb hby at_470) rfl (XS.iconst XL.here hx rfl (hb hby at_472) k))) ?_
              by_cases c58 : kd = (3 : Int32)
              · refine own_p (g' := (mkF m 480 #[iv i0, iv i1, iv i2, iv i3, iv z1, iv z4, iv kd, iv dg7, iv dg8, iv dg9, iv dg10, iv dg11, iv dg12, iv dg13, iv dg14, iv dg15, iv dg16, iv dg17, iv dg18, rv b19, rv b23, rv b26, rv b30, rv b34, rv b37, rv b41, rv b47, rv tq, rv pp, rv qq, oU] [(.ref pp), (.ref pp)])) (fun _ k => XS.icmpNo XL.here hx rfl (hb hby at_473) rfl (teq c58).2 (XS.aload XL.here hx rfl (hb hby at_476) rfl rfl (XS.aload XL.here hx rfl (hb hby at_478) rfl rfl k))) ?_
                obtain ⟨cq59, kq59, q59a, q59b, q59c⟩ := isOf hZ eL E_pp
                clear q59b
                obtain ⟨_, _, ⟨T59, L59, k59, n59⟩, -, X59, ⟨Lc59, hQ59, l59, y59, z59⟩, st59⟩ := XL.virtualBack hx (y := own_y36) (z := own_y36) hown (mvT hZ (own_W hw 188 rfl)) (mvT hZ (own_W hw 189 rfl)) (notFace_of_selects (args := #[]) (mvT hZ (own_W hw 191 rfl))) (mvT hZ (own_W hw 191 rfl)) (mvT hZ (own_W hw 190 rfl)) (by decide) (backOf (W := 0) (own_rm43 l Z a0 hw [] pp cp hLJB n0 Zs E_pp F_pp_code) hZ (own_W hw 192 rfl) (own_W hw 39 rfl) (by decide) (by decide)) q59a q59c (g := (mkF m 480 #[iv i0, iv i1, iv i2, iv i3, iv z1, iv z4, iv kd, iv dg7, iv dg8, iv dg9, iv dg10, iv dg11, iv dg12, iv dg13, iv dg14, iv dg15, iv dg16, iv dg17, iv dg18, rv b19, rv b23, rv b26, rv b30, rv b34, rv b37, rv b41, rv b47, rv tq, rv pp, rv qq, oU] [(.ref pp), (.ref pp)])) rfl (by rw [hml]; rfl) (Steps.refl _) (argsL := [(.ref pp)]) (rest := []) (lenOf own_pd0_2 rfl) rfl (Nat.le_refl _) (hb hby at_480) (fun _ _ => ⟨rfl, eL, (by decide : 32 + 0 ≤ _), (by decide : 187 + 0 ≤ _)⟩)
                dsimp only [Pt.U, Pt.locs, Pt.cells, Pt.slots] at X59 l59 y59 z59 st59 hQ59
                subst l59 y59 z59
                clear q59a q59c
                obtain ⟨rfl, NQ59, eq59⟩ := hQ59
                replace NF := Fr.app NF NQ59
                clear NQ59
                obtain ⟨lc59, Y59, NG59⟩ := own_lo X59 NF
                clear X59
                replace NF := NG59
                clear NG59
                refine own_go (T' := T59) (g' := (mkF m 483 #[iv i0, iv i1, iv i2, iv i3, iv z1, iv z4, iv kd, iv dg7, iv dg8, iv dg9, iv dg10, iv dg11, iv dg12, iv dg13, iv dg14, iv dg15, iv dg16, iv dg17, iv dg18, rv b19, rv b23, rv b26, rv b30, rv b34, rv b37, rv b41, rv b47, rv tq, rv pp, rv qq, oU] [(.int 1)])) (fun _ k => st59.trans k) ?_
                clear st59
                refine own_ret Y59 Bd.notSynchronized (some (.int 1)) (fun h => by rw [Bd.returns] at h; cases h) (fun fs hr => retN Y59 hx (t := .boolean) Bd.returns (by simp) (hb hby at_483) hr) ?_ (by decide) (by decide)
                clear Y59
                show (own_Q0 Z i0 i1 i2 i3 cs fo h0 n0) (some (.int 1)) T59.heap _
                rw [eq59]
                clear eq59
                exact ⟨rfl, NF⟩
              · refine own_p (g' := (mkF m 484 #[iv i0, iv i1, iv i2, iv i3, iv z1, iv z4, iv kd, iv dg7, iv dg8, iv dg9, iv dg10, iv dg11, iv dg12, iv dg13, iv dg14, iv dg15, iv dg16, iv dg17, iv dg18, rv b19, rv b23, rv b26, rv b30, rv b34, rv b37, rv b41, rv b47, rv tq, rv pp, rv qq, oU] [])) (fun _ k => XS.icmpYes XL.here hx rfl (pc0 := 473) (pc' := 484) rfl (hb hby at_473) rfl (feq c58).2 (by decide) (by decide) k) ?_
                have J62 : ∀ (z60 : Int32), ((z60 = (1 : Int32) ∧ (z1 = z4 ∧ dg7 = dg13 ∧ dg8 = dg14 ∧ dg9 = dg15 ∧ dg10 = dg16 ∧ dg11 = dg17 ∧ (z1 = (0 : Int32) ∨ dg12 = dg18))) ∨ (z60 = (0 : Int32) ∧ ¬ (z1 = z4 ∧ dg7 = dg13 ∧ dg8 = dg14 ∧ dg9 = dg15 ∧ dg10 = dg16 ∧ dg11 = dg17 ∧ (z1 = (0 : Int32) ∨ dg12 = dg18)))) → own_Dn p e below s (own_Q0 Z i0 i1 i2 i3 cs fo h0 n0) room_1.cells room_1.slots TLJB (mkF m 543 #[iv i0, iv i1, iv i2, iv i3, iv z1, iv z4, iv kd, iv dg7, iv dg8, iv dg9, iv dg10, iv dg11, iv dg12, iv dg13, iv dg14, iv dg15, iv dg16, iv dg17, iv dg18, rv b19, rv b23, rv b26, rv b30, rv b34, rv b37, rv b41, rv b47, rv tq, rv pp, rv qq, oU] [(.int z60)]) := by
                  intro z60 hz61
                  have hze := hz61
                  refine own_p (g' := (mkF m 549 #[iv i0, iv i1, iv i2, iv i3, iv z1, iv z4, iv kd, iv dg7, iv dg8, iv dg9, iv dg10, iv dg11, iv dg12, iv dg13, iv dg14, iv dg15, iv dg16, iv dg17, iv dg18, rv b19, rv b23, rv b26, rv b30, rv b34, rv b37, rv b41, rv b47, rv tq, rv pp, rv qq, iv z60] [(.ref qq), (.ref pp)])) (fun _ k => XS.istore XL.here hx rfl (hb hby at_543) rfl (l' := #[iv i0, iv i1, iv i2, iv i3, iv z1, iv z4, iv kd, iv dg7, iv dg8, iv dg9, iv dg10, iv dg11, iv dg12, iv dg13, iv dg14, iv dg15, iv dg16, iv dg17, iv dg18, rv b19, rv b23, rv b26, rv b30, rv b34, rv b37, rv b41, rv b47, rv tq, rv pp, rv qq, iv z60]) rfl (XS.aload XL.here hx rfl (hb hby at_545) rfl rfl (XS.aload XL.here hx rfl (hb hby at_547) rfl rfl k))) ?_
                  obtain ⟨cq63, kq63, q63a, q63b, q63c⟩ := isOf hZ eL E_pp
                  clear q63b
                  obtain ⟨_, _, ⟨T63, L63, k63, n63⟩, -, X63, ⟨Lc63, hQ63, l63, y63, z63⟩, st63⟩ := XL.virtualBack hx (y := own_y36) (z := own_y36) hown (mvT hZ (own_W hw 188 rfl)) (mvT hZ (own_W hw 189 rfl)) (notFace_of_selects (args := #[]) (mvT hZ (own_W hw 191 rfl))) (mvT hZ (own_W hw 191 rfl)) (mvT hZ (own_W hw 190 rfl)) (by decide) (backOf (W := 0) (own_rm44 l Z a0 hw [] pp qq cp cq hLJB n0 Zs E_qq F_pp_code F_qq_code) hZ (own_W hw 192 rfl) (own_W hw 39 rfl) (by decide) (by decide)) q63a q63c (g := (mkF m 549 #[iv i0, iv i1, iv i2, iv i3, iv z1, iv z4, iv kd, iv dg7, iv dg8, iv dg9, iv dg10, iv dg11, iv dg12, iv dg13, iv dg14, iv dg15, iv dg16, iv dg17, iv dg18, rv b19, rv b23, rv b26, rv b30, rv b34, rv b37, rv b41, rv b47, rv tq, rv pp, rv qq, iv z60] [(.ref qq), (.ref pp)])) rfl (by rw [hml]; rfl) (Steps.refl _) (argsL := [(.ref qq)]) (rest := []) (lenOf own_pd0_2 rfl) rfl (Nat.le_refl _) (hb hby at_549) (fun _ _ => ⟨rfl, eL, (by decide : 32 + 0 ≤ _), (by decide : 187 + 0 ≤ _)⟩)
                  dsimp only [Pt.U, Pt.locs, Pt.cells, Pt.slots] at X63 l63 y63 z63 st63 hQ63
                  subst l63 y63 z63
                  clear q63a q63c
                  obtain ⟨rz63, rfl, NQ63, eq63, hz63⟩ := hQ63
                  replace NF := Fr.app NF NQ63
                  clear NQ63
                  obtain ⟨lc63, Y63, NG63⟩ := own_lo X63 NF
                  clear X63
                  replace NF := NG63
                  clear NG63
                  have hr63 := hz63
                  rw [hcc] at hr63
                  have hg63 := own_same hr63 hze
                  refine own_go (T' := T63) (g' := (mkF m 552 #[iv i0, iv i1, iv i2, iv i3, iv z1, iv z4, iv kd, iv dg7, iv dg8, iv dg9, iv dg10, iv dg11, iv dg12, iv dg13, iv dg14, iv dg15, iv dg16, iv dg17, iv dg18, rv b19, rv b23, rv b26, rv b30, rv b34, rv b37, rv b41, rv b47, rv tq, rv pp, rv qq, iv z60] [(.int rz63)])) (fun _ k => st63.trans k) ?_
                  clear st63
                  refine own_p (g' := (mkF m 559 #[iv i0, iv i1, iv i2, iv i3, iv z1, iv z4, iv kd, iv dg7, iv dg8, iv dg9, iv dg10, iv dg11, iv dg12, iv dg13, iv dg14, iv dg15, iv dg16, iv dg17, iv dg18, rv b19, rv b23, rv b26, rv b30, rv b34, rv b37, rv b41, rv b47, rv tq, rv pp, rv qq, iv z60] [(.ref qq)])) (fun _ k => XS.iload Y63.here hx rfl (hb hby at_552) rfl (XS.icmpNo Y63.here hx rfl (hb hby at_554) rfl (teq hg63).2 (XS.aload Y63.here hx rfl (hb hby at_557) rfl rfl k))) ?_
                  refine own_p (g' := (mkF m 561 #[iv i0, iv i1, iv i2, iv i3, iv z1, iv z4, iv kd, iv dg7, iv dg8, iv dg9, iv dg10, iv dg11, iv dg12, iv dg13, iv dg14, iv dg15, iv dg16, iv dg17, iv dg18, rv b19, rv b23, rv b26, rv b30, rv b34, rv b37, rv b41, rv b47, rv tq, rv pp, rv qq, iv z60] [(.ref pp), (.ref qq)])) (fun _ k => XS.aload Y63.here hx rfl (hb hby at_559) rfl rfl k) ?_
                  obtain ⟨cq64, kq64, q64a, q64b, q64c⟩ := isOf hZ eq63 E_qq
                  clear q64b
                  obtain ⟨_, _, ⟨T64, L64, k64, n64⟩, -, X64, ⟨Lc64, hQ64, l64, y64, z64⟩, st64⟩ := Y63.virtualBack hx (y := own_y36) (z := own_y36) hown (mvT hZ (own_W hw 188 rfl)) (mvT hZ (own_W hw 189 rfl)) (notFace_of_selects (args := #[]) (mvT hZ (own_W hw 191 rfl))) (mvT hZ (own_W hw 191 rfl)) (mvT hZ (own_W hw 190 rfl)) (by decide) (backOf (W := 0) (own_rm44 l Z a0 hw [] qq pp cq cp hLJB n0 Zs E_pp F_qq_code F_pp_code) hZ (own_W hw 192 rfl) (own_W hw 39 rfl) (by decide) (by decide)) q64a q64c (g := (mkF m 561 #[iv i0, iv i1, iv i2, iv i3, iv z1, iv z4, iv kd, iv dg7, iv dg8, iv dg9, iv dg10, iv dg11, iv dg12, iv dg13, iv dg14, iv dg15, iv dg16, iv dg17, iv dg18, rv b19, rv b23, rv b26, rv b30, rv b34, rv b37, rv b41, rv b47, rv tq, rv pp, rv qq, iv z60] [(.ref pp), (.ref qq)])) rfl (by rw [hml]; rfl) (Steps.refl _) (argsL := [(.ref pp)]) (rest := []) (lenOf own_pd0_2 rfl) rfl (Nat.le_refl _) (hb hby at_561) (fun _ _ => ⟨rfl, eq63, (by decide : 32 + 0 ≤ _), (by decide : 187 + 0 ≤ _)⟩)
                  dsimp only [Pt.U, Pt.locs, Pt.cells, Pt.slots] at X64 l64 y64 z64 st64 hQ64
                  subst l64 y64 z64
                  clear Y63 eq63 q64a q64c
                  obtain ⟨rz64, rfl, NQ64, eq64, hz64⟩ := hQ64
                  replace NF := Fr.app NF NQ64
                  clear NQ64
                  obtain ⟨lc64, Y64, NG64⟩ := own_lo X64 NF
                  clear X64
                  replace NF := NG64
                  clear NG64
                  have hr64 := hz64
                  rw [(eq_comm.trans hcc : cq = cp ↔ _)] at hr64
                  have hg64 := own_same hr64 hze
                  refine own_go (T' := T64) (g' := (mkF m 564 #[iv i0, iv i1, iv i2, iv i3, iv z1, iv z4, iv kd, iv dg7, iv dg8, iv dg9, iv dg10, iv dg11, iv dg12, iv dg13, iv dg14, iv dg15, iv dg16, iv dg17, iv dg18, rv b19, rv b23, rv b26, rv b30, rv b34, rv b37, rv b41, rv b47, rv tq, rv pp, rv qq, iv z60] [(.int rz64)])) (fun _ k => st64.trans k) ?_
                  clear st64
                  refine own_p (g' := (mkF m 570 #[iv i0, iv i1, iv i2, iv i3, iv z1, iv z4, iv kd, iv dg7, iv dg8, iv dg9, iv dg10, iv dg11, iv dg12, iv dg13, iv dg14, iv dg15, iv dg16, iv dg17, iv dg18, rv b19, rv b23, rv b26, rv b30, rv b34, rv b37, rv b41, rv b47, rv tq, rv pp, rv qq, iv z60] [(.int 1)])) (fun _ k => XS.iload Y64.here hx rfl (hb hby at_564) rfl (XS.icmpNo Y64.here hx rfl (hb hby at_566) rfl (teq hg64).2 (XS.iconst Y64.here hx rfl (hb hby at_569) k))) ?_
                  refine own_p (g' := (mkF m 574 #[iv i0, iv i1, iv i2, iv i3, iv z1, iv z4, iv kd, iv dg7, iv dg8, iv dg9, iv dg10, iv dg11, iv dg12, iv dg13, iv dg14, iv dg15, iv dg16, iv dg17, iv dg18, rv b19, rv b23, rv b26, rv b30, rv b34, rv b37, rv b41, rv b47, rv tq, rv pp, rv qq, iv z60] [(.int 1)])) (fun _ k => XS.goto Y64.here hx rfl (pc0 := 570) (pc' := 574) rfl (hb hby at_570) (by decide) (by decide) k) ?_
                  refine own_ret Y64 Bd.notSynchronized (some (.int 1)) (fun h => by rw [Bd.returns] at h; cases h) (fun fs hr => retN Y64 hx (t := .boolean) Bd.returns (by simp) (hb hby at_574) hr) ?_ (by decide) (by decide)
                  clear Y64
                  show (own_Q0 Z i0 i1 i2 i3 cs fo h0 n0) (some (.int 1)) T64.heap _
                  rw [eq64]
                  clear eq64
                  exact ⟨rfl, NF⟩
                refine own_p (g' := (mkF m 488 #[iv i0, iv i1, iv i2, iv i3, iv z1, iv z4, iv kd, iv dg7, iv dg8, iv dg9, iv dg10, iv dg11, iv dg12, iv dg13, iv dg14, iv dg15, iv dg16, iv dg17, iv dg18, rv b19, rv b23, rv b26, rv b30, rv b34, rv b37, rv b41, rv b47, rv tq, rv pp, rv qq, oU] [(.int z4), (.int z1)])) (fun _ k => XS.iload XL.here hx rfl (hb hby at_484) rfl (XS.iload XL.here hx rfl (hb hby at_486) rfl k)) ?_
                by_cases c65 : z1 = z4
                · refine own_p (g' := (mkF m 495 #[iv i0, iv i1, iv i2, iv i3, iv z1, iv z4, iv kd, iv dg7, iv dg8, iv dg9, iv dg10, iv dg11, iv dg12, iv dg13, iv dg14, iv dg15, iv dg16, iv dg17, iv dg18, rv b19, rv b23, rv b26, rv b30, rv b34, rv b37, rv b41, rv b47, rv tq, rv pp, rv qq, oU] [(.int dg13), (.int dg7)])) (fun _ k => XS.icmpNo XL.here hx rfl (hb hby at_488) rfl (teq c65).2 (XS.iload XL.here hx rfl (hb hby at_491) rfl (XS.iload XL.here hx rfl (hb hby at_493) rfl k))) ?_
                  by_cases c66 : dg7 = dg13
                  · refine own_p (g' := (mkF m 502 #[iv i0, iv i1, iv i2, iv i3, iv z1, iv z4, iv kd, iv dg7, iv dg8, iv dg9, iv dg10, iv dg11, iv dg12, iv dg13, iv dg14, iv dg15, iv dg16, iv dg17, iv dg18, rv b19, rv b23, rv b26, rv b30, rv b34, rv b37, rv b41, rv b47, rv tq, rv pp, rv qq, oU] [(.int dg14), (.int dg8)])) (fun _ k => XS.icmpNo XL.here hx rfl (hb hby at_495) rfl (teq c66).2 (XS.iload XL.here hx rfl (hb hby at_498) rfl (XS.iload XL.here hx rfl (hb hby at_500) rfl k))) ?_
                    by_cases c67 : dg8 = dg14
                    · refine own_p (g' := (mkF m 509 #[iv i0, iv i1, iv i2, iv i3, iv z1, iv z4, iv kd, iv dg7, iv dg8, iv dg9, iv dg10, iv dg11, iv dg12, iv dg13, iv dg14, iv dg15, iv dg16, iv dg17, iv dg18, rv b19, rv b23, rv b26, rv b30, rv b34, rv b37, rv b41, rv b47, rv tq, rv pp, rv qq, oU] [(.int dg15), (.int dg9)])) (fun _ k => XS.icmpNo XL.here hx rfl (hb hby at_502) rfl (teq c67).2 (XS.iload XL.here hx rfl (hb hby at_505) rfl (XS.iload XL.here hx rfl (hb hby at_507) rfl k))) ?_
                      by_cases c68 : dg9 = dg15
                      · refine own_p (g' := (mkF m 516 #[iv i0, iv i1, iv i2, iv i3, iv z1, iv z4, iv kd, iv dg7, iv dg8, iv dg9, iv dg10, iv dg11, iv dg12, iv dg13, iv dg14, iv dg15, iv dg16, iv dg17, iv dg18, rv b19, rv b23, rv b26, rv b30, rv b34, rv b37, rv b41, rv b47, rv tq, rv pp, rv qq, oU] [(.int dg16), (.int dg10)])) (fun _ k => XS.icmpNo XL.here hx rfl (hb hby at_509) rfl (teq c68).2 (XS.iload XL.here hx rfl (hb hby at_512) rfl (XS.iload XL.here hx rfl (hb hby at_514) rfl k))) ?_
                        by_cases c69 : dg10 = dg16
                        · refine own_p (g' := (mkF m 523 #[iv i0, iv i1, iv i2, iv i3, iv z1, iv z4, iv kd, iv dg7, iv dg8, iv dg9, iv dg10, iv dg11, iv dg12, iv dg13, iv dg14, iv dg15, iv dg16, iv dg17, iv dg18, rv b19, rv b23, rv b26, rv b30, rv b34, rv b37, rv b41, rv b47, rv tq, rv pp, rv qq, oU] [(.int dg17), (.int dg11)])) (fun _ k => XS.icmpNo XL.here hx rfl (hb hby at_516) rfl (teq c69).2 (XS.iload XL.here hx rfl (hb hby at_519) rfl (XS.iload XL.here hx rfl (hb hby at_521) rfl k))) ?_
                          by_cases c70 : dg11 = dg17
                          · refine own_p (g' := (mkF m 528 #[iv i0, iv i1, iv i2, iv i3, iv z1, iv z4, iv kd, iv dg7, iv dg8, iv dg9, iv dg10, iv dg11, iv dg12, iv dg13, iv dg14, iv dg15, iv dg16, iv dg17, iv dg18, rv b19, rv b23, rv b26, rv b30, rv b34, rv b37, rv b41, rv b47, rv tq, rv pp, rv qq, oU] [(.int z1)])) (fun _ k => XS.icmpNo XL.here hx rfl (hb hby at_523) rfl (teq c70).2 (XS.iload XL.here hx rfl (hb hby at_526) rfl k)) ?_
                            by_cases c71 : z1 = (0 : Int32)
                            · refine own_p (g' := (mkF m 543 #[iv i0, iv i1, iv i2, iv i3, iv z1, iv z4, iv kd, iv dg7, iv dg8, iv dg9, iv dg10, iv dg11, iv dg12, iv dg13, iv dg14, iv dg15, iv dg16, iv dg17, iv dg18, rv b19, rv b23, rv b26, rv b30, rv b34, rv b37, rv b41, rv b47, rv tq, rv pp, rv qq, oU] [(.int 1)])) (fun _ k => XS.ifYes XL.here hx rfl (pc0 := 528) (pc' := 538) rfl (hb hby at_528) rfl ((if0 _ _).trans (teq c71).1) (by decide) (by decide) (XS.iconst XL.here hx rfl (hb hby at_538) (XS.goto XL.here hx rfl (pc0 := 539) (pc' := 543) rfl (hb hby at_539) (by decide) (by decide) k))) ?_
                              exact J62 _ (by (try simp only [own_l0, own_l1, own_l2, own_l3, own_l4, own_l5, own_l6, own_l10, own_l15, own_l16, own_l31, own_l48, own_l57, own_l100, own_l255, own_l16777216, Int32.lt_iff_toInt_lt, ← Int32.toInt_inj, Int64.lt_iff_toInt_lt, ← Int64.toInt_inj, and_true, true_and, and_false, false_and, or_true, true_or, or_false, false_or, not_true_eq_false, not_false_eq_true, ne_eq, true_implies, false_implies, implies_true] at hz2 hz5 c54 c56 c58 c65 c66 c67 c68 c69 c70 c71 ⊢) <;> omega)
                            · refine own_p (g' := (mkF m 535 #[iv i0, iv i1, iv i2, iv i3, iv z1, iv z4, iv kd, iv dg7, iv dg8, iv dg9, iv dg10, iv dg11, iv dg12, iv dg13, iv dg14, iv dg15, iv dg16, iv dg17, iv dg18, rv b19, rv b23, rv b26, rv b30, rv b34, rv b37, rv b41, rv b47, rv tq, rv pp, rv qq, oU] [(.int dg18), (.int dg12)])) (fun _ k => XS.ifNo XL.here hx rfl (hb hby at_528) rfl ((if0 _ _).trans (feq c71).1) (XS.iload XL.here hx rfl (hb hby at_531) rfl (XS.iload XL.here hx rfl (hb hby at_533) rfl k))) ?_
                              by_cases c72 : dg12 = dg18
                              · refine own_p (g' := (mkF m 543 #[iv i0, iv i1, iv i2, iv i3, iv z1, iv z4, iv kd, iv dg7, iv dg8, iv dg9, iv dg10, iv dg11, iv dg12, iv dg13, iv dg14, iv dg15, iv dg16, iv dg17, iv dg18, rv b19, rv b23, rv b26, rv b30, rv b34, rv b37, rv b41, rv b47, rv tq, rv pp, rv qq, oU] [(.int 1)])) (fun _ k => XS.icmpNo XL.here hx rfl (hb hby at_535) rfl (teq c72).2 (XS.iconst XL.here hx rfl (hb hby at_538) (XS.goto XL.here hx rfl (pc0 := 539) (pc' := 543) rfl (hb hby at_539) (by decide) (by decide) k))) ?_
                                exact J62 _ (by (try simp only [own_l0, own_l1, own_l2, own_l3, own_l4, own_l5, own_l6, own_l10, own_l15, own_l16, own_l31, own_l48, own_l57, own_l100, own_l255, own_l16777216, Int32.lt_iff_toInt_lt, ← Int32.toInt_inj, Int64.lt_iff_toInt_lt, ← Int64.toInt_inj, and_true, true_and, and_false, false_and, or_true, true_or, or_false, false_or, not_true_eq_false, not_false_eq_true, ne_eq, true_implies, false_implies, implies_true] at hz2 hz5 c54 c56 c58 c65 c66 c67 c68 c69 c70 c71 c72 ⊢) <;> omega)
                              · refine own_p (g' := (mkF m 543 #[iv i0, iv i1, iv i2, iv i3, iv z1, iv z4, iv kd, iv dg7, iv dg8, iv dg9, iv dg10, iv dg11, iv dg12, iv dg13, iv dg14, iv dg15, iv dg16, iv dg17, iv dg18, rv b19, rv b23, rv b26, rv b30, rv b34, rv b37, rv b41, rv b47, rv tq, rv pp, rv qq, oU] [(.int 0)])) (fun _ k => XS.icmpYes XL.here hx rfl (pc0 := 535) (pc' := 542) rfl (hb hby at_535) rfl (feq c72).2 (by decide) (by decide) (XS.iconst XL.here hx rfl (hb hby at_542) k)) ?_
                                exact J62 _ (by (try simp only [own_l0, own_l1, own_l2, own_l3, own_l4, own_l5, own_l6, own_l10, own_l15, own_l16, own_l31, own_l48, own_l57, own_l100, own_l255, own_l16777216, Int32.lt_iff_toInt_lt, ← Int32.toInt_inj, Int64.lt_iff_toInt_lt, ← Int64.toInt_inj, and_true, true_and, and_false, false_and, or_true, true_or, or_false, false_or, not_true_eq_false, not_false_eq_true, ne_eq, true_implies, false_implies, implies_true] at hz2 hz5 c54 c56 c58 c65 c66 c67 c68 c69 c70 c71 c72 ⊢) <;> omega)
                          · refine own_p (g' := (mkF m 543 #[iv i0, iv i1, iv i2, iv i3, iv z1, iv z4, iv kd, iv dg7, iv dg8, iv dg9, iv dg10, iv dg11, iv dg12, iv dg13, iv dg14, iv dg15, iv dg16, iv dg17, iv dg18, rv b19, rv b23, rv b26, rv b30, rv b34, rv b37, rv b41, rv b47, rv tq, rv pp, rv qq, oU] [(.int 0)])) (fun _ k => XS.icmpYes XL.here hx rfl (pc0 := 523) (pc' := 542) rfl (hb hby at_523) rfl (feq c70).2 (by decide) (by decide) (XS.iconst XL.here hx rfl (hb hby at_542) k)) ?_
                            exact J62 _ (by (try simp only [own_l0, own_l1, own_l2, own_l3, own_l4, own_l5, own_l6, own_l10, own_l15, own_l16, own_l31, own_l48, own_l57, own_l100, own_l255, own_l16777216, Int32.lt_iff_toInt_lt, ← Int32.toInt_inj, Int64.lt_iff_toInt_lt, ← Int64.toInt_inj, and_true, true_and, and_false, false_and, or_true, true_or, or_false, false_or, not_true_eq_false, not_false_eq_true, ne_eq, true_implies, false_implies, implies_true] at hz2 hz5 c54 c56 c58 c65 c66 c67 c68 c69 c70 ⊢) <;> omega)
                        · refine own_p (g' := (mkF m 543 #[iv i0, iv i1, iv i2, iv i3, iv z1, iv z4, iv kd, iv dg7, iv dg8, iv dg9, iv dg10, iv dg11, iv dg12, iv dg13, iv dg14, iv dg15, iv dg16, iv dg17, iv dg18, rv b19, rv b23, rv b26, rv b30, rv b34, rv b37, rv b41, rv b47, rv tq, rv pp, rv qq, oU] [(.int 0)])) (fun _ k => XS.icmpYes XL.here hx rfl (pc0 := 516) (pc' := 542) rfl (hb hby at_516) rfl (feq c69).2 (by decide) (by decide) (XS.iconst XL.here hx rfl (hb hby at_542) k)) ?_
                          exact J62 _ (by (try simp only [own_l0, own_l1, own_l2, own_l3, own_l4, own_l5, own_l6, own_l10, own_l15, own_l16, own_l31, own_l48, own_l57, own_l100, own_l255, own_l16777216, Int32.lt_iff_toInt_lt, ← Int32.toInt_inj, Int64.lt_iff_toInt_lt, ← Int64.toInt_inj, and_true, true_and, and_false, false_and, or_true, true_or, or_false, false_or, not_true_eq_false, not_false_eq_true, ne_eq, true_implies, false_implies, implies_true] at hz2 hz5 c54 c56 c58 c65 c66 c67 c68 c69 ⊢) <;> omega)
                      · refine own_p (g' := (mkF m 543 #[iv i0, iv i1, iv i2, iv i3, iv z1, iv z4, iv kd, iv dg7, iv dg8, iv dg9, iv dg10, iv dg11, iv dg12, iv dg13, iv dg14, iv dg15, iv dg16, iv dg17, iv dg18, rv b19, rv b23, rv b26, rv b30, rv b34, rv b37, rv b41, rv b47, rv tq, rv pp, rv qq, oU] [(.int 0)])) (fun _ k => XS.icmpYes XL.here hx rfl (pc0 := 509) (pc' := 542) rfl (hb hby at_509) rfl (feq c68).2 (by decide) (by decide) (XS.iconst XL.here hx rfl (hb hby at_542) k)) ?_
                        exact J62 _ (by (try simp only [own_l0, own_l1, own_l2, own_l3, own_l4, own_l5, own_l6, own_l10, own_l15, own_l16, own_l31, own_l48, own_l57, own_l100, own_l255, own_l16777216, Int32.lt_iff_toInt_lt, ← Int32.toInt_inj, Int64.lt_iff_toInt_lt, ← Int64.toInt_inj, and_true, true_and, and_false, false_and, or_true, true_or, or_false, false_or, not_true_eq_false, not_false_eq_true, ne_eq, true_implies, false_implies, implies_true] at hz2 hz5 c54 c56 c58 c65 c66 c67 c68 ⊢) <;> omega)
                    · refine own_p (g' := (mkF m 543 #[iv i0, iv i1, iv i2, iv i3, iv z1, iv z4, iv kd, iv dg7, iv dg8, iv dg9, iv dg10, iv dg11, iv dg12, iv dg13, iv dg14, iv dg15, iv dg16, iv dg17, iv dg18, rv b19, rv b23, rv b26, rv b30, rv b34, rv b37, rv b41, rv b47, rv tq, rv pp, rv qq, oU] [(.int 0)])) (fun _ k => XS.icmpYes XL.here hx rfl (pc0 := 502) (pc' := 542) rfl (hb hby at_502) rfl (feq c67).2 (by decide) (by decide) (XS.iconst XL.here hx rfl (hb hby at_542) k)) ?_
                      exact J62 _ (by (try simp only [own_l0, own_l1, own_l2, own_l3, own_l4, own_l5, own_l6, own_l10, own_l15, own_l16, own_l31, own_l48, own_l57, own_l100, own_l255, own_l16777216, Int32.lt_iff_toInt_lt, ← Int32.toInt_inj, Int64.lt_iff_toInt_lt, ← Int64.toInt_inj, and_true, true_and, and_false, false_and, or_true, true_or, or_false, false_or, not_true_eq_false, not_false_eq_true, ne_eq, true_implies, false_implies, implies_true] at hz2 hz5 c54 c56 c58 c65 c66 c67 ⊢) <;> omega)
                  · refine own_p (g' := (mkF m 543 #[iv i0, iv i1, iv i2, iv i3, iv z1, iv z4, iv kd, iv dg7, iv dg8, iv dg9, iv dg10, iv dg11, iv dg12, iv dg13, iv dg14, iv dg15, iv dg16, iv dg17, iv dg18, rv b19, rv b23, rv b26, rv b30, rv b34, rv b37, rv b41, rv b47, rv tq, rv pp, rv qq, oU] [(.int 0)])) (fun _ k => XS.icmpYes XL.here hx rfl (pc0 := 495) (pc' := 542) rfl (hb hby at_495) rfl (feq c66).2 (by decide) (by decide) (XS.iconst XL.here hx rfl (hb hby at_542) k)) ?_
                    exact J62 _ (by (try simp only [own_l0, own_l1, own_l2, own_l3, own_l4, own_l5, own_l6, own_l10, own_l15, own_l16, own_l31, own_l48, own_l57, own_l100, own_l255, own_l16777216, Int32.lt_iff_toInt_lt, ← Int32.toInt_inj, Int64.lt_iff_toInt_lt, ← Int64.toInt_inj, and_true, true_and, and_false, false_and, or_true, true_or, or_false, false_or, not_true_eq_false, not_false_eq_true, ne_eq, true_implies, false_implies, implies_true] at hz2 hz5 c54 c56 c58 c65 c66 ⊢) <;> omega)
                · refine own_p (g' := (mkF m 543 #[iv i0, iv i1, iv i2, iv i3, iv z1, iv z4, iv kd, iv dg7, iv dg8, iv dg9, iv dg10, iv dg11, iv dg12, iv dg13, iv dg14, iv dg15, iv dg16, iv dg17, iv dg18, rv b19, rv b23, rv b26, rv b30, rv b34, rv b37, rv b41, rv b47, rv tq, rv pp, rv qq, oU] [(.int 0)])) (fun _ k => XS.icmpYes XL.here hx rfl (pc0 := 488) (pc' := 542) rfl (hb hby at_488) rfl (feq c65).2 (by decide) (by decide) (XS.iconst XL.here hx rfl (hb hby at_542) k)) ?_
                  exact J62 _ (by (try simp only [own_l0, own_l1, own_l2, own_l3, own_l4, own_l5, own_l6, own_l10, own_l15, own_l16, own_l31, own_l48, own_l57, own_l100, own_l255, own_l16777216, Int32.lt_iff_toInt_lt, ← Int32.toInt_inj, Int64.lt_iff_toInt_lt, ← Int64.toInt_inj, and_true, true_and, and_false, false_and, or_true, true_or, or_false, false_or, not_true_eq_false, not_false_eq_true, ne_eq, true_implies, false_implies, implies_true] at hz2 hz5 c54 c56 c58 c65 ⊢) <;> omega)
        obtain ⟨T73, h73, X73, e73, E73, A73, D73, -, st73⟩ := newO XL hx hZ hown (own_W hw 37 rfl) (own_W hw 38 rfl) (own_W hw 39 rfl) eL (g := (mkF m 383 #[iv i0, iv i1, iv i2, iv i3, iv z1, iv z4, iv kd, iv dg7, iv dg8, iv dg9, iv dg10, iv dg11, iv dg12, iv dg13, iv dg14, iv dg15, iv dg16, iv dg17, iv dg18, rv b19, rv b23, rv b26, rv b30, rv b34, rv b37, rv b41, rv b47, rv tq, rv pp, oU, oU] [])) rfl (hb hby at_383) (by decide) (by decide)
        obtain ⟨b73, g73⟩ : ∃ z, z = hLJA.size := ⟨_, rfl⟩
        rw [← g73] at A73 D73 st73
        replace ne_b30_b73 : b30 ≠ b73 := Nat.ne_of_lt (Nat.lt_of_lt_of_le V_b30.lt (Nat.le_of_eq g73.symm))
        replace ne_b34_b73 : b34 ≠ b73 := Nat.ne_of_lt (Nat.lt_of_lt_of_le V_b34.lt (Nat.le_of_eq g73.symm))
        replace ne_b37_b73 : b37 ≠ b73 := Nat.ne_of_lt (Nat.lt_of_lt_of_le V_b37.lt (Nat.le_of_eq g73.symm))
        replace ne_pp_b73 : pp ≠ b73 := Nat.ne_of_lt (Nat.lt_of_lt_of_le E_pp.lt (Nat.le_of_eq g73.symm))
        replace ne_tq_b73 : tq ≠ b73 := Nat.ne_of_lt (Nat.lt_of_lt_of_le E_tq.lt (Nat.le_of_eq g73.symm))
        clear ne_tq_b73
        replace g_b73 : n0 ≤ b73 := Nat.le_trans Zs (Nat.le_of_eq g73.symm)
        replace OL := OL.ext E73
        replace V_b30 := V_b30.ext E73
        replace V_b34 := V_b34.ext E73
        replace V_b37 := V_b37.ext E73
        replace E_tq := E_tq.ext E73
        replace E_pp := E_pp.ext E73
        replace F_pp_code := F_pp_code.ext E73
        replace Zs := Nat.le_trans Zs E73.1
        clear E73
        replace E_b73 := A73
        clear A73
        replace F_b73_digits : Fld Z h73 b73 "com/example/carrier_name_resolver/carriernameresolver/card/Plmn" "digits" "Ljava/lang/String;" .null := D73 (Or.inr (own_W hw 181 rfl)) (ty := (.object "java/lang/String")) (by decide)
        replace F_b73_code : Fld Z h73 b73 "com/example/carrier_name_resolver/carriernameresolver/card/Plmn" "code" "I" (.int 0) := D73 (Or.inr (own_W hw 187 rfl)) (ty := .int) (by decide)
        clear D73
        refine own_go (T' := T73) (g' := (mkF m 386 #[iv i0, iv i1, iv i2, iv i3, iv z1, iv z4, iv kd, iv dg7, iv dg8, iv dg9, iv dg10, iv dg11, iv dg12, iv dg13, iv dg14, iv dg15, iv dg16, iv dg17, iv dg18, rv b19, rv b23, rv b26, rv b30, rv b34, rv b37, rv b41, rv b47, rv tq, rv pp, oU, oU] [(.ref b73)])) (fun _ k => st73 _ k) ?_
        clear st73
        refine own_p (g' := (mkF m 387 #[iv i0, iv i1, iv i2, iv i3, iv z1, iv z4, iv kd, iv dg7, iv dg8, iv dg9, iv dg10, iv dg11, iv dg12, iv dg13, iv dg14, iv dg15, iv dg16, iv dg17, iv dg18, rv b19, rv b23, rv b26, rv b30, rv b34, rv b37, rv b41, rv b47, rv tq, rv pp, oU, oU] [(.ref b73), (.ref b73)])) (fun _ k => XS.dup X73.here hx rfl (hb hby at_386) rfl rfl k) ?_
        obtain ⟨T74, h74, X74, e74, E74, A74, D74, -, st74⟩ := newO X73 hx hZ hown (own_W hw 8 rfl) (own_W hw 9 rfl) (own_W hw 10 rfl) e73 (g := (mkF m 387 #[iv i0, iv i1, iv i2, iv i3, iv z1, iv z4, iv kd, iv dg7, iv dg8, iv dg9, iv dg10, iv dg11, iv dg12, iv dg13, iv dg14, iv dg15, iv dg16, iv dg17, iv dg18, rv b19, rv b23, rv b26, rv b30, rv b34, rv b37, rv b41, rv b47, rv tq, rv pp, oU, oU] [(.ref b73), (.ref b73)])) rfl (hb hby at_387) (by decide) (by decide)
        clear X73 e73
        obtain ⟨b74, g74⟩ : ∃ z, z = h73.size := ⟨_, rfl⟩
        rw [← g74] at A74 D74 st74
        replace ne_b30_b74 : b30 ≠ b74 := Nat.ne_of_lt (Nat.lt_of_lt_of_le V_b30.lt (Nat.le_of_eq g74.symm))
        replace ne_b34_b74 : b34 ≠ b74 := Nat.ne_of_lt (Nat.lt_of_lt_of_le V_b34.lt (Nat.le_of_eq g74.symm))
        replace ne_b37_b74 : b37 ≠ b74 := Nat.ne_of_lt (Nat.lt_of_lt_of_le V_b37.lt (Nat.le_of_eq g74.symm))
        replace ne_b73_b74 : b73 ≠ b74 := Nat.ne_of_lt (Nat.lt_of_lt_of_le E_b73.lt (Nat.le_of_eq g74.symm))
        replace ne_pp_b74 : pp ≠ b74 := Nat.ne_of_lt (Nat.lt_of_lt_of_le E_pp.lt (Nat.le_of_eq g74.symm))
        replace ne_tq_b74 : tq ≠ b74 := Nat.ne_of_lt (Nat.lt_of_lt_of_le E_tq.lt (Nat.le_of_eq g74.symm))
        clear ne_tq_b74
        replace g_b74 : n0 ≤ b74 := Nat.le_trans Zs (Nat.le_of_eq g74.symm)
        replace OL := OL.ext E74
        replace V_b30 := V_b30.ext E74
        replace V_b34 := V_b34.ext E74
        replace V_b37 := V_b37.ext E74
        replace E_tq := E_tq.ext E74
        replace E_pp := E_pp.ext E74
        replace F_pp_code := F_pp_code.ext E74
        replace E_b73 := E_b73.ext E74
        replace F_b73_digits := F_b73_digits.ext E74
        replace F_b73_code := F_b73_code.ext E74
        replace Zs := Nat.le_trans Zs E74.1
        clear E74
        replace E_b74 := A74
        clear A74
        replace F_b74_coder : Fld Z h74 b74 "java/lang/String" "coder" "B" (.int 0) := D74 (Or.inr (own_W hw 34 rfl)) (ty := .byte) (by decide)
        replace F_b74_value : Fld Z h74 b74 "java/lang/String" "value" "[B" .null := D74 (Or.inr (own_W hw 36 rfl)) (ty := (.array .byte)) (by decide)
        clear D74
        refine own_go (T' := T74) (g' := (mkF m 390 #[iv i0, iv i1, iv i2, iv i3, iv z1, iv z4, iv kd, iv dg7, iv dg8, iv dg9, iv dg10, iv dg11, iv dg12, iv dg13, iv dg14, iv dg15, iv dg16, iv dg17, iv dg18, rv b19, rv b23, rv b26, rv b30, rv b34, rv b37, rv b41, rv b47, rv tq, rv pp, oU, oU] [(.ref b74), (.ref b73), (.ref b73)])) (fun _ k => st74 _ k) ?_
        clear st74
        refine own_p (g' := (mkF m 393 #[iv i0, iv i1, iv i2, iv i3, iv z1, iv z4, iv kd, iv dg7, iv dg8, iv dg9, iv dg10, iv dg11, iv dg12, iv dg13, iv dg14, iv dg15, iv dg16, iv dg17, iv dg18, rv b19, rv b23, rv b26, rv b30, rv b34, rv b37, rv b41, rv b47, rv tq, rv pp, oU, oU] [(.ref b30), (.ref b74), (.ref b74), (.ref b73), (.ref b73)])) (fun _ k => XS.dup X74.here hx rfl (hb hby at_390) rfl rfl (XS.aload X74.here hx rfl (hb hby at_391) rfl rfl k)) ?_
        replace lt_b30 := V_b30.lt
        replace lt_b34 := V_b34.lt
        replace lt_b37 := V_b37.lt
        replace lt_b73 := E_b73.lt
        replace lt_b74 := E_b74.lt
        replace lt_pp := E_pp.lt
        replace lt_tq := E_tq.lt
        obtain ⟨_, _, ⟨T75, L75, k75, n75⟩, -, X75, ⟨Lc75, hQ75, l75, y75, z75⟩, st75⟩ := X74.specialBack hx (y := own_y6) rfl hown (mvT hZ (own_W hw 11 rfl)) (mvT hZ (own_W hw 12 rfl)) (mvT hZ (own_W hw 13 rfl)) (by decide) (backOf (W := 3) (own_rm7 l Z a0 hw [] b74 b30 cs fo k30 (3 : Int32) (nar .char dg13) (nar .char dg14) (nar .char dg15) (nar .char dg13) (nar .char dg13) (nar .char dg13) h74 n0 Zs OL S_cs hcs S_fo hfo (by decide) (by decide) F_b74_value F_b74_coder E_b74 g_b74 (own_pad (ws := [(.int (nar .char dg13)), (.int (nar .char dg13)), (.int (nar .char dg13))]) (Nat.le_of_ble_eq_true rfl) V_b30) (Ne.symm ne_b30_b74) (own_dr hd_dg13) (own_dr hd_dg14) (own_dr hd_dg15) (own_dr hd_dg13) (own_dr hd_dg13) (own_dr hd_dg13)) hZ (own_W hw 13 rfl) (own_W hw 10 rfl) (by decide) (by decide)) (g := (mkF m 393 #[iv i0, iv i1, iv i2, iv i3, iv z1, iv z4, iv kd, iv dg7, iv dg8, iv dg9, iv dg10, iv dg11, iv dg12, iv dg13, iv dg14, iv dg15, iv dg16, iv dg17, iv dg18, rv b19, rv b23, rv b26, rv b30, rv b34, rv b37, rv b41, rv b47, rv tq, rv pp, oU, oU] [(.ref b30), (.ref b74), (.ref b74), (.ref b73), (.ref b73)])) rfl (by rw [hml]; rfl) (Steps.refl _) (a := b74) (argsL := [(.ref b30)]) (rest := [(.ref b74), (.ref b73), (.ref b73)]) (lenOf own_pd0_3 rfl) rfl (Nat.le_refl _) (hb hby at_393) (fun _ _ => ⟨rfl, e74, (by decide : 22 + 1 ≤ _), (by decide : 113 + 6 ≤ _)⟩)
        dsimp only [Pt.U, Pt.locs, Pt.cells, Pt.slots] at X75 l75 y75 z75 st75 hQ75
        subst l75 y75 z75
        clear X74 e74
        clear E_b74 F_b74_coder F_b74_value
        obtain ⟨rfl, NQ75, K75, E_b74, ba75, kb75, ge_ba75, g_ba75, V_ba75, F_b74_value, F_b74_coder⟩ := hQ75
        clear g_ba75
        replace NF := Fr.app NF NQ75
        clear NQ75
        obtain ⟨lc75, Y75, NG75⟩ := own_lo X75 NF
        clear X75
        replace NF := NG75
        clear NG75
        replace OL := OL.keep K75 (allS g_b74 all0)
        clear g_b74
        replace V_b30 := V_b30.keep K75 (ninS ne_b30_b74 nin0)
        clear ne_b30_b74
        replace V_b34 := V_b34.keep K75 (ninS ne_b34_b74 nin0)
        clear ne_b34_b74
        replace V_b37 := V_b37.keep K75 (ninS ne_b37_b74 nin0)
        clear ne_b37_b74
        replace E_tq := E_tq.keep K75
        replace E_pp := E_pp.keep K75
        replace F_pp_code := F_pp_code.keep K75 (ninS ne_pp_b74 nin0)
        clear ne_pp_b74
        replace E_b73 := E_b73.keep K75
        replace F_b73_digits := F_b73_digits.keep K75 (ninS ne_b73_b74 nin0)
        replace F_b73_code := F_b73_code.keep K75 (ninS ne_b73_b74 nin0)
        replace Zs := Nat.le_trans Zs K75.1
        clear K75
        replace ne_b30_ba75 : b30 ≠ ba75 := Nat.ne_of_lt (Nat.lt_of_lt_of_le lt_b30 ge_ba75)
        clear ne_b30_ba75
        replace ne_b34_ba75 : b34 ≠ ba75 := Nat.ne_of_lt (Nat.lt_of_lt_of_le lt_b34 ge_ba75)
        clear ne_b34_ba75
        replace ne_b37_ba75 : b37 ≠ ba75 := Nat.ne_of_lt (Nat.lt_of_lt_of_le lt_b37 ge_ba75)
        clear ne_b37_ba75
        replace ne_b73_ba75 : b73 ≠ ba75 := Nat.ne_of_lt (Nat.lt_of_lt_of_le lt_b73 ge_ba75)
        replace ne_b74_ba75 : b74 ≠ ba75 := Nat.ne_of_lt (Nat.lt_of_lt_of_le lt_b74 ge_ba75)
        clear ne_b74_ba75
        replace ne_pp_ba75 : pp ≠ ba75 := Nat.ne_of_lt (Nat.lt_of_lt_of_le lt_pp ge_ba75)
        clear ne_pp_ba75
        replace ne_tq_ba75 : tq ≠ ba75 := Nat.ne_of_lt (Nat.lt_of_lt_of_le lt_tq ge_ba75)
        clear ge_ba75 ne_tq_ba75
        replace V_ba75 : Arv Z T75.heap ba75 kb75 .byte (3 : Int32) [(.int (nar .char dg13)), (.int (nar .char dg14)), (.int (nar .char dg15))] (.int 0) := own_cut (Nat.le_of_ble_eq_true rfl) V_ba75
        refine own_go (T' := T75) (g' := (mkF m 396 #[iv i0, iv i1, iv i2, iv i3, iv z1, iv z4, iv kd, iv dg7, iv dg8, iv dg9, iv dg10, iv dg11, iv dg12, iv dg13, iv dg14, iv dg15, iv dg16, iv dg17, iv dg18, rv b19, rv b23, rv b26, rv b30, rv b34, rv b37, rv b41, rv b47, rv tq, rv pp, oU, oU] [(.ref b74), (.ref b73), (.ref b73)])) (fun _ k => st75.trans k) ?_
        clear st75
        refine own_p (g' := (mkF m 398 #[iv i0, iv i1, iv i2, iv i3, iv z1, iv z4, iv kd, iv dg7, iv dg8, iv dg9, iv dg10, iv dg11, iv dg12, iv dg13, iv dg14, iv dg15, iv dg16, iv dg17, iv dg18, rv b19, rv b23, rv b26, rv b30, rv b34, rv b37, rv b41, rv b47, rv tq, rv pp, oU, oU] [(.int z4), (.ref b74), (.ref b73), (.ref b73)])) (fun _ k => XS.iload Y75.here hx rfl (hb hby at_396) rfl k) ?_
        by_cases c76 : z4 = (0 : Int32)
        · refine own_p (g' := (mkF m 413 #[iv i0, iv i1, iv i2, iv i3, iv z1, iv z4, iv kd, iv dg7, iv dg8, iv dg9, iv dg10, iv dg11, iv dg12, iv dg13, iv dg14, iv dg15, iv dg16, iv dg17, iv dg18, rv b19, rv b23, rv b26, rv b30, rv b34, rv b37, rv b41, rv b47, rv tq, rv pp, oU, oU] [(.ref b74), (.ref b73), (.ref b73)])) (fun _ k => XS.ifYes Y75.here hx rfl (pc0 := 398) (pc' := 413) rfl (hb hby at_398) rfl ((if0 _ _).trans (teq c76).1) (by decide) (by decide) k) ?_
          obtain ⟨T77, h77, X77, e77, E77, A77, D77, -, st77⟩ := newO Y75 hx hZ hown (own_W hw 8 rfl) (own_W hw 9 rfl) (own_W hw 10 rfl) rfl (g := (mkF m 413 #[iv i0, iv i1, iv i2, iv i3, iv z1, iv z4, iv kd, iv dg7, iv dg8, iv dg9, iv dg10, iv dg11, iv dg12, iv dg13, iv dg14, iv dg15, iv dg16, iv dg17, iv dg18, rv b19, rv b23, rv b26, rv b30, rv b34, rv b37, rv b41, rv b47, rv tq, rv pp, oU, oU] [(.ref b74), (.ref b73), (.ref b73)])) rfl (hb hby at_413) (by decide) (by decide)
          clear Y75
          obtain ⟨b77, g77⟩ : ∃ z, z = T75.heap.size := ⟨_, rfl⟩
          rw [← g77] at A77 D77 st77
          replace ne_b30_b77 : b30 ≠ b77 := Nat.ne_of_lt (Nat.lt_of_lt_of_le V_b30.lt (Nat.le_of_eq g77.symm))
          replace ne_b34_b77 : b34 ≠ b77 := Nat.ne_of_lt (Nat.lt_of_lt_of_le V_b34.lt (Nat.le_of_eq g77.symm))
          replace ne_b37_b77 : b37 ≠ b77 := Nat.ne_of_lt (Nat.lt_of_lt_of_le V_b37.lt (Nat.le_of_eq g77.symm))
          replace ne_b73_b77 : b73 ≠ b77 := Nat.ne_of_lt (Nat.lt_of_lt_of_le E_b73.lt (Nat.le_of_eq g77.symm))
          replace ne_b74_b77 : b74 ≠ b77 := Nat.ne_of_lt (Nat.lt_of_lt_of_le E_b74.lt (Nat.le_of_eq g77.symm))
          replace ne_ba75_b77 : ba75 ≠ b77 := Nat.ne_of_lt (Nat.lt_of_lt_of_le V_ba75.lt (Nat.le_of_eq g77.symm))
          replace ne_pp_b77 : pp ≠ b77 := Nat.ne_of_lt (Nat.lt_of_lt_of_le E_pp.lt (Nat.le_of_eq g77.symm))
          replace ne_tq_b77 : tq ≠ b77 := Nat.ne_of_lt (Nat.lt_of_lt_of_le E_tq.lt (Nat.le_of_eq g77.symm))
          clear ne_tq_b77
          replace g_b77 : n0 ≤ b77 := Nat.le_trans Zs (Nat.le_of_eq g77.symm)
          replace OL := OL.ext E77
          replace V_b30 := V_b30.ext E77
          replace V_b34 := V_b34.ext E77
          replace V_b37 := V_b37.ext E77
          replace E_tq := E_tq.ext E77
          replace E_pp := E_pp.ext E77
          replace F_pp_code := F_pp_code.ext E77
          replace E_b73 := E_b73.ext E77
          replace F_b73_digits := F_b73_digits.ext E77
          replace F_b73_code := F_b73_code.ext E77
          replace E_b74 := E_b74.ext E77
          replace F_b74_coder := F_b74_coder.ext E77
          replace F_b74_value := F_b74_value.ext E77
          replace V_ba75 := V_ba75.ext E77
          replace Zs := Nat.le_trans Zs E77.1
          clear E77
          replace E_b77 := A77
          clear A77
          replace F_b77_coder : Fld Z h77 b77 "java/lang/String" "coder" "B" (.int 0) := D77 (Or.inr (own_W hw 34 rfl)) (ty := .byte) (by decide)
          replace F_b77_value : Fld Z h77 b77 "java/lang/String" "value" "[B" .null := D77 (Or.inr (own_W hw 36 rfl)) (ty := (.array .byte)) (by decide)
          clear D77
          refine own_go (T' := T77) (g' := (mkF m 416 #[iv i0, iv i1, iv i2, iv i3, iv z1, iv z4, iv kd, iv dg7, iv dg8, iv dg9, iv dg10, iv dg11, iv dg12, iv dg13, iv dg14, iv dg15, iv dg16, iv dg17, iv dg18, rv b19, rv b23, rv b26, rv b30, rv b34, rv b37, rv b41, rv b47, rv tq, rv pp, oU, oU] [(.ref b77), (.ref b74), (.ref b73), (.ref b73)])) (fun _ k => st77 _ k) ?_
          clear st77
          refine own_p (g' := (mkF m 419 #[iv i0, iv i1, iv i2, iv i3, iv z1, iv z4, iv kd, iv dg7, iv dg8, iv dg9, iv dg10, iv dg11, iv dg12, iv dg13, iv dg14, iv dg15, iv dg16, iv dg17, iv dg18, rv b19, rv b23, rv b26, rv b30, rv b34, rv b37, rv b41, rv b47, rv tq, rv pp, oU, oU] [(.ref b34), (.ref b77), (.ref b77), (.ref b74), (.ref b73), (.ref b73)])) (fun _ k => XS.dup X77.here hx rfl (hb hby at_416) rfl rfl (XS.aload X77.here hx rfl (hb hby at_417) rfl rfl k)) ?_
          replace lt_b30 := V_b30.lt
          replace lt_b34 := V_b34.lt
          replace lt_b37 := V_b37.lt
          replace lt_b73 := E_b73.lt
          replace lt_b74 := E_b74.lt
          replace lt_b77 := E_b77.lt
          replace lt_ba75 := V_ba75.lt
          replace lt_pp := E_pp.lt
          replace lt_tq := E_tq.lt
          obtain ⟨_, _, ⟨T78, L78, k78, n78⟩, -, X78, ⟨Lc78, hQ78, l78, y78, z78⟩, st78⟩ := X77.specialBack hx (y := own_y6) rfl hown (mvT hZ (own_W hw 11 rfl)) (mvT hZ (own_W hw 12 rfl)) (mvT hZ (own_W hw 13 rfl)) (by decide) (backOf (W := 4) (own_rm7 l Z a0 hw [] b77 b34 cs fo k34 (2 : Int32) (nar .char dg16) (nar .char dg17) (nar .char dg16) (nar .char dg16) (nar .char dg16) (nar .char dg16) h77 n0 Zs OL S_cs hcs S_fo hfo (by decide) (by decide) F_b77_value F_b77_coder E_b77 g_b77 (own_pad (ws := [(.int (nar .char dg16)), (.int (nar .char dg16)), (.int (nar .char dg16)), (.int (nar .char dg16))]) (Nat.le_of_ble_eq_true rfl) V_b34) (Ne.symm ne_b34_b77) (own_dr hd_dg16) (own_dr hd_dg17) (own_dr hd_dg16) (own_dr hd_dg16) (own_dr hd_dg16) (own_dr hd_dg16)) hZ (own_W hw 13 rfl) (own_W hw 10 rfl) (by decide) (by decide)) (g := (mkF m 419 #[iv i0, iv i1, iv i2, iv i3, iv z1, iv z4, iv kd, iv dg7, iv dg8, iv dg9, iv dg10, iv dg11, iv dg12, iv dg13, iv dg14, iv dg15, iv dg16, iv dg17, iv dg18, rv b19, rv b23, rv b26, rv b30, rv b34, rv b37, rv b41, rv b47, rv tq, rv pp, oU, oU] [(.ref b34), (.ref b77), (.ref b77), (.ref b74), (.ref b73), (.ref b73)])) rfl (by rw [hml]; rfl) (Steps.refl _) (a := b77) (argsL := [(.ref b34)]) (rest := [(.ref b77), (.ref b74), (.ref b73), (.ref b73)]) (lenOf own_pd0_3 rfl) rfl (Nat.le_refl _) (hb hby at_419) (fun _ _ => ⟨rfl, e77, (by decide : 24 + 1 ≤ _), (by decide : 123 + 6 ≤ _)⟩)
          dsimp only [Pt.U, Pt.locs, Pt.cells, Pt.slots] at X78 l78 y78 z78 st78 hQ78
          subst l78 y78 z78
          clear X77 e77
          clear E_b77 F_b77_coder F_b77_value
          obtain ⟨rfl, NQ78, K78, E_b77, ba78, kb78, ge_ba78, g_ba78, V_ba78, F_b77_value, F_b77_coder⟩ := hQ78
          clear g_ba78
          replace NF := Fr.app NF NQ78
          clear NQ78
          obtain ⟨lc78, Y78, NG78⟩ := own_lo X78 NF
          clear X78
          replace NF := NG78
          clear NG78
          replace OL := OL.keep K78 (allS g_b77 all0)
          clear g_b77
          replace V_b30 := V_b30.keep K78 (ninS ne_b30_b77 nin0)
          clear ne_b30_b77
          replace V_b34 := V_b34.keep K78 (ninS ne_b34_b77 nin0)
          clear ne_b34_b77
          replace V_b37 := V_b37.keep K78 (ninS ne_b37_b77 nin0)
          clear ne_b37_b77
          replace E_tq := E_tq.keep K78
          replace E_pp := E_pp.keep K78
          replace F_pp_code := F_pp_code.keep K78 (ninS ne_pp_b77 nin0)
          clear ne_pp_b77
          replace E_b73 := E_b73.keep K78
          replace F_b73_digits := F_b73_digits.keep K78 (ninS ne_b73_b77 nin0)
          replace F_b73_code := F_b73_code.keep K78 (ninS ne_b73_b77 nin0)
          replace E_b74 := E_b74.keep K78
          replace F_b74_coder := F_b74_coder.keep K78 (ninS ne_b74_b77 nin0)
          replace F_b74_value := F_b74_value.keep K78 (ninS ne_b74_b77 nin0)
          clear ne_b74_b77
          replace V_ba75 := V_ba75.keep K78 (ninS ne_ba75_b77 nin0)
          clear ne_ba75_b77
          replace Zs := Nat.le_trans Zs K78.1
          clear K78
          replace ne_b30_ba78 : b30 ≠ ba78 := Nat.ne_of_lt (Nat.lt_of_lt_of_le lt_b30 ge_ba78)
          clear lt_b30 ne_b30_ba78
          replace ne_b34_ba78 : b34 ≠ ba78 := Nat.ne_of_lt (Nat.lt_of_lt_of_le lt_b34 ge_ba78)
          clear lt_b34 ne_b34_ba78
          replace ne_b37_ba78 : b37 ≠ ba78 := Nat.ne_of_lt (Nat.lt_of_lt_of_le lt_b37 ge_ba78)
          clear lt_b37 ne_b37_ba78
          replace ne_b73_ba78 : b73 ≠ ba78 := Nat.ne_of_lt (Nat.lt_of_lt_of_le lt_b73 ge_ba78)
          clear lt_b73
          replace ne_b74_ba78 : b74 ≠ ba78 := Nat.ne_of_lt (Nat.lt_of_lt_of_le lt_b74 ge_ba78)
          clear lt_b74 ne_b74_ba78
          replace ne_b77_ba78 : b77 ≠ ba78 := Nat.ne_of_lt (Nat.lt_of_lt_of_le lt_b77 ge_ba78)
          clear lt_b77 ne_b77_ba78
          replace ne_ba75_ba78 : ba75 ≠ ba78 := Nat.ne_of_lt (Nat.lt_of_lt_of_le lt_ba75 ge_ba78)
          clear lt_ba75 ne_ba75_ba78
          replace ne_pp_ba78 : pp ≠ ba78 := Nat.ne_of_lt (Nat.lt_of_lt_of_le lt_pp ge_ba78)
          clear lt_pp ne_pp_ba78
          replace ne_tq_ba78 : tq ≠ ba78 := Nat.ne_of_lt (Nat.lt_of_lt_of_le lt_tq ge_ba78)
          clear ge_ba78 lt_tq ne_tq_ba78
          replace V_ba78 : Arv Z T78.heap ba78 kb78 .byte (2 : Int32) [(.int (nar .char dg16)), (.int (nar .char dg17))] (.int 0) := own_cut (Nat.le_of_ble_eq_true rfl) V_ba78
          refine own_go (T' := T78) (g' := (mkF m 422 #[iv i0, iv i1, iv i2, iv i3, iv z1, iv z4, iv kd, iv dg7, iv dg8, iv dg9, iv dg10, iv dg11, iv dg12, iv dg13, iv dg14, iv dg15, iv dg16, iv dg17, iv dg18, rv b19, rv b23, rv b26, rv b30, rv b34, rv b37, rv b41, rv b47, rv tq, rv pp, oU, oU] [(.ref b77), (.ref b74), (.ref b73), (.ref b73)])) (fun _ k => st78.trans k) ?_
          clear st78
          obtain ⟨_, _, ⟨T79, L79, k79, n79⟩, -, X79, ⟨Lc79, hQ79, l79, y79, z79⟩, st79⟩ := Y78.specialBack hx (y := own_y35) rfl hown (mvT hZ (own_W hw 40 rfl)) (mvT hZ (own_W hw 41 rfl)) (mvT hZ (own_W hw 42 rfl)) (by decide) (backOf (W := 1) (own_rm40_2 l Z a0 hw [] b73 b74 b77 cs fo ba75 kb75 (nar .char dg13) (nar .char dg14) (nar .char dg15) ba78 kb78 (nar .char dg16) (nar .char dg17) T78.heap n0 Zs OL S_cs hcs S_fo hfo F_b73_digits F_b73_code E_b73 g_b73 E_b74 F_b74_value F_b74_coder V_ba75 (own_dr hd_dg13) (own_dr hd_dg14) (own_dr hd_dg15) E_b77 F_b77_value F_b77_coder V_ba78 (own_dr hd_dg16) (own_dr hd_dg17)) hZ (own_W hw 42 rfl) (own_W hw 39 rfl) (by decide) (by decide)) (g := (mkF m 422 #[iv i0, iv i1, iv i2, iv i3, iv z1, iv z4, iv kd, iv dg7, iv dg8, iv dg9, iv dg10, iv dg11, iv dg12, iv dg13, iv dg14, iv dg15, iv dg16, iv dg17, iv dg18, rv b19, rv b23, rv b26, rv b30, rv b34, rv b37, rv b41, rv b47, rv tq, rv pp, oU, oU] [(.ref b77), (.ref b74), (.ref b73), (.ref b73)])) rfl (by rw [hml]; rfl) (Steps.refl _) (a := b73) (argsL := [(.ref b74), (.ref b77)]) (rest := [(.ref b73)]) (lenOf own_pd0_4 rfl) rfl (Nat.le_refl _) (hb hby at_422) (fun _ _ => ⟨rfl, rfl, (by decide : 25 + 4 ≤ _), (by decide : 129 + 29 ≤ _)⟩)
          dsimp only [Pt.U, Pt.locs, Pt.cells, Pt.slots] at X79 l79 y79 z79 st79 hQ79
          subst l79 y79 z79
          clear F_b73_digits Y78
          clear E_b73 F_b73_code
          obtain ⟨rfl, NQ79, K79, E_b73, F_b73_code⟩ := hQ79
          replace NF := Fr.app NF NQ79
          clear NQ79
          obtain ⟨lc79, Y79, NG79⟩ := own_lo X79 NF
          clear X79
          replace NF := NG79
          clear NG79
          replace OL := OL.keep K79 (allS g_b73 all0)
          clear g_b73
          replace V_b30 := V_b30.keep K79 (ninS ne_b30_b73 nin0)
          clear V_b30 ne_b30_b73
          replace V_b34 := V_b34.keep K79 (ninS ne_b34_b73 nin0)
          clear V_b34 ne_b34_b73
          replace V_b37 := V_b37.keep K79 (ninS ne_b37_b73 nin0)
          clear V_b37 ne_b37_b73
          replace E_tq := E_tq.keep K79
          replace E_pp := E_pp.keep K79
          replace F_pp_code := F_pp_code.keep K79 (ninS ne_pp_b73 nin0)
          replace E_b74 := E_b74.keep K79
          clear E_b74
          replace F_b74_coder := F_b74_coder.keep K79 (ninS (Ne.symm ne_b73_b74) nin0)
          clear F_b74_coder
          replace F_b74_value := F_b74_value.keep K79 (ninS (Ne.symm ne_b73_b74) nin0)
          clear F_b74_value ne_b73_b74
          replace V_ba75 := V_ba75.keep K79 (ninS (Ne.symm ne_b73_ba75) nin0)
          clear V_ba75 ne_b73_ba75
          replace E_b77 := E_b77.keep K79
          clear E_b77
          replace F_b77_coder := F_b77_coder.keep K79 (ninS (Ne.symm ne_b73_b77) nin0)
          clear F_b77_coder
          replace F_b77_value := F_b77_value.keep K79 (ninS (Ne.symm ne_b73_b77) nin0)
          clear F_b77_value ne_b73_b77
          replace V_ba78 := V_ba78.keep K79 (ninS (Ne.symm ne_b73_ba78) nin0)
          clear V_ba78 ne_b73_ba78
          replace Zs := Nat.le_trans Zs K79.1
          clear K79
          refine own_go (T' := T79) (g' := (mkF m 425 #[iv i0, iv i1, iv i2, iv i3, iv z1, iv z4, iv kd, iv dg7, iv dg8, iv dg9, iv dg10, iv dg11, iv dg12, iv dg13, iv dg14, iv dg15, iv dg16, iv dg17, iv dg18, rv b19, rv b23, rv b26, rv b30, rv b34, rv b37, rv b41, rv b47, rv tq, rv pp, oU, oU] [(.ref b73)])) (fun _ k => st79.trans k) ?_
          clear st79
          refine own_p (g' := (mkF m 427 #[iv i0, iv i1, iv i2, iv i3, iv z1, iv z4, iv kd, iv dg7, iv dg8, iv dg9, iv dg10, iv dg11, iv dg12, iv dg13, iv dg14, iv dg15, iv dg16, iv dg17, iv dg18, rv b19, rv b23, rv b26, rv b30, rv b34, rv b37, rv b41, rv b47, rv tq, rv pp, rv b73, oU] [])) (fun _ k => XS.astore Y79.here hx rfl (hb hby at_425) rfl rfl (l' := #[iv i0, iv i1, iv i2, iv i3, iv z1, iv z4, iv kd, iv dg7, iv dg8, iv dg9, iv dg10, iv dg11, iv dg12, iv dg13, iv dg14, iv dg15, iv dg16, iv dg17, iv dg18, rv b19, rv b23, rv b26, rv b30, rv b34, rv b37, rv b41, rv b47, rv tq, rv pp, rv b73, oU]) rfl k) ?_
          replace E_qq := E_b73
          clear E_b73
          replace F_qq_code := F_b73_code
          clear F_b73_code
          exact JB b73 _ _ _ _ (Or.inl ⟨c76, by rw [own_dn hd_dg13, own_dn hd_dg14, own_dn hd_dg15, own_dn hd_dg16, own_dn hd_dg17]⟩) ne_pp_b73 { Y79 with same := Y79.same.mono (by decide) (by decide) } rfl NF Zs OL E_tq E_pp F_pp_code E_qq F_qq_code
        · refine own_p (g' := (mkF m 401 #[iv i0, iv i1, iv i2, iv i3, iv z1, iv z4, iv kd, iv dg7, iv dg8, iv dg9, iv dg10, iv dg11, iv dg12, iv dg13, iv dg14, iv dg15, iv dg16, iv dg17, iv dg18, rv b19, rv b23, rv b26, rv b30, rv b34, rv b37, rv b41, rv b47, rv tq, rv pp, oU, oU] [(.ref b74), (.ref b73), (.ref b73)])) (fun _ k => XS.ifNo Y75.here hx rfl (hb hby at_398) rfl ((if0 _ _).trans (feq c76).1) k) ?_
          obtain ⟨T80, h80, X80, e80, E80, A80, D80, -, st80⟩ := newO Y75 hx hZ hown (own_W hw 8 rfl) (own_W hw 9 rfl) (own_W hw 10 rfl) rfl (g := (mkF m 401 #[iv i0, iv i1, iv i2, iv i3, iv z1, iv z4, iv kd, iv dg7, iv dg8, iv dg9, iv dg10, iv dg11, iv dg12, iv dg13, iv dg14, iv dg15, iv dg16, iv dg17, iv dg18, rv b19, rv b23, rv b26, rv b30, rv b34, rv b37, rv b41, rv b47, rv tq, rv pp, oU, oU] [(.ref b74), (.ref b73), (.ref b73)])) rfl (hb hby at_401) (by decide) (by decide)
          clear Y75
          obtain ⟨b80, g80⟩ : ∃ z, z = T75.heap.size := ⟨_, rfl⟩
          rw [← g80] at A80 D80 st80
          replace ne_b30_b80 : b30 ≠ b80 := Nat.ne_of_lt (Nat.lt_of_lt_of_le V_b30.lt (Nat.le_of_eq g80.symm))
          replace ne_b34_b80 : b34 ≠ b80 := Nat.ne_of_lt (Nat.lt_of_lt_of_le V_b34.lt (Nat.le_of_eq g80.symm))
          replace ne_b37_b80 : b37 ≠ b80 := Nat.ne_of_lt (Nat.lt_of_lt_of_le V_b37.lt (Nat.le_of_eq g80.symm))
          replace ne_b73_b80 : b73 ≠ b80 := Nat.ne_of_lt (Nat.lt_of_lt_of_le E_b73.lt (Nat.le_of_eq g80.symm))
          replace ne_b74_b80 : b74 ≠ b80 := Nat.ne_of_lt (Nat.lt_of_lt_of_le E_b74.lt (Nat.le_of_eq g80.symm))
          replace ne_ba75_b80 : ba75 ≠ b80 := Nat.ne_of_lt (Nat.lt_of_lt_of_le V_ba75.lt (Nat.le_of_eq g80.symm))
          replace ne_pp_b80 : pp ≠ b80 := Nat.ne_of_lt (Nat.lt_of_lt_of_le E_pp.lt (Nat.le_of_eq g80.symm))
          replace ne_tq_b80 : tq ≠ b80 := Nat.ne_of_lt (Nat.lt_of_lt_of_le E_tq.lt (Nat.le_of_eq g80.symm))
          clear ne_tq_b80
          replace g_b80 : n0 ≤ b80 := Nat.le_trans Zs (Nat.le_of_eq g80.symm)
          replace OL := OL.ext E80
          replace V_b30 := V_b30.ext E80
          replace V_b34 := V_b34.ext E80
          replace V_b37 := V_b37.ext E80
          replace E_tq := E_tq.ext E80
          replace E_pp := E_pp.ext E80
          replace F_pp_code := F_pp_code.ext E80
          replace E_b73 := E_b73.ext E80
          replace F_b73_digits := F_b73_digits.ext E80
          replace F_b73_code := F_b73_code.ext E80
          replace E_b74 := E_b74.ext E80
          replace F_b74_coder := F_b74_coder.ext E80
          replace F_b74_value := F_b74_value.ext E80
          replace V_ba75 := V_ba75.ext E80
          replace Zs := Nat.le_trans Zs E80.1
          clear E80
          replace E_b80 := A80
          clear A80
          replace F_b80_coder : Fld Z h80 b80 "java/lang/String" "coder" "B" (.int 0) := D80 (Or.inr (own_W hw 34 rfl)) (ty := .byte) (by decide)
          replace F_b80_value : Fld Z h80 b80 "java/lang/String" "value" "[B" .null := D80 (Or.inr (own_W hw 36 rfl)) (ty := (.array .byte)) (by decide)
          clear D80
          refine own_go (T' := T80) (g' := (mkF m 404 #[iv i0, iv i1, iv i2, iv i3, iv z1, iv z4, iv kd, iv dg7, iv dg8, iv dg9, iv dg10, iv dg11, iv dg12, iv dg13, iv dg14, iv dg15, iv dg16, iv dg17, iv dg18, rv b19, rv b23, rv b26, rv b30, rv b34, rv b37, rv b41, rv b47, rv tq, rv pp, oU, oU] [(.ref b80), (.ref b74), (.ref b73), (.ref b73)])) (fun _ k => st80 _ k) ?_
          clear st80
          refine own_p (g' := (mkF m 407 #[iv i0, iv i1, iv i2, iv i3, iv z1, iv z4, iv kd, iv dg7, iv dg8, iv dg9, iv dg10, iv dg11, iv dg12, iv dg13, iv dg14, iv dg15, iv dg16, iv dg17, iv dg18, rv b19, rv b23, rv b26, rv b30, rv b34, rv b37, rv b41, rv b47, rv tq, rv pp, oU, oU] [(.ref b37), (.ref b80), (.ref b80), (.ref b74), (.ref b73), (.ref b73)])) (fun _ k => XS.dup X80.here hx rfl (hb hby at_404) rfl rfl (XS.aload X80.here hx rfl (hb hby at_405) rfl rfl k)) ?_
          replace lt_b30 := V_b30.lt
          replace lt_b34 := V_b34.lt
          replace lt_b37 := V_b37.lt
          replace lt_b73 := E_b73.lt
          replace lt_b74 := E_b74.lt
          replace lt_b80 := E_b80.lt
          replace lt_ba75 := V_ba75.lt
          replace lt_pp := E_pp.lt
          replace lt_tq := E_tq.lt
          obtain ⟨_, _, ⟨T81, L81, k81, n81⟩, -, X81, ⟨Lc81, hQ81, l81, y81, z81⟩, st81⟩ := X80.specialBack hx (y := own_y6) rfl hown (mvT hZ (own_W hw 11 rfl)) (mvT hZ (own_W hw 12 rfl)) (mvT hZ (own_W hw 13 rfl)) (by decide) (backOf (W := 4) (own_rm7 l Z a0 hw [] b80 b37 cs fo k37 (3 : Int32) (nar .char dg16) (nar .char dg17) (nar .char dg18) (nar .char dg16) (nar .char dg16) (nar .char dg16) h80 n0 Zs OL S_cs hcs S_fo hfo (by decide) (by decide) F_b80_value F_b80_coder E_b80 g_b80 (own_pad (ws := [(.int (nar .char dg16)), (.int (nar .char dg16)), (.int (nar .char dg16))]) (Nat.le_of_ble_eq_true rfl) V_b37) (Ne.symm ne_b37_b80) (own_dr hd_dg16) (own_dr hd_dg17) (own_dr hd_dg18) (own_dr hd_dg16) (own_dr hd_dg16) (own_dr hd_dg16)) hZ (own_W hw 13 rfl) (own_W hw 10 rfl) (by decide) (by decide)) (g := (mkF m 407 #[iv i0, iv i1, iv i2, iv i3, iv z1, iv z4, iv kd, iv dg7, iv dg8, iv dg9, iv dg10, iv dg11, iv dg12, iv dg13, iv dg14, iv dg15, iv dg16, iv dg17, iv dg18, rv b19, rv b23, rv b26, rv b30, rv b34, rv b37, rv b41, rv b47, rv tq, rv pp, oU, oU] [(.ref b37), (.ref b80), (.ref b80), (.ref b74), (.ref b73), (.ref b73)])) rfl (by rw [hml]; rfl) (Steps.refl _) (a := b80) (argsL := [(.ref b37)]) (rest := [(.ref b80), (.ref b74), (.ref b73), (.ref b73)]) (lenOf own_pd0_3 rfl) rfl (Nat.le_refl _) (hb hby at_407) (fun _ _ => ⟨rfl, e80, (by decide : 24 + 1 ≤ _), (by decide : 123 + 6 ≤ _)⟩)
          dsimp only [Pt.U, Pt.locs, Pt.cells, Pt.slots] at X81 l81 y81 z81 st81 hQ81
          subst l81 y81 z81
          clear X80 e80
          clear E_b80 F_b80_coder F_b80_value
          obtain ⟨rfl, NQ81, K81, E_b80, ba81, kb81, ge_ba81, g_ba81, V_ba81, F_b80_value, F_b80_coder⟩ := hQ81
          clear g_ba81
          replace NF := Fr.app NF NQ81
          clear NQ81
          obtain ⟨lc81, Y81, NG81⟩ := own_lo X81 NF
          clear X81
          replace NF := NG81
          clear NG81
          replace OL := OL.keep K81 (allS g_b80 all0)
          clear g_b80
          replace V_b30 := V_b30.keep K81 (ninS ne_b30_b80 nin0)
          clear ne_b30_b80
          replace V_b34 := V_b34.keep K81 (ninS ne_b34_b80 nin0)
          clear ne_b34_b80
          replace V_b37 := V_b37.keep K81 (ninS ne_b37_b80 nin0)
          clear ne_b37_b80
          replace E_tq := E_tq.keep K81
          replace E_pp := E_pp.keep K81
          replace F_pp_code := F_pp_code.keep K81 (ninS ne_pp_b80 nin0)
          clear ne_pp_b80
          replace E_b73 := E_b73.keep K81
          replace F_b73_digits := F_b73_digits.keep K81 (ninS ne_b73_b80 nin0)
          replace F_b73_code := F_b73_code.keep K81 (ninS ne_b73_b80 nin0)
          replace E_b74 := E_b74.keep K81
          replace F_b74_coder := F_b74_coder.keep K81 (ninS ne_b74_b80 nin0)
          replace F_b74_value := F_b74_value.keep K81 (ninS ne_b74_b80 nin0)
          clear ne_b74_b80
          replace V_ba75 := V_ba75.keep K81 (ninS ne_ba75_b80 nin0)
          clear ne_ba75_b80
          replace Zs := Nat.le_trans Zs K81.1
          clear K81
          replace ne_b30_ba81 : b30 ≠ ba81 := Nat.ne_of_lt (Nat.lt_of_lt_of_le lt_b30 ge_ba81)
          clear lt_b30 ne_b30_ba81
          replace ne_b34_ba81 : b34 ≠ ba81 := Nat.ne_of_lt (Nat.lt_of_lt_of_le lt_b34 ge_ba81)
          clear lt_b34 ne_b34_ba81
          replace ne_b37_ba81 : b37 ≠ ba81 := Nat.ne_of_lt (Nat.lt_of_lt_of_le lt_b37 ge_ba81)
          clear lt_b37 ne_b37_ba81
          replace ne_b73_ba81 : b73 ≠ ba81 := Nat.ne_of_lt (Nat.lt_of_lt_of_le lt_b73 ge_ba81)
          clear lt_b73
          replace ne_b74_ba81 : b74 ≠ ba81 := Nat.ne_of_lt (Nat.lt_of_lt_of_le lt_b74 ge_ba81)
          clear lt_b74 ne_b74_ba81
          replace ne_b80_ba81 : b80 ≠ ba81 := Nat.ne_of_lt (Nat.lt_of_lt_of_le lt_b80 ge_ba81)
          clear lt_b80 ne_b80_ba81
          replace ne_ba75_ba81 : ba75 ≠ ba81 := Nat.ne_of_lt (Nat.lt_of_lt_of_le lt_ba75 ge_ba81)
          clear lt_ba75 ne_ba75_ba81
          replace ne_pp_ba81 : pp ≠ ba81 := Nat.ne_of_lt (Nat.lt_of_lt_of_le lt_pp ge_ba81)
          clear lt_pp ne_pp_ba81
          replace ne_tq_ba81 : tq ≠ ba81 := Nat.ne_of_lt (Nat.lt_of_lt_of_le lt_tq ge_ba81)
          clear ge_ba81 lt_tq ne_tq_ba81
          replace V_ba81 : Arv Z T81.heap ba81 kb81 .byte (3 : Int32) [(.int (nar .char dg16)), (.int (nar .char dg17)), (.int (nar .char dg18))] (.int 0) := own_cut (Nat.le_of_ble_eq_true rfl) V_ba81
          refine own_go (T' := T81) (g' := (mkF m 410 #[iv i0, iv i1, iv i2, iv i3, iv z1, iv z4, iv kd, iv dg7, iv dg8, iv dg9, iv dg10, iv dg11, iv dg12, iv dg13, iv dg14, iv dg15, iv dg16, iv dg17, iv dg18, rv b19, rv b23, rv b26, rv b30, rv b34, rv b37, rv b41, rv b47, rv tq, rv pp, oU, oU] [(.ref b80), (.ref b74), (.ref b73), (.ref b73)])) (fun _ k => st81.trans k) ?_
          clear st81
          refine own_p (g' := (mkF m 422 #[iv i0, iv i1, iv i2, iv i3, iv z1, iv z4, iv kd, iv dg7, iv dg8, iv dg9, iv dg10, iv dg11, iv dg12, iv dg13, iv dg14, iv dg15, iv dg16, iv dg17, iv dg18, rv b19, rv b23, rv b26, rv b30, rv b34, rv b37, rv b41, rv b47, rv tq, rv pp, oU, oU] [(.ref b80), (.ref b74), (.ref b73), (.ref b73)])) (fun _ k => XS.goto Y81.here hx rfl (pc0 := 410) (pc' := 422) rfl (hb hby at_410) (by decide) (by decide) k) ?_
          obtain ⟨_, _, ⟨T82, L82, k82, n82⟩, -, X82, ⟨Lc82, hQ82, l82, y82, z82⟩, st82⟩ := Y81.specialBack hx (y := own_y35) rfl hown (mvT hZ (own_W hw 40 rfl)) (mvT hZ (own_W hw 41 rfl)) (mvT hZ (own_W hw 42 rfl)) (by decide) (backOf (W := 1) (own_rm40_3 l Z a0 hw [] b73 b74 b80 cs fo ba75 kb75 (nar .char dg13) (nar .char dg14) (nar .char dg15) ba81 kb81 (nar .char dg16) (nar .char dg17) (nar .char dg18) T81.heap n0 Zs OL S_cs hcs S_fo hfo F_b73_digits F_b73_code E_b73 g_b73 E_b74 F_b74_value F_b74_coder V_ba75 (own_dr hd_dg13) (own_dr hd_dg14) (own_dr hd_dg15) E_b80 F_b80_value F_b80_coder V_ba81 (own_dr hd_dg16) (own_dr hd_dg17) (own_dr hd_dg18)) hZ (own_W hw 42 rfl) (own_W hw 39 rfl) (by decide) (by decide)) (g := (mkF m 422 #[iv i0, iv i1, iv i2, iv i3, iv z1, iv z4, iv kd, iv dg7, iv dg8, iv dg9, iv dg10, iv dg11, iv dg12, iv dg13, iv dg14, iv dg15, iv dg16, iv dg17, iv dg18, rv b19, rv b23, rv b26, rv b30, rv b34, rv b37, rv b41, rv b47, rv tq, rv pp, oU, oU] [(.ref b80), (.ref b74), (.ref b73), (.ref b73)])) rfl (by rw [hml]; rfl) (Steps.refl _) (a := b73) (argsL := [(.ref b74), (.ref b80)]) (rest := [(.ref b73)]) (lenOf own_pd0_4 rfl) rfl (Nat.le_refl _) (hb hby at_422) (fun _ _ => ⟨rfl, rfl, (by decide : 25 + 4 ≤ _), (by decide : 129 + 30 ≤ _)⟩)
          dsimp only [Pt.U, Pt.locs, Pt.cells, Pt.slots] at X82 l82 y82 z82 st82 hQ82
          subst l82 y82 z82
          clear F_b73_digits Y81
          clear E_b73 F_b73_code
          obtain ⟨rfl, NQ82, K82, E_b73, F_b73_code⟩ := hQ82
          replace NF := Fr.app NF NQ82
          clear NQ82
          obtain ⟨lc82, Y82, NG82⟩ := own_lo X82 NF
          clear X82
          replace NF := NG82
          clear NG82
          replace OL := OL.keep K82 (allS g_b73 all0)
          clear g_b73
          replace V_b30 := V_b30.keep K82 (ninS ne_b30_b73 nin0)
          clear V_b30 ne_b30_b73
          replace V_b34 := V_b34.keep K82 (ninS ne_b34_b73 nin0)
          clear V_b34 ne_b34_b73
          replace V_b37 := V_b37.keep K82 (ninS ne_b37_b73 nin0)
          clear V_b37 ne_b37_b73
          replace E_tq := E_tq.keep K82
          replace E_pp := E_pp.keep K82
          replace F_pp_code := F_pp_code.keep K82 (ninS ne_pp_b73 nin0)
          replace E_b74 := E_b74.keep K82
          clear E_b74
          replace F_b74_coder := F_b74_coder.keep K82 (ninS (Ne.symm ne_b73_b74) nin0)
          clear F_b74_coder
          replace F_b74_value := F_b74_value.keep K82 (ninS (Ne.symm ne_b73_b74) nin0)
          clear F_b74_value ne_b73_b74
          replace V_ba75 := V_ba75.keep K82 (ninS (Ne.symm ne_b73_ba75) nin0)
          clear V_ba75 ne_b73_ba75
          replace E_b80 := E_b80.keep K82
          clear E_b80
          replace F_b80_coder := F_b80_coder.keep K82 (ninS (Ne.symm ne_b73_b80) nin0)
          clear F_b80_coder
          replace F_b80_value := F_b80_value.keep K82 (ninS (Ne.symm ne_b73_b80) nin0)
          clear F_b80_value ne_b73_b80
          replace V_ba81 := V_ba81.keep K82 (ninS (Ne.symm ne_b73_ba81) nin0)
          clear V_ba81 ne_b73_ba81
          replace Zs := Nat.le_trans Zs K82.1
          clear K82
          refine own_go (T' := T82) (g' := (mkF m 425 #[iv i0, iv i1, iv i2, iv i3, iv z1, iv z4, iv kd, iv dg7, iv dg8, iv dg9, iv dg10, iv dg11, iv dg12, iv dg13, iv dg14, iv dg15, iv dg16, iv dg17, iv dg18, rv b19, rv b23, rv b26, rv b30, rv b34, rv b37, rv b41, rv b47, rv tq, rv pp, oU, oU] [(.ref b73)])) (fun _ k => st82.trans k) ?_
          clear st82
          refine own_p (g' := (mkF m 427 #[iv i0, iv i1, iv i2, iv i3, iv z1, iv z4, iv kd, iv dg7, iv dg8, iv dg9, iv dg10, iv dg11, iv dg12, iv dg13, iv dg14, iv dg15, iv dg16, iv dg17, iv dg18, rv b19, rv b23, rv b26, rv b30, rv b34, rv b37, rv b41, rv b47, rv tq, rv pp, rv b73, oU] [])) (fun _ k => XS.astore Y82.here hx rfl (hb hby at_425) rfl rfl (l' := #[iv i0, iv i1, iv i2, iv i3, iv z1, iv z4, iv kd, iv dg7, iv dg8, iv dg9, iv dg10, iv dg11, iv dg12, iv dg13, iv dg14, iv dg15, iv dg16, iv dg17, iv dg18, rv b19, rv b23, rv b26, rv b30, rv b34, rv b37, rv b41, rv b47, rv tq, rv pp, rv b73, oU]) rfl k) ?_
          replace E_qq := E_b73
          clear E_b73
          replace F_qq_code := F_b73_code
          clear F_b73_code
          exact JB b73 _ _ _ _ (Or.inr ⟨c76, by rw [own_dn hd_dg13, own_dn hd_dg14, own_dn hd_dg15, own_dn hd_dg16, own_dn hd_dg17, own_dn hd_dg18]⟩) ne_pp_b73 { Y82 with same := Y82.same.mono (by decide) (by decide) } rfl NF Zs OL E_tq E_pp F_pp_code E_qq F_qq_code
      refine own_p (g' := (mkF m 313 #[iv i0, iv i1, iv i2, iv i3, iv z1, iv z4, iv kd, iv dg7, iv dg8, iv dg9, iv dg10, iv dg11, iv dg12, iv dg13, iv dg14, iv dg15, iv dg16, iv dg17, iv dg18, rv b19, rv b23, rv b26, rv b30, rv b34, rv b37, rv b41, rv b47, oU, oU, oU, oU] [(.int z1)])) (fun _ k => XS.iload Y53.here hx rfl (hb hby at_311) rfl k) ?_
      by_cases c83 : z1 = (0 : Int32)
      · refine own_p (g' := (mkF m 328 #[iv i0, iv i1, iv i2, iv i3, iv z1, iv z4, iv kd, iv dg7, iv dg8, iv dg9, iv dg10, iv dg11, iv dg12, iv dg13, iv dg14, iv dg15, iv dg16, iv dg17, iv dg18, rv b19, rv b23, rv b26, rv b30, rv b34, rv b37, rv b41, rv b47, oU, oU, oU, oU] [])) (fun _ k => XS.ifYes Y53.here hx rfl (pc0 := 313) (pc' := 328) rfl (hb hby at_313) rfl ((if0 _ _).trans (teq c83).1) (by decide) (by decide) k) ?_
        obtain ⟨T84, h84, X84, e84, E84, A84, D84, -, st84⟩ := newO Y53 hx hZ hown (own_W hw 8 rfl) (own_W hw 9 rfl) (own_W hw 10 rfl) e53 (g := (mkF m 328 #[iv i0, iv i1, iv i2, iv i3, iv z1, iv z4, iv kd, iv dg7, iv dg8, iv dg9, iv dg10, iv dg11, iv dg12, iv dg13, iv dg14, iv dg15, iv dg16, iv dg17, iv dg18, rv b19, rv b23, rv b26, rv b30, rv b34, rv b37, rv b41, rv b47, oU, oU, oU, oU] [])) rfl (hb hby at_328) (by decide) (by decide)
        clear Y53 e53
        obtain ⟨b84, g84⟩ : ∃ z, z = h53.size := ⟨_, rfl⟩
        rw [← g84] at A84 D84 st84
        replace ne_b19_b84 : b19 ≠ b84 := Nat.ne_of_lt (Nat.lt_of_lt_of_le V_b19.lt (Nat.le_of_eq g84.symm))
        replace ne_b23_b84 : b23 ≠ b84 := Nat.ne_of_lt (Nat.lt_of_lt_of_le V_b23.lt (Nat.le_of_eq g84.symm))
        replace ne_b26_b84 : b26 ≠ b84 := Nat.ne_of_lt (Nat.lt_of_lt_of_le V_b26.lt (Nat.le_of_eq g84.symm))
        replace ne_b30_b84 : b30 ≠ b84 := Nat.ne_of_lt (Nat.lt_of_lt_of_le V_b30.lt (Nat.le_of_eq g84.symm))
        replace ne_b34_b84 : b34 ≠ b84 := Nat.ne_of_lt (Nat.lt_of_lt_of_le V_b34.lt (Nat.le_of_eq g84.symm))
        replace ne_b37_b84 : b37 ≠ b84 := Nat.ne_of_lt (Nat.lt_of_lt_of_le V_b37.lt (Nat.le_of_eq g84.symm))
        replace ne_b41_b84 : b41 ≠ b84 := Nat.ne_of_lt (Nat.lt_of_lt_of_le V_b41.lt (Nat.le_of_eq g84.symm))
        replace ne_b47_b84 : b47 ≠ b84 := Nat.ne_of_lt (Nat.lt_of_lt_of_le V_b47.lt (Nat.le_of_eq g84.symm))
        replace g_b84 : n0 ≤ b84 := Nat.le_trans Zs (Nat.le_of_eq g84.symm)
        replace OL := OL.ext E84
        replace V_b19 := V_b19.ext E84
        replace V_b23 := V_b23.ext E84
        replace V_b26 := V_b26.ext E84
        replace V_b30 := V_b30.ext E84
        replace V_b34 := V_b34.ext E84
        replace V_b37 := V_b37.ext E84
        replace V_b41 := V_b41.ext E84
        replace V_b47 := V_b47.ext E84
        replace Zs := Nat.le_trans Zs E84.1
        clear E84
        replace E_b84 := A84
        clear A84
        replace F_b84_coder : Fld Z h84 b84 "java/lang/String" "coder" "B" (.int 0) := D84 (Or.inr (own_W hw 34 rfl)) (ty := .byte) (by decide)
        replace F_b84_value : Fld Z h84 b84 "java/lang/String" "value" "[B" .null := D84 (Or.inr (own_W hw 36 rfl)) (ty := (.array .byte)) (by decide)
        clear D84
        refine own_go (T' := T84) (g' := (mkF m 331 #[iv i0, iv i1, iv i2, iv i3, iv z1, iv z4, iv kd, iv dg7, iv dg8, iv dg9, iv dg10, iv dg11, iv dg12, iv dg13, iv dg14, iv dg15, iv dg16, iv dg17, iv dg18, rv b19, rv b23, rv b26, rv b30, rv b34, rv b37, rv b41, rv b47, oU, oU, oU, oU] [(.ref b84)])) (fun _ k => st84 _ k) ?_
        clear st84
        refine own_p (g' := (mkF m 334 #[iv i0, iv i1, iv i2, iv i3, iv z1, iv z4, iv kd, iv dg7, iv dg8, iv dg9, iv dg10, iv dg11, iv dg12, iv dg13, iv dg14, iv dg15, iv dg16, iv dg17, iv dg18, rv b19, rv b23, rv b26, rv b30, rv b34, rv b37, rv b41, rv b47, oU, oU, oU, oU] [(.ref b41), (.ref b84), (.ref b84)])) (fun _ k => XS.dup X84.here hx rfl (hb hby at_331) rfl rfl (XS.aload X84.here hx rfl (hb hby at_332) rfl rfl k)) ?_
        replace lt_b19 := V_b19.lt
        replace lt_b23 := V_b23.lt
        replace lt_b26 := V_b26.lt
        replace lt_b30 := V_b30.lt
        replace lt_b34 := V_b34.lt
        replace lt_b37 := V_b37.lt
        replace lt_b41 := V_b41.lt
        replace lt_b47 := V_b47.lt
        replace lt_b84 := E_b84.lt
        obtain ⟨_, _, ⟨T85, L85, k85, n85⟩, -, X85, ⟨Lc85, hQ85, l85, y85, z85⟩, st85⟩ := X84.specialBack hx (y := own_y6) rfl hown (mvT hZ (own_W hw 11 rfl)) (mvT hZ (own_W hw 12 rfl)) (mvT hZ (own_W hw 13 rfl)) (by decide) (backOf (W := 1) (own_rm7 l Z a0 hw [] b84 b41 cs fo k41 (5 : Int32) (nar .char dg7) (nar .char dg8) (nar .char dg9) (nar .char dg10) (nar .char dg11) (nar .char dg7) h84 n0 Zs OL S_cs hcs S_fo hfo (by decide) (by decide) F_b84_value F_b84_coder E_b84 g_b84 (own_pad (ws := [(.int (nar .char dg7))]) (Nat.le_of_ble_eq_true rfl) V_b41) (Ne.symm ne_b41_b84) (own_dr hd_dg7) (own_dr hd_dg8) (own_dr hd_dg9) (own_dr hd_dg10) (own_dr hd_dg11) (own_dr hd_dg7)) hZ (own_W hw 13 rfl) (own_W hw 10 rfl) (by decide) (by decide)) (g := (mkF m 334 #[iv i0, iv i1, iv i2, iv i3, iv z1, iv z4, iv kd, iv dg7, iv dg8, iv dg9, iv dg10, iv dg11, iv dg12, iv dg13, iv dg14, iv dg15, iv dg16, iv dg17, iv dg18, rv b19, rv b23, rv b26, rv b30, rv b34, rv b37, rv b41, rv b47, oU, oU, oU, oU] [(.ref b41), (.ref b84), (.ref b84)])) rfl (by rw [hml]; rfl) (Steps.refl _) (a := b84) (argsL := [(.ref b41)]) (rest := [(.ref b84)]) (lenOf own_pd0_3 rfl) rfl (Nat.le_refl _) (hb hby at_334) (fun _ _ => ⟨rfl, e84, (by decide : 9 + 1 ≤ _), (by decide : 31 + 6 ≤ _)⟩)
        dsimp only [Pt.U, Pt.locs, Pt.cells, Pt.slots] at X85 l85 y85 z85 st85 hQ85
        subst l85 y85 z85
        clear X84 e84
        clear E_b84 F_b84_coder F_b84_value
        obtain ⟨rfl, NQ85, K85, E_b84, ba85, kb85, ge_ba85, g_ba85, V_ba85, F_b84_value, F_b84_coder⟩ := hQ85
        clear g_ba85
        replace NF := Fr.app NF NQ85
        clear NQ85
        obtain ⟨lc85, Y85, NG85⟩ := own_lo X85 NF
        clear X85
        replace NF := NG85
        clear NG85
        replace OL := OL.keep K85 (allS g_b84 all0)
        clear g_b84
        replace V_b19 := V_b19.keep K85 (ninS ne_b19_b84 nin0)
        clear ne_b19_b84
        replace V_b23 := V_b23.keep K85 (ninS ne_b23_b84 nin0)
        clear ne_b23_b84
        replace V_b26 := V_b26.keep K85 (ninS ne_b26_b84 nin0)
        clear ne_b26_b84
        replace V_b30 := V_b30.keep K85 (ninS ne_b30_b84 nin0)
        clear ne_b30_b84
        replace V_b34 := V_b34.keep K85 (ninS ne_b34_b84 nin0)
        clear ne_b34_b84
        replace V_b37 := V_b37.keep K85 (ninS ne_b37_b84 nin0)
        clear ne_b37_b84
        replace V_b41 := V_b41.keep K85 (ninS ne_b41_b84 nin0)
        clear ne_b41_b84
        replace V_b47 := V_b47.keep K85 (ninS ne_b47_b84 nin0)
        clear ne_b47_b84
        replace Zs := Nat.le_trans Zs K85.1
        clear K85
        replace ne_b19_ba85 : b19 ≠ ba85 := Nat.ne_of_lt (Nat.lt_of_lt_of_le lt_b19 ge_ba85)
        clear ne_b19_ba85
        replace ne_b23_ba85 : b23 ≠ ba85 := Nat.ne_of_lt (Nat.lt_of_lt_of_le lt_b23 ge_ba85)
        clear ne_b23_ba85
        replace ne_b26_ba85 : b26 ≠ ba85 := Nat.ne_of_lt (Nat.lt_of_lt_of_le lt_b26 ge_ba85)
        clear ne_b26_ba85
        replace ne_b30_ba85 : b30 ≠ ba85 := Nat.ne_of_lt (Nat.lt_of_lt_of_le lt_b30 ge_ba85)
        clear ne_b30_ba85
        replace ne_b34_ba85 : b34 ≠ ba85 := Nat.ne_of_lt (Nat.lt_of_lt_of_le lt_b34 ge_ba85)
        clear ne_b34_ba85
        replace ne_b37_ba85 : b37 ≠ ba85 := Nat.ne_of_lt (Nat.lt_of_lt_of_le lt_b37 ge_ba85)
        clear ne_b37_ba85
        replace ne_b41_ba85 : b41 ≠ ba85 := Nat.ne_of_lt (Nat.lt_of_lt_of_le lt_b41 ge_ba85)
        clear ne_b41_ba85
        replace ne_b47_ba85 : b47 ≠ ba85 := Nat.ne_of_lt (Nat.lt_of_lt_of_le lt_b47 ge_ba85)
        clear ne_b47_ba85
        replace ne_b84_ba85 : b84 ≠ ba85 := Nat.ne_of_lt (Nat.lt_of_lt_of_le lt_b84 ge_ba85)
        clear ge_ba85 ne_b84_ba85
        replace V_ba85 : Arv Z T85.heap ba85 kb85 .byte (5 : Int32) [(.int (nar .char dg7)), (.int (nar .char dg8)), (.int (nar .char dg9)), (.int (nar .char dg10)), (.int (nar .char dg11))] (.int 0) := own_cut (Nat.le_of_ble_eq_true rfl) V_ba85
        refine own_go (T' := T85) (g' := (mkF m 337 #[iv i0, iv i1, iv i2, iv i3, iv z1, iv z4, iv kd, iv dg7, iv dg8, iv dg9, iv dg10, iv dg11, iv dg12, iv dg13, iv dg14, iv dg15, iv dg16, iv dg17, iv dg18, rv b19, rv b23, rv b26, rv b30, rv b34, rv b37, rv b41, rv b47, oU, oU, oU, oU] [(.ref b84)])) (fun _ k => st85.trans k) ?_
        clear st85
        refine own_p (g' := (mkF m 339 #[iv i0, iv i1, iv i2, iv i3, iv z1, iv z4, iv kd, iv dg7, iv dg8, iv dg9, iv dg10, iv dg11, iv dg12, iv dg13, iv dg14, iv dg15, iv dg16, iv dg17, iv dg18, rv b19, rv b23, rv b26, rv b30, rv b34, rv b37, rv b41, rv b47, rv b84, oU, oU, oU] [])) (fun _ k => XS.astore Y85.here hx rfl (hb hby at_337) rfl rfl (l' := #[iv i0, iv i1, iv i2, iv i3, iv z1, iv z4, iv kd, iv dg7, iv dg8, iv dg9, iv dg10, iv dg11, iv dg12, iv dg13, iv dg14, iv dg15, iv dg16, iv dg17, iv dg18, rv b19, rv b23, rv b26, rv b30, rv b34, rv b37, rv b41, rv b47, rv b84, oU, oU, oU]) rfl k) ?_
        obtain ⟨T86, h86, X86, e86, E86, A86, D86, -, st86⟩ := newO Y85 hx hZ hown (own_W hw 37 rfl) (own_W hw 38 rfl) (own_W hw 39 rfl) rfl (g := (mkF m 339 #[iv i0, iv i1, iv i2, iv i3, iv z1, iv z4, iv kd, iv dg7, iv dg8, iv dg9, iv dg10, iv dg11, iv dg12, iv dg13, iv dg14, iv dg15, iv dg16, iv dg17, iv dg18, rv b19, rv b23, rv b26, rv b30, rv b34, rv b37, rv b41, rv b47, rv b84, oU, oU, oU] [])) rfl (hb hby at_339) (by decide) (by decide)
        clear Y85
        obtain ⟨b86, g86⟩ : ∃ z, z = T85.heap.size := ⟨_, rfl⟩
        rw [← g86] at A86 D86 st86
        replace ne_b19_b86 : b19 ≠ b86 := Nat.ne_of_lt (Nat.lt_of_lt_of_le V_b19.lt (Nat.le_of_eq g86.symm))
        replace ne_b23_b86 : b23 ≠ b86 := Nat.ne_of_lt (Nat.lt_of_lt_of_le V_b23.lt (Nat.le_of_eq g86.symm))
        replace ne_b26_b86 : b26 ≠ b86 := Nat.ne_of_lt (Nat.lt_of_lt_of_le V_b26.lt (Nat.le_of_eq g86.symm))
        replace ne_b30_b86 : b30 ≠ b86 := Nat.ne_of_lt (Nat.lt_of_lt_of_le V_b30.lt (Nat.le_of_eq g86.symm))
        replace ne_b34_b86 : b34 ≠ b86 := Nat.ne_of_lt (Nat.lt_of_lt_of_le V_b34.lt (Nat.le_of_eq g86.symm))
        replace ne_b37_b86 : b37 ≠ b86 := Nat.ne_of_lt (Nat.lt_of_lt_of_le V_b37.lt (Nat.le_of_eq g86.symm))
        replace ne_b41_b86 : b41 ≠ b86 := Nat.ne_of_lt (Nat.lt_of_lt_of_le V_b41.lt (Nat.le_of_eq g86.symm))
        replace ne_b47_b86 : b47 ≠ b86 := Nat.ne_of_lt (Nat.lt_of_lt_of_le V_b47.lt (Nat.le_of_eq g86.symm))
        replace ne_b84_b86 : b84 ≠ b86 := Nat.ne_of_lt (Nat.lt_of_lt_of_le E_b84.lt (Nat.le_of_eq g86.symm))
        replace ne_ba85_b86 : ba85 ≠ b86 := Nat.ne_of_lt (Nat.lt_of_lt_of_le V_ba85.lt (Nat.le_of_eq g86.symm))
        replace g_b86 : n0 ≤ b86 := Nat.le_trans Zs (Nat.le_of_eq g86.symm)
        replace OL := OL.ext E86
        replace V_b19 := V_b19.ext E86
        replace V_b23 := V_b23.ext E86
        replace V_b26 := V_b26.ext E86
        replace V_b30 := V_b30.ext E86
        replace V_b34 := V_b34.ext E86
        replace V_b37 := V_b37.ext E86
        replace V_b41 := V_b41.ext E86
        replace V_b47 := V_b47.ext E86
        replace E_b84 := E_b84.ext E86
        replace F_b84_coder := F_b84_coder.ext E86
        replace F_b84_value := F_b84_value.ext E86
        replace V_ba85 := V_ba85.ext E86
        replace Zs := Nat.le_trans Zs E86.1
        clear E86
        replace E_b86 := A86
        clear A86
        replace F_b86_digits : Fld Z h86 b86 "com/example/carrier_name_resolver/carriernameresolver/card/Plmn" "digits" "Ljava/lang/String;" .null := D86 (Or.inr (own_W hw 181 rfl)) (ty := (.object "java/lang/String")) (by decide)
        replace F_b86_code : Fld Z h86 b86 "com/example/carrier_name_resolver/carriernameresolver/card/Plmn" "code" "I" (.int 0) := D86 (Or.inr (own_W hw 187 rfl)) (ty := .int) (by decide)
        clear D86
        refine own_go (T' := T86) (g' := (mkF m 342 #[iv i0, iv i1, iv i2, iv i3, iv z1, iv z4, iv kd, iv dg7, iv dg8, iv dg9, iv dg10, iv dg11, iv dg12, iv dg13, iv dg14, iv dg15, iv dg16, iv dg17, iv dg18, rv b19, rv b23, rv b26, rv b30, rv b34, rv b37, rv b41, rv b47, rv b84, oU, oU, oU] [(.ref b86)])) (fun _ k => st86 _ k) ?_
        clear st86
        refine own_p (g' := (mkF m 343 #[iv i0, iv i1, iv i2, iv i3, iv z1, iv z4, iv kd, iv dg7, iv dg8, iv dg9, iv dg10, iv dg11, iv dg12, iv dg13, iv dg14, iv dg15, iv dg16, iv dg17, iv dg18, rv b19, rv b23, rv b26, rv b30, rv b34, rv b37, rv b41, rv b47, rv b84, oU, oU, oU] [(.ref b86), (.ref b86)])) (fun _ k => XS.dup X86.here hx rfl (hb hby at_342) rfl rfl k) ?_
        obtain ⟨T87, h87, X87, e87, E87, A87, D87, -, st87⟩ := newO X86 hx hZ hown (own_W hw 8 rfl) (own_W hw 9 rfl) (own_W hw 10 rfl) e86 (g := (mkF m 343 #[iv i0, iv i1, iv i2, iv i3, iv z1, iv z4, iv kd, iv dg7, iv dg8, iv dg9, iv dg10, iv dg11, iv dg12, iv dg13, iv dg14, iv dg15, iv dg16, iv dg17, iv dg18, rv b19, rv b23, rv b26, rv b30, rv b34, rv b37, rv b41, rv b47, rv b84, oU, oU, oU] [(.ref b86), (.ref b86)])) rfl (hb hby at_343) (by decide) (by decide)
        clear X86 e86
        obtain ⟨b87, g87⟩ : ∃ z, z = h86.size := ⟨_, rfl⟩
        rw [← g87] at A87 D87 st87
        replace ne_b19_b87 : b19 ≠ b87 := Nat.ne_of_lt (Nat.lt_of_lt_of_le V_b19.lt (Nat.le_of_eq g87.symm))
        replace ne_b23_b87 : b23 ≠ b87 := Nat.ne_of_lt (Nat.lt_of_lt_of_le V_b23.lt (Nat.le_of_eq g87.symm))
        replace ne_b26_b87 : b26 ≠ b87 := Nat.ne_of_lt (Nat.lt_of_lt_of_le V_b26.lt (Nat.le_of_eq g87.symm))
        replace ne_b30_b87 : b30 ≠ b87 := Nat.ne_of_lt (Nat.lt_of_lt_of_le V_b30.lt (Nat.le_of_eq g87.symm))
        replace ne_b34_b87 : b34 ≠ b87 := Nat.ne_of_lt (Nat.lt_of_lt_of_le V_b34.lt (Nat.le_of_eq g87.symm))
        replace ne_b37_b87 : b37 ≠ b87 := Nat.ne_of_lt (Nat.lt_of_lt_of_le V_b37.lt (Nat.le_of_eq g87.symm))
        replace ne_b41_b87 : b41 ≠ b87 := Nat.ne_of_lt (Nat.lt_of_lt_of_le V_b41.lt (Nat.le_of_eq g87.symm))
        replace ne_b47_b87 : b47 ≠ b87 := Nat.ne_of_lt (Nat.lt_of_lt_of_le V_b47.lt (Nat.le_of_eq g87.symm))
        replace ne_b84_b87 : b84 ≠ b87 := Nat.ne_of_lt (Nat.lt_of_lt_of_le E_b84.lt (Nat.le_of_eq g87.symm))
        replace ne_b86_b87 : b86 ≠ b87 := Nat.ne_of_lt (Nat.lt_of_lt_of_le E_b86.lt (Nat.le_of_eq g87.symm))
        replace ne_ba85_b87 : ba85 ≠ b87 := Nat.ne_of_lt (Nat.lt_of_lt_of_le V_ba85.lt (Nat.le_of_eq g87.symm))
        replace g_b87 : n0 ≤ b87 := Nat.le_trans Zs (Nat.le_of_eq g87.symm)
        replace OL := OL.ext E87
        replace V_b19 := V_b19.ext E87
        replace V_b23 := V_b23.ext E87
        replace V_b26 := V_b26.ext E87
        replace V_b30 := V_b30.ext E87
        replace V_b34 := V_b34.ext E87
        replace V_b37 := V_b37.ext E87
        replace V_b41 := V_b41.ext E87
        replace V_b47 := V_b47.ext E87
        replace E_b84 := E_b84.ext E87
        replace F_b84_coder := F_b84_coder.ext E87
        replace F_b84_value := F_b84_value.ext E87
        replace V_ba85 := V_ba85.ext E87
        replace E_b86 := E_b86.ext E87
        replace F_b86_digits := F_b86_digits.ext E87
        replace F_b86_code := F_b86_code.ext E87
        replace Zs := Nat.le_trans Zs E87.1
        clear E87
        replace E_b87 := A87
        clear A87
        replace F_b87_coder : Fld Z h87 b87 "java/lang/String" "coder" "B" (.int 0) := D87 (Or.inr (own_W hw 34 rfl)) (ty := .byte) (by decide)
        replace F_b87_value : Fld Z h87 b87 "java/lang/String" "value" "[B" .null := D87 (Or.inr (own_W hw 36 rfl)) (ty := (.array .byte)) (by decide)
        clear D87
        refine own_go (T' := T87) (g' := (mkF m 346 #[iv i0, iv i1, iv i2, iv i3, iv z1, iv z4, iv kd, iv dg7, iv dg8, iv dg9, iv dg10, iv dg11, iv dg12, iv dg13, iv dg14, iv dg15, iv dg16, iv dg17, iv dg18, rv b19, rv b23, rv b26, rv b30, rv b34, rv b37, rv b41, rv b47, rv b84, oU, oU, oU] [(.ref b87), (.ref b86), (.ref b86)])) (fun _ k => st87 _ k) ?_
        clear st87
        refine own_p (g' := (mkF m 349 #[iv i0, iv i1, iv i2, iv i3, iv z1, iv z4, iv kd, iv dg7, iv dg8, iv dg9, iv dg10, iv dg11, iv dg12, iv dg13, iv dg14, iv dg15, iv dg16, iv dg17, iv dg18, rv b19, rv b23, rv b26, rv b30, rv b34, rv b37, rv b41, rv b47, rv b84, oU, oU, oU] [(.ref b19), (.ref b87), (.ref b87), (.ref b86), (.ref b86)])) (fun _ k => XS.dup X87.here hx rfl (hb hby at_346) rfl rfl (XS.aload X87.here hx rfl (hb hby at_347) rfl rfl k)) ?_
        replace lt_b19 := V_b19.lt
        replace lt_b23 := V_b23.lt
        replace lt_b26 := V_b26.lt
        replace lt_b30 := V_b30.lt
        replace lt_b34 := V_b34.lt
        replace lt_b37 := V_b37.lt
        replace lt_b41 := V_b41.lt
        replace lt_b47 := V_b47.lt
        replace lt_b84 := E_b84.lt
        replace lt_b86 := E_b86.lt
        replace lt_b87 := E_b87.lt
        replace lt_ba85 := V_ba85.lt
        obtain ⟨_, _, ⟨T88, L88, k88, n88⟩, -, X88, ⟨Lc88, hQ88, l88, y88, z88⟩, st88⟩ := X87.specialBack hx (y := own_y6) rfl hown (mvT hZ (own_W hw 11 rfl)) (mvT hZ (own_W hw 12 rfl)) (mvT hZ (own_W hw 13 rfl)) (by decide) (backOf (W := 3) (own_rm7 l Z a0 hw [] b87 b19 cs fo k19 (3 : Int32) (nar .char dg7) (nar .char dg8) (nar .char dg9) (nar .char dg7) (nar .char dg7) (nar .char dg7) h87 n0 Zs OL S_cs hcs S_fo hfo (by decide) (by decide) F_b87_value F_b87_coder E_b87 g_b87 (own_pad (ws := [(.int (nar .char dg7)), (.int (nar .char dg7)), (.int (nar .char dg7))]) (Nat.le_of_ble_eq_true rfl) V_b19) (Ne.symm ne_b19_b87) (own_dr hd_dg7) (own_dr hd_dg8) (own_dr hd_dg9) (own_dr hd_dg7) (own_dr hd_dg7) (own_dr hd_dg7)) hZ (own_W hw 13 rfl) (own_W hw 10 rfl) (by decide) (by decide)) (g := (mkF m 349 #[iv i0, iv i1, iv i2, iv i3, iv z1, iv z4, iv kd, iv dg7, iv dg8, iv dg9, iv dg10, iv dg11, iv dg12, iv dg13, iv dg14, iv dg15, iv dg16, iv dg17, iv dg18, rv b19, rv b23, rv b26, rv b30, rv b34, rv b37, rv b41, rv b47, rv b84, oU, oU, oU] [(.ref b19), (.ref b87), (.ref b87), (.ref b86), (.ref b86)])) rfl (by rw [hml]; rfl) (Steps.refl _) (a := b87) (argsL := [(.ref b19)]) (rest := [(.ref b87), (.ref b86), (.ref b86)]) (lenOf own_pd0_3 rfl) rfl (Nat.le_refl _) (hb hby at_349) (fun _ _ => ⟨rfl, e87, (by decide : 12 + 1 ≤ _), (by decide : 43 + 6 ≤ _)⟩)
        dsimp only [Pt.U, Pt.locs, Pt.cells, Pt.slots] at X88 l88 y88 z88 st88 hQ88
        subst l88 y88 z88
        clear X87 e87
        clear E_b87 F_b87_coder F_b87_value
        obtain ⟨rfl, NQ88, K88, E_b87, ba88, kb88, ge_ba88, g_ba88, V_ba88, F_b87_value, F_b87_coder⟩ := hQ88
        clear g_ba88
        replace NF := Fr.app NF NQ88
        clear NQ88
        obtain ⟨lc88, Y88, NG88⟩ := own_lo X88 NF
        clear X88
        replace NF := NG88
        clear NG88
        replace OL := OL.keep K88 (allS g_b87 all0)
        clear g_b87
        replace V_b19 := V_b19.keep K88 (ninS ne_b19_b87 nin0)
        clear ne_b19_b87
        replace V_b23 := V_b23.keep K88 (ninS ne_b23_b87 nin0)
        clear ne_b23_b87
        replace V_b26 := V_b26.keep K88 (ninS ne_b26_b87 nin0)
        clear ne_b26_b87
        replace V_b30 := V_b30.keep K88 (ninS ne_b30_b87 nin0)
        clear ne_b30_b87
        replace V_b34 := V_b34.keep K88 (ninS ne_b34_b87 nin0)
        clear ne_b34_b87
        replace V_b37 := V_b37.keep K88 (ninS ne_b37_b87 nin0)
        clear ne_b37_b87
        replace V_b41 := V_b41.keep K88 (ninS ne_b41_b87 nin0)
        clear ne_b41_b87
        replace V_b47 := V_b47.keep K88 (ninS ne_b47_b87 nin0)
        clear ne_b47_b87
        replace E_b84 := E_b84.keep K88
        replace F_b84_coder := F_b84_coder.keep K88 (ninS ne_b84_b87 nin0)
        replace F_b84_value := F_b84_value.keep K88 (ninS ne_b84_b87 nin0)
        clear ne_b84_b87
        replace V_ba85 := V_ba85.keep K88 (ninS ne_ba85_b87 nin0)
        clear ne_ba85_b87
        replace E_b86 := E_b86.keep K88
        replace F_b86_digits := F_b86_digits.keep K88 (ninS ne_b86_b87 nin0)
        replace F_b86_code := F_b86_code.keep K88 (ninS ne_b86_b87 nin0)
        replace Zs := Nat.le_trans Zs K88.1
        clear K88
        replace ne_b19_ba88 : b19 ≠ ba88 := Nat.ne_of_lt (Nat.lt_of_lt_of_le lt_b19 ge_ba88)
        clear ne_b19_ba88
        replace ne_b23_ba88 : b23 ≠ ba88 := Nat.ne_of_lt (Nat.lt_of_lt_of_le lt_b23 ge_ba88)
        clear ne_b23_ba88
        replace ne_b26_ba88 : b26 ≠ ba88 := Nat.ne_of_lt (Nat.lt_of_lt_of_le lt_b26 ge_ba88)
        clear ne_b26_ba88
        replace ne_b30_ba88 : b30 ≠ ba88 := Nat.ne_of_lt (Nat.lt_of_lt_of_le lt_b30 ge_ba88)
        clear ne_b30_ba88
        replace ne_b34_ba88 : b34 ≠ ba88 := Nat.ne_of_lt (Nat.lt_of_lt_of_le lt_b34 ge_ba88)
        clear ne_b34_ba88
        replace ne_b37_ba88 : b37 ≠ ba88 := Nat.ne_of_lt (Nat.lt_of_lt_of_le lt_b37 ge_ba88)
        clear ne_b37_ba88
        replace ne_b41_ba88 : b41 ≠ ba88 := Nat.ne_of_lt (Nat.lt_of_lt_of_le lt_b41 ge_ba88)
        clear ne_b41_ba88
        replace ne_b47_ba88 : b47 ≠ ba88 := Nat.ne_of_lt (Nat.lt_of_lt_of_le lt_b47 ge_ba88)
        clear ne_b47_ba88
        replace ne_b84_ba88 : b84 ≠ ba88 := Nat.ne_of_lt (Nat.lt_of_lt_of_le lt_b84 ge_ba88)
        clear ne_b84_ba88
        replace ne_b86_ba88 : b86 ≠ ba88 := Nat.ne_of_lt (Nat.lt_of_lt_of_le lt_b86 ge_ba88)
        replace ne_b87_ba88 : b87 ≠ ba88 := Nat.ne_of_lt (Nat.lt_of_lt_of_le lt_b87 ge_ba88)
        clear ne_b87_ba88
        replace ne_ba85_ba88 : ba85 ≠ ba88 := Nat.ne_of_lt (Nat.lt_of_lt_of_le lt_ba85 ge_ba88)
        clear ge_ba88 ne_ba85_ba88
        replace V_ba88 : Arv Z T88.heap ba88 kb88 .byte (3 : Int32) [(.int (nar .char dg7)), (.int (nar .char dg8)), (.int (nar .char dg9))] (.int 0) := own_cut (Nat.le_of_ble_eq_true rfl) V_ba88
        refine own_go (T' := T88) (g' := (mkF m 352 #[iv i0, iv i1, iv i2, iv i3, iv z1, iv z4, iv kd, iv dg7, iv dg8, iv dg9, iv dg10, iv dg11, iv dg12, iv dg13, iv dg14, iv dg15, iv dg16, iv dg17, iv dg18, rv b19, rv b23, rv b26, rv b30, rv b34, rv b37, rv b41, rv b47, rv b84, oU, oU, oU] [(.ref b87), (.ref b86), (.ref b86)])) (fun _ k => st88.trans k) ?_
        clear st88
        refine own_p (g' := (mkF m 369 #[iv i0, iv i1, iv i2, iv i3, iv z1, iv z4, iv kd, iv dg7, iv dg8, iv dg9, iv dg10, iv dg11, iv dg12, iv dg13, iv dg14, iv dg15, iv dg16, iv dg17, iv dg18, rv b19, rv b23, rv b26, rv b30, rv b34, rv b37, rv b41, rv b47, rv b84, oU, oU, oU] [(.ref b87), (.ref b86), (.ref b86)])) (fun _ k => XS.iload Y88.here hx rfl (hb hby at_352) rfl (XS.ifYes Y88.here hx rfl (pc0 := 354) (pc' := 369) rfl (hb hby at_354) rfl ((if0 _ _).trans (teq c83).1) (by decide) (by decide) k)) ?_
        obtain ⟨T89, h89, X89, e89, E89, A89, D89, -, st89⟩ := newO Y88 hx hZ hown (own_W hw 8 rfl) (own_W hw 9 rfl) (own_W hw 10 rfl) rfl (g := (mkF m 369 #[iv i0, iv i1, iv i2, iv i3, iv z1, iv z4, iv kd, iv dg7, iv dg8, iv dg9, iv dg10, iv dg11, iv dg12, iv dg13, iv dg14, iv dg15, iv dg16, iv dg17, iv dg18, rv b19, rv b23, rv b26, rv b30, rv b34, rv b37, rv b41, rv b47, rv b84, oU, oU, oU] [(.ref b87), (.ref b86), (.ref b86)])) rfl (hb hby at_369) (by decide) (by decide)
        clear Y88
        obtain ⟨b89, g89⟩ : ∃ z, z = T88.heap.size := ⟨_, rfl⟩
        rw [← g89] at A89 D89 st89
        replace ne_b19_b89 : b19 ≠ b89 := Nat.ne_of_lt (Nat.lt_of_lt_of_le V_b19.lt (Nat.le_of_eq g89.symm))
        replace ne_b23_b89 : b23 ≠ b89 := Nat.ne_of_lt (Nat.lt_of_lt_of_le V_b23.lt (Nat.le_of_eq g89.symm))
        replace ne_b26_b89 : b26 ≠ b89 := Nat.ne_of_lt (Nat.lt_of_lt_of_le V_b26.lt (Nat.le_of_eq g89.symm))
        replace ne_b30_b89 : b30 ≠ b89 := Nat.ne_of_lt (Nat.lt_of_lt_of_le V_b30.lt (Nat.le_of_eq g89.symm))
        replace ne_b34_b89 : b34 ≠ b89 := Nat.ne_of_lt (Nat.lt_of_lt_of_le V_b34.lt (Nat.le_of_eq g89.symm))
        replace ne_b37_b89 : b37 ≠ b89 := Nat.ne_of_lt (Nat.lt_of_lt_of_le V_b37.lt (Nat.le_of_eq g89.symm))
        replace ne_b41_b89 : b41 ≠ b89 := Nat.ne_of_lt (Nat.lt_of_lt_of_le V_b41.lt (Nat.le_of_eq g89.symm))
        replace ne_b47_b89 : b47 ≠ b89 := Nat.ne_of_lt (Nat.lt_of_lt_of_le V_b47.lt (Nat.le_of_eq g89.symm))
        replace ne_b84_b89 : b84 ≠ b89 := Nat.ne_of_lt (Nat.lt_of_lt_of_le E_b84.lt (Nat.le_of_eq g89.symm))
        replace ne_b86_b89 : b86 ≠ b89 := Nat.ne_of_lt (Nat.lt_of_lt_of_le E_b86.lt (Nat.le_of_eq g89.symm))
        replace ne_b87_b89 : b87 ≠ b89 := Nat.ne_of_lt (Nat.lt_of_lt_of_le E_b87.lt (Nat.le_of_eq g89.symm))
        replace ne_ba85_b89 : ba85 ≠ b89 := Nat.ne_of_lt (Nat.lt_of_lt_of_le V_ba85.lt (Nat.le_of_eq g89.symm))
        replace ne_ba88_b89 : ba88 ≠ b89 := Nat.ne_of_lt (Nat.lt_of_lt_of_le V_ba88.lt (Nat.le_of_eq g89.symm))
        replace g_b89 : n0 ≤ b89 := Nat.le_trans Zs (Nat.le_of_eq g89.symm)
        replace OL := OL.ext E89
        replace V_b19 := V_b19.ext E89
        replace V_b23 := V_b23.ext E89
        replace V_b26 := V_b26.ext E89
        replace V_b30 := V_b30.ext E89
        replace V_b34 := V_b34.ext E89
        replace V_b37 := V_b37.ext E89
        replace V_b41 := V_b41.ext E89
        replace V_b47 := V_b47.ext E89
        replace E_b84 := E_b84.ext E89
        replace F_b84_coder := F_b84_coder.ext E89
        replace F_b84_value := F_b84_value.ext E89
        replace V_ba85 := V_ba85.ext E89
        replace E_b86 := E_b86.ext E89
        replace F_b86_digits := F_b86_digits.ext E89
        replace F_b86_code := F_b86_code.ext E89
        replace E_b87 := E_b87.ext E89
        replace F_b87_coder := F_b87_coder.ext E89
        replace F_b87_value := F_b87_value.ext E89
        replace V_ba88 := V_ba88.ext E89
        replace Zs := Nat.le_trans Zs E89.1
        clear E89
        replace E_b89 := A89
        clear A89
        replace F_b89_coder : Fld Z h89 b89 "java/lang/String" "coder" "B" (.int 0) := D89 (Or.inr (own_W hw 34 rfl)) (ty := .byte) (by decide)
        replace F_b89_value : Fld Z h89 b89 "java/lang/String" "value" "[B" .null := D89 (Or.inr (own_W hw 36 rfl)) (ty := (.array .byte)) (by decide)
        clear D89
        refine own_go (T' := T89) (g' := (mkF m 372 #[iv i0, iv i1, iv i2, iv i3, iv z1, iv z4, iv kd, iv dg7, iv dg8, iv dg9, iv dg10, iv dg11, iv dg12, iv dg13, iv dg14, iv dg15, iv dg16, iv dg17, iv dg18, rv b19, rv b23, rv b26, rv b30, rv b34, rv b37, rv b41, rv b47, rv b84, oU, oU, oU] [(.ref b89), (.ref b87), (.ref b86), (.ref b86)])) (fun _ k => st89 _ k) ?_
        clear st89
        refine own_p (g' := (mkF m 375 #[iv i0, iv i1, iv i2, iv i3, iv z1, iv z4, iv kd, iv dg7, iv dg8, iv dg9, iv dg10, iv dg11, iv dg12, iv dg13, iv dg14, iv dg15, iv dg16, iv dg17, iv dg18, rv b19, rv b23, rv b26, rv b30, rv b34, rv b37, rv b41, rv b47, rv b84, oU, oU, oU] [(.ref b23), (.ref b89), (.ref b89), (.ref b87), (.ref b86), (.ref b86)])) (fun _ k => XS.dup X89.here hx rfl (hb hby at_372) rfl rfl (XS.aload X89.here hx rfl (hb hby at_373) rfl rfl k)) ?_
        replace lt_b19 := V_b19.lt
        replace lt_b23 := V_b23.lt
        replace lt_b26 := V_b26.lt
        replace lt_b30 := V_b30.lt
        replace lt_b34 := V_b34.lt
        replace lt_b37 := V_b37.lt
        replace lt_b41 := V_b41.lt
        replace lt_b47 := V_b47.lt
        replace lt_b84 := E_b84.lt
        replace lt_b86 := E_b86.lt
        replace lt_b87 := E_b87.lt
        replace lt_b89 := E_b89.lt
        replace lt_ba85 := V_ba85.lt
        replace lt_ba88 := V_ba88.lt
        obtain ⟨_, _, ⟨T90, L90, k90, n90⟩, -, X90, ⟨Lc90, hQ90, l90, y90, z90⟩, st90⟩ := X89.specialBack hx (y := own_y6) rfl hown (mvT hZ (own_W hw 11 rfl)) (mvT hZ (own_W hw 12 rfl)) (mvT hZ (own_W hw 13 rfl)) (by decide) (backOf (W := 4) (own_rm7 l Z a0 hw [] b89 b23 cs fo k23 (2 : Int32) (nar .char dg10) (nar .char dg11) (nar .char dg10) (nar .char dg10) (nar .char dg10) (nar .char dg10) h89 n0 Zs OL S_cs hcs S_fo hfo (by decide) (by decide) F_b89_value F_b89_coder E_b89 g_b89 (own_pad (ws := [(.int (nar .char dg10)), (.int (nar .char dg10)), (.int (nar .char dg10)), (.int (nar .char dg10))]) (Nat.le_of_ble_eq_true rfl) V_b23) (Ne.symm ne_b23_b89) (own_dr hd_dg10) (own_dr hd_dg11) (own_dr hd_dg10) (own_dr hd_dg10) (own_dr hd_dg10) (own_dr hd_dg10)) hZ (own_W hw 13 rfl) (own_W hw 10 rfl) (by decide) (by decide)) (g := (mkF m 375 #[iv i0, iv i1, iv i2, iv i3, iv z1, iv z4, iv kd, iv dg7, iv dg8, iv dg9, iv dg10, iv dg11, iv dg12, iv dg13, iv dg14, iv dg15, iv dg16, iv dg17, iv dg18, rv b19, rv b23, rv b26, rv b30, rv b34, rv b37, rv b41, rv b47, rv b84, oU, oU, oU] [(.ref b23), (.ref b89), (.ref b89), (.ref b87), (.ref b86), (.ref b86)])) rfl (by rw [hml]; rfl) (Steps.refl _) (a := b89) (argsL := [(.ref b23)]) (rest := [(.ref b89), (.ref b87), (.ref b86), (.ref b86)]) (lenOf own_pd0_3 rfl) rfl (Nat.le_refl _) (hb hby at_375) (fun _ _ => ⟨rfl, e89, (by decide : 14 + 1 ≤ _), (by decide : 53 + 6 ≤ _)⟩)
        dsimp only [Pt.U, Pt.locs, Pt.cells, Pt.slots] at X90 l90 y90 z90 st90 hQ90
        subst l90 y90 z90
        clear X89 e89
        clear E_b89 F_b89_coder F_b89_value
        obtain ⟨rfl, NQ90, K90, E_b89, ba90, kb90, ge_ba90, g_ba90, V_ba90, F_b89_value, F_b89_coder⟩ := hQ90
        clear g_ba90
        replace NF := Fr.app NF NQ90
        clear NQ90
        obtain ⟨lc90, Y90, NG90⟩ := own_lo X90 NF
        clear X90
        replace NF := NG90
        clear NG90
        replace OL := OL.keep K90 (allS g_b89 all0)
        clear g_b89
        replace V_b19 := V_b19.keep K90 (ninS ne_b19_b89 nin0)
        clear ne_b19_b89
        replace V_b23 := V_b23.keep K90 (ninS ne_b23_b89 nin0)
        clear ne_b23_b89
        replace V_b26 := V_b26.keep K90 (ninS ne_b26_b89 nin0)
        clear ne_b26_b89
        replace V_b30 := V_b30.keep K90 (ninS ne_b30_b89 nin0)
        clear ne_b30_b89
        replace V_b34 := V_b34.keep K90 (ninS ne_b34_b89 nin0)
        clear ne_b34_b89
        replace V_b37 := V_b37.keep K90 (ninS ne_b37_b89 nin0)
        clear ne_b37_b89
        replace V_b41 := V_b41.keep K90 (ninS ne_b41_b89 nin0)
        clear ne_b41_b89
        replace V_b47 := V_b47.keep K90 (ninS ne_b47_b89 nin0)
        clear ne_b47_b89
        replace E_b84 := E_b84.keep K90
        replace F_b84_coder := F_b84_coder.keep K90 (ninS ne_b84_b89 nin0)
        replace F_b84_value := F_b84_value.keep K90 (ninS ne_b84_b89 nin0)
        clear ne_b84_b89
        replace V_ba85 := V_ba85.keep K90 (ninS ne_ba85_b89 nin0)
        clear ne_ba85_b89
        replace E_b86 := E_b86.keep K90
        replace F_b86_digits := F_b86_digits.keep K90 (ninS ne_b86_b89 nin0)
        replace F_b86_code := F_b86_code.keep K90 (ninS ne_b86_b89 nin0)
        replace E_b87 := E_b87.keep K90
        replace F_b87_coder := F_b87_coder.keep K90 (ninS ne_b87_b89 nin0)
        replace F_b87_value := F_b87_value.keep K90 (ninS ne_b87_b89 nin0)
        clear ne_b87_b89
        replace V_ba88 := V_ba88.keep K90 (ninS ne_ba88_b89 nin0)
        clear ne_ba88_b89
        replace Zs := Nat.le_trans Zs K90.1
        clear K90
        replace ne_b19_ba90 : b19 ≠ ba90 := Nat.ne_of_lt (Nat.lt_of_lt_of_le lt_b19 ge_ba90)
        clear lt_b19 ne_b19_ba90
        replace ne_b23_ba90 : b23 ≠ ba90 := Nat.ne_of_lt (Nat.lt_of_lt_of_le lt_b23 ge_ba90)
        clear lt_b23 ne_b23_ba90
        replace ne_b26_ba90 : b26 ≠ ba90 := Nat.ne_of_lt (Nat.lt_of_lt_of_le lt_b26 ge_ba90)
        clear lt_b26 ne_b26_ba90
        replace ne_b30_ba90 : b30 ≠ ba90 := Nat.ne_of_lt (Nat.lt_of_lt_of_le lt_b30 ge_ba90)
        clear lt_b30 ne_b30_ba90
        replace ne_b34_ba90 : b34 ≠ ba90 := Nat.ne_of_lt (Nat.lt_of_lt_of_le lt_b34 ge_ba90)
        clear lt_b34 ne_b34_ba90
        replace ne_b37_ba90 : b37 ≠ ba90 := Nat.ne_of_lt (Nat.lt_of_lt_of_le lt_b37 ge_ba90)
        clear lt_b37 ne_b37_ba90
        replace ne_b41_ba90 : b41 ≠ ba90 := Nat.ne_of_lt (Nat.lt_of_lt_of_le lt_b41 ge_ba90)
        clear lt_b41 ne_b41_ba90
        replace ne_b47_ba90 : b47 ≠ ba90 := Nat.ne_of_lt (Nat.lt_of_lt_of_le lt_b47 ge_ba90)
        clear lt_b47 ne_b47_ba90
        replace ne_b84_ba90 : b84 ≠ ba90 := Nat.ne_of_lt (Nat.lt_of_lt_of_le lt_b84 ge_ba90)
        clear lt_b84 ne_b84_ba90
        replace ne_b86_ba90 : b86 ≠ ba90 := Nat.ne_of_lt (Nat.lt_of_lt_of_le lt_b86 ge_ba90)
        clear lt_b86
        replace ne_b87_ba90 : b87 ≠ ba90 := Nat.ne_of_lt (Nat.lt_of_lt_of_le lt_b87 ge_ba90)
        clear lt_b87 ne_b87_ba90
        replace ne_b89_ba90 : b89 ≠ ba90 := Nat.ne_of_lt (Nat.lt_of_lt_of_le lt_b89 ge_ba90)
        clear lt_b89 ne_b89_ba90
        replace ne_ba85_ba90 : ba85 ≠ ba90 := Nat.ne_of_lt (Nat.lt_of_lt_of_le lt_ba85 ge_ba90)
        clear lt_ba85 ne_ba85_ba90
        replace ne_ba88_ba90 : ba88 ≠ ba90 := Nat.ne_of_lt (Nat.lt_of_lt_of_le lt_ba88 ge_ba90)
        clear ge_ba90 lt_ba88 ne_ba88_ba90
        replace V_ba90 : Arv Z T90.heap ba90 kb90 .byte (2 : Int32) [(.int (nar .char dg10)), (.int (nar .char dg11))] (.int 0) := own_cut (Nat.le_of_ble_eq_true rfl) V_ba90
        refine own_go (T' := T90) (g' := (mkF m 378 #[iv i0, iv i1, iv i2, iv i3, iv z1, iv z4, iv kd, iv dg7, iv dg8, iv dg9, iv dg10, iv dg11, iv dg12, iv dg13, iv dg14, iv dg15, iv dg16, iv dg17, iv dg18, rv b19, rv b23, rv b26, rv b30, rv b34, rv b37, rv b41, rv b47, rv b84, oU, oU, oU] [(.ref b89), (.ref b87), (.ref b86), (.ref b86)])) (fun _ k => st90.trans k) ?_
        clear st90
        obtain ⟨_, _, ⟨T91, L91, k91, n91⟩, -, X91, ⟨Lc91, hQ91, l91, y91, z91⟩, st91⟩ := Y90.specialBack hx (y := own_y35) rfl hown (mvT hZ (own_W hw 40 rfl)) (mvT hZ (own_W hw 41 rfl)) (mvT hZ (own_W hw 42 rfl)) (by decide) (backOf (W := 1) (own_rm40_2 l Z a0 hw [] b86 b87 b89 cs fo ba88 kb88 (nar .char dg7) (nar .char dg8) (nar .char dg9) ba90 kb90 (nar .char dg10) (nar .char dg11) T90.heap n0 Zs OL S_cs hcs S_fo hfo F_b86_digits F_b86_code E_b86 g_b86 E_b87 F_b87_value F_b87_coder V_ba88 (own_dr hd_dg7) (own_dr hd_dg8) (own_dr hd_dg9) E_b89 F_b89_value F_b89_coder V_ba90 (own_dr hd_dg10) (own_dr hd_dg11)) hZ (own_W hw 42 rfl) (own_W hw 39 rfl) (by decide) (by decide)) (g := (mkF m 378 #[iv i0, iv i1, iv i2, iv i3, iv z1, iv z4, iv kd, iv dg7, iv dg8, iv dg9, iv dg10, iv dg11, iv dg12, iv dg13, iv dg14, iv dg15, iv dg16, iv dg17, iv dg18, rv b19, rv b23, rv b26, rv b30, rv b34, rv b37, rv b41, rv b47, rv b84, oU, oU, oU] [(.ref b89), (.ref b87), (.ref b86), (.ref b86)])) rfl (by rw [hml]; rfl) (Steps.refl _) (a := b86) (argsL := [(.ref b87), (.ref b89)]) (rest := [(.ref b86)]) (lenOf own_pd0_4 rfl) rfl (Nat.le_refl _) (hb hby at_378) (fun _ _ => ⟨rfl, rfl, (by decide : 15 + 4 ≤ _), (by decide : 59 + 29 ≤ _)⟩)
        dsimp only [Pt.U, Pt.locs, Pt.cells, Pt.slots] at X91 l91 y91 z91 st91 hQ91
        subst l91 y91 z91
        clear F_b86_digits Y90
        clear E_b86 F_b86_code
        obtain ⟨rfl, NQ91, K91, E_b86, F_b86_code⟩ := hQ91
        replace NF := Fr.app NF NQ91
        clear NQ91
        obtain ⟨lc91, Y91, NG91⟩ := own_lo X91 NF
        clear X91
        replace NF := NG91
        clear NG91
        replace OL := OL.keep K91 (allS g_b86 all0)
        clear g_b86
        replace V_b19 := V_b19.keep K91 (ninS ne_b19_b86 nin0)
        clear V_b19 ne_b19_b86
        replace V_b23 := V_b23.keep K91 (ninS ne_b23_b86 nin0)
        clear V_b23 ne_b23_b86
        replace V_b26 := V_b26.keep K91 (ninS ne_b26_b86 nin0)
        clear V_b26 ne_b26_b86
        replace V_b30 := V_b30.keep K91 (ninS ne_b30_b86 nin0)
        clear ne_b30_b86
        replace V_b34 := V_b34.keep K91 (ninS ne_b34_b86 nin0)
        clear ne_b34_b86
        replace V_b37 := V_b37.keep K91 (ninS ne_b37_b86 nin0)
        clear ne_b37_b86
        replace V_b41 := V_b41.keep K91 (ninS ne_b41_b86 nin0)
        clear V_b41 ne_b41_b86
        replace V_b47 := V_b47.keep K91 (ninS ne_b47_b86 nin0)
        clear V_b47 ne_b47_b86
        replace E_b84 := E_b84.keep K91
        replace F_b84_coder := F_b84_coder.keep K91 (ninS ne_b84_b86 nin0)
        clear F_b84_coder
        replace F_b84_value := F_b84_value.keep K91 (ninS ne_b84_b86 nin0)
        clear F_b84_value ne_b84_b86
        replace V_ba85 := V_ba85.keep K91 (ninS ne_ba85_b86 nin0)
        clear V_ba85 ne_ba85_b86
        replace E_b87 := E_b87.keep K91
        clear E_b87
        replace F_b87_coder := F_b87_coder.keep K91 (ninS (Ne.symm ne_b86_b87) nin0)
        clear F_b87_coder
        replace F_b87_value := F_b87_value.keep K91 (ninS (Ne.symm ne_b86_b87) nin0)
        clear F_b87_value ne_b86_b87
        replace V_ba88 := V_ba88.keep K91 (ninS (Ne.symm ne_b86_ba88) nin0)
        clear V_ba88 ne_b86_ba88
        replace E_b89 := E_b89.keep K91
        clear E_b89
        replace F_b89_coder := F_b89_coder.keep K91 (ninS (Ne.symm ne_b86_b89) nin0)
        clear F_b89_coder
        replace F_b89_value := F_b89_value.keep K91 (ninS (Ne.symm ne_b86_b89) nin0)
        clear F_b89_value ne_b86_b89
        replace V_ba90 := V_ba90.keep K91 (ninS (Ne.symm ne_b86_ba90) nin0)
        clear V_ba90 ne_b86_ba90
        replace Zs := Nat.le_trans Zs K91.1
        clear K91
        refine own_go (T' := T91) (g' := (mkF m 381 #[iv i0, iv i1, iv i2, iv i3, iv z1, iv z4, iv kd, iv dg7, iv dg8, iv dg9, iv dg10, iv dg11, iv dg12, iv dg13, iv dg14, iv dg15, iv dg16, iv dg17, iv dg18, rv b19, rv b23, rv b26, rv b30, rv b34, rv b37, rv b41, rv b47, rv b84, oU, oU, oU] [(.ref b86)])) (fun _ k => st91.trans k) ?_
        clear st91
        refine own_p (g' := (mkF m 383 #[iv i0, iv i1, iv i2, iv i3, iv z1, iv z4, iv kd, iv dg7, iv dg8, iv dg9, iv dg10, iv dg11, iv dg12, iv dg13, iv dg14, iv dg15, iv dg16, iv dg17, iv dg18, rv b19, rv b23, rv b26, rv b30, rv b34, rv b37, rv b41, rv b47, rv b84, rv b86, oU, oU] [])) (fun _ k => XS.astore Y91.here hx rfl (hb hby at_381) rfl rfl (l' := #[iv i0, iv i1, iv i2, iv i3, iv z1, iv z4, iv kd, iv dg7, iv dg8, iv dg9, iv dg10, iv dg11, iv dg12, iv dg13, iv dg14, iv dg15, iv dg16, iv dg17, iv dg18, rv b19, rv b23, rv b26, rv b30, rv b34, rv b37, rv b41, rv b47, rv b84, rv b86, oU, oU]) rfl k) ?_
        replace E_tq := E_b84
        clear E_b84
        replace E_pp := E_b86
        clear E_b86
        replace F_pp_code := F_b86_code
        clear F_b86_code
        exact JA b84 b86 _ _ _ _ (Or.inl ⟨c83, by rw [own_dn hd_dg7, own_dn hd_dg8, own_dn hd_dg9, own_dn hd_dg10, own_dn hd_dg11]⟩) { Y91 with same := Y91.same.mono (by decide) (by decide) } rfl NF Zs OL V_b30 V_b34 V_b37 E_tq E_pp F_pp_code
      · refine own_p (g' := (mkF m 316 #[iv i0, iv i1, iv i2, iv i3, iv z1, iv z4, iv kd, iv dg7, iv dg8, iv dg9, iv dg10, iv dg11, iv dg12, iv dg13, iv dg14, iv dg15, iv dg16, iv dg17, iv dg18, rv b19, rv b23, rv b26, rv b30, rv b34, rv b37, rv b41, rv b47, oU, oU, oU, oU] [])) (fun _ k => XS.ifNo Y53.here hx rfl (hb hby at_313) rfl ((if0 _ _).trans (feq c83).1) k) ?_
        obtain ⟨T92, h92, X92, e92, E92, A92, D92, -, st92⟩ := newO Y53 hx hZ hown (own_W hw 8 rfl) (own_W hw 9 rfl) (own_W hw 10 rfl) e53 (g := (mkF m 316 #[iv i0, iv i1, iv i2, iv i3, iv z1, iv z4, iv kd, iv dg7, iv dg8, iv dg9, iv dg10, iv dg11, iv dg12, iv dg13, iv dg14, iv dg15, iv dg16, iv dg17, iv dg18, rv b19, rv b23, rv b26, rv b30, rv b34, rv b37, rv b41, rv b47, oU, oU, oU, oU] [])) rfl (hb hby at_316) (by decide) (by decide)
        clear Y53 e53
        obtain ⟨b92, g92⟩ : ∃ z, z = h53.size := ⟨_, rfl⟩
        rw [← g92] at A92 D92 st92
        replace ne_b19_b92 : b19 ≠ b92 := Nat.ne_of_lt (Nat.lt_of_lt_of_le V_b19.lt (Nat.le_of_eq g92.symm))
        replace ne_b23_b92 : b23 ≠ b92 := Nat.ne_of_lt (Nat.lt_of_lt_of_le V_b23.lt (Nat.le_of_eq g92.symm))
        replace ne_b26_b92 : b26 ≠ b92 := Nat.ne_of_lt (Nat.lt_of_lt_of_le V_b26.lt (Nat.le_of_eq g92.symm))
        replace ne_b30_b92 : b30 ≠ b92 := Nat.ne_of_lt (Nat.lt_of_lt_of_le V_b30.lt (Nat.le_of_eq g92.symm))
        replace ne_b34_b92 : b34 ≠ b92 := Nat.ne_of_lt (Nat.lt_of_lt_of_le V_b34.lt (Nat.le_of_eq g92.symm))
        replace ne_b37_b92 : b37 ≠ b92 := Nat.ne_of_lt (Nat.lt_of_lt_of_le V_b37.lt (Nat.le_of_eq g92.symm))
        replace ne_b41_b92 : b41 ≠ b92 := Nat.ne_of_lt (Nat.lt_of_lt_of_le V_b41.lt (Nat.le_of_eq g92.symm))
        replace ne_b47_b92 : b47 ≠ b92 := Nat.ne_of_lt (Nat.lt_of_lt_of_le V_b47.lt (Nat.le_of_eq g92.symm))
        replace g_b92 : n0 ≤ b92 := Nat.le_trans Zs (Nat.le_of_eq g92.symm)
        replace OL := OL.ext E92
        replace V_b19 := V_b19.ext E92
        replace V_b23 := V_b23.ext E92
        replace V_b26 := V_b26.ext E92
        replace V_b30 := V_b30.ext E92
        replace V_b34 := V_b34.ext E92
        replace V_b37 := V_b37.ext E92
        replace V_b41 := V_b41.ext E92
        replace V_b47 := V_b47.ext E92
        replace Zs := Nat.le_trans Zs E92.1
        clear E92
        replace E_b92 := A92
        clear A92
        replace F_b92_coder : Fld Z h92 b92 "java/lang/String" "coder" "B" (.int 0) := D92 (Or.inr (own_W hw 34 rfl)) (ty := .byte) (by decide)
        replace F_b92_value : Fld Z h92 b92 "java/lang/String" "value" "[B" .null := D92 (Or.inr (own_W hw 36 rfl)) (ty := (.array .byte)) (by decide)
        clear D92
        refine own_go (T' := T92) (g' := (mkF m 319 #[iv i0, iv i1, iv i2, iv i3, iv z1, iv z4, iv kd, iv dg7, iv dg8, iv dg9, iv dg10, iv dg11, iv dg12, iv dg13, iv dg14, iv dg15, iv dg16, iv dg17, iv dg18, rv b19, rv b23, rv b26, rv b30, rv b34, rv b37, rv b41, rv b47, oU, oU, oU, oU] [(.ref b92)])) (fun _ k => st92 _ k) ?_
        clear st92
        refine own_p (g' := (mkF m 322 #[iv i0, iv i1, iv i2, iv i3, iv z1, iv z4, iv kd, iv dg7, iv dg8, iv dg9, iv dg10, iv dg11, iv dg12, iv dg13, iv dg14, iv dg15, iv dg16, iv dg17, iv dg18, rv b19, rv b23, rv b26, rv b30, rv b34, rv b37, rv b41, rv b47, oU, oU, oU, oU] [(.ref b47), (.ref b92), (.ref b92)])) (fun _ k => XS.dup X92.here hx rfl (hb hby at_319) rfl rfl (XS.aload X92.here hx rfl (hb hby at_320) rfl rfl k)) ?_
        replace lt_b19 := V_b19.lt
        replace lt_b23 := V_b23.lt
        replace lt_b26 := V_b26.lt
        replace lt_b30 := V_b30.lt
        replace lt_b34 := V_b34.lt
        replace lt_b37 := V_b37.lt
        replace lt_b41 := V_b41.lt
        replace lt_b47 := V_b47.lt
        replace lt_b92 := E_b92.lt
        obtain ⟨_, _, ⟨T93, L93, k93, n93⟩, -, X93, ⟨Lc93, hQ93, l93, y93, z93⟩, st93⟩ := X92.specialBack hx (y := own_y6) rfl hown (mvT hZ (own_W hw 11 rfl)) (mvT hZ (own_W hw 12 rfl)) (mvT hZ (own_W hw 13 rfl)) (by decide) (backOf (W := 1) (own_rm7 l Z a0 hw [] b92 b47 cs fo k47 (6 : Int32) (nar .char dg7) (nar .char dg8) (nar .char dg9) (nar .char dg10) (nar .char dg11) (nar .char dg12) h92 n0 Zs OL S_cs hcs S_fo hfo (by decide) (by decide) F_b92_value F_b92_coder E_b92 g_b92 (own_pad (ws := []) (Nat.le_of_ble_eq_true rfl) V_b47) (Ne.symm ne_b47_b92) (own_dr hd_dg7) (own_dr hd_dg8) (own_dr hd_dg9) (own_dr hd_dg10) (own_dr hd_dg11) (own_dr hd_dg12)) hZ (own_W hw 13 rfl) (own_W hw 10 rfl) (by decide) (by decide)) (g := (mkF m 322 #[iv i0, iv i1, iv i2, iv i3, iv z1, iv z4, iv kd, iv dg7, iv dg8, iv dg9, iv dg10, iv dg11, iv dg12, iv dg13, iv dg14, iv dg15, iv dg16, iv dg17, iv dg18, rv b19, rv b23, rv b26, rv b30, rv b34, rv b37, rv b41, rv b47, oU, oU, oU, oU] [(.ref b47), (.ref b92), (.ref b92)])) rfl (by rw [hml]; rfl) (Steps.refl _) (a := b92) (argsL := [(.ref b47)]) (rest := [(.ref b92)]) (lenOf own_pd0_3 rfl) rfl (Nat.le_refl _) (hb hby at_322) (fun _ _ => ⟨rfl, e92, (by decide : 9 + 1 ≤ _), (by decide : 31 + 6 ≤ _)⟩)
        dsimp only [Pt.U, Pt.locs, Pt.cells, Pt.slots] at X93 l93 y93 z93 st93 hQ93
        subst l93 y93 z93
        clear X92 e92
        clear E_b92 F_b92_coder F_b92_value
        obtain ⟨rfl, NQ93, K93, E_b92, ba93, kb93, ge_ba93, g_ba93, V_ba93, F_b92_value, F_b92_coder⟩ := hQ93
        clear g_ba93
        replace NF := Fr.app NF NQ93
        clear NQ93
        obtain ⟨lc93, Y93, NG93⟩ := own_lo X93 NF
        clear X93
        replace NF := NG93
        clear NG93
        replace OL := OL.keep K93 (allS g_b92 all0)
        clear g_b92
        replace V_b19 := V_b19.keep K93 (ninS ne_b19_b92 nin0)
        clear ne_b19_b92
        replace V_b23 := V_b23.keep K93 (ninS ne_b23_b92 nin0)
        clear ne_b23_b92
        replace V_b26 := V_b26.keep K93 (ninS ne_b26_b92 nin0)
        clear ne_b26_b92
        replace V_b30 := V_b30.keep K93 (ninS ne_b30_b92 nin0)
        clear ne_b30_b92
        replace V_b34 := V_b34.keep K93 (ninS ne_b34_b92 nin0)
        clear ne_b34_b92
        replace V_b37 := V_b37.keep K93 (ninS ne_b37_b92 nin0)
        clear ne_b37_b92
        replace V_b41 := V_b41.keep K93 (ninS ne_b41_b92 nin0)
        clear ne_b41_b92
        replace V_b47 := V_b47.keep K93 (ninS ne_b47_b92 nin0)
        clear ne_b47_b92
        replace Zs := Nat.le_trans Zs K93.1
        clear K93
        replace ne_b19_ba93 : b19 ≠ ba93 := Nat.ne_of_lt (Nat.lt_of_lt_of_le lt_b19 ge_ba93)
        clear ne_b19_ba93
        replace ne_b23_ba93 : b23 ≠ ba93 := Nat.ne_of_lt (Nat.lt_of_lt_of_le lt_b23 ge_ba93)
        clear ne_b23_ba93
        replace ne_b26_ba93 : b26 ≠ ba93 := Nat.ne_of_lt (Nat.lt_of_lt_of_le lt_b26 ge_ba93)
        clear ne_b26_ba93
        replace ne_b30_ba93 : b30 ≠ ba93 := Nat.ne_of_lt (Nat.lt_of_lt_of_le lt_b30 ge_ba93)
        clear ne_b30_ba93
        replace ne_b34_ba93 : b34 ≠ ba93 := Nat.ne_of_lt (Nat.lt_of_lt_of_le lt_b34 ge_ba93)
        clear ne_b34_ba93
        replace ne_b37_ba93 : b37 ≠ ba93 := Nat.ne_of_lt (Nat.lt_of_lt_of_le lt_b37 ge_ba93)
        clear ne_b37_ba93
        replace ne_b41_ba93 : b41 ≠ ba93 := Nat.ne_of_lt (Nat.lt_of_lt_of_le lt_b41 ge_ba93)
        clear ne_b41_ba93
        replace ne_b47_ba93 : b47 ≠ ba93 := Nat.ne_of_lt (Nat.lt_of_lt_of_le lt_b47 ge_ba93)
        clear ne_b47_ba93
        replace ne_b92_ba93 : b92 ≠ ba93 := Nat.ne_of_lt (Nat.lt_of_lt_of_le lt_b92 ge_ba93)
        clear ge_ba93 ne_b92_ba93
        replace V_ba93 : Arv Z T93.heap ba93 kb93 .byte (6 : Int32) [(.int (nar .char dg7)), (.int (nar .char dg8)), (.int (nar .char dg9)), (.int (nar .char dg10)), (.int (nar .char dg11)), (.int (nar .char dg12))] (.int 0) := own_cut (Nat.le_of_ble_eq_true rfl) V_ba93
        refine own_go (T' := T93) (g' := (mkF m 325 #[iv i0, iv i1, iv i2, iv i3, iv z1, iv z4, iv kd, iv dg7, iv dg8, iv dg9, iv dg10, iv dg11, iv dg12, iv dg13, iv dg14, iv dg15, iv dg16, iv dg17, iv dg18, rv b19, rv b23, rv b26, rv b30, rv b34, rv b37, rv b41, rv b47, oU, oU, oU, oU] [(.ref b92)])) (fun _ k => st93.trans k) ?_
        clear st93
        refine own_p (g' := (mkF m 339 #[iv i0, iv i1, iv i2, iv i3, iv z1, iv z4, iv kd, iv dg7, iv dg8, iv dg9, iv dg10, iv dg11, iv dg12, iv dg13, iv dg14, iv dg15, iv dg16, iv dg17, iv dg18, rv b19, rv b23, rv b26, rv b30, rv b34, rv b37, rv b41, rv b47, rv b92, oU, oU, oU] [])) (fun _ k => XS.goto Y93.here hx rfl (pc0 := 325) (pc' := 337) rfl (hb hby at_325) (by decide) (by decide) (XS.astore Y93.here hx rfl (hb hby at_337) rfl rfl (l' := #[iv i0, iv i1, iv i2, iv i3, iv z1, iv z4, iv kd, iv dg7, iv dg8, iv dg9, iv dg10, iv dg11, iv dg12, iv dg13, iv dg14, iv dg15, iv dg16, iv dg17, iv dg18, rv b19, rv b23, rv b26, rv b30, rv b34, rv b37, rv b41, rv b47, rv b92, oU, oU, oU]) rfl k)) ?_
        obtain ⟨T94, h94, X94, e94, E94, A94, D94, -, st94⟩ := newO Y93 hx hZ hown (own_W hw 37 rfl) (own_W hw 38 rfl) (own_W hw 39 rfl) rfl (g := (mkF m 339 #[iv i0, iv i1, iv i2, iv i3, iv z1, iv z4, iv kd, iv dg7, iv dg8, iv dg9, iv dg10, iv dg11, iv dg12, iv dg13, iv dg14, iv dg15, iv dg16, iv dg17, iv dg18, rv b19, rv b23, rv b26, rv b30, rv b34, rv b37, rv b41, rv b47, rv b92, oU, oU, oU] [])) rfl (hb hby at_339) (by decide) (by decide)
        clear Y93
        obtain ⟨b94, g94⟩ : ∃ z, z = T93.heap.size := ⟨_, rfl⟩
        rw [← g94] at A94 D94 st94
        replace ne_b19_b94 : b19 ≠ b94 := Nat.ne_of_lt (Nat.lt_of_lt_of_le V_b19.lt (Nat.le_of_eq g94.symm))
        replace ne_b23_b94 : b23 ≠ b94 := Nat.ne_of_lt (Nat.lt_of_lt_of_le V_b23.lt (Nat.le_of_eq g94.symm))
        replace ne_b26_b94 : b26 ≠ b94 := Nat.ne_of_lt (Nat.lt_of_lt_of_le V_b26.lt (Nat.le_of_eq g94.symm))
        replace ne_b30_b94 : b30 ≠ b94 := Nat.ne_of_lt (Nat.lt_of_lt_of_le V_b30.lt (Nat.le_of_eq g94.symm))
        replace ne_b34_b94 : b34 ≠ b94 := Nat.ne_of_lt (Nat.lt_of_lt_of_le V_b34.lt (Nat.le_of_eq g94.symm))
        replace ne_b37_b94 : b37 ≠ b94 := Nat.ne_of_lt (Nat.lt_of_lt_of_le V_b37.lt (Nat.le_of_eq g94.symm))
        replace ne_b41_b94 : b41 ≠ b94 := Nat.ne_of_lt (Nat.lt_of_lt_of_le V_b41.lt (Nat.le_of_eq g94.symm))
        replace ne_b47_b94 : b47 ≠ b94 := Nat.ne_of_lt (Nat.lt_of_lt_of_le V_b47.lt (Nat.le_of_eq g94.symm))
        replace ne_b92_b94 : b92 ≠ b94 := Nat.ne_of_lt (Nat.lt_of_lt_of_le E_b92.lt (Nat.le_of_eq g94.symm))
        replace ne_ba93_b94 : ba93 ≠ b94 := Nat.ne_of_lt (Nat.lt_of_lt_of_le V_ba93.lt (Nat.le_of_eq g94.symm))
        replace g_b94 : n0 ≤ b94 := Nat.le_trans Zs (Nat.le_of_eq g94.symm)
        replace OL := OL.ext E94
        replace V_b19 := V_b19.ext E94
        replace V_b23 := V_b23.ext E94
        replace V_b26 := V_b26.ext E94
        replace V_b30 := V_b30.ext E94
        replace V_b34 := V_b34.ext E94
        replace V_b37 := V_b37.ext E94
        replace V_b41 := V_b41.ext E94
        replace V_b47 := V_b47.ext E94
        replace E_b92 := E_b92.ext E94
        replace F_b92_coder := F_b92_coder.ext E94
        replace F_b92_value := F_b92_value.ext E94
        replace V_ba93 := V_ba93.ext E94
        replace Zs := Nat.le_trans Zs E94.1
        clear E94
        replace E_b94 := A94
        clear A94
        replace F_b94_digits : Fld Z h94 b94 "com/example/carrier_name_resolver/carriernameresolver/card/Plmn" "digits" "Ljava/lang/String;" .null := D94 (Or.inr (own_W hw 181 rfl)) (ty := (.object "java/lang/String")) (by decide)
        replace F_b94_code : Fld Z h94 b94 "com/example/carrier_name_resolver/carriernameresolver/card/Plmn" "code" "I" (.int 0) := D94 (Or.inr (own_W hw 187 rfl)) (ty := .int) (by decide)
        clear D94
        refine own_go (T' := T94) (g' := (mkF m 342 #[iv i0, iv i1, iv i2, iv i3, iv z1, iv z4, iv kd, iv dg7, iv dg8, iv dg9, iv dg10, iv dg11, iv dg12, iv dg13, iv dg14, iv dg15, iv dg16, iv dg17, iv dg18, rv b19, rv b23, rv b26, rv b30, rv b34, rv b37, rv b41, rv b47, rv b92, oU, oU, oU] [(.ref b94)])) (fun _ k => st94 _ k) ?_
        clear st94
        refine own_p (g' := (mkF m 343 #[iv i0, iv i1, iv i2, iv i3, iv z1, iv z4, iv kd, iv dg7, iv dg8, iv dg9, iv dg10, iv dg11, iv dg12, iv dg13, iv dg14, iv dg15, iv dg16, iv dg17, iv dg18, rv b19, rv b23, rv b26, rv b30, rv b34, rv b37, rv b41, rv b47, rv b92, oU, oU, oU] [(.ref b94), (.ref b94)])) (fun _ k => XS.dup X94.here hx rfl (hb hby at_342) rfl rfl k) ?_
        obtain ⟨T95, h95, X95, e95, E95, A95, D95, -, st95⟩ := newO X94 hx hZ hown (own_W hw 8 rfl) (own_W hw 9 rfl) (own_W hw 10 rfl) e94 (g := (mkF m 343 #[iv i0, iv i1, iv i2, iv i3, iv z1, iv z4, iv kd, iv dg7, iv dg8, iv dg9, iv dg10, iv dg11, iv dg12, iv dg13, iv dg14, iv dg15, iv dg16, iv dg17, iv dg18, rv b19, rv b23, rv b26, rv b30, rv b34, rv b37, rv b41, rv b47, rv b92, oU, oU, oU] [(.ref b94), (.ref b94)])) rfl (hb hby at_343) (by decide) (by decide)
        clear X94 e94
        obtain ⟨b95, g95⟩ : ∃ z, z = h94.size := ⟨_, rfl⟩
        rw [← g95] at A95 D95 st95
        replace ne_b19_b95 : b19 ≠ b95 := Nat.ne_of_lt (Nat.lt_of_lt_of_le V_b19.lt (Nat.le_of_eq g95.symm))
        replace ne_b23_b95 : b23 ≠ b95 := Nat.ne_of_lt (Nat.lt_of_lt_of_le V_b23.lt (Nat.le_of_eq g95.symm))
        replace ne_b26_b95 : b26 ≠ b95 := Nat.ne_of_lt (Nat.lt_of_lt_of_le V_b26.lt (Nat.le_of_eq g95.symm))
        replace ne_b30_b95 : b30 ≠ b95 := Nat.ne_of_lt (Nat.lt_of_lt_of_le V_b30.lt (Nat.le_of_eq g95.symm))
        replace ne_b34_b95 : b34 ≠ b95 := Nat.ne_of_lt (Nat.lt_of_lt_of_le V_b34.lt (Nat.le_of_eq g95.symm))
        replace ne_b37_b95 : b37 ≠ b95 := Nat.ne_of_lt (Nat.lt_of_lt_of_le V_b37.lt (Nat.le_of_eq g95.symm))
        replace ne_b41_b95 : b41 ≠ b95 := Nat.ne_of_lt (Nat.lt_of_lt_of_le V_b41.lt (Nat.le_of_eq g95.symm))
        replace ne_b47_b95 : b47 ≠ b95 := Nat.ne_of_lt (Nat.lt_of_lt_of_le V_b47.lt (Nat.le_of_eq g95.symm))
        replace ne_b92_b95 : b92 ≠ b95 := Nat.ne_of_lt (Nat.lt_of_lt_of_le E_b92.lt (Nat.le_of_eq g95.symm))
        replace ne_b94_b95 : b94 ≠ b95 := Nat.ne_of_lt (Nat.lt_of_lt_of_le E_b94.lt (Nat.le_of_eq g95.symm))
        replace ne_ba93_b95 : ba93 ≠ b95 := Nat.ne_of_lt (Nat.lt_of_lt_of_le V_ba93.lt (Nat.le_of_eq g95.symm))
        replace g_b95 : n0 ≤ b95 := Nat.le_trans Zs (Nat.le_of_eq g95.symm)
        replace OL := OL.ext E95
        replace V_b19 := V_b19.ext E95
        replace V_b23 := V_b23.ext E95
        replace V_b26 := V_b26.ext E95
        replace V_b30 := V_b30.ext E95
        replace V_b34 := V_b34.ext E95
        replace V_b37 := V_b37.ext E95
        replace V_b41 := V_b41.ext E95
        replace V_b47 := V_b47.ext E95
        replace E_b92 := E_b92.ext E95
        replace F_b92_coder := F_b92_coder.ext E95
        replace F_b92_value := F_b92_value.ext E95
        replace V_ba93 := V_ba93.ext E95
        replace E_b94 := E_b94.ext E95
        replace F_b94_digits := F_b94_digits.ext E95
        replace F_b94_code := F_b94_code.ext E95
        replace Zs := Nat.le_trans Zs E95.1
        clear E95
        replace E_b95 := A95
        clear A95
        replace F_b95_coder : Fld Z h95 b95 "java/lang/String" "coder" "B" (.int 0) := D95 (Or.inr (own_W hw 34 rfl)) (ty := .byte) (by decide)
        replace F_b95_value : Fld Z h95 b95 "java/lang/String" "value" "[B" .null := D95 (Or.inr (own_W hw 36 rfl)) (ty := (.array .byte)) (by decide)
        clear D95
        refine own_go (T' := T95) (g' := (mkF m 346 #[iv i0, iv i1, iv i2, iv i3, iv z1, iv z4, iv kd, iv dg7, iv dg8, iv dg9, iv dg10, iv dg11, iv dg12, iv dg13, iv dg14, iv dg15, iv dg16, iv dg17, iv dg18, rv b19, rv b23, rv b26, rv b30, rv b34, rv b37, rv b41, rv b47, rv b92, oU, oU, oU] [(.ref b95), (.ref b94), (.ref b94)])) (fun _ k => st95 _ k) ?_
        clear st95
        refine own_p (g' := (mkF m 349 #[iv i0, iv i1, iv i2, iv i3, iv z1, iv z4, iv kd, iv dg7, iv dg8, iv dg9, iv dg10, iv dg11, iv dg12, iv dg13, iv dg14, iv dg15, iv dg16, iv dg17, iv dg18, rv b19, rv b23, rv b26, rv b30, rv b34, rv b37, rv b41, rv b47, rv b92, oU, oU, oU] [(.ref b19), (.ref b95), (.ref b95), (.ref b94), (.ref b94)])) (fun _ k => XS.dup X95.here hx rfl (hb hby at_346) rfl rfl (XS.aload X95.here hx rfl (hb hby at_347) rfl rfl k)) ?_
        replace lt_b19 := V_b19.lt
        replace lt_b23 := V_b23.lt
        replace lt_b26 := V_b26.lt
        replace lt_b30 := V_b30.lt
        replace lt_b34 := V_b34.lt
        replace lt_b37 := V_b37.lt
        replace lt_b41 := V_b41.lt
        replace lt_b47 := V_b47.lt
        replace lt_b92 := E_b92.lt
        replace lt_b94 := E_b94.lt
        replace lt_b95 := E_b95.lt
        replace lt_ba93 := V_ba93.lt
        obtain ⟨_, _, ⟨T96, L96, k96, n96⟩, -, X96, ⟨Lc96, hQ96, l96, y96, z96⟩, st96⟩ := X95.specialBack hx (y := own_y6) rfl hown (mvT hZ (own_W hw 11 rfl)) (mvT hZ (own_W hw 12 rfl)) (mvT hZ (own_W hw 13 rfl)) (by decide) (backOf (W := 3) (own_rm7 l Z a0 hw [] b95 b19 cs fo k19 (3 : Int32) (nar .char dg7) (nar .char dg8) (nar .char dg9) (nar .char dg7) (nar .char dg7) (nar .char dg7) h95 n0 Zs OL S_cs hcs S_fo hfo (by decide) (by decide) F_b95_value F_b95_coder E_b95 g_b95 (own_pad (ws := [(.int (nar .char dg7)), (.int (nar .char dg7)), (.int (nar .char dg7))]) (Nat.le_of_ble_eq_true rfl) V_b19) (Ne.symm ne_b19_b95) (own_dr hd_dg7) (own_dr hd_dg8) (own_dr hd_dg9) (own_dr hd_dg7) (own_dr hd_dg7) (own_dr hd_dg7)) hZ (own_W hw 13 rfl) (own_W hw 10 rfl) (by decide) (by decide)) (g := (mkF m 349 #[iv i0, iv i1, iv i2, iv i3, iv z1, iv z4, iv kd, iv dg7, iv dg8, iv dg9, iv dg10, iv dg11, iv dg12, iv dg13, iv dg14, iv dg15, iv dg16, iv dg17, iv dg18, rv b19, rv b23, rv b26, rv b30, rv b34, rv b37, rv b41, rv b47, rv b92, oU, oU, oU] [(.ref b19), (.ref b95), (.ref b95), (.ref b94), (.ref b94)])) rfl (by rw [hml]; rfl) (Steps.refl _) (a := b95) (argsL := [(.ref b19)]) (rest := [(.ref b95), (.ref b94), (.ref b94)]) (lenOf own_pd0_3 rfl) rfl (Nat.le_refl _) (hb hby at_349) (fun _ _ => ⟨rfl, e95, (by decide : 12 + 1 ≤ _), (by decide : 43 + 6 ≤ _)⟩)
        dsimp only [Pt.U, Pt.locs, Pt.cells, Pt.slots] at X96 l96 y96 z96 st96 hQ96
        subst l96 y96 z96
        clear X95 e95
        clear E_b95 F_b95_coder F_b95_value
        obtain ⟨rfl, NQ96, K96, E_b95, ba96, kb96, ge_ba96, g_ba96, V_ba96, F_b95_value, F_b95_coder⟩ := hQ96
        clear g_ba96
        replace NF := Fr.app NF NQ96
        clear NQ96
        obtain ⟨lc96, Y96, NG96⟩ := own_lo X96 NF
        clear X96
        replace NF := NG96
        clear NG96
        replace OL := OL.keep K96 (allS g_b95 all0)
        clear g_b95
        replace V_b19 := V_b19.keep K96 (ninS ne_b19_b95 nin0)
        clear ne_b19_b95
        replace V_b23 := V_b23.keep K96 (ninS ne_b23_b95 nin0)
        clear ne_b23_b95
        replace V_b26 := V_b26.keep K96 (ninS ne_b26_b95 nin0)
        clear ne_b26_b95
        replace V_b30 := V_b30.keep K96 (ninS ne_b30_b95 nin0)
        clear ne_b30_b95
        replace V_b34 := V_b34.keep K96 (ninS ne_b34_b95 nin0)
        clear ne_b34_b95
        replace V_b37 := V_b37.keep K96 (ninS ne_b37_b95 nin0)
        clear ne_b37_b95
        replace V_b41 := V_b41.keep K96 (ninS ne_b41_b95 nin0)
        clear ne_b41_b95
        replace V_b47 := V_b47.keep K96 (ninS ne_b47_b95 nin0)
        clear ne_b47_b95
        replace E_b92 := E_b92.keep K96
        replace F_b92_coder := F_b92_coder.keep K96 (ninS ne_b92_b95 nin0)
        replace F_b92_value := F_b92_value.keep K96 (ninS ne_b92_b95 nin0)
        clear ne_b92_b95
        replace V_ba93 := V_ba93.keep K96 (ninS ne_ba93_b95 nin0)
        clear ne_ba93_b95
        replace E_b94 := E_b94.keep K96
        replace F_b94_digits := F_b94_digits.keep K96 (ninS ne_b94_b95 nin0)
        replace F_b94_code := F_b94_code.keep K96 (ninS ne_b94_b95 nin0)
        replace Zs := Nat.le_trans Zs K96.1
        clear K96
        replace ne_b19_ba96 : b19 ≠ ba96 := Nat.ne_of_lt (Nat.lt_of_lt_of_le lt_b19 ge_ba96)
        clear ne_b19_ba96
        replace ne_b23_ba96 : b23 ≠ ba96 := Nat.ne_of_lt (Nat.lt_of_lt_of_le lt_b23 ge_ba96)
        clear ne_b23_ba96
        replace ne_b26_ba96 : b26 ≠ ba96 := Nat.ne_of_lt (Nat.lt_of_lt_of_le lt_b26 ge_ba96)
        clear ne_b26_ba96
        replace ne_b30_ba96 : b30 ≠ ba96 := Nat.ne_of_lt (Nat.lt_of_lt_of_le lt_b30 ge_ba96)
        clear ne_b30_ba96
        replace ne_b34_ba96 : b34 ≠ ba96 := Nat.ne_of_lt (Nat.lt_of_lt_of_le lt_b34 ge_ba96)
        clear ne_b34_ba96
        replace ne_b37_ba96 : b37 ≠ ba96 := Nat.ne_of_lt (Nat.lt_of_lt_of_le lt_b37 ge_ba96)
        clear ne_b37_ba96
        replace ne_b41_ba96 : b41 ≠ ba96 := Nat.ne_of_lt (Nat.lt_of_lt_of_le lt_b41 ge_ba96)
        clear ne_b41_ba96
        replace ne_b47_ba96 : b47 ≠ ba96 := Nat.ne_of_lt (Nat.lt_of_lt_of_le lt_b47 ge_ba96)
        clear ne_b47_ba96
        replace ne_b92_ba96 : b92 ≠ ba96 := Nat.ne_of_lt (Nat.lt_of_lt_of_le lt_b92 ge_ba96)
        clear ne_b92_ba96
        replace ne_b94_ba96 : b94 ≠ ba96 := Nat.ne_of_lt (Nat.lt_of_lt_of_le lt_b94 ge_ba96)
        replace ne_b95_ba96 : b95 ≠ ba96 := Nat.ne_of_lt (Nat.lt_of_lt_of_le lt_b95 ge_ba96)
        clear ne_b95_ba96
        replace ne_ba93_ba96 : ba93 ≠ ba96 := Nat.ne_of_lt (Nat.lt_of_lt_of_le lt_ba93 ge_ba96)
        clear ge_ba96 ne_ba93_ba96
        replace V_ba96 : Arv Z T96.heap ba96 kb96 .byte (3 : Int32) [(.int (nar .char dg7)), (.int (nar .char dg8)), (.int (nar .char dg9))] (.int 0) := own_cut (Nat.le_of_ble_eq_true rfl) V_ba96
        refine own_go (T' := T96) (g' := (mkF m 352 #[iv i0, iv i1, iv i2, iv i3, iv z1, iv z4, iv kd, iv dg7, iv dg8, iv dg9, iv dg10, iv dg11, iv dg12, iv dg13, iv dg14, iv dg15, iv dg16, iv dg17, iv dg18, rv b19, rv b23, rv b26, rv b30, rv b34, rv b37, rv b41, rv b47, rv b92, oU, oU, oU] [(.ref b95), (.ref b94), (.ref b94)])) (fun _ k => st96.trans k) ?_
        clear st96
        refine own_p (g' := (mkF m 357 #[iv i0, iv i1, iv i2, iv i3, iv z1, iv z4, iv kd, iv dg7, iv dg8, iv dg9, iv dg10, iv dg11, iv dg12, iv dg13, iv dg14, iv dg15, iv dg16, iv dg17, iv dg18, rv b19, rv b23, rv b26, rv b30, rv b34, rv b37, rv b41, rv b47, rv b92, oU, oU, oU] [(.ref b95), (.ref b94), (.ref b94)])) (fun _ k => XS.iload Y96.here hx rfl (hb hby at_352) rfl (XS.ifNo Y96.here hx rfl (hb hby at_354) rfl ((if0 _ _).trans (feq c83).1) k)) ?_
        obtain ⟨T97, h97, X97, e97, E97, A97, D97, -, st97⟩ := newO Y96 hx hZ hown (own_W hw 8 rfl) (own_W hw 9 rfl) (own_W hw 10 rfl) rfl (g := (mkF m 357 #[iv i0, iv i1, iv i2, iv i3, iv z1, iv z4, iv kd, iv dg7, iv dg8, iv dg9, iv dg10, iv dg11, iv dg12, iv dg13, iv dg14, iv dg15, iv dg16, iv dg17, iv dg18, rv b19, rv b23, rv b26, rv b30, rv b34, rv b37, rv b41, rv b47, rv b92, oU, oU, oU] [(.ref b95), (.ref b94), (.ref b94)])) rfl (hb hby at_357) (by decide) (by decide)
        clear Y96
        obtain ⟨b97, g97⟩ : ∃ z, z = T96.heap.size := ⟨_, rfl⟩
        rw [← g97] at A97 D97 st97
        replace ne_b19_b97 : b19 ≠ b97 := Nat.ne_of_lt (Nat.lt_of_lt_of_le V_b19.lt (Nat.le_of_eq g97.symm))
        replace ne_b23_b97 : b23 ≠ b97 := Nat.ne_of_lt (Nat.lt_of_lt_of_le V_b23.lt (Nat.le_of_eq g97.symm))
        replace ne_b26_b97 : b26 ≠ b97 := Nat.ne_of_lt (Nat.lt_of_lt_of_le V_b26.lt (Nat.le_of_eq g97.symm))
        replace ne_b30_b97 : b30 ≠ b97 := Nat.ne_of_lt (Nat.lt_of_lt_of_le V_b30.lt (Nat.le_of_eq g97.symm))
        replace ne_b34_b97 : b34 ≠ b97 := Nat.ne_of_lt (Nat.lt_of_lt_of_le V_b34.lt (Nat.le_of_eq g97.symm))
        replace ne_b37_b97 : b37 ≠ b97 := Nat.ne_of_lt (Nat.lt_of_lt_of_le V_b37.lt (Nat.le_of_eq g97.symm))
        replace ne_b41_b97 : b41 ≠ b97 := Nat.ne_of_lt (Nat.lt_of_lt_of_le V_b41.lt (Nat.le_of_eq g97.symm))
        replace ne_b47_b97 : b47 ≠ b97 := Nat.ne_of_lt (Nat.lt_of_lt_of_le V_b47.lt (Nat.le_of_eq g97.symm))
        replace ne_b92_b97 : b92 ≠ b97 := Nat.ne_of_lt (Nat.lt_of_lt_of_le E_b92.lt (Nat.le_of_eq g97.symm))
        replace ne_b94_b97 : b94 ≠ b97 := Nat.ne_of_lt (Nat.lt_of_lt_of_le E_b94.lt (Nat.le_of_eq g97.symm))
        replace ne_b95_b97 : b95 ≠ b97 := Nat.ne_of_lt (Nat.lt_of_lt_of_le E_b95.lt (Nat.le_of_eq g97.symm))
        replace ne_ba93_b97 : ba93 ≠ b97 := Nat.ne_of_lt (Nat.lt_of_lt_of_le V_ba93.lt (Nat.le_of_eq g97.symm))
        replace ne_ba96_b97 : ba96 ≠ b97 := Nat.ne_of_lt (Nat.lt_of_lt_of_le V_ba96.lt (Nat.le_of_eq g97.symm))
        replace g_b97 : n0 ≤ b97 := Nat.le_trans Zs (Nat.le_of_eq g97.symm)
        replace OL := OL.ext E97
        replace V_b19 := V_b19.ext E97
        replace V_b23 := V_b23.ext E97
        replace V_b26 := V_b26.ext E97
        replace V_b30 := V_b30.ext E97
        replace V_b34 := V_b34.ext E97
        replace V_b37 := V_b37.ext E97
        replace V_b41 := V_b41.ext E97
        replace V_b47 := V_b47.ext E97
        replace E_b92 := E_b92.ext E97
        replace F_b92_coder := F_b92_coder.ext E97
        replace F_b92_value := F_b92_value.ext E97
        replace V_ba93 := V_ba93.ext E97
        replace E_b94 := E_b94.ext E97
        replace F_b94_digits := F_b94_digits.ext E97
        replace F_b94_code := F_b94_code.ext E97
        replace E_b95 := E_b95.ext E97
        replace F_b95_coder := F_b95_coder.ext E97
        replace F_b95_value := F_b95_value.ext E97
        replace V_ba96 := V_ba96.ext E97
        replace Zs := Nat.le_trans Zs E97.1
        clear E97
        replace E_b97 := A97
        clear A97
        replace F_b97_coder : Fld Z h97 b97 "java/lang/String" "coder" "B" (.int 0) := D97 (Or.inr (own_W hw 34 rfl)) (ty := .byte) (by decide)
        replace F_b97_value : Fld Z h97 b97 "java/lang/String" "value" "[B" .null := D97 (Or.inr (own_W hw 36 rfl)) (ty := (.array .byte)) (by decide)
        clear D97
        refine own_go (T' := T97) (g' := (mkF m 360 #[iv i0, iv i1, iv i2, iv i3, iv z1, iv z4, iv kd, iv dg7, iv dg8, iv dg9, iv dg10, iv dg11, iv dg12, iv dg13, iv dg14, iv dg15, iv dg16, iv dg17, iv dg18, rv b19, rv b23, rv b26, rv b30, rv b34, rv b37, rv b41, rv b47, rv b92, oU, oU, oU] [(.ref b97), (.ref b95), (.ref b94), (.ref b94)])) (fun _ k => st97 _ k) ?_
        clear st97
        refine own_p (g' := (mkF m 363 #[iv i0, iv i1, iv i2, iv i3, iv z1, iv z4, iv kd, iv dg7, iv dg8, iv dg9, iv dg10, iv dg11, iv dg12, iv dg13, iv dg14, iv dg15, iv dg16, iv dg17, iv dg18, rv b19, rv b23, rv b26, rv b30, rv b34, rv b37, rv b41, rv b47, rv b92, oU, oU, oU] [(.ref b26), (.ref b97), (.ref b97), (.ref b95), (.ref b94), (.ref b94)])) (fun _ k => XS.dup X97.here hx rfl (hb hby at_360) rfl rfl (XS.aload X97.here hx rfl (hb hby at_361) rfl rfl k)) ?_
        replace lt_b19 := V_b19.lt
        replace lt_b23 := V_b23.lt
        replace lt_b26 := V_b26.lt
        replace lt_b30 := V_b30.lt
        replace lt_b34 := V_b34.lt
        replace lt_b37 := V_b37.lt
        replace lt_b41 := V_b41.lt
        replace lt_b47 := V_b47.lt
        replace lt_b92 := E_b92.lt
        replace lt_b94 := E_b94.lt
        replace lt_b95 := E_b95.lt
        replace lt_b97 := E_b97.lt
        replace lt_ba93 := V_ba93.lt
        replace lt_ba96 := V_ba96.lt
        obtain ⟨_, _, ⟨T98, L98, k98, n98⟩, -, X98, ⟨Lc98, hQ98, l98, y98, z98⟩, st98⟩ := X97.specialBack hx (y := own_y6) rfl hown (mvT hZ (own_W hw 11 rfl)) (mvT hZ (own_W hw 12 rfl)) (mvT hZ (own_W hw 13 rfl)) (by decide) (backOf (W := 4) (own_rm7 l Z a0 hw [] b97 b26 cs fo k26 (3 : Int32) (nar .char dg10) (nar .char dg11) (nar .char dg12) (nar .char dg10) (nar .char dg10) (nar .char dg10) h97 n0 Zs OL S_cs hcs S_fo hfo (by decide) (by decide) F_b97_value F_b97_coder E_b97 g_b97 (own_pad (ws := [(.int (nar .char dg10)), (.int (nar .char dg10)), (.int (nar .char dg10))]) (Nat.le_of_ble_eq_true rfl) V_b26) (Ne.symm ne_b26_b97) (own_dr hd_dg10) (own_dr hd_dg11) (own_dr hd_dg12) (own_dr hd_dg10) (own_dr hd_dg10) (own_dr hd_dg10)) hZ (own_W hw 13 rfl) (own_W hw 10 rfl) (by decide) (by decide)) (g := (mkF m 363 #[iv i0, iv i1, iv i2, iv i3, iv z1, iv z4, iv kd, iv dg7, iv dg8, iv dg9, iv dg10, iv dg11, iv dg12, iv dg13, iv dg14, iv dg15, iv dg16, iv dg17, iv dg18, rv b19, rv b23, rv b26, rv b30, rv b34, rv b37, rv b41, rv b47, rv b92, oU, oU, oU] [(.ref b26), (.ref b97), (.ref b97), (.ref b95), (.ref b94), (.ref b94)])) rfl (by rw [hml]; rfl) (Steps.refl _) (a := b97) (argsL := [(.ref b26)]) (rest := [(.ref b97), (.ref b95), (.ref b94), (.ref b94)]) (lenOf own_pd0_3 rfl) rfl (Nat.le_refl _) (hb hby at_363) (fun _ _ => ⟨rfl, e97, (by decide : 14 + 1 ≤ _), (by decide : 53 + 6 ≤ _)⟩)
        dsimp only [Pt.U, Pt.locs, Pt.cells, Pt.slots] at X98 l98 y98 z98 st98 hQ98
        subst l98 y98 z98
        clear X97 e97
        clear E_b97 F_b97_coder F_b97_value
        obtain ⟨rfl, NQ98, K98, E_b97, ba98, kb98, ge_ba98, g_ba98, V_ba98, F_b97_value, F_b97_coder⟩ := hQ98
        clear g_ba98
        replace NF := Fr.app NF NQ98
        clear NQ98
        obtain ⟨lc98, Y98, NG98⟩ := own_lo X98 NF
        clear X98
        replace NF := NG98
        clear NG98
        replace OL := OL.keep K98 (allS g_b97 all0)
        clear g_b97
        replace V_b19 := V_b19.keep K98 (ninS ne_b19_b97 nin0)
        clear ne_b19_b97
        replace V_b23 := V_b23.keep K98 (ninS ne_b23_b97 nin0)
        clear ne_b23_b97
        replace V_b26 := V_b26.keep K98 (ninS ne_b26_b97 nin0)
        clear ne_b26_b97
        replace V_b30 := V_b30.keep K98 (ninS ne_b30_b97 nin0)
        clear ne_b30_b97
        replace V_b34 := V_b34.keep K98 (ninS ne_b34_b97 nin0)
        clear ne_b34_b97
        replace V_b37 := V_b37.keep K98 (ninS ne_b37_b97 nin0)
        clear ne_b37_b97
        replace V_b41 := V_b41.keep K98 (ninS ne_b41_b97 nin0)
        clear ne_b41_b97
        replace V_b47 := V_b47.keep K98 (ninS ne_b47_b97 nin0)
        clear ne_b47_b97
        replace E_b92 := E_b92.keep K98
        replace F_b92_coder := F_b92_coder.keep K98 (ninS ne_b92_b97 nin0)
        replace F_b92_value := F_b92_value.keep K98 (ninS ne_b92_b97 nin0)
        clear ne_b92_b97
        replace V_ba93 := V_ba93.keep K98 (ninS ne_ba93_b97 nin0)
        clear ne_ba93_b97
        replace E_b94 := E_b94.keep K98
        replace F_b94_digits := F_b94_digits.keep K98 (ninS ne_b94_b97 nin0)
        replace F_b94_code := F_b94_code.keep K98 (ninS ne_b94_b97 nin0)
        replace E_b95 := E_b95.keep K98
        replace F_b95_coder := F_b95_coder.keep K98 (ninS ne_b95_b97 nin0)
        replace F_b95_value := F_b95_value.keep K98 (ninS ne_b95_b97 nin0)
        clear ne_b95_b97
        replace V_ba96 := V_ba96.keep K98 (ninS ne_ba96_b97 nin0)
        clear ne_ba96_b97
        replace Zs := Nat.le_trans Zs K98.1
        clear K98
        replace ne_b19_ba98 : b19 ≠ ba98 := Nat.ne_of_lt (Nat.lt_of_lt_of_le lt_b19 ge_ba98)
        clear lt_b19 ne_b19_ba98
        replace ne_b23_ba98 : b23 ≠ ba98 := Nat.ne_of_lt (Nat.lt_of_lt_of_le lt_b23 ge_ba98)
        clear lt_b23 ne_b23_ba98
        replace ne_b26_ba98 : b26 ≠ ba98 := Nat.ne_of_lt (Nat.lt_of_lt_of_le lt_b26 ge_ba98)
        clear lt_b26 ne_b26_ba98
        replace ne_b30_ba98 : b30 ≠ ba98 := Nat.ne_of_lt (Nat.lt_of_lt_of_le lt_b30 ge_ba98)
        clear lt_b30 ne_b30_ba98
        replace ne_b34_ba98 : b34 ≠ ba98 := Nat.ne_of_lt (Nat.lt_of_lt_of_le lt_b34 ge_ba98)
        clear lt_b34 ne_b34_ba98
        replace ne_b37_ba98 : b37 ≠ ba98 := Nat.ne_of_lt (Nat.lt_of_lt_of_le lt_b37 ge_ba98)
        clear lt_b37 ne_b37_ba98
        replace ne_b41_ba98 : b41 ≠ ba98 := Nat.ne_of_lt (Nat.lt_of_lt_of_le lt_b41 ge_ba98)
        clear lt_b41 ne_b41_ba98
        replace ne_b47_ba98 : b47 ≠ ba98 := Nat.ne_of_lt (Nat.lt_of_lt_of_le lt_b47 ge_ba98)
        clear lt_b47 ne_b47_ba98
        replace ne_b92_ba98 : b92 ≠ ba98 := Nat.ne_of_lt (Nat.lt_of_lt_of_le lt_b92 ge_ba98)
        clear lt_b92 ne_b92_ba98
        replace ne_b94_ba98 : b94 ≠ ba98 := Nat.ne_of_lt (Nat.lt_of_lt_of_le lt_b94 ge_ba98)
        clear lt_b94
        replace ne_b95_ba98 : b95 ≠ ba98 := Nat.ne_of_lt (Nat.lt_of_lt_of_le lt_b95 ge_ba98)
        clear lt_b95 ne_b95_ba98
        replace ne_b97_ba98 : b97 ≠ ba98 := Nat.ne_of_lt (Nat.lt_of_lt_of_le lt_b97 ge_ba98)
        clear lt_b97 ne_b97_ba98
        replace ne_ba93_ba98 : ba93 ≠ ba98 := Nat.ne_of_lt (Nat.lt_of_lt_of_le lt_ba93 ge_ba98)
        clear lt_ba93 ne_ba93_ba98
        replace ne_ba96_ba98 : ba96 ≠ ba98 := Nat.ne_of_lt (Nat.lt_of_lt_of_le lt_ba96 ge_ba98)
        clear ge_ba98 lt_ba96 ne_ba96_ba98
        replace V_ba98 : Arv Z T98.heap ba98 kb98 .byte (3 : Int32) [(.int (nar .char dg10)), (.int (nar .char dg11)), (.int (nar .char dg12))] (.int 0) := own_cut (Nat.le_of_ble_eq_true rfl) V_ba98
        refine own_go (T' := T98) (g' := (mkF m 366 #[iv i0, iv i1, iv i2, iv i3, iv z1, iv z4, iv kd, iv dg7, iv dg8, iv dg9, iv dg10, iv dg11, iv dg12, iv dg13, iv dg14, iv dg15, iv dg16, iv dg17, iv dg18, rv b19, rv b23, rv b26, rv b30, rv b34, rv b37, rv b41, rv b47, rv b92, oU, oU, oU] [(.ref b97), (.ref b95), (.ref b94), (.ref b94)])) (fun _ k => st98.trans k) ?_
        clear st98
        refine own_p (g' := (mkF m 378 #[iv i0, iv i1, iv i2, iv i3, iv z1, iv z4, iv kd, iv dg7, iv dg8, iv dg9, iv dg10, iv dg11, iv dg12, iv dg13, iv dg14, iv dg15, iv dg16, iv dg17, iv dg18, rv b19, rv b23, rv b26, rv b30, rv b34, rv b37, rv b41, rv b47, rv b92, oU, oU, oU] [(.ref b97), (.ref b95), (.ref b94), (.ref b94)])) (fun _ k => XS.goto Y98.here hx rfl (pc0 := 366) (pc' := 378) rfl (hb hby at_366) (by decide) (by decide) k) ?_
        obtain ⟨_, _, ⟨T99, L99, k99, n99⟩, -, X99, ⟨Lc99, hQ99, l99, y99, z99⟩, st99⟩ := Y98.specialBack hx (y := own_y35) rfl hown (mvT hZ (own_W hw 40 rfl)) (mvT hZ (own_W hw 41 rfl)) (mvT hZ (own_W hw 42 rfl)) (by decide) (backOf (W := 1) (own_rm40_3 l Z a0 hw [] b94 b95 b97 cs fo ba96 kb96 (nar .char dg7) (nar .char dg8) (nar .char dg9) ba98 kb98 (nar .char dg10) (nar .char dg11) (nar .char dg12) T98.heap n0 Zs OL S_cs hcs S_fo hfo F_b94_digits F_b94_code E_b94 g_b94 E_b95 F_b95_value F_b95_coder V_ba96 (own_dr hd_dg7) (own_dr hd_dg8) (own_dr hd_dg9) E_b97 F_b97_value F_b97_coder V_ba98 (own_dr hd_dg10) (own_dr hd_dg11) (own_dr hd_dg12)) hZ (own_W hw 42 rfl) (own_W hw 39 rfl) (by decide) (by decide)) (g := (mkF m 378 #[iv i0, iv i1, iv i2, iv i3, iv z1, iv z4, iv kd, iv dg7, iv dg8, iv dg9, iv dg10, iv dg11, iv dg12, iv dg13, iv dg14, iv dg15, iv dg16, iv dg17, iv dg18, rv b19, rv b23, rv b26, rv b30, rv b34, rv b37, rv b41, rv b47, rv b92, oU, oU, oU] [(.ref b97), (.ref b95), (.ref b94), (.ref b94)])) rfl (by rw [hml]; rfl) (Steps.refl _) (a := b94) (argsL := [(.ref b95), (.ref b97)]) (rest := [(.ref b94)]) (lenOf own_pd0_4 rfl) rfl (Nat.le_refl _) (hb hby at_378) (fun _ _ => ⟨rfl, rfl, (by decide : 15 + 4 ≤ _), (by decide : 59 + 30 ≤ _)⟩)
        dsimp only [Pt.U, Pt.locs, Pt.cells, Pt.slots] at X99 l99 y99 z99 st99 hQ99
        subst l99 y99 z99
        clear F_b94_digits Y98
        clear E_b94 F_b94_code
        obtain ⟨rfl, NQ99, K99, E_b94, F_b94_code⟩ := hQ99
        replace NF := Fr.app NF NQ99
        clear NQ99
        obtain ⟨lc99, Y99, NG99⟩ := own_lo X99 NF
        clear X99
        replace NF := NG99
        clear NG99
        replace OL := OL.keep K99 (allS g_b94 all0)
        clear g_b94
        replace V_b19 := V_b19.keep K99 (ninS ne_b19_b94 nin0)
        clear V_b19 ne_b19_b94
        replace V_b23 := V_b23.keep K99 (ninS ne_b23_b94 nin0)
        clear V_b23 ne_b23_b94
        replace V_b26 := V_b26.keep K99 (ninS ne_b26_b94 nin0)
        clear V_b26 ne_b26_b94
        replace V_b30 := V_b30.keep K99 (ninS ne_b30_b94 nin0)
        clear ne_b30_b94
        replace V_b34 := V_b34.keep K99 (ninS ne_b34_b94 nin0)
        clear ne_b34_b94
        replace V_b37 := V_b37.keep K99 (ninS ne_b37_b94 nin0)
        clear ne_b37_b94
        replace V_b41 := V_b41.keep K99 (ninS ne_b41_b94 nin0)
        clear V_b41 ne_b41_b94
        replace V_b47 := V_b47.keep K99 (ninS ne_b47_b94 nin0)
        clear V_b47 ne_b47_b94
        replace E_b92 := E_b92.keep K99
        replace F_b92_coder := F_b92_coder.keep K99 (ninS ne_b92_b94 nin0)
        clear F_b92_coder
        replace F_b92_value := F_b92_value.keep K99 (ninS ne_b92_b94 nin0)
        clear F_b92_value ne_b92_b94
        replace V_ba93 := V_ba93.keep K99 (ninS ne_ba93_b94 nin0)
        clear V_ba93 ne_ba93_b94
        replace E_b95 := E_b95.keep K99
        clear E_b95
        replace F_b95_coder := F_b95_coder.keep K99 (ninS (Ne.symm ne_b94_b95) nin0)
        clear F_b95_coder
        replace F_b95_value := F_b95_value.keep K99 (ninS (Ne.symm ne_b94_b95) nin0)
        clear F_b95_value ne_b94_b95
        replace V_ba96 := V_ba96.keep K99 (ninS (Ne.symm ne_b94_ba96) nin0)
        clear V_ba96 ne_b94_ba96
        replace E_b97 := E_b97.keep K99
        clear E_b97
        replace F_b97_coder := F_b97_coder.keep K99 (ninS (Ne.symm ne_b94_b97) nin0)
        clear F_b97_coder
        replace F_b97_value := F_b97_value.keep K99 (ninS (Ne.symm ne_b94_b97) nin0)
        clear F_b97_value ne_b94_b97
        replace V_ba98 := V_ba98.keep K99 (ninS (Ne.symm ne_b94_ba98) nin0)
        clear V_ba98 ne_b94_ba98
        replace Zs := Nat.le_trans Zs K99.1
        clear K99
        refine own_go (T' := T99) (g' := (mkF m 381 #[iv i0, iv i1, iv i2, iv i3, iv z1, iv z4, iv kd, iv dg7, iv dg8, iv dg9, iv dg10, iv dg11, iv dg12, iv dg13, iv dg14, iv dg15, iv dg16, iv dg17, iv dg18, rv b19, rv b23, rv b26, rv b30, rv b34, rv b37, rv b41, rv b47, rv b92, oU, oU, oU] [(.ref b94)])) (fun _ k => st99.trans k) ?_
        clear st99
        refine own_p (g' := (mkF m 383 #[iv i0, iv i1, iv i2, iv i3, iv z1, iv z4, iv kd, iv dg7, iv dg8, iv dg9, iv dg10, iv dg11, iv dg12, iv dg13, iv dg14, iv dg15, iv dg16, iv dg17, iv dg18, rv b19, rv b23, rv b26, rv b30, rv b34, rv b37, rv b41, rv b47, rv b92, rv b94, oU, oU] [])) (fun _ k => XS.astore Y99.here hx rfl (hb hby at_381) rfl rfl (l' := #[iv i0, iv i1, iv i2, iv i3, iv z1, iv z4, iv kd, iv dg7, iv dg8, iv dg9, iv dg10, iv dg11, iv dg12, iv dg13, iv dg14, iv dg15, iv dg16, iv dg17, iv dg18, rv b19, rv b23, rv b26, rv b30, rv b34, rv b37, rv b41, rv b47, rv b92, rv b94, oU, oU]) rfl k) ?_
        replace E_tq := E_b92
        clear E_b92
        replace E_pp := E_b94
        clear E_b94
        replace F_pp_code := F_b94_code
        clear F_b94_code
        exact JA b92 b94 _ _ _ _ (Or.inr ⟨c83, by rw [own_dn hd_dg7, own_dn hd_dg8, own_dn hd_dg9, own_dn hd_dg10, own_dn hd_dg11, own_dn hd_dg12]⟩) { Y99 with same := Y99.same.mono (by decide) (by decide) } rfl NF Zs OL V_b30 V_b34 V_b37 E_tq E_pp F_pp_code
    clear e0
    refine own_p (g' := (mkF m 16 #[iv i0, iv i1, iv i2, iv i3, iv z1, oU, oU, oU, oU, oU, oU, oU, oU, oU, oU, oU, oU, oU, oU, oU, oU, oU, oU, oU, oU, oU, oU, oU, oU, oU, oU] [(.int (i3 &&& (2 : Int32)))])) (fun _ k => XS.iloadN X0.here hx rfl (hb hby at_13) rfl (XS.iconst X0.here hx rfl (hb hby at_14) (XS.iand X0.here hx rfl (hb hby at_15) rfl k))) ?_
    by_cases c100 : (i3 &&& (2 : Int32)) = (0 : Int32)
    · refine own_p (g' := (mkF m 24 #[iv i0, iv i1, iv i2, iv i3, iv z1, oU, oU, oU, oU, oU, oU, oU, oU, oU, oU, oU, oU, oU, oU, oU, oU, oU, oU, oU, oU, oU, oU, oU, oU, oU, oU] [(.int 0)])) (fun _ k => XS.ifYes X0.here hx rfl (pc0 := 16) (pc' := 23) rfl (hb hby at_16) rfl ((if0 _ _).trans (teq c100).1) (by decide) (by decide) (XS.iconst X0.here hx rfl (hb hby at_23) k)) ?_
      clear X0
      exact J6 _ (by (try simp only [own_l0, own_l1, own_l2, own_l3, own_l4, own_l5, own_l6, own_l10, own_l15, own_l16, own_l31, own_l48, own_l57, own_l100, own_l255, own_l16777216, Int32.lt_iff_toInt_lt, ← Int32.toInt_inj, Int64.lt_iff_toInt_lt, ← Int64.toInt_inj, and_true, true_and, and_false, false_and, or_true, true_or, or_false, false_or, not_true_eq_false, not_false_eq_true, ne_eq, true_implies, false_implies, implies_true] at hz2 c100 ⊢) <;> omega)
    · refine own_p (g' := (mkF m 24 #[iv i0, iv i1, iv i2, iv i3, iv z1, oU, oU, oU, oU, oU, oU, oU, oU, oU, oU, oU, oU, oU, oU, oU, oU, oU, oU, oU, oU, oU, oU, oU, oU, oU, oU] [(.int 1)])) (fun _ k => XS.ifNo X0.here hx rfl (hb hby at_16) rfl ((if0 _ _).trans (feq c100).1) (XS.iconst X0.here hx rfl (hb hby at_19) (XS.goto X0.here hx rfl (pc0 := 20) (pc' := 24) rfl (hb hby at_20) (by decide) (by decide) k))) ?_
      clear X0
      exact J6 _ (by (try simp only [own_l0, own_l1, own_l2, own_l3, own_l4, own_l5, own_l6, own_l10, own_l15, own_l16, own_l31, own_l48, own_l57, own_l100, own_l255, own_l16777216, Int32.lt_iff_toInt_lt, ← Int32.toInt_inj, Int64.lt_iff_toInt_lt, ← Int64.toInt_inj, and_true, true_and, and_false, false_and, or_true, true_or, or_false, false_or, not_true_eq_false, not_false_eq_true, ne_eq, true_implies, false_implies, implies_true] at hz2 c100 ⊢) <;> omega)
  clear e0
  refine own_p (g' := (mkF m 3 #[iv i0, iv i1, iv i2, iv i3, oU, oU, oU, oU, oU, oU, oU, oU, oU, oU, oU, oU, oU, oU, oU, oU, oU, oU, oU, oU, oU, oU, oU, oU, oU, oU, oU] [(.int (i3 &&& (1 : Int32)))])) (fun _ k => XS.iloadN X0.here hx rfl (hb hby at_0) rfl (XS.iconst X0.here hx rfl (hb hby at_1) (XS.iand X0.here hx rfl (hb hby at_2) rfl k))) ?_
  by_cases c101 : (i3 &&& (1 : Int32)) = (0 : Int32)
  · refine own_p (g' := (mkF m 11 #[iv i0, iv i1, iv i2, iv i3, oU, oU, oU, oU, oU, oU, oU, oU, oU, oU, oU, oU, oU, oU, oU, oU, oU, oU, oU, oU, oU, oU, oU, oU, oU, oU, oU] [(.int 0)])) (fun _ k => XS.ifYes X0.here hx rfl (pc0 := 3) (pc' := 10) rfl (hb hby at_3) rfl ((if0 _ _).trans (teq c101).1) (by decide) (by decide) (XS.iconst X0.here hx rfl (hb hby at_10) k)) ?_
    clear X0
    exact J3 _ (by (try simp only [own_l0, own_l1, own_l2, own_l3, own_l4, own_l5, own_l6, own_l10, own_l15, own_l16, own_l31, own_l48, own_l57, own_l100, own_l255, own_l16777216, Int32.lt_iff_toInt_lt, ← Int32.toInt_inj, Int64.lt_iff_toInt_lt, ← Int64.toInt_inj, and_true, true_and, and_false, false_and, or_true, true_or, or_false, false_or, not_true_eq_false, not_false_eq_true, ne_eq, true_implies, false_implies, implies_true] at c101 ⊢) <;> omega)
  · refine own_p (g' := (mkF m 11 #[iv i0, iv i1, iv i2, iv i3, oU, oU, oU, oU, oU, oU, oU, oU, oU, oU, oU, oU, oU, oU, oU, oU, oU, oU, oU, oU, oU, oU, oU, oU, oU, oU, oU] [(.int 1)])) (fun _ k => XS.ifNo X0.here hx rfl (hb hby at_3) rfl ((if0 _ _).trans (feq c101).1) (XS.iconst X0.here hx rfl (hb hby at_6) (XS.goto X0.here hx rfl (pc0 := 7) (pc' := 11) rfl (hb hby at_7) (by decide) (by decide) k))) ?_
    clear X0
    exact J3 _ (by (try simp only [own_l0, own_l1, own_l2, own_l3, own_l4, own_l5, own_l6, own_l10, own_l15, own_l16, own_l31, own_l48, own_l57, own_l100, own_l255, own_l16777216, Int32.lt_iff_toInt_lt, ← Int32.toInt_inj, Int64.lt_iff_toInt_lt, ← Int64.toInt_inj, and_true, true_and, and_false, false_and, or_true, true_or, or_false, false_or, not_true_eq_false, not_false_eq_true, ne_eq, true_implies, false_implies, implies_true] at c101 ⊢) <;> omega)
set_option maxRecDepth 65536 in
set_option maxHeartbeats 40000000 in
theorem own_comes {Post : Tables → Env → Array Value → State → Outcome → State → Prop} (hpost : ∀ tb e args s v u, (limb_1_1.after args s (.returned v) u = true ∧ limb_1_2.after args s (.returned v) u = true ∧ True) → FrameEnd s (.returned v) u (Jvm.fieldLocs frame_1_writes args s ++ Jvm.arrayLocs frame_1_arrays args s ++ Jvm.staticLocs frame_1_statics s) 64 384 → Post tb e args s (.returned v) u) :
    ArmFor flags0 classFile x code maxLocals ret World_1 tables_1 room_1 Calls_1 rest_1 Pre_1 Post := by
  intro l hfl _ _ p e ha hc hk s m args below hf hA hF happ hP
  obtain ⟨hcalls, hrest, hpre⟩ := hP
  obtain ⟨-, -, -, hnamed, -, -, -, hat⟩ := (Spec.applies_iff hf).mp happ
  obtain ⟨hg, hn⟩ := and_e (Cond.before_iff.mp (show (Jvm.Cond.and given_1 narrow_1).before args s = true from hpre))
  obtain ⟨gg1, gg2⟩ := and_e hg
  obtain ⟨gg3, gg4⟩ := and_e gg2
  obtain ⟨gg5, gg6⟩ := and_e gg4
  obtain ⟨gg7, gg8⟩ := and_e gg6
  obtain ⟨w0, w1, w2, w3, rfl⟩ : ∃ w0 w1 w2 w3 : Value, args = #[w0, w1, w2, w3] := by
    have hs : args.size = 4 := by simpa [Cond.value, given_1] using gg1
    obtain ⟨L⟩ := args
    match L, hs with
    | [w0, w1, w2, w3], _ => exact ⟨w0, w1, w2, w3, rfl⟩
  have hw := fun d (hd : d ∈ tables_1) => atoms_spec (ws := Jvm.Cond.code x code maxLocals ret :: tables_1) hat d (List.mem_cons_of_mem _ hd)
  have hfit : Fit s := fun {y c} hc i hi => by
    obtain ⟨ha, rfl⟩ := Array.getElem?_eq_some_iff.mp hc
    have q := List.all_eq_true.mp ((Array.all_eq_true_iff_forall_mem.mp hF) _ (Array.getElem_mem ha)) i (List.mem_range.mpr hi)
    simpa [Array.getElem?_eq_getElem hi] using q
  obtain ⟨hsets, hown0⟩ := atoms_of _ (rest_1_c_eq ▸ (show rest_1_c.before _ s = true from hrest))
  have hr0 := Cond.before_iff.mp hown0
  obtain ⟨i0, ei0⟩ := is_v gg3
  obtain rfl : w0 = (.int i0) := Option.some.inj ei0
  obtain ⟨i1, ei1⟩ := is_v gg5
  obtain rfl : w1 = (.int i1) := Option.some.inj ei1
  obtain ⟨i2, ei2⟩ := is_v gg7
  obtain rfl : w2 = (.int i2) := Option.some.inj ei2
  obtain ⟨i3, ei3⟩ := is_v gg8
  obtain rfl : w3 = (.int i3) := Option.some.inj ei3
  obtain ⟨cs, ecs⟩ := is_v (Cond.before_iff.mp (hsets _ (List.mem_of_getElem? (i := 1) rfl)))
  have S_cs := Sta.start (Z := s) ecs (Or.inl (hsets _ (List.mem_of_getElem? (i := 0) rfl)))
  have hcs : ¬ (cs = (0 : Int32)) := fun q => by
    have q2 := not_v (Cond.before_iff.mp (hsets _ (List.mem_of_getElem? (i := 2) rfl)))
    rw [eq_i ecs (Term.int_eval (0)) (congrArg Value.int q)] at q2
    cases q2
  obtain ⟨fo, efo, hfo⟩ := isR_v (Cond.before_iff.mp (hsets _ (List.mem_of_getElem? (i := 8) rfl)))
  have S_fo := Sta.start (Z := s) efo (Or.inl (hsets _ (List.mem_of_getElem? (i := 7) rfl)))
  have OL := Old.start s
  obtain ⟨n, o, h1, h2, h3, _, L, rfl, ⟨rfl, N⟩, hq⟩ := own_rm0 l s _ hw tables_1 i0 i1 i2 i3 cs fo s.heap s.heap.size (Nat.le_refl _) OL S_cs hcs S_fo hfo p e ha hc hk s m _ below hf ((Spec.applies_iff_loose hf).mp happ).1 ⟨rfl, State.Warmed39.refl s, rfl⟩ trivial
  refine ⟨n, _, h1, h2, h3, hpost _ _ _ _ _ _ ⟨Cond.after_iff.mpr rfl, Cond.after_iff.mpr (eq_i res_at (Term.int_eval (1)) rfl), trivial⟩ ⟨hq.1, hq.2.1, (hq.2.2.sift fun y hy => Or.inr (N y hy)).mono (by decide) (by decide)⟩⟩
theorem main_1_1 : Claimed_1_1 := own_comes fun _ _ _ _ _ _ h hF => ⟨h.1, hF⟩
theorem main_1_2 : Claimed_1_2 := own_comes fun _ _ _ _ _ _ h hF => ⟨h.2.1, hF⟩
end Jvm.Pilot.@@N@@
namespace Jvm.Pilot.@@N@@
open Jvm Jvm.ClassFile Sem Op Lib Jvm.Free Jvm.Stand Jvm.Pilot.@@N@@.Jvm.D
/-! MADE BY PROGRAM (witnessworld.py) out of the Statement's table words and the real class files: 26 classes; the members and pool entries that the words name. The judged class is class 1, her method 3. -/
namespace start1
open Jvm.ClassFile
def u (s : String) : CpInfo := .utf8 (stringToUtf16 s)
/-- a pool by its gaps: so many unusable entries, then the entry; so many at the end -/
def gap : Nat → List CpInfo → List CpInfo
  | 0, r => r
  | n + 1, r => .unusable :: gap n r
def poolList (es : List (Nat × CpInfo)) (last : Nat) : List CpInfo := es.foldr (fun e r => gap e.1 (e.2 :: r)) (gap last [])
def pool (es : List (Nat × CpInfo)) (last : Nat) : Array CpInfo := ⟨poolList es last⟩
def fileOf (pool : Array CpInfo) (this : Nat) (attrs : Array Attribute := #[]) (ms : Array MethodInfo := #[]) (fl : Nat := 33) (sup : Nat := 0) (ifs : Array Nat := #[]) (fds : Array FieldInfo := #[]) : ClassFile where
  minorVersion := 0
  majorVersion := 65
  constantPool := pool
  accessFlags := fl
  thisClass := this
  superClass := sup
  interfaces := ifs
  fields := fds
  methods := ms
  attributes := attrs
def plain (name : String) (sup : Option ClassId) : Class where
  name := name
  kind := .ordinary
  loader := none
  accessFlags := 33
  super := sup
  interfaces := #[]
  cf := none
  fields := #[]
  methods := #[]
  instanceTypes := #[]
  staticTypes := #[]
  resolved := #[]
  callSites := []
  init := .initialized
  statics := none
  mirror := none

def pool0 : Array CpInfo := pool [(5, u "<init>"), (0, u "()V"), (1, .class_ 10), (1, u "java/lang/Object")] 113

def k0c0 : Code := { maxStack := 0, maxLocals := 1, code := object_method_1_code, exceptionTable := #[], attributes := #[] }
def k0m0 : Method := { name := "<init>", desc := "()V", sig := { parameters := [], returnType := none }, accessFlags := 1, code := some k0c0 }
/-- java/lang/Object -/
def k0 : Class := { plain "java/lang/Object" none with
  accessFlags := 33
  interfaces := #[]
  cf := some (fileOf pool0 8 #[] #[{ accessFlags := 1, nameIndex := 5, descriptorIndex := 6, attributes := #[] }] 33 0 #[] #[])
  fields := #[]
  methods := #[k0m0]
  instanceTypes := #[]
  staticTypes := #[]
  resolved := Array.replicate 124 none
  statics := none }

def pool1 : Array CpInfo := pool [(2, .class_ 4), (1, u "java/lang/Object"), (0, u "<init>"), (0, u "()V"), (0, .methodref 8 9), (0, .class_ 10), (0, .nameAndType 11 12), (0, u "com/example/carrier_name_resolver/carriernameresolver/card/PlmnEqualsPinLaw"), (0, u "dig"), (0, u "(II)C"), (0, .methodref 8 14), (0, .nameAndType 15 16), (0, u "pick"), (0, u "(IICI)C"), (0, .class_ 18), (0, u "java/lang/String"), (0, .methodref 17 20), (0, .nameAndType 5 21), (0, u "([C)V"), (0, .class_ 23), (0, u "com/example/carrier_name_resolver/carriernameresolver/card/Plmn"), (0, .methodref 22 25), (0, .nameAndType 5 26), (0, u "(Ljava/lang/String;Ljava/lang/String;)V"), (0, .methodref 22 28), (0, .nameAndType 29 30), (0, u "equals"), (0, u "(Ljava/lang/Object;)Z"), (3, u "law"), (0, u "(IIII)Z")] 4

def k1m0 : Method := { name := "<init>", desc := "()V", sig := { parameters := [], returnType := none }, accessFlags := 1, code := none }
def k1c1 : Code := { maxStack := 4, maxLocals := 2, code := method_2_code, exceptionTable := #[], attributes := #[] }
def k1m1 : Method := { name := "dig", desc := "(II)C", sig := { parameters := [.int, .int], returnType := some .char }, accessFlags := 10, code := some k1c1 }
def k1c2 : Code := { maxStack := 2, maxLocals := 4, code := method_3_code, exceptionTable := #[], attributes := #[] }
def k1m2 : Method := { name := "pick", desc := "(IICI)C", sig := { parameters := [.int, .int, .char, .int], returnType := some .char }, accessFlags := 10, code := some k1c2 }
def k1c3 : Code := { maxStack := 6, maxLocals := 31, code := code, exceptionTable := #[], attributes := #[] }
def k1m3 : Method := { name := "law", desc := "(IIII)Z", sig := { parameters := [.int, .int, .int, .int], returnType := some .boolean }, accessFlags := 9, code := some k1c3 }
/-- com/example/carrier_name_resolver/carriernameresolver/card/PlmnEqualsPinLaw -/
def k1 : Class := { plain "com/example/carrier_name_resolver/carriernameresolver/card/PlmnEqualsPinLaw" (some 0) with
  accessFlags := 49
  interfaces := #[]
  cf := some (fileOf pool1 8 #[] #[{ accessFlags := 1, nameIndex := 5, descriptorIndex := 6, attributes := #[] }, { accessFlags := 10, nameIndex := 11, descriptorIndex := 12, attributes := #[] }, { accessFlags := 10, nameIndex := 15, descriptorIndex := 16, attributes := #[] }, { accessFlags := 9, nameIndex := 34, descriptorIndex := 35, attributes := #[] }] 49 2 #[] #[])
  fields := #[]
  methods := #[k1m0, k1m1, k1m2, k1m3]
  instanceTypes := #[]
  staticTypes := #[]
  resolved := Array.replicate 40 none
  statics := none }

def pool2 : Array CpInfo := pool [(1, .class_ 2), (0, u "java/io/Serializable"), (0, .class_ 4), (0, u "java/lang/Object")] 2

/-- java/io/Serializable -/
def k2 : Class := { plain "java/io/Serializable" (some 0) with
  accessFlags := 1537
  interfaces := #[]
  cf := some (fileOf pool2 1 #[] #[] 1537 3 #[] #[])
  fields := #[]
  methods := #[]
  instanceTypes := #[]
  staticTypes := #[]
  resolved := Array.replicate 7 none
  statics := none }

def pool3 : Array CpInfo := pool [(1, .class_ 2), (0, u "java/lang/Comparable"), (0, .class_ 4), (0, u "java/lang/Object")] 7

/-- java/lang/Comparable -/
def k3 : Class := { plain "java/lang/Comparable" (some 0) with
  accessFlags := 1537
  interfaces := #[]
  cf := some (fileOf pool3 1 #[] #[] 1537 3 #[] #[])
  fields := #[]
  methods := #[]
  instanceTypes := #[]
  staticTypes := #[]
  resolved := Array.replicate 12 none
  statics := none }

def pool4 : Array CpInfo := pool [(2, .class_ 4), (1, u "java/lang/CharSequence"), (42, .class_ 48), (0, u "java/lang/CharSequence$1CodePointIterator"), (10, .class_ 60), (0, u "java/lang/CharSequence$1CharIterator"), (5, .class_ 67), (0, u "java/lang/Object")] 63

/-- java/lang/CharSequence -/
def k4 : Class := { plain "java/lang/CharSequence" (some 0) with
  accessFlags := 1537
  interfaces := #[]
  cf := some (fileOf pool4 2 #[.nestMembers #[47, 59]] #[] 1537 66 #[] #[])
  fields := #[]
  methods := #[]
  instanceTypes := #[]
  staticTypes := #[]
  resolved := Array.replicate 131 none
  statics := none }

def pool5 : Array CpInfo := pool [(1, .class_ 2), (0, u "java/lang/constant/Constable"), (0, .class_ 4), (0, u "java/lang/Object")] 6

/-- java/lang/constant/Constable -/
def k5 : Class := { plain "java/lang/constant/Constable" (some 0) with
  accessFlags := 1537
  interfaces := #[]
  cf := some (fileOf pool5 1 #[] #[] 1537 3 #[] #[])
  fields := #[]
  methods := #[]
  instanceTypes := #[]
  staticTypes := #[]
  resolved := Array.replicate 11 none
  statics := none }

def pool6 : Array CpInfo := pool [(1, .class_ 2), (0, u "java/lang/constant/ConstantDesc"), (0, .class_ 4), (0, u "java/lang/Object")] 32

/-- java/lang/constant/ConstantDesc -/
def k6 : Class := { plain "java/lang/constant/ConstantDesc" (some 0) with
  accessFlags := 1537
  interfaces := #[]
  cf := some (fileOf pool6 1 #[] #[] 1537 3 #[] #[])
  fields := #[]
  methods := #[]
  instanceTypes := #[]
  staticTypes := #[]
  resolved := Array.replicate 37 none
  statics := none }

def pool7 : Array CpInfo := pool [(1, .methodref 2 3), (0, .class_ 4), (0, .nameAndType 5 6), (0, u "java/lang/Object"), (0, u "<init>"), (0, u "()V"), (2, .fieldref 10 11), (0, .class_ 12), (0, .nameAndType 13 14), (0, u "java/lang/String"), (0, u "value"), (0, u "[B"), (0, .fieldref 10 16), (0, .nameAndType 17 18), (0, u "coder"), (0, u "B"), (2, u "hash"), (0, u "I"), (2, u "hashIsZero"), (0, u "Z"), (0, .methodref 10 28), (0, .nameAndType 5 29), (0, u "([CIILjava/lang/Void;)V"), (8, .fieldref 10 39), (0, .nameAndType 40 26), (0, u "COMPACT_STRINGS"), (1, .class_ 44), (1, u "java/lang/StringUTF16"), (0, u "compress"), (1, .methodref 42 48), (0, .nameAndType 49 50), (0, u "coderFromArrayLen"), (0, u "([BI)B"), (3, .methodref 55 56), (0, .class_ 57), (0, .nameAndType 58 59), (0, u "java/util/Arrays"), (0, u "copyOfRange"), (0, u "([BII)[B"), (47, .class_ 109), (1, u "java/lang/StringLatin1"), (32, u "()Z"), (34, .methodref 42 178), (0, .nameAndType 45 179), (0, u "([CII)[B"), (13, .class_ 195), (1, u "java/lang/System"), (16, .methodref 193 213), (0, .nameAndType 214 215), (0, u "arraycopy"), (0, u "(Ljava/lang/Object;ILjava/lang/Object;II)V"), (118, u "()I"), (0, .methodref 10 336), (0, .nameAndType 17 337), (0, u "()B"), (2, u "()[B"), (22, u "([BI)C"), (27, u "(II)V"), (35, u "(I)C"), (61, .methodref 10 490), (0, .nameAndType 5 491), (0, u "(Ljava/lang/AbstractStringBuilder;Ljava/lang/Void;)V"), (0, .methodref 10 493), (0, .nameAndType 494 142), (0, u "isLatin1"), (0, .methodref 107 496), (0, .nameAndType 497 363), (0, u "charAt"), (3, u "checkIndex"), (4, .nameAndType 507 334), (0, u "length"), (24, u "getBytes"), (16, .methodref 550 506), (0, .class_ 551), (0, u "java/lang/AbstractStringBuilder"), (0, .methodref 550 553), (0, .nameAndType 554 340), (0, u "getValue"), (20, .class_ 576), (0, u "java/lang/CharSequence"), (22, u "CASE_INSENSITIVE_ORDER"), (0, u "Ljava/util/Comparator;"), (220, u "([BIB)V"), (188, u "([C)V"), (36, .methodref 550 493), (5, .fieldref 1054 1055), (0, .class_ 1056), (0, .nameAndType 1057 1058), (0, u "jdk/internal/util/Preconditions"), (0, u "SIOOBE_FORMATTER"), (0, u "Ljava/util/function/BiFunction;"), (0, .methodref 1054 1060), (0, .nameAndType 501 1061), (0, u "(IILjava/util/function/BiFunction;)I"), (39, u "serialPersistentFields"), (0, u "[Ljava/io/ObjectStreamField;"), (0, .class_ 1104), (0, u "java/lang/String$CaseInsensitiveComparator"), (1, .class_ 1107), (0, u "java/io/Serializable"), (0, .class_ 1109), (0, u "java/lang/Comparable"), (0, .class_ 1111), (0, u "java/lang/constant/Constable"), (0, .class_ 1113), (0, u "java/lang/constant/ConstantDesc"), (2, u "serialVersionUID"), (0, u "J"), (3, u "REPL"), (0, u "C"), (2, u "LATIN1"), (1, u "UTF16"), (105, u "(Ljava/lang/StringBuilder;)V")] 217

def k7m0 : Method := { name := "<init>", desc := "()V", sig := { parameters := [], returnType := none }, accessFlags := 1, code := none }
def k7c1 : Code := { maxStack := 5, maxLocals := 2, code := jdk_42_method_3_code, exceptionTable := #[], attributes := #[] }
def k7m1 : Method := { name := "<init>", desc := "([C)V", sig := { parameters := [(.array .char)], returnType := none }, accessFlags := 1, code := some k7c1 }
def k7c2 : Code := { maxStack := 3, maxLocals := 2, code := jdk_42_method_53_code, exceptionTable := #[], attributes := #[] }
def k7m2 : Method := { name := "<init>", desc := "(Ljava/lang/StringBuilder;)V", sig := { parameters := [(.object "java/lang/StringBuilder")], returnType := none }, accessFlags := 1, code := some k7c2 }
def k7c3 : Code := { maxStack := 2, maxLocals := 1, code := jdk_42_method_54_code, exceptionTable := #[], attributes := #[] }
def k7m3 : Method := { name := "length", desc := "()I", sig := { parameters := [], returnType := some .int }, accessFlags := 1, code := some k7c3 }
def k7c4 : Code := { maxStack := 2, maxLocals := 2, code := jdk_42_method_56_code, exceptionTable := #[], attributes := #[] }
def k7m4 : Method := { name := "charAt", desc := "(I)C", sig := { parameters := [.int], returnType := some .char }, accessFlags := 1, code := some k7c4 }
def k7c5 : Code := { maxStack := 5, maxLocals := 4, code := jdk_42_method_147_code, exceptionTable := #[], attributes := #[] }
def k7m5 : Method := { name := "getBytes", desc := "([BIB)V", sig := { parameters := [(.array .byte), .int, .byte], returnType := none }, accessFlags := 0, code := some k7c5 }
def k7c6 : Code := { maxStack := 4, maxLocals := 6, code := jdk_42_method_149_code, exceptionTable := #[], attributes := #[] }
def k7m6 : Method := { name := "<init>", desc := "([CIILjava/lang/Void;)V", sig := { parameters := [(.array .char), .int, .int, (.object "java/lang/Void")], returnType := none }, accessFlags := 2, code := some k7c6 }
def k7c7 : Code := { maxStack := 5, maxLocals := 5, code := jdk_42_method_150_code, exceptionTable := #[], attributes := #[] }
def k7m7 : Method := { name := "<init>", desc := "(Ljava/lang/AbstractStringBuilder;Ljava/lang/Void;)V", sig := { parameters := [(.object "java/lang/AbstractStringBuilder"), (.object "java/lang/Void")], returnType := none }, accessFlags := 0, code := some k7c7 }
def k7c8 : Code := { maxStack := 1, maxLocals := 1, code := jdk_42_method_152_code, exceptionTable := #[], attributes := #[] }
def k7m8 : Method := { name := "coder", desc := "()B", sig := { parameters := [], returnType := some .byte }, accessFlags := 0, code := some k7c8 }
def k7c9 : Code := { maxStack := 1, maxLocals := 1, code := jdk_42_method_154_code, exceptionTable := #[], attributes := #[] }
def k7m9 : Method := { name := "isLatin1", desc := "()Z", sig := { parameters := [], returnType := some .boolean }, accessFlags := 0, code := some k7c9 }
def k7c10 : Code := { maxStack := 3, maxLocals := 2, code := jdk_42_method_155_code, exceptionTable := #[], attributes := #[] }
def k7m10 : Method := { name := "checkIndex", desc := "(II)V", sig := { parameters := [.int, .int], returnType := none }, accessFlags := 8, code := some k7c10 }
/-- java/lang/String -/
def k7 : Class := { plain "java/lang/String" (some 0) with
  accessFlags := 49
  interfaces := #[2, 3, 4, 5, 6]
  cf := some (fileOf pool7 10 #[.nestMembers #[1103]] #[{ accessFlags := 1, nameIndex := 5, descriptorIndex := 6, attributes := #[] }, { accessFlags := 1, nameIndex := 5, descriptorIndex := 1010, attributes := #[] }, { accessFlags := 1, nameIndex := 5, descriptorIndex := 1233, attributes := #[] }, { accessFlags := 1, nameIndex := 507, descriptorIndex := 334, attributes := #[] }, { accessFlags := 1, nameIndex := 497, descriptorIndex := 427, attributes := #[] }, { accessFlags := 0, nameIndex := 532, descriptorIndex := 821, attributes := #[] }, { accessFlags := 2, nameIndex := 5, descriptorIndex := 29, attributes := #[] }, { accessFlags := 0, nameIndex := 5, descriptorIndex := 491, attributes := #[] }, { accessFlags := 0, nameIndex := 17, descriptorIndex := 337, attributes := #[] }, { accessFlags := 0, nameIndex := 494, descriptorIndex := 142, attributes := #[] }, { accessFlags := 8, nameIndex := 501, descriptorIndex := 391, attributes := #[] }] 49 2 #[1106, 1108, 575, 1110, 1112] #[{ accessFlags := 18, nameIndex := 13, descriptorIndex := 14, attributes := #[] }, { accessFlags := 18, nameIndex := 17, descriptorIndex := 18, attributes := #[] }, { accessFlags := 2, nameIndex := 21, descriptorIndex := 22, attributes := #[] }, { accessFlags := 2, nameIndex := 25, descriptorIndex := 26, attributes := #[] }, { accessFlags := 26, nameIndex := 1116, descriptorIndex := 1117, attributes := #[] }, { accessFlags := 24, nameIndex := 40, descriptorIndex := 26, attributes := #[] }, { accessFlags := 26, nameIndex := 1101, descriptorIndex := 1102, attributes := #[] }, { accessFlags := 26, nameIndex := 1121, descriptorIndex := 1122, attributes := #[] }, { accessFlags := 25, nameIndex := 599, descriptorIndex := 600, attributes := #[] }, { accessFlags := 24, nameIndex := 1125, descriptorIndex := 18, attributes := #[] }, { accessFlags := 24, nameIndex := 1127, descriptorIndex := 18, attributes := #[] }])
  fields := #[{ name := "value", type := (.array .byte), accessFlags := 18, slot := 0, constantValue := 0 }, { name := "coder", type := .byte, accessFlags := 18, slot := 1, constantValue := 0 }, { name := "hash", type := .int, accessFlags := 2, slot := 2, constantValue := 0 }, { name := "hashIsZero", type := .boolean, accessFlags := 2, slot := 3, constantValue := 0 }, { name := "serialVersionUID", type := .long, accessFlags := 26, slot := 0, constantValue := 0 }, { name := "COMPACT_STRINGS", type := .boolean, accessFlags := 24, slot := 1, constantValue := 0 }, { name := "serialPersistentFields", type := (.array (.object "java/io/ObjectStreamField")), accessFlags := 26, slot := 2, constantValue := 0 }, { name := "REPL", type := .char, accessFlags := 26, slot := 3, constantValue := 0 }, { name := "CASE_INSENSITIVE_ORDER", type := (.object "java/util/Comparator"), accessFlags := 25, slot := 4, constantValue := 0 }, { name := "LATIN1", type := .byte, accessFlags := 24, slot := 5, constantValue := 0 }, { name := "UTF16", type := .byte, accessFlags := 24, slot := 6, constantValue := 0 }]
  methods := #[k7m0, k7m1, k7m2, k7m3, k7m4, k7m5, k7m6, k7m7, k7m8, k7m9, k7m10]
  instanceTypes := #[(.array .byte), .byte, .int, .boolean]
  staticTypes := #[.long, .boolean, (.array (.object "java/io/ObjectStreamField")), .char, (.object "java/util/Comparator"), .byte, .byte]
  resolved := Array.replicate 1451 none
  statics := some 0 }

def pool8 : Array CpInfo := pool [(6, .class_ 8), (1, u "java/lang/Object"), (0, u "<init>"), (0, u "()V"), (1, .class_ 14), (1, u "java/lang/StringUTF16"), (31, u "$assertionsDisabled"), (0, u "Z"), (13, u "HI_BYTE_SHIFT"), (0, u "I"), (2, u "LO_BYTE_SHIFT"), (49, .methodref 12 116), (0, .nameAndType 117 118), (0, u "compress"), (0, u "([CI[BII)I"), (3, u "([CII)[B"), (138, u "coderFromArrayLen"), (0, u "([BI)B"), (106, .class_ 371), (1, u "java/lang/StringUTF16$LinesSpliterator"), (58, u "MAX_LENGTH"), (196, .class_ 628), (0, u "java/lang/StringUTF16$CodePointsSpliterator"), (0, .class_ 630), (0, u "java/lang/StringUTF16$CharsSpliterator")] 4

def k8m0 : Method := { name := "<init>", desc := "()V", sig := { parameters := [], returnType := none }, accessFlags := 0, code := none }
def k8c1 : Code := { maxStack := 2, maxLocals := 2, code := jdk_52_method_15_code, exceptionTable := #[], attributes := #[] }
def k8m1 : Method := { name := "coderFromArrayLen", desc := "([BI)B", sig := { parameters := [(.array .byte), .int], returnType := some .byte }, accessFlags := 8, code := some k8c1 }
def k8c2 : Code := { maxStack := 5, maxLocals := 6, code := jdk_52_method_16_code, exceptionTable := #[], attributes := #[] }
def k8m2 : Method := { name := "compress", desc := "([CII)[B", sig := { parameters := [(.array .char), .int, .int], returnType := some (.array .byte) }, accessFlags := 9, code := some k8c2 }
def k8c3 : Code := { maxStack := 3, maxLocals := 7, code := jdk_52_method_21_code, exceptionTable := #[], attributes := #[] }
def k8m3 : Method := { name := "compress", desc := "([CI[BII)I", sig := { parameters := [(.array .char), .int, (.array .byte), .int, .int], returnType := some .int }, accessFlags := 9, code := some k8c3 }
/-- java/lang/StringUTF16 -/
def k8 : Class := { plain "java/lang/StringUTF16" (some 0) with
  accessFlags := 48
  interfaces := #[]
  cf := some (fileOf pool8 12 #[.nestMembers #[627, 629, 369]] #[{ accessFlags := 0, nameIndex := 9, descriptorIndex := 10, attributes := #[] }, { accessFlags := 8, nameIndex := 261, descriptorIndex := 262, attributes := #[] }, { accessFlags := 9, nameIndex := 117, descriptorIndex := 122, attributes := #[] }, { accessFlags := 9, nameIndex := 117, descriptorIndex := 118, attributes := #[] }] 48 6 #[] #[{ accessFlags := 26, nameIndex := 61, descriptorIndex := 62, attributes := #[] }, { accessFlags := 26, nameIndex := 65, descriptorIndex := 62, attributes := #[] }, { accessFlags := 24, nameIndex := 430, descriptorIndex := 62, attributes := #[] }, { accessFlags := 4120, nameIndex := 46, descriptorIndex := 47, attributes := #[] }])
  fields := #[{ name := "HI_BYTE_SHIFT", type := .int, accessFlags := 26, slot := 0, constantValue := 0 }, { name := "LO_BYTE_SHIFT", type := .int, accessFlags := 26, slot := 1, constantValue := 0 }, { name := "MAX_LENGTH", type := .int, accessFlags := 24, slot := 2, constantValue := 0 }, { name := "$assertionsDisabled", type := .boolean, accessFlags := 4120, slot := 3, constantValue := 0 }]
  methods := #[k8m0, k8m1, k8m2, k8m3]
  instanceTypes := #[]
  staticTypes := #[.int, .int, .int, .boolean]
  resolved := Array.replicate 635 none
  statics := none }

def pool9 : Array CpInfo := pool [(1, .methodref 2 3), (0, .class_ 4), (0, .nameAndType 5 6), (0, u "java/lang/Object"), (0, u "<init>"), (0, u "()V"), (0, .methodref 8 9), (0, .class_ 10), (0, .nameAndType 11 12), (0, u "com/example/carrier_name_resolver/carriernameresolver/card/Plmn"), (0, u "isDigits"), (0, u "(Ljava/lang/String;II)Z"), (2, .class_ 16), (0, u "java/lang/StringBuilder"), (0, .methodref 15 3), (2, .methodref 15 21), (0, .nameAndType 22 23), (0, u "append"), (0, u "(Ljava/lang/String;)Ljava/lang/StringBuilder;"), (2, .methodref 15 27), (0, .nameAndType 28 29), (0, u "toString"), (0, u "()Ljava/lang/String;"), (3, .fieldref 8 34), (0, .nameAndType 35 36), (0, u "digits"), (0, u "Ljava/lang/String;"), (0, .methodref 8 38), (0, .nameAndType 39 40), (0, u "code"), (0, u "(Ljava/lang/String;)I"), (0, .fieldref 8 42), (0, .nameAndType 39 43), (0, u "I"), (3, .class_ 49), (1, u "java/lang/String"), (7, u "(Ljava/lang/String;Ljava/lang/String;)V"), (9, .methodref 47 68), (0, .nameAndType 69 70), (0, u "length"), (0, u "()I"), (0, .methodref 47 72), (0, .nameAndType 73 74), (0, u "charAt"), (0, u "(I)C"), (0, .integer 16777216), (6, u "DIGIT_NIBBLES"), (0, u "[I"), (22, u "CODED_LENGTH"), (2, u "WILDCARD"), (1, u "PADDING"), (1, u "WILDCARD_DIGIT"), (0, u "C"), (1, u "THREE_DIGIT_MNC"), (12, u "equals"), (0, u "(Ljava/lang/Object;)Z")] 4

def k9c0 : Code := { maxStack := 4, maxLocals := 3, code := prog_21_method_1_code, exceptionTable := #[], attributes := #[] }
def k9m0 : Method := { name := "<init>", desc := "(Ljava/lang/String;Ljava/lang/String;)V", sig := { parameters := [(.object "java/lang/String"), (.object "java/lang/String")], returnType := none }, accessFlags := 1, code := some k9c0 }
def k9c1 : Code := { maxStack := 3, maxLocals := 4, code := prog_21_method_6_code, exceptionTable := #[], attributes := #[] }
def k9m1 : Method := { name := "code", desc := "(Ljava/lang/String;)I", sig := { parameters := [(.object "java/lang/String")], returnType := some .int }, accessFlags := 8, code := some k9c1 }
def k9c2 : Code := { maxStack := 2, maxLocals := 2, code := prog_21_method_11_code, exceptionTable := #[], attributes := #[] }
def k9m2 : Method := { name := "equals", desc := "(Ljava/lang/Object;)Z", sig := { parameters := [(.object "java/lang/Object")], returnType := some .boolean }, accessFlags := 1, code := some k9c2 }
def k9c3 : Code := { maxStack := 2, maxLocals := 6, code := prog_21_method_15_code, exceptionTable := #[], attributes := #[] }
def k9m3 : Method := { name := "isDigits", desc := "(Ljava/lang/String;II)Z", sig := { parameters := [(.object "java/lang/String"), .int, .int], returnType := some .boolean }, accessFlags := 10, code := some k9c3 }
/-- com/example/carrier_name_resolver/carriernameresolver/card/Plmn -/
def k9 : Class := { plain "com/example/carrier_name_resolver/carriernameresolver/card/Plmn" (some 0) with
  accessFlags := 33
  interfaces := #[]
  cf := some (fileOf pool9 8 #[] #[{ accessFlags := 1, nameIndex := 5, descriptorIndex := 57, attributes := #[] }, { accessFlags := 8, nameIndex := 39, descriptorIndex := 40, attributes := #[] }, { accessFlags := 1, nameIndex := 129, descriptorIndex := 130, attributes := #[] }, { accessFlags := 10, nameIndex := 11, descriptorIndex := 12, attributes := #[] }] 33 2 #[] #[{ accessFlags := 24, nameIndex := 106, descriptorIndex := 43, attributes := #[] }, { accessFlags := 26, nameIndex := 82, descriptorIndex := 83, attributes := #[] }, { accessFlags := 24, nameIndex := 109, descriptorIndex := 43, attributes := #[] }, { accessFlags := 26, nameIndex := 111, descriptorIndex := 43, attributes := #[] }, { accessFlags := 26, nameIndex := 113, descriptorIndex := 114, attributes := #[] }, { accessFlags := 26, nameIndex := 116, descriptorIndex := 43, attributes := #[] }, { accessFlags := 18, nameIndex := 35, descriptorIndex := 36, attributes := #[] }, { accessFlags := 18, nameIndex := 39, descriptorIndex := 43, attributes := #[] }])
  fields := #[{ name := "CODED_LENGTH", type := .int, accessFlags := 24, slot := 0, constantValue := 0 }, { name := "DIGIT_NIBBLES", type := (.array .int), accessFlags := 26, slot := 1, constantValue := 0 }, { name := "WILDCARD", type := .int, accessFlags := 24, slot := 2, constantValue := 0 }, { name := "PADDING", type := .int, accessFlags := 26, slot := 3, constantValue := 0 }, { name := "WILDCARD_DIGIT", type := .char, accessFlags := 26, slot := 4, constantValue := 0 }, { name := "THREE_DIGIT_MNC", type := .int, accessFlags := 26, slot := 5, constantValue := 0 }, { name := "digits", type := (.object "java/lang/String"), accessFlags := 18, slot := 0, constantValue := 0 }, { name := "code", type := .int, accessFlags := 18, slot := 1, constantValue := 0 }]
  methods := #[k9m0, k9m1, k9m2, k9m3]
  instanceTypes := #[(.object "java/lang/String"), .int]
  staticTypes := #[.int, (.array .int), .int, .int, .char, .int]
  resolved := Array.replicate 135 none
  statics := none }

def pool10 : Array CpInfo := pool [(1, .class_ 2), (0, u "java/lang/String"), (1, .class_ 6), (1, u "java/lang/Object"), (0, u "<init>"), (0, u "()V"), (0, .methodref 1 10), (0, .nameAndType 11 12), (0, u "checkIndex"), (0, u "(II)V"), (1, .class_ 16), (1, u "java/lang/StringLatin1"), (36, u "([BI)C"), (67, u "$assertionsDisabled"), (0, u "Z"), (98, .class_ 223), (1, u "java/lang/StringLatin1$LinesSpliterator"), (28, u "charAt"), (137, .class_ 391), (0, u "java/lang/StringLatin1$CharsSpliterator")] 3

def k10m0 : Method := { name := "<init>", desc := "()V", sig := { parameters := [], returnType := none }, accessFlags := 0, code := none }
def k10c1 : Code := { maxStack := 2, maxLocals := 2, code := jdk_43_method_2_code, exceptionTable := #[], attributes := #[] }
def k10m1 : Method := { name := "charAt", desc := "([BI)C", sig := { parameters := [(.array .byte), .int], returnType := some .char }, accessFlags := 9, code := some k10c1 }
/-- java/lang/StringLatin1 -/
def k10 : Class := { plain "java/lang/StringLatin1" (some 0) with
  accessFlags := 48
  interfaces := #[]
  cf := some (fileOf pool10 14 #[.nestMembers #[390, 221]] #[{ accessFlags := 0, nameIndex := 7, descriptorIndex := 8, attributes := #[] }, { accessFlags := 9, nameIndex := 252, descriptorIndex := 53, attributes := #[] }] 48 4 #[] #[{ accessFlags := 4120, nameIndex := 121, descriptorIndex := 122, attributes := #[] }])
  fields := #[{ name := "$assertionsDisabled", type := .boolean, accessFlags := 4120, slot := 0, constantValue := 0 }]
  methods := #[k10m0, k10m1]
  instanceTypes := #[]
  staticTypes := #[.boolean]
  resolved := Array.replicate 395 none
  statics := none }

def pool11 : Array CpInfo := pool [(2, .class_ 4), (1, u "java/lang/Object"), (0, u "<init>"), (0, u "()V"), (17, .class_ 26), (1, u "jdk/internal/util/Preconditions"), (6, u "checkIndex"), (21, .class_ 56), (0, u "jdk/internal/util/Preconditions$4"), (57, .class_ 115), (0, u "jdk/internal/util/Preconditions$1"), (7, u "SIOOBE_FORMATTER"), (0, u "Ljava/util/function/BiFunction;"), (0, .class_ 126), (0, u "jdk/internal/util/Preconditions$2"), (3, u "AIOOBE_FORMATTER"), (0, .class_ 132), (0, u "jdk/internal/util/Preconditions$3"), (3, u "IOOBE_FORMATTER"), (41, u "(IILjava/util/function/BiFunction;)I")] 15

def k11m0 : Method := { name := "<init>", desc := "()V", sig := { parameters := [], returnType := none }, accessFlags := 1, code := none }
def k11c1 : Code := { maxStack := 3, maxLocals := 3, code := jdk_41_method_11_code, exceptionTable := #[], attributes := #[] }
def k11m1 : Method := { name := "checkIndex", desc := "(IILjava/util/function/BiFunction;)I", sig := { parameters := [.int, .int, (.object "java/util/function/BiFunction")], returnType := some .int }, accessFlags := 9, code := some k11c1 }
/-- jdk/internal/util/Preconditions -/
def k11 : Class := { plain "jdk/internal/util/Preconditions" (some 0) with
  accessFlags := 33
  interfaces := #[]
  cf := some (fileOf pool11 24 #[.nestMembers #[55, 131, 125, 114]] #[{ accessFlags := 1, nameIndex := 5, descriptorIndex := 6, attributes := #[] }, { accessFlags := 9, nameIndex := 33, descriptorIndex := 178, attributes := #[] }] 33 2 #[] #[{ accessFlags := 25, nameIndex := 123, descriptorIndex := 124, attributes := #[] }, { accessFlags := 25, nameIndex := 130, descriptorIndex := 124, attributes := #[] }, { accessFlags := 25, nameIndex := 136, descriptorIndex := 124, attributes := #[] }])
  fields := #[{ name := "SIOOBE_FORMATTER", type := (.object "java/util/function/BiFunction"), accessFlags := 25, slot := 0, constantValue := 0 }, { name := "AIOOBE_FORMATTER", type := (.object "java/util/function/BiFunction"), accessFlags := 25, slot := 1, constantValue := 0 }, { name := "IOOBE_FORMATTER", type := (.object "java/util/function/BiFunction"), accessFlags := 25, slot := 2, constantValue := 0 }]
  methods := #[k11m0, k11m1]
  instanceTypes := #[]
  staticTypes := #[(.object "java/util/function/BiFunction"), (.object "java/util/function/BiFunction"), (.object "java/util/function/BiFunction")]
  resolved := Array.replicate 194 none
  statics := some 1 }

def pool12 : Array CpInfo := pool [(1, .class_ 2), (0, u "java/lang/Appendable"), (0, .class_ 4), (0, u "java/lang/Object")] 9

/-- java/lang/Appendable -/
def k12 : Class := { plain "java/lang/Appendable" (some 0) with
  accessFlags := 1537
  interfaces := #[]
  cf := some (fileOf pool12 1 #[] #[] 1537 3 #[] #[])
  fields := #[]
  methods := #[]
  instanceTypes := #[]
  staticTypes := #[]
  resolved := Array.replicate 14 none
  statics := none }

def pool13 : Array CpInfo := pool [(1, .class_ 2), (0, u "java/lang/String"), (0, .methodref 4 5), (0, .class_ 6), (0, .nameAndType 7 8), (0, u "java/lang/Object"), (0, u "<init>"), (0, u "()V"), (1, .class_ 12), (1, u "java/lang/AbstractStringBuilder"), (0, u "EMPTYVALUE"), (0, u "[B"), (0, .fieldref 10 16), (0, .nameAndType 17 14), (0, u "value"), (0, .fieldref 1 19), (0, .nameAndType 20 21), (0, u "COMPACT_STRINGS"), (0, u "Z"), (0, .fieldref 10 23), (0, .nameAndType 24 25), (0, u "coder"), (0, u "B"), (6, .methodref 1 33), (0, .nameAndType 34 35), (0, u "length"), (0, u "()I"), (4, .methodref 1 41), (0, .nameAndType 24 42), (0, u "()B"), (2, u "append"), (0, u "(Ljava/lang/String;)Ljava/lang/AbstractStringBuilder;"), (1, .class_ 49), (0, u "java/lang/CharSequence"), (19, u "(Ljava/lang/String;)V"), (5, u "maybeLatin1"), (3, .fieldref 10 80), (0, .nameAndType 81 82), (0, u "count"), (0, u "I"), (2, u "isLatin1"), (0, u "()Z"), (13, .methodref 10 101), (0, .nameAndType 102 103), (0, u "ensureCapacityInternal"), (0, u "(I)V"), (104, .methodref 10 209), (0, .nameAndType 210 211), (0, u "putStringAt"), (0, u "(ILjava/lang/String;)V"), (5, u "inflateIfNeededFor"), (2, .nameAndType 221 222), (0, u "getBytes"), (0, u "([BIB)V"), (174, .methodref 10 398), (0, .nameAndType 217 69), (0, .methodref 1 220), (3, u "()[B"), (40, .class_ 445), (0, u "java/lang/Appendable"), (106, u "getValue")] 56

def k13m0 : Method := { name := "<init>", desc := "()V", sig := { parameters := [], returnType := none }, accessFlags := 0, code := none }
def k13c1 : Code := { maxStack := 2, maxLocals := 2, code := jdk_68_method_2_code, exceptionTable := #[], attributes := #[] }
def k13m1 : Method := { name := "<init>", desc := "(I)V", sig := { parameters := [.int], returnType := none }, accessFlags := 0, code := some k13c1 }
def k13c2 : Code := { maxStack := 1, maxLocals := 1, code := jdk_68_method_6_code, exceptionTable := #[], attributes := #[] }
def k13m2 : Method := { name := "length", desc := "()I", sig := { parameters := [], returnType := some .int }, accessFlags := 1, code := some k13c2 }
def k13c3 : Code := { maxStack := 4, maxLocals := 3, code := jdk_68_method_9_code, exceptionTable := #[], attributes := #[] }
def k13m3 : Method := { name := "ensureCapacityInternal", desc := "(I)V", sig := { parameters := [.int], returnType := none }, accessFlags := 2, code := some k13c3 }
def k13c4 : Code := { maxStack := 3, maxLocals := 3, code := jdk_68_method_22_code, exceptionTable := #[], attributes := #[] }
def k13m4 : Method := { name := "append", desc := "(Ljava/lang/String;)Ljava/lang/AbstractStringBuilder;", sig := { parameters := [(.object "java/lang/String")], returnType := some (.object "java/lang/AbstractStringBuilder") }, accessFlags := 1, code := some k13c4 }
def k13c5 : Code := { maxStack := 1, maxLocals := 1, code := jdk_68_method_64_code, exceptionTable := #[], attributes := #[] }
def k13m5 : Method := { name := "getValue", desc := "()[B", sig := { parameters := [], returnType := some (.array .byte) }, accessFlags := 16, code := some k13c5 }
def k13c6 : Code := { maxStack := 1, maxLocals := 1, code := jdk_68_method_68_code, exceptionTable := #[], attributes := #[] }
def k13m6 : Method := { name := "isLatin1", desc := "()Z", sig := { parameters := [], returnType := some .boolean }, accessFlags := 16, code := some k13c6 }
def k13c7 : Code := { maxStack := 2, maxLocals := 2, code := jdk_68_method_71_code, exceptionTable := #[], attributes := #[] }
def k13m7 : Method := { name := "inflateIfNeededFor", desc := "(Ljava/lang/String;)V", sig := { parameters := [(.object "java/lang/String")], returnType := none }, accessFlags := 2, code := some k13c7 }
def k13c8 : Code := { maxStack := 4, maxLocals := 3, code := jdk_68_method_73_code, exceptionTable := #[], attributes := #[] }
def k13m8 : Method := { name := "putStringAt", desc := "(ILjava/lang/String;)V", sig := { parameters := [.int, (.object "java/lang/String")], returnType := none }, accessFlags := 2, code := some k13c8 }
/-- java/lang/AbstractStringBuilder -/
def k13 : Class := { plain "java/lang/AbstractStringBuilder" (some 0) with
  accessFlags := 1056
  interfaces := #[12, 4]
  cf := some (fileOf pool13 10 #[] #[{ accessFlags := 0, nameIndex := 7, descriptorIndex := 8, attributes := #[] }, { accessFlags := 0, nameIndex := 7, descriptorIndex := 103, attributes := #[] }, { accessFlags := 1, nameIndex := 34, descriptorIndex := 35, attributes := #[] }, { accessFlags := 2, nameIndex := 102, descriptorIndex := 103, attributes := #[] }, { accessFlags := 1, nameIndex := 45, descriptorIndex := 46, attributes := #[] }, { accessFlags := 16, nameIndex := 552, descriptorIndex := 403, attributes := #[] }, { accessFlags := 16, nameIndex := 85, descriptorIndex := 86, attributes := #[] }, { accessFlags := 2, nameIndex := 217, descriptorIndex := 69, attributes := #[] }, { accessFlags := 2, nameIndex := 210, descriptorIndex := 211, attributes := #[] }] 1056 4 #[444, 48] #[{ accessFlags := 0, nameIndex := 17, descriptorIndex := 14, attributes := #[] }, { accessFlags := 0, nameIndex := 24, descriptorIndex := 25, attributes := #[] }, { accessFlags := 0, nameIndex := 75, descriptorIndex := 21, attributes := #[] }, { accessFlags := 0, nameIndex := 81, descriptorIndex := 82, attributes := #[] }, { accessFlags := 26, nameIndex := 13, descriptorIndex := 14, attributes := #[] }])
  fields := #[{ name := "value", type := (.array .byte), accessFlags := 0, slot := 0, constantValue := 0 }, { name := "coder", type := .byte, accessFlags := 0, slot := 1, constantValue := 0 }, { name := "maybeLatin1", type := .boolean, accessFlags := 0, slot := 2, constantValue := 0 }, { name := "count", type := .int, accessFlags := 0, slot := 3, constantValue := 0 }, { name := "EMPTYVALUE", type := (.array .byte), accessFlags := 26, slot := 0, constantValue := 0 }]
  methods := #[k13m0, k13m1, k13m2, k13m3, k13m4, k13m5, k13m6, k13m7, k13m8]
  instanceTypes := #[(.array .byte), .byte, .boolean, .int]
  staticTypes := #[(.array .byte)]
  resolved := Array.replicate 609 none
  statics := none }

def pool14 : Array CpInfo := pool [(1, .methodref 2 3), (0, .class_ 4), (0, .nameAndType 5 6), (0, u "java/lang/AbstractStringBuilder"), (0, u "<init>"), (0, u "(I)V"), (11, .class_ 20), (1, u "java/lang/String"), (3, .class_ 26), (1, u "java/lang/StringBuilder"), (0, u "append"), (0, u "(Ljava/lang/String;)Ljava/lang/StringBuilder;"), (0, .methodref 2 30), (0, .nameAndType 27 31), (0, u "(Ljava/lang/String;)Ljava/lang/AbstractStringBuilder;"), (105, .methodref 18 138), (0, .nameAndType 5 139), (0, u "(Ljava/lang/StringBuilder;)V"), (5, u "()V"), (10, u "()I"), (186, .methodref 2 344), (0, .nameAndType 345 156), (0, u "length"), (3, .class_ 350), (0, u "java/lang/Appendable"), (0, .class_ 352), (0, u "java/io/Serializable"), (0, .class_ 354), (0, u "java/lang/Comparable"), (0, .class_ 356), (0, u "java/lang/CharSequence"), (0, u "serialVersionUID"), (0, u "J"), (40, u "toString"), (0, u "()Ljava/lang/String;")] 21

def k14c0 : Code := { maxStack := 2, maxLocals := 1, code := jdk_67_method_1_code, exceptionTable := #[], attributes := #[] }
def k14m0 : Method := { name := "<init>", desc := "()V", sig := { parameters := [], returnType := none }, accessFlags := 1, code := some k14c0 }
def k14c1 : Code := { maxStack := 2, maxLocals := 2, code := jdk_67_method_7_code, exceptionTable := #[], attributes := #[] }
def k14m1 : Method := { name := "append", desc := "(Ljava/lang/String;)Ljava/lang/StringBuilder;", sig := { parameters := [(.object "java/lang/String")], returnType := some (.object "java/lang/StringBuilder") }, accessFlags := 1, code := some k14c1 }
def k14c2 : Code := { maxStack := 3, maxLocals := 1, code := jdk_67_method_42_code, exceptionTable := #[], attributes := #[] }
def k14m2 : Method := { name := "toString", desc := "()Ljava/lang/String;", sig := { parameters := [], returnType := some (.object "java/lang/String") }, accessFlags := 1, code := some k14c2 }
def k14c3 : Code := { maxStack := 1, maxLocals := 1, code := jdk_67_method_93_code, exceptionTable := #[], attributes := #[] }
def k14m3 : Method := { name := "length", desc := "()I", sig := { parameters := [], returnType := some .int }, accessFlags := 4161, code := some k14c3 }
/-- java/lang/StringBuilder -/
def k14 : Class := { plain "java/lang/StringBuilder" (some 13) with
  accessFlags := 49
  interfaces := #[12, 2, 3, 4]
  cf := some (fileOf pool14 24 #[] #[{ accessFlags := 1, nameIndex := 5, descriptorIndex := 145, attributes := #[] }, { accessFlags := 1, nameIndex := 27, descriptorIndex := 28, attributes := #[] }, { accessFlags := 1, nameIndex := 399, descriptorIndex := 400, attributes := #[] }, { accessFlags := 4161, nameIndex := 345, descriptorIndex := 156, attributes := #[] }] 49 2 #[349, 351, 353, 355] #[{ accessFlags := 24, nameIndex := 357, descriptorIndex := 358, attributes := #[] }])
  fields := #[{ name := "serialVersionUID", type := .long, accessFlags := 24, slot := 0, constantValue := 0 }]
  methods := #[k14m0, k14m1, k14m2, k14m3]
  instanceTypes := #[(.array .byte), .byte, .boolean, .int]
  staticTypes := #[.long]
  resolved := Array.replicate 422 none
  statics := none }

def pool15 : Array CpInfo := pool [(2, .class_ 4), (1, u "java/lang/Object"), (0, u "<init>"), (0, u "()V"), (1, .class_ 10), (1, u "java/lang/System"), (0, u "allowSecurityManager"), (0, u "I"), (16, u "cons"), (0, u "Ljava/io/Console;"), (77, .class_ 110), (1, u "java/lang/System$CallersHolder"), (43, u "initialErrStream"), (0, u "Ljava/io/PrintStream;"), (19, u "security"), (0, u "Ljava/lang/SecurityManager;"), (31, .class_ 209), (0, u "java/lang/System$1"), (7, u "props"), (0, u "Ljava/util/Properties;"), (2, u "lineSeparator"), (0, u "Ljava/lang/String;"), (96, .class_ 321), (1, u "java/lang/System$LoggerFinder"), (5, .class_ 328), (0, u "java/lang/System$Logger"), (67, u "err"), (2, u "out"), (91, u "notSupportedJnuEncoding"), (15, u "in"), (17, u "initialIn"), (0, u "Ljava/io/InputStream;"), (35, u "bootLayer"), (0, u "Ljava/lang/ModuleLayer;"), (99, .class_ 664), (0, u "java/lang/System$2"), (9, u "NEVER"), (2, u "MAYBE"), (49, u "arraycopy"), (0, u "(Ljava/lang/Object;ILjava/lang/Object;II)V"), (72, .class_ 802), (0, u "java/lang/System$Logger$Level")] 31

def k15m0 : Method := { name := "<init>", desc := "()V", sig := { parameters := [], returnType := none }, accessFlags := 2, code := none }
def k15m1 : Method := { name := "arraycopy", desc := "(Ljava/lang/Object;ILjava/lang/Object;II)V", sig := { parameters := [(.object "java/lang/Object"), .int, (.object "java/lang/Object"), .int, .int], returnType := none }, accessFlags := 265, code := none }
/-- java/lang/System -/
def k15 : Class := { plain "java/lang/System" (some 0) with
  accessFlags := 49
  interfaces := #[]
  cf := some (fileOf pool15 8 #[.nestMembers #[319, 327, 801, 108, 663, 208]] #[{ accessFlags := 2, nameIndex := 5, descriptorIndex := 6, attributes := #[] }, { accessFlags := 265, nameIndex := 727, descriptorIndex := 728, attributes := #[] }] 49 2 #[] #[{ accessFlags := 25, nameIndex := 507, descriptorIndex := 526, attributes := #[] }, { accessFlags := 25, nameIndex := 399, descriptorIndex := 155, attributes := #[] }, { accessFlags := 25, nameIndex := 396, descriptorIndex := 155, attributes := #[] }, { accessFlags := 10, nameIndex := 525, descriptorIndex := 526, attributes := #[] }, { accessFlags := 26, nameIndex := 674, descriptorIndex := 12, attributes := #[] }, { accessFlags := 26, nameIndex := 677, descriptorIndex := 12, attributes := #[] }, { accessFlags := 10, nameIndex := 11, descriptorIndex := 12, attributes := #[] }, { accessFlags := 74, nameIndex := 175, descriptorIndex := 176, attributes := #[] }, { accessFlags := 10, nameIndex := 491, descriptorIndex := 222, attributes := #[] }, { accessFlags := 74, nameIndex := 29, descriptorIndex := 30, attributes := #[] }, { accessFlags := 74, nameIndex := 154, descriptorIndex := 155, attributes := #[] }, { accessFlags := 10, nameIndex := 217, descriptorIndex := 218, attributes := #[] }, { accessFlags := 10, nameIndex := 221, descriptorIndex := 222, attributes := #[] }, { accessFlags := 8, nameIndex := 562, descriptorIndex := 563, attributes := #[] }])
  fields := #[{ name := "in", type := (.object "java/io/InputStream"), accessFlags := 25, slot := 0, constantValue := 0 }, { name := "out", type := (.object "java/io/PrintStream"), accessFlags := 25, slot := 1, constantValue := 0 }, { name := "err", type := (.object "java/io/PrintStream"), accessFlags := 25, slot := 2, constantValue := 0 }, { name := "initialIn", type := (.object "java/io/InputStream"), accessFlags := 10, slot := 3, constantValue := 0 }, { name := "NEVER", type := .int, accessFlags := 26, slot := 4, constantValue := 0 }, { name := "MAYBE", type := .int, accessFlags := 26, slot := 5, constantValue := 0 }, { name := "allowSecurityManager", type := .int, accessFlags := 10, slot := 6, constantValue := 0 }, { name := "security", type := (.object "java/lang/SecurityManager"), accessFlags := 74, slot := 7, constantValue := 0 }, { name := "notSupportedJnuEncoding", type := (.object "java/lang/String"), accessFlags := 10, slot := 8, constantValue := 0 }, { name := "cons", type := (.object "java/io/Console"), accessFlags := 74, slot := 9, constantValue := 0 }, { name := "initialErrStream", type := (.object "java/io/PrintStream"), accessFlags := 74, slot := 10, constantValue := 0 }, { name := "props", type := (.object "java/util/Properties"), accessFlags := 10, slot := 11, constantValue := 0 }, { name := "lineSeparator", type := (.object "java/lang/String"), accessFlags := 10, slot := 12, constantValue := 0 }, { name := "bootLayer", type := (.object "java/lang/ModuleLayer"), accessFlags := 8, slot := 13, constantValue := 0 }]
  methods := #[k15m0, k15m1]
  instanceTypes := #[]
  staticTypes := #[(.object "java/io/InputStream"), (.object "java/io/PrintStream"), (.object "java/io/PrintStream"), (.object "java/io/InputStream"), .int, .int, .int, (.object "java/lang/SecurityManager"), (.object "java/lang/String"), (.object "java/io/Console"), (.object "java/io/PrintStream"), (.object "java/util/Properties"), (.object "java/lang/String"), (.object "java/lang/ModuleLayer")]
  resolved := Array.replicate 834 none
  statics := none }

def pool16 : Array CpInfo := pool [(2, .class_ 4), (1, u "java/lang/Object"), (0, u "<init>"), (0, u "()V"), (7, .class_ 16), (1, u "java/util/Arrays"), (57, .class_ 76), (1, u "java/util/Arrays$NaturalOrder"), (36, .class_ 115), (1, u "java/util/Arrays$LegacyMergeSort"), (1, u "Z"), (21, u "copyOfRange"), (10, .methodref 151 152), (0, .class_ 153), (0, .nameAndType 154 155), (0, u "java/lang/System"), (0, u "arraycopy"), (0, u "(Ljava/lang/Object;ILjava/lang/Object;II)V"), (148, .methodref 305 306), (0, .class_ 307), (0, .nameAndType 308 309), (0, u "java/lang/Math"), (0, u "min"), (0, u "(II)I"), (29, .methodref 14 340), (0, .nameAndType 341 342), (0, u "copyOfRangeByte"), (0, u "([BII)[B"), (0, .methodref 14 344), (0, .nameAndType 345 346), (0, u "checkLength"), (0, u "(II)V"), (28, .class_ 376), (0, u "java/util/Arrays$ArrayList"), (68, u "$assertionsDisabled"), (269, u "MIN_ARRAY_SORT_GRAN"), (0, u "I"), (2, u "INSERTIONSORT_THRESHOLD"), (255, .class_ 976), (0, u "java/util/Arrays$ArrayItr")] 52

def k16m0 : Method := { name := "<init>", desc := "()V", sig := { parameters := [], returnType := none }, accessFlags := 2, code := none }
def k16c1 : Code := { maxStack := 4, maxLocals := 2, code := jdk_65_method_131_code, exceptionTable := #[], attributes := #[] }
def k16m1 : Method := { name := "checkLength", desc := "(II)V", sig := { parameters := [.int, .int], returnType := none }, accessFlags := 10, code := some k16c1 }
def k16c2 : Code := { maxStack := 3, maxLocals := 3, code := jdk_65_method_132_code, exceptionTable := #[], attributes := #[] }
def k16m2 : Method := { name := "copyOfRange", desc := "([BII)[B", sig := { parameters := [(.array .byte), .int, .int], returnType := some (.array .byte) }, accessFlags := 9, code := some k16c2 }
def k16c3 : Code := { maxStack := 6, maxLocals := 5, code := jdk_65_method_133_code, exceptionTable := #[], attributes := #[] }
def k16m3 : Method := { name := "copyOfRangeByte", desc := "([BII)[B", sig := { parameters := [(.array .byte), .int, .int], returnType := some (.array .byte) }, accessFlags := 10, code := some k16c3 }
/-- java/util/Arrays -/
def k16 : Class := { plain "java/util/Arrays" (some 0) with
  accessFlags := 49
  interfaces := #[]
  cf := some (fileOf pool16 14 #[.nestMembers #[975, 375, 113, 74]] #[{ accessFlags := 2, nameIndex := 5, descriptorIndex := 6, attributes := #[] }, { accessFlags := 10, nameIndex := 345, descriptorIndex := 346, attributes := #[] }, { accessFlags := 9, nameIndex := 139, descriptorIndex := 342, attributes := #[] }, { accessFlags := 10, nameIndex := 341, descriptorIndex := 342, attributes := #[] }] 49 2 #[] #[{ accessFlags := 26, nameIndex := 715, descriptorIndex := 716, attributes := #[] }, { accessFlags := 26, nameIndex := 719, descriptorIndex := 716, attributes := #[] }, { accessFlags := 4120, nameIndex := 445, descriptorIndex := 117, attributes := #[] }])
  fields := #[{ name := "MIN_ARRAY_SORT_GRAN", type := .int, accessFlags := 26, slot := 0, constantValue := 0 }, { name := "INSERTIONSORT_THRESHOLD", type := .int, accessFlags := 26, slot := 1, constantValue := 0 }, { name := "$assertionsDisabled", type := .boolean, accessFlags := 4120, slot := 2, constantValue := 0 }]
  methods := #[k16m0, k16m1, k16m2, k16m3]
  instanceTypes := #[]
  staticTypes := #[.int, .int, .boolean]
  resolved := Array.replicate 1029 none
  statics := none }

def pool17 : Array CpInfo := pool [(1, .class_ 2), (0, u "java/lang/Math"), (1, .class_ 6), (1, u "java/lang/Object"), (0, u "<init>"), (0, u "()V"), (89, .class_ 100), (1, u "java/lang/Math$RandomNumberGeneratorHolder"), (71, u "negativeZeroFloatBits"), (0, u "J"), (2, u "negativeZeroDoubleBits"), (24, u "min"), (43, u "$assertionsDisabled"), (0, u "Z"), (88, u "(II)I"), (2, u "twoToTheDoubleScaleDown"), (0, u "D"), (4, u "twoToTheDoubleScaleUp"), (9, u "E"), (3, u "PI"), (2, u "TAU"), (2, u "DEGREES_TO_RADIANS"), (0, u "RADIANS_TO_DEGREES")] 94

def k17m0 : Method := { name := "<init>", desc := "()V", sig := { parameters := [], returnType := none }, accessFlags := 2, code := none }
def k17c1 : Code := { maxStack := 2, maxLocals := 2, code := jdk_29_method_69_code, exceptionTable := #[], attributes := #[] }
def k17m1 : Method := { name := "min", desc := "(II)I", sig := { parameters := [.int, .int], returnType := some .int }, accessFlags := 9, code := some k17c1 }
/-- java/lang/Math -/
def k17 : Class := { plain "java/lang/Math" (some 0) with
  accessFlags := 49
  interfaces := #[]
  cf := some (fileOf pool17 1 #[.nestMembers #[98]] #[{ accessFlags := 2, nameIndex := 7, descriptorIndex := 8, attributes := #[] }, { accessFlags := 9, nameIndex := 201, descriptorIndex := 335, attributes := #[] }] 49 4 #[] #[{ accessFlags := 25, nameIndex := 354, descriptorIndex := 339, attributes := #[] }, { accessFlags := 25, nameIndex := 358, descriptorIndex := 339, attributes := #[] }, { accessFlags := 25, nameIndex := 361, descriptorIndex := 339, attributes := #[] }, { accessFlags := 26, nameIndex := 364, descriptorIndex := 339, attributes := #[] }, { accessFlags := 26, nameIndex := 365, descriptorIndex := 339, attributes := #[] }, { accessFlags := 26, nameIndex := 172, descriptorIndex := 173, attributes := #[] }, { accessFlags := 26, nameIndex := 176, descriptorIndex := 173, attributes := #[] }, { accessFlags := 8, nameIndex := 344, descriptorIndex := 339, attributes := #[] }, { accessFlags := 8, nameIndex := 338, descriptorIndex := 339, attributes := #[] }, { accessFlags := 4120, nameIndex := 245, descriptorIndex := 246, attributes := #[] }])
  fields := #[{ name := "E", type := .double, accessFlags := 25, slot := 0, constantValue := 0 }, { name := "PI", type := .double, accessFlags := 25, slot := 1, constantValue := 0 }, { name := "TAU", type := .double, accessFlags := 25, slot := 2, constantValue := 0 }, { name := "DEGREES_TO_RADIANS", type := .double, accessFlags := 26, slot := 3, constantValue := 0 }, { name := "RADIANS_TO_DEGREES", type := .double, accessFlags := 26, slot := 4, constantValue := 0 }, { name := "negativeZeroFloatBits", type := .long, accessFlags := 26, slot := 5, constantValue := 0 }, { name := "negativeZeroDoubleBits", type := .long, accessFlags := 26, slot := 6, constantValue := 0 }, { name := "twoToTheDoubleScaleUp", type := .double, accessFlags := 8, slot := 7, constantValue := 0 }, { name := "twoToTheDoubleScaleDown", type := .double, accessFlags := 8, slot := 8, constantValue := 0 }, { name := "$assertionsDisabled", type := .boolean, accessFlags := 4120, slot := 9, constantValue := 0 }]
  methods := #[k17m0, k17m1]
  instanceTypes := #[]
  staticTypes := #[.double, .double, .double, .double, .double, .long, .long, .double, .double, .boolean]
  resolved := Array.replicate 460 none
  statics := none }

def pool18 : Array CpInfo := pool [(9, u "<init>"), (6, .class_ 18), (1, u "java/lang/Object"), (0, u "()V"), (1, .class_ 23), (1, u "jdk/internal/util/ArraysSupport"), (0, u "LOG2_ARRAY_LONG_INDEX_SCALE"), (0, u "I"), (2, u "U"), (0, u "Ljdk/internal/misc/Unsafe;"), (8, u "BIG_ENDIAN"), (0, u "Z"), (8, u "LOG2_BYTE_BIT_SIZE"), (4, u "LOG2_ARRAY_INT_INDEX_SCALE"), (54, u "JLA"), (0, u "Ljdk/internal/access/JavaLangAccess;"), (11, u "LOG2_ARRAY_BOOLEAN_INDEX_SCALE"), (9, u "LOG2_ARRAY_BYTE_INDEX_SCALE"), (5, u "LOG2_ARRAY_CHAR_INDEX_SCALE"), (5, u "LOG2_ARRAY_SHORT_INDEX_SCALE"), (18, u "LOG2_ARRAY_FLOAT_INDEX_SCALE"), (24, u "LOG2_ARRAY_DOUBLE_INDEX_SCALE"), (89, u "T_BOOLEAN"), (2, u "T_CHAR"), (1, u "T_FLOAT"), (1, u "T_DOUBLE"), (1, u "T_BYTE"), (1, u "T_SHORT"), (1, u "T_INT"), (1, u "T_LONG"), (1, u "SOFT_MAX_ARRAY_LENGTH")] 83

def k18m0 : Method := { name := "<init>", desc := "()V", sig := { parameters := [], returnType := none }, accessFlags := 2, code := none }
/-- jdk/internal/util/ArraysSupport -/
def k18 : Class := { plain "jdk/internal/util/ArraysSupport" (some 0) with
  accessFlags := 33
  interfaces := #[]
  cf := some (fileOf pool18 21 #[] #[{ accessFlags := 2, nameIndex := 9, descriptorIndex := 19, attributes := #[] }] 33 16 #[] #[{ accessFlags := 24, nameIndex := 28, descriptorIndex := 29, attributes := #[] }, { accessFlags := 26, nameIndex := 38, descriptorIndex := 39, attributes := #[] }, { accessFlags := 25, nameIndex := 121, descriptorIndex := 25, attributes := #[] }, { accessFlags := 25, nameIndex := 131, descriptorIndex := 25, attributes := #[] }, { accessFlags := 25, nameIndex := 137, descriptorIndex := 25, attributes := #[] }, { accessFlags := 25, nameIndex := 143, descriptorIndex := 25, attributes := #[] }, { accessFlags := 25, nameIndex := 53, descriptorIndex := 25, attributes := #[] }, { accessFlags := 25, nameIndex := 24, descriptorIndex := 25, attributes := #[] }, { accessFlags := 25, nameIndex := 162, descriptorIndex := 25, attributes := #[] }, { accessFlags := 25, nameIndex := 187, descriptorIndex := 25, attributes := #[] }, { accessFlags := 26, nameIndex := 48, descriptorIndex := 25, attributes := #[] }, { accessFlags := 25, nameIndex := 277, descriptorIndex := 25, attributes := #[] }, { accessFlags := 25, nameIndex := 280, descriptorIndex := 25, attributes := #[] }, { accessFlags := 25, nameIndex := 282, descriptorIndex := 25, attributes := #[] }, { accessFlags := 25, nameIndex := 284, descriptorIndex := 25, attributes := #[] }, { accessFlags := 25, nameIndex := 286, descriptorIndex := 25, attributes := #[] }, { accessFlags := 25, nameIndex := 288, descriptorIndex := 25, attributes := #[] }, { accessFlags := 25, nameIndex := 290, descriptorIndex := 25, attributes := #[] }, { accessFlags := 25, nameIndex := 292, descriptorIndex := 25, attributes := #[] }, { accessFlags := 26, nameIndex := 108, descriptorIndex := 109, attributes := #[] }, { accessFlags := 25, nameIndex := 294, descriptorIndex := 25, attributes := #[] }])
  fields := #[{ name := "U", type := (.object "jdk/internal/misc/Unsafe"), accessFlags := 24, slot := 0, constantValue := 0 }, { name := "BIG_ENDIAN", type := .boolean, accessFlags := 26, slot := 1, constantValue := 0 }, { name := "LOG2_ARRAY_BOOLEAN_INDEX_SCALE", type := .int, accessFlags := 25, slot := 2, constantValue := 0 }, { name := "LOG2_ARRAY_BYTE_INDEX_SCALE", type := .int, accessFlags := 25, slot := 3, constantValue := 0 }, { name := "LOG2_ARRAY_CHAR_INDEX_SCALE", type := .int, accessFlags := 25, slot := 4, constantValue := 0 }, { name := "LOG2_ARRAY_SHORT_INDEX_SCALE", type := .int, accessFlags := 25, slot := 5, constantValue := 0 }, { name := "LOG2_ARRAY_INT_INDEX_SCALE", type := .int, accessFlags := 25, slot := 6, constantValue := 0 }, { name := "LOG2_ARRAY_LONG_INDEX_SCALE", type := .int, accessFlags := 25, slot := 7, constantValue := 0 }, { name := "LOG2_ARRAY_FLOAT_INDEX_SCALE", type := .int, accessFlags := 25, slot := 8, constantValue := 0 }, { name := "LOG2_ARRAY_DOUBLE_INDEX_SCALE", type := .int, accessFlags := 25, slot := 9, constantValue := 0 }, { name := "LOG2_BYTE_BIT_SIZE", type := .int, accessFlags := 26, slot := 10, constantValue := 0 }, { name := "T_BOOLEAN", type := .int, accessFlags := 25, slot := 11, constantValue := 0 }, { name := "T_CHAR", type := .int, accessFlags := 25, slot := 12, constantValue := 0 }, { name := "T_FLOAT", type := .int, accessFlags := 25, slot := 13, constantValue := 0 }, { name := "T_DOUBLE", type := .int, accessFlags := 25, slot := 14, constantValue := 0 }, { name := "T_BYTE", type := .int, accessFlags := 25, slot := 15, constantValue := 0 }, { name := "T_SHORT", type := .int, accessFlags := 25, slot := 16, constantValue := 0 }, { name := "T_INT", type := .int, accessFlags := 25, slot := 17, constantValue := 0 }, { name := "T_LONG", type := .int, accessFlags := 25, slot := 18, constantValue := 0 }, { name := "JLA", type := (.object "jdk/internal/access/JavaLangAccess"), accessFlags := 26, slot := 19, constantValue := 0 }, { name := "SOFT_MAX_ARRAY_LENGTH", type := .int, accessFlags := 25, slot := 20, constantValue := 0 }]
  methods := #[k18m0]
  instanceTypes := #[]
  staticTypes := #[(.object "jdk/internal/misc/Unsafe"), .boolean, .int, .int, .int, .int, .int, .int, .int, .int, .int, .int, .int, .int, .int, .int, .int, .int, .int, (.object "jdk/internal/access/JavaLangAccess"), .int]
  resolved := Array.replicate 378 none
  statics := none }

def pool19 : Array CpInfo := pool [(1, u "java/lang/Cloneable"), (0, .class_ 1), (0, u "java/lang/Object"), (0, .class_ 3)] 3

/-- java/lang/Cloneable -/
def k19 : Class := { plain "java/lang/Cloneable" (some 0) with
  accessFlags := 1537
  interfaces := #[]
  cf := some (fileOf pool19 2 #[] #[] 1537 4 #[] #[])
  fields := #[]
  methods := #[]
  instanceTypes := #[]
  staticTypes := #[]
  resolved := Array.replicate 8 none
  statics := none }

/-- the primitive byte -/
def k20 : Class := { plain "byte" none with kind := .primitive 'B', accessFlags := 0x411 }
/-- [B -/
def k21 : Class := { plain "[B" (some 0) with kind := .array 20 .byte, interfaces := #[19, 2], accessFlags := 1041 }

/-- the primitive char -/
def k22 : Class := { plain "char" none with kind := .primitive 'C', accessFlags := 0x411 }
/-- [C -/
def k23 : Class := { plain "[C" (some 0) with kind := .array 22 .char, interfaces := #[19, 2], accessFlags := 1041 }

/-- the primitive int -/
def k24 : Class := { plain "int" none with kind := .primitive 'I', accessFlags := 0x411 }
/-- [I -/
def k25 : Class := { plain "[I" (some 0) with kind := .array 24 .int, interfaces := #[19, 2], accessFlags := 1041 }

def heap : Heap := #[{ cls := 7, slots := #[.long 0, .int 1, .null, .int 0, .null, .int 0, .int 0], vm := .statics 7 },
  { cls := 11, slots := #[.null, .null, .null], vm := .statics 11 }]
def classes : Array Class := #[k0, k1, k2, k3, k4, k5, k6, k7, k8, k9, k10, k11, k12, k13, k14, k15, k16, k17, k18, k19, k20, k21, k22, k23, k24, k25]
def interned : List (Array UInt16 × Addr) := []
def slotsUsed : Nat := 10
def theMethod : MethodId := ⟨1, 3⟩
def args0 : Array Value := #[.int 0, .int 1, .int 2, .int 3]
def aboutOver (below : List Frame) : State where
  vm := { classes := classes, interned := interned.toArray }
  heap := heap
  slotsUsed := slotsUsed
  threads := #[{ frames := .invoking theMethod args0 :: below }]
def below0 : List Frame := [.native { method := ⟨0, 0⟩, args := #[] }]
def about1 : State := aboutOver below0
def p0 : Program := .bare "" "" ""
def e0 : Env := launch0.env 0 0 0
theorem w_frames : about1.frames = Frame.invoking theMethod args0 :: below0 := rfl
set_option maxRecDepth 65536 in
theorem w_args : argsFit about1.vm theMethod args0 = true := by decide +kernel
set_option maxRecDepth 65536 in
theorem w_heap : heapFits about1 = true := by decide +kernel
set_option maxRecDepth 65536 in
theorem w_runnable : about1.curStatus? = some .runnable := by decide +kernel
set_option maxRecDepth 65536 in
theorem w_alone : about1.alone = true := by decide +kernel
set_option maxRecDepth 65536 in
theorem w_named : about1.methodNamed? x = some theMethod := by decide +kernel
set_option maxRecDepth 65536 in
theorem w_hears : about1.hears theMethod below0 = true := by decide +kernel
set_option maxRecDepth 65536 in
theorem w_ripe : about1.ripe theMethod args0 below0 = true := by decide +kernel
theorem w_running : about1.status = .running := rfl
set_option maxRecDepth 65536 in
theorem w_room : about1.hasRoom e0.platform room_1 = true :=
  launch0.hasRoom_least _ room_1 (by decide +kernel) (by decide +kernel) (by decide +kernel) (by decide +kernel) (by decide +kernel) (by decide +kernel)
theorem allAtoms_all (ts : List Jvm.Cond) (a : Array Jvm.Value) (st : Jvm.State) : (allAtoms ts).before a st = ts.all (fun c => c.before a st) := by
  induction ts with
  | nil => rfl
  | cons c t ih =>
    show (Jvm.Cond.and c (allAtoms t)).before a st = _
    rw [Jvm.Cond.before_and, ih, List.all_cons]
def words1 : List Jvm.Cond := Jvm.Cond.code x code maxLocals ret :: tables_1
/-- a 'code' word, met by the world's own term for the bytes: nothing is compared byte by byte -/
theorem code_word {y : MethodName} {bytes : ByteArray} {mx : Nat} {rt : Option FieldType} {a : Array Value} {s : State} {m : MethodId} {meth : Method} {c : Code} (h1 : s.methodNamed? y = some m) (h2 : s.vm.method? m = some meth) (h3 : meth.code = some c) (h4 : c.code = bytes)
    (h5 : (c.maxLocals == mx && c.exceptionTable.isEmpty && decide (c.maxStack ≤ mostOperands) && decide (meth.sig.returnType = rt) && !meth.locks && decide (parseMethodDescriptor y.desc = some meth.sig)) = true) : (Jvm.Cond.code y bytes mx rt).before a s = true := by
  simp only [Bool.and_eq_true, beq_iff_eq, Bool.not_eq_true', decide_eq_true_eq] at h5
  obtain ⟨⟨⟨⟨⟨g1, g2⟩, g3⟩, g4⟩, g5⟩, g6⟩ := h5
  simp [Cond.before, Cond.holds, Cond.value, h1, h2, h3, h4, g1, g2, g3, g4, g5, g6]
def isCode : Jvm.Cond → Bool
  | .code _ _ _ _ => true
  | _ => false
theorem all_split {L : List Jvm.Cond} {P : Jvm.Cond → Bool} (h1 : L.all (fun c => isCode c || P c) = true) (h2 : ∀ c ∈ L.filter isCode, P c = true) : L.all P = true := by
  refine List.all_eq_true.mpr fun c hc => ?_
  have h := List.all_eq_true.mp h1 c hc
  rcases Bool.eq_false_or_eq_true (isCode c) with hi | hi
  · exact h2 c (List.mem_filter.mpr ⟨hc, hi⟩)
  · simpa [hi] using h
set_option maxRecDepth 65536 in
theorem w_c0 : (Jvm.Cond.code x code maxLocals ret).before args0 about1 = true := code_word (m := ⟨1, 3⟩) (meth := k1m3) (c := k1c3) (by decide +kernel) rfl rfl rfl (by decide +kernel)
set_option maxRecDepth 65536 in
theorem w_c1 : (Jvm.Cond.code ({ cls := "com/example/carrier_name_resolver/carriernameresolver/card/PlmnEqualsPinLaw", name := "dig", desc := "(II)C" } : Jvm.MethodName) method_2_code (2 : Nat) (Option.some Jvm.ClassFile.FieldType.char)).before args0 about1 = true := code_word (m := ⟨1, 1⟩) (meth := k1m1) (c := k1c1) (by decide +kernel) rfl rfl rfl (by decide +kernel)
set_option maxRecDepth 65536 in
theorem w_c2 : (Jvm.Cond.code ({ cls := "com/example/carrier_name_resolver/carriernameresolver/card/PlmnEqualsPinLaw", name := "pick", desc := "(IICI)C" } : Jvm.MethodName) method_3_code (4 : Nat) (Option.some Jvm.ClassFile.FieldType.char)).before args0 about1 = true := code_word (m := ⟨1, 2⟩) (meth := k1m2) (c := k1c2) (by decide +kernel) rfl rfl rfl (by decide +kernel)
set_option maxRecDepth 65536 in
theorem w_c3 : (Jvm.Cond.code ({ cls := "java/lang/String", name := "<init>", desc := "([C)V" } : Jvm.MethodName) jdk_42_method_3_code (2 : Nat) (Option.none : Option Jvm.ClassFile.FieldType)).before args0 about1 = true := code_word (m := ⟨7, 1⟩) (meth := k7m1) (c := k7c1) (by decide +kernel) rfl rfl rfl (by decide +kernel)
set_option maxRecDepth 65536 in
theorem w_c4 : (Jvm.Cond.code ({ cls := "java/lang/String", name := "<init>", desc := "([CIILjava/lang/Void;)V" } : Jvm.MethodName) jdk_42_method_149_code (6 : Nat) (Option.none : Option Jvm.ClassFile.FieldType)).before args0 about1 = true := code_word (m := ⟨7, 6⟩) (meth := k7m6) (c := k7c6) (by decide +kernel) rfl rfl rfl (by decide +kernel)
set_option maxRecDepth 65536 in
theorem w_c5 : (Jvm.Cond.code ({ cls := "java/lang/Object", name := "<init>", desc := "()V" } : Jvm.MethodName) object_method_1_code (1 : Nat) (Option.none : Option Jvm.ClassFile.FieldType)).before args0 about1 = true := code_word (m := ⟨0, 0⟩) (meth := k0m0) (c := k0c0) (by decide +kernel) rfl rfl rfl (by decide +kernel)
set_option maxRecDepth 65536 in
theorem w_c6 : (Jvm.Cond.code ({ cls := "java/lang/StringUTF16", name := "compress", desc := "([CII)[B" } : Jvm.MethodName) jdk_52_method_16_code (6 : Nat) (Option.some (Jvm.ClassFile.FieldType.array Jvm.ClassFile.FieldType.byte))).before args0 about1 = true := code_word (m := ⟨8, 2⟩) (meth := k8m2) (c := k8c2) (by decide +kernel) rfl rfl rfl (by decide +kernel)
set_option maxRecDepth 65536 in
theorem w_c7 : (Jvm.Cond.code ({ cls := "java/lang/StringUTF16", name := "compress", desc := "([CI[BII)I" } : Jvm.MethodName) jdk_52_method_21_code (7 : Nat) (Option.some Jvm.ClassFile.FieldType.int)).before args0 about1 = true := code_word (m := ⟨8, 3⟩) (meth := k8m3) (c := k8c3) (by decide +kernel) rfl rfl rfl (by decide +kernel)
set_option maxRecDepth 65536 in
theorem w_c8 : (Jvm.Cond.code ({ cls := "java/lang/StringUTF16", name := "coderFromArrayLen", desc := "([BI)B" } : Jvm.MethodName) jdk_52_method_15_code (2 : Nat) (Option.some Jvm.ClassFile.FieldType.byte)).before args0 about1 = true := code_word (m := ⟨8, 1⟩) (meth := k8m1) (c := k8c1) (by decide +kernel) rfl rfl rfl (by decide +kernel)
set_option maxRecDepth 65536 in
theorem w_c9 : (Jvm.Cond.code ({ cls := "com/example/carrier_name_resolver/carriernameresolver/card/Plmn", name := "<init>", desc := "(Ljava/lang/String;Ljava/lang/String;)V" } : Jvm.MethodName) prog_21_method_1_code (3 : Nat) (Option.none : Option Jvm.ClassFile.FieldType)).before args0 about1 = true := code_word (m := ⟨9, 0⟩) (meth := k9m0) (c := k9c0) (by decide +kernel) rfl rfl rfl (by decide +kernel)
set_option maxRecDepth 65536 in
theorem w_c10 : (Jvm.Cond.code ({ cls := "com/example/carrier_name_resolver/carriernameresolver/card/Plmn", name := "isDigits", desc := "(Ljava/lang/String;II)Z" } : Jvm.MethodName) prog_21_method_15_code (6 : Nat) (Option.some Jvm.ClassFile.FieldType.boolean)).before args0 about1 = true := code_word (m := ⟨9, 3⟩) (meth := k9m3) (c := k9c3) (by decide +kernel) rfl rfl rfl (by decide +kernel)
set_option maxRecDepth 65536 in
theorem w_c11 : (Jvm.Cond.code ({ cls := "java/lang/String", name := "length", desc := "()I" } : Jvm.MethodName) jdk_42_method_54_code (1 : Nat) (Option.some Jvm.ClassFile.FieldType.int)).before args0 about1 = true := code_word (m := ⟨7, 3⟩) (meth := k7m3) (c := k7c3) (by decide +kernel) rfl rfl rfl (by decide +kernel)
set_option maxRecDepth 65536 in
theorem w_c12 : (Jvm.Cond.code ({ cls := "java/lang/String", name := "coder", desc := "()B" } : Jvm.MethodName) jdk_42_method_152_code (1 : Nat) (Option.some Jvm.ClassFile.FieldType.byte)).before args0 about1 = true := code_word (m := ⟨7, 8⟩) (meth := k7m8) (c := k7c8) (by decide +kernel) rfl rfl rfl (by decide +kernel)
set_option maxRecDepth 65536 in
theorem w_c13 : (Jvm.Cond.code ({ cls := "java/lang/String", name := "charAt", desc := "(I)C" } : Jvm.MethodName) jdk_42_method_56_code (2 : Nat) (Option.some Jvm.ClassFile.FieldType.char)).before args0 about1 = true := code_word (m := ⟨7, 4⟩) (meth := k7m4) (c := k7c4) (by decide +kernel) rfl rfl rfl (by decide +kernel)
set_option maxRecDepth 65536 in
theorem w_c14 : (Jvm.Cond.code ({ cls := "java/lang/String", name := "isLatin1", desc := "()Z" } : Jvm.MethodName) jdk_42_method_154_code (1 : Nat) (Option.some Jvm.ClassFile.FieldType.boolean)).before args0 about1 = true := code_word (m := ⟨7, 9⟩) (meth := k7m9) (c := k7c9) (by decide +kernel) rfl rfl rfl (by decide +kernel)
set_option maxRecDepth 65536 in
theorem w_c15 : (Jvm.Cond.code ({ cls := "java/lang/StringLatin1", name := "charAt", desc := "([BI)C" } : Jvm.MethodName) jdk_43_method_2_code (2 : Nat) (Option.some Jvm.ClassFile.FieldType.char)).before args0 about1 = true := code_word (m := ⟨10, 1⟩) (meth := k10m1) (c := k10c1) (by decide +kernel) rfl rfl rfl (by decide +kernel)
set_option maxRecDepth 65536 in
theorem w_c16 : (Jvm.Cond.code ({ cls := "java/lang/String", name := "checkIndex", desc := "(II)V" } : Jvm.MethodName) jdk_42_method_155_code (2 : Nat) (Option.none : Option Jvm.ClassFile.FieldType)).before args0 about1 = true := code_word (m := ⟨7, 10⟩) (meth := k7m10) (c := k7c10) (by decide +kernel) rfl rfl rfl (by decide +kernel)
set_option maxRecDepth 65536 in
theorem w_c17 : (Jvm.Cond.code ({ cls := "jdk/internal/util/Preconditions", name := "checkIndex", desc := "(IILjava/util/function/BiFunction;)I" } : Jvm.MethodName) jdk_41_method_11_code (3 : Nat) (Option.some Jvm.ClassFile.FieldType.int)).before args0 about1 = true := code_word (m := ⟨11, 1⟩) (meth := k11m1) (c := k11c1) (by decide +kernel) rfl rfl rfl (by decide +kernel)
set_option maxRecDepth 65536 in
theorem w_c18 : (Jvm.Cond.code ({ cls := "java/lang/StringBuilder", name := "<init>", desc := "()V" } : Jvm.MethodName) jdk_67_method_1_code (1 : Nat) (Option.none : Option Jvm.ClassFile.FieldType)).before args0 about1 = true := code_word (m := ⟨14, 0⟩) (meth := k14m0) (c := k14c0) (by decide +kernel) rfl rfl rfl (by decide +kernel)
set_option maxRecDepth 65536 in
theorem w_c19 : (Jvm.Cond.code ({ cls := "java/lang/AbstractStringBuilder", name := "<init>", desc := "(I)V" } : Jvm.MethodName) jdk_68_method_2_code (2 : Nat) (Option.none : Option Jvm.ClassFile.FieldType)).before args0 about1 = true := code_word (m := ⟨13, 1⟩) (meth := k13m1) (c := k13c1) (by decide +kernel) rfl rfl rfl (by decide +kernel)
set_option maxRecDepth 65536 in
theorem w_c20 : (Jvm.Cond.code ({ cls := "java/lang/StringBuilder", name := "append", desc := "(Ljava/lang/String;)Ljava/lang/StringBuilder;" } : Jvm.MethodName) jdk_67_method_7_code (2 : Nat) (Option.some (Jvm.ClassFile.FieldType.object "java/lang/StringBuilder"))).before args0 about1 = true := code_word (m := ⟨14, 1⟩) (meth := k14m1) (c := k14c1) (by decide +kernel) rfl rfl rfl (by decide +kernel)
set_option maxRecDepth 65536 in
theorem w_c21 : (Jvm.Cond.code ({ cls := "java/lang/AbstractStringBuilder", name := "append", desc := "(Ljava/lang/String;)Ljava/lang/AbstractStringBuilder;" } : Jvm.MethodName) jdk_68_method_22_code (3 : Nat) (Option.some (Jvm.ClassFile.FieldType.object "java/lang/AbstractStringBuilder"))).before args0 about1 = true := code_word (m := ⟨13, 4⟩) (meth := k13m4) (c := k13c4) (by decide +kernel) rfl rfl rfl (by decide +kernel)
set_option maxRecDepth 65536 in
theorem w_c22 : (Jvm.Cond.code ({ cls := "java/lang/AbstractStringBuilder", name := "ensureCapacityInternal", desc := "(I)V" } : Jvm.MethodName) jdk_68_method_9_code (3 : Nat) (Option.none : Option Jvm.ClassFile.FieldType)).before args0 about1 = true := code_word (m := ⟨13, 3⟩) (meth := k13m3) (c := k13c3) (by decide +kernel) rfl rfl rfl (by decide +kernel)
set_option maxRecDepth 65536 in
theorem w_c23 : (Jvm.Cond.code ({ cls := "java/lang/AbstractStringBuilder", name := "putStringAt", desc := "(ILjava/lang/String;)V" } : Jvm.MethodName) jdk_68_method_73_code (3 : Nat) (Option.none : Option Jvm.ClassFile.FieldType)).before args0 about1 = true := code_word (m := ⟨13, 8⟩) (meth := k13m8) (c := k13c8) (by decide +kernel) rfl rfl rfl (by decide +kernel)
set_option maxRecDepth 65536 in
theorem w_c24 : (Jvm.Cond.code ({ cls := "java/lang/AbstractStringBuilder", name := "inflateIfNeededFor", desc := "(Ljava/lang/String;)V" } : Jvm.MethodName) jdk_68_method_71_code (2 : Nat) (Option.none : Option Jvm.ClassFile.FieldType)).before args0 about1 = true := code_word (m := ⟨13, 7⟩) (meth := k13m7) (c := k13c7) (by decide +kernel) rfl rfl rfl (by decide +kernel)
set_option maxRecDepth 65536 in
theorem w_c25 : (Jvm.Cond.code ({ cls := "java/lang/String", name := "getBytes", desc := "([BIB)V" } : Jvm.MethodName) jdk_42_method_147_code (4 : Nat) (Option.none : Option Jvm.ClassFile.FieldType)).before args0 about1 = true := code_word (m := ⟨7, 5⟩) (meth := k7m5) (c := k7c5) (by decide +kernel) rfl rfl rfl (by decide +kernel)
set_option maxRecDepth 65536 in
theorem w_c26 : (Jvm.Cond.code ({ cls := "java/lang/StringBuilder", name := "toString", desc := "()Ljava/lang/String;" } : Jvm.MethodName) jdk_67_method_42_code (1 : Nat) (Option.some (Jvm.ClassFile.FieldType.object "java/lang/String"))).before args0 about1 = true := code_word (m := ⟨14, 2⟩) (meth := k14m2) (c := k14c2) (by decide +kernel) rfl rfl rfl (by decide +kernel)
set_option maxRecDepth 65536 in
theorem w_c27 : (Jvm.Cond.code ({ cls := "java/lang/String", name := "<init>", desc := "(Ljava/lang/StringBuilder;)V" } : Jvm.MethodName) jdk_42_method_53_code (2 : Nat) (Option.none : Option Jvm.ClassFile.FieldType)).before args0 about1 = true := code_word (m := ⟨7, 2⟩) (meth := k7m2) (c := k7c2) (by decide +kernel) rfl rfl rfl (by decide +kernel)
set_option maxRecDepth 65536 in
theorem w_c28 : (Jvm.Cond.code ({ cls := "java/lang/String", name := "<init>", desc := "(Ljava/lang/AbstractStringBuilder;Ljava/lang/Void;)V" } : Jvm.MethodName) jdk_42_method_150_code (5 : Nat) (Option.none : Option Jvm.ClassFile.FieldType)).before args0 about1 = true := code_word (m := ⟨7, 7⟩) (meth := k7m7) (c := k7c7) (by decide +kernel) rfl rfl rfl (by decide +kernel)
set_option maxRecDepth 65536 in
theorem w_c29 : (Jvm.Cond.code ({ cls := "java/lang/AbstractStringBuilder", name := "getValue", desc := "()[B" } : Jvm.MethodName) jdk_68_method_64_code (1 : Nat) (Option.some (Jvm.ClassFile.FieldType.array Jvm.ClassFile.FieldType.byte))).before args0 about1 = true := code_word (m := ⟨13, 5⟩) (meth := k13m5) (c := k13c5) (by decide +kernel) rfl rfl rfl (by decide +kernel)
set_option maxRecDepth 65536 in
theorem w_c30 : (Jvm.Cond.code ({ cls := "java/lang/StringBuilder", name := "length", desc := "()I" } : Jvm.MethodName) jdk_67_method_93_code (1 : Nat) (Option.some Jvm.ClassFile.FieldType.int)).before args0 about1 = true := code_word (m := ⟨14, 3⟩) (meth := k14m3) (c := k14c3) (by decide +kernel) rfl rfl rfl (by decide +kernel)
set_option maxRecDepth 65536 in
theorem w_c31 : (Jvm.Cond.code ({ cls := "java/lang/AbstractStringBuilder", name := "length", desc := "()I" } : Jvm.MethodName) jdk_68_method_6_code (1 : Nat) (Option.some Jvm.ClassFile.FieldType.int)).before args0 about1 = true := code_word (m := ⟨13, 2⟩) (meth := k13m2) (c := k13c2) (by decide +kernel) rfl rfl rfl (by decide +kernel)
set_option maxRecDepth 65536 in
theorem w_c32 : (Jvm.Cond.code ({ cls := "java/lang/AbstractStringBuilder", name := "isLatin1", desc := "()Z" } : Jvm.MethodName) jdk_68_method_68_code (1 : Nat) (Option.some Jvm.ClassFile.FieldType.boolean)).before args0 about1 = true := code_word (m := ⟨13, 6⟩) (meth := k13m6) (c := k13c6) (by decide +kernel) rfl rfl rfl (by decide +kernel)
set_option maxRecDepth 65536 in
theorem w_c33 : (Jvm.Cond.code ({ cls := "java/util/Arrays", name := "copyOfRange", desc := "([BII)[B" } : Jvm.MethodName) jdk_65_method_132_code (3 : Nat) (Option.some (Jvm.ClassFile.FieldType.array Jvm.ClassFile.FieldType.byte))).before args0 about1 = true := code_word (m := ⟨16, 2⟩) (meth := k16m2) (c := k16c2) (by decide +kernel) rfl rfl rfl (by decide +kernel)
set_option maxRecDepth 65536 in
theorem w_c34 : (Jvm.Cond.code ({ cls := "java/util/Arrays", name := "copyOfRangeByte", desc := "([BII)[B" } : Jvm.MethodName) jdk_65_method_133_code (5 : Nat) (Option.some (Jvm.ClassFile.FieldType.array Jvm.ClassFile.FieldType.byte))).before args0 about1 = true := code_word (m := ⟨16, 3⟩) (meth := k16m3) (c := k16c3) (by decide +kernel) rfl rfl rfl (by decide +kernel)
set_option maxRecDepth 65536 in
theorem w_c35 : (Jvm.Cond.code ({ cls := "java/util/Arrays", name := "checkLength", desc := "(II)V" } : Jvm.MethodName) jdk_65_method_131_code (2 : Nat) (Option.none : Option Jvm.ClassFile.FieldType)).before args0 about1 = true := code_word (m := ⟨16, 1⟩) (meth := k16m1) (c := k16c1) (by decide +kernel) rfl rfl rfl (by decide +kernel)
set_option maxRecDepth 65536 in
theorem w_c36 : (Jvm.Cond.code ({ cls := "java/lang/Math", name := "min", desc := "(II)I" } : Jvm.MethodName) jdk_29_method_69_code (2 : Nat) (Option.some Jvm.ClassFile.FieldType.int)).before args0 about1 = true := code_word (m := ⟨17, 1⟩) (meth := k17m1) (c := k17c1) (by decide +kernel) rfl rfl rfl (by decide +kernel)
set_option maxRecDepth 65536 in
theorem w_c37 : (Jvm.Cond.code ({ cls := "com/example/carrier_name_resolver/carriernameresolver/card/Plmn", name := "code", desc := "(Ljava/lang/String;)I" } : Jvm.MethodName) prog_21_method_6_code (4 : Nat) (Option.some Jvm.ClassFile.FieldType.int)).before args0 about1 = true := code_word (m := ⟨9, 1⟩) (meth := k9m1) (c := k9c1) (by decide +kernel) rfl rfl rfl (by decide +kernel)
set_option maxRecDepth 65536 in
theorem w_c38 : (Jvm.Cond.code ({ cls := "com/example/carrier_name_resolver/carriernameresolver/card/Plmn", name := "equals", desc := "(Ljava/lang/Object;)Z" } : Jvm.MethodName) prog_21_method_11_code (2 : Nat) (Option.some Jvm.ClassFile.FieldType.boolean)).before args0 about1 = true := code_word (m := ⟨9, 2⟩) (meth := k9m2) (c := k9c2) (by decide +kernel) rfl rfl rfl (by decide +kernel)
def codes1 : List Jvm.Cond := [Jvm.Cond.code x code maxLocals ret, Jvm.Cond.code ({ cls := "com/example/carrier_name_resolver/carriernameresolver/card/PlmnEqualsPinLaw", name := "dig", desc := "(II)C" } : Jvm.MethodName) method_2_code (2 : Nat) (Option.some Jvm.ClassFile.FieldType.char), Jvm.Cond.code ({ cls := "com/example/carrier_name_resolver/carriernameresolver/card/PlmnEqualsPinLaw", name := "pick", desc := "(IICI)C" } : Jvm.MethodName) method_3_code (4 : Nat) (Option.some Jvm.ClassFile.FieldType.char), Jvm.Cond.code ({ cls := "java/lang/String", name := "<init>", desc := "([C)V" } : Jvm.MethodName) jdk_42_method_3_code (2 : Nat) (Option.none : Option Jvm.ClassFile.FieldType), Jvm.Cond.code ({ cls := "java/lang/String", name := "<init>", desc := "([CIILjava/lang/Void;)V" } : Jvm.MethodName) jdk_42_method_149_code (6 : Nat) (Option.none : Option Jvm.ClassFile.FieldType), Jvm.Cond.code ({ cls := "java/lang/Object", name := "<init>", desc := "()V" } : Jvm.MethodName) object_method_1_code (1 : Nat) (Option.none : Option Jvm.ClassFile.FieldType), Jvm.Cond.code ({ cls := "java/lang/StringUTF16", name := "compress", desc := "([CII)[B" } : Jvm.MethodName) jdk_52_method_16_code (6 : Nat) (Option.some (Jvm.ClassFile.FieldType.array Jvm.ClassFile.FieldType.byte)), Jvm.Cond.code ({ cls := "java/lang/StringUTF16", name := "compress", desc := "([CI[BII)I" } : Jvm.MethodName) jdk_52_method_21_code (7 : Nat) (Option.some Jvm.ClassFile.FieldType.int), Jvm.Cond.code ({ cls := "java/lang/StringUTF16", name := "coderFromArrayLen", desc := "([BI)B" } : Jvm.MethodName) jdk_52_method_15_code (2 : Nat) (Option.some Jvm.ClassFile.FieldType.byte), Jvm.Cond.code ({ cls := "com/example/carrier_name_resolver/carriernameresolver/card/Plmn", name := "<init>", desc := "(Ljava/lang/String;Ljava/lang/String;)V" } : Jvm.MethodName) prog_21_method_1_code (3 : Nat) (Option.none : Option Jvm.ClassFile.FieldType), Jvm.Cond.code ({ cls := "com/example/carrier_name_resolver/carriernameresolver/card/Plmn", name := "isDigits", desc := "(Ljava/lang/String;II)Z" } : Jvm.MethodName) prog_21_method_15_code (6 : Nat) (Option.some Jvm.ClassFile.FieldType.boolean), Jvm.Cond.code ({ cls := "java/lang/String", name := "length", desc := "()I" } : Jvm.MethodName) jdk_42_method_54_code (1 : Nat) (Option.some Jvm.ClassFile.FieldType.int), Jvm.Cond.code ({ cls := "java/lang/String", name := "coder", desc := "()B" } : Jvm.MethodName) jdk_42_method_152_code (1 : Nat) (Option.some Jvm.ClassFile.FieldType.byte), Jvm.Cond.code ({ cls := "java/lang/String", name := "charAt", desc := "(I)C" } : Jvm.MethodName) jdk_42_method_56_code (2 : Nat) (Option.some Jvm.ClassFile.FieldType.char), Jvm.Cond.code ({ cls := "java/lang/String", name := "isLatin1", desc := "()Z" } : Jvm.MethodName) jdk_42_method_154_code (1 : Nat) (Option.some Jvm.ClassFile.FieldType.boolean), Jvm.Cond.code ({ cls := "java/lang/StringLatin1", name := "charAt", desc := "([BI)C" } : Jvm.MethodName) jdk_43_method_2_code (2 : Nat) (Option.some Jvm.ClassFile.FieldType.char), Jvm.Cond.code ({ cls := "java/lang/String", name := "checkIndex", desc := "(II)V" } : Jvm.MethodName) jdk_42_method_155_code (2 : Nat) (Option.none : Option Jvm.ClassFile.FieldType), Jvm.Cond.code ({ cls := "jdk/internal/util/Preconditions", name := "checkIndex", desc := "(IILjava/util/function/BiFunction;)I" } : Jvm.MethodName) jdk_41_method_11_code (3 : Nat) (Option.some Jvm.ClassFile.FieldType.int), Jvm.Cond.code ({ cls := "java/lang/StringBuilder", name := "<init>", desc := "()V" } : Jvm.MethodName) jdk_67_method_1_code (1 : Nat) (Option.none : Option Jvm.ClassFile.FieldType), Jvm.Cond.code ({ cls := "java/lang/AbstractStringBuilder", name := "<init>", desc := "(I)V" } : Jvm.MethodName) jdk_68_method_2_code (2 : Nat) (Option.none : Option Jvm.ClassFile.FieldType), Jvm.Cond.code ({ cls := "java/lang/StringBuilder", name := "append", desc := "(Ljava/lang/String;)Ljava/lang/StringBuilder;" } : Jvm.MethodName) jdk_67_method_7_code (2 : Nat) (Option.some (Jvm.ClassFile.FieldType.object "java/lang/StringBuilder")), Jvm.Cond.code ({ cls := "java/lang/AbstractStringBuilder", name := "append", desc := "(Ljava/lang/String;)Ljava/lang/AbstractStringBuilder;" } : Jvm.MethodName) jdk_68_method_22_code (3 : Nat) (Option.some (Jvm.ClassFile.FieldType.object "java/lang/AbstractStringBuilder")), Jvm.Cond.code ({ cls := "java/lang/AbstractStringBuilder", name := "ensureCapacityInternal", desc := "(I)V" } : Jvm.MethodName) jdk_68_method_9_code (3 : Nat) (Option.none : Option Jvm.ClassFile.FieldType), Jvm.Cond.code ({ cls := "java/lang/AbstractStringBuilder", name := "putStringAt", desc := "(ILjava/lang/String;)V" } : Jvm.MethodName) jdk_68_method_73_code (3 : Nat) (Option.none : Option Jvm.ClassFile.FieldType), Jvm.Cond.code ({ cls := "java/lang/AbstractStringBuilder", name := "inflateIfNeededFor", desc := "(Ljava/lang/String;)V" } : Jvm.MethodName) jdk_68_method_71_code (2 : Nat) (Option.none : Option Jvm.ClassFile.FieldType), Jvm.Cond.code ({ cls := "java/lang/String", name := "getBytes", desc := "([BIB)V" } : Jvm.MethodName) jdk_42_method_147_code (4 : Nat) (Option.none : Option Jvm.ClassFile.FieldType), Jvm.Cond.code ({ cls := "java/lang/StringBuilder", name := "toString", desc := "()Ljava/lang/String;" } : Jvm.MethodName) jdk_67_method_42_code (1 : Nat) (Option.some (Jvm.ClassFile.FieldType.object "java/lang/String")), Jvm.Cond.code ({ cls := "java/lang/String", name := "<init>", desc := "(Ljava/lang/StringBuilder;)V" } : Jvm.MethodName) jdk_42_method_53_code (2 : Nat) (Option.none : Option Jvm.ClassFile.FieldType), Jvm.Cond.code ({ cls := "java/lang/String", name := "<init>", desc := "(Ljava/lang/AbstractStringBuilder;Ljava/lang/Void;)V" } : Jvm.MethodName) jdk_42_method_150_code (5 : Nat) (Option.none : Option Jvm.ClassFile.FieldType), Jvm.Cond.code ({ cls := "java/lang/AbstractStringBuilder", name := "getValue", desc := "()[B" } : Jvm.MethodName) jdk_68_method_64_code (1 : Nat) (Option.some (Jvm.ClassFile.FieldType.array Jvm.ClassFile.FieldType.byte)), Jvm.Cond.code ({ cls := "java/lang/StringBuilder", name := "length", desc := "()I" } : Jvm.MethodName) jdk_67_method_93_code (1 : Nat) (Option.some Jvm.ClassFile.FieldType.int), Jvm.Cond.code ({ cls := "java/lang/AbstractStringBuilder", name := "length", desc := "()I" } : Jvm.MethodName) jdk_68_method_6_code (1 : Nat) (Option.some Jvm.ClassFile.FieldType.int), Jvm.Cond.code ({ cls := "java/lang/AbstractStringBuilder", name := "isLatin1", desc := "()Z" } : Jvm.MethodName) jdk_68_method_68_code (1 : Nat) (Option.some Jvm.ClassFile.FieldType.boolean), Jvm.Cond.code ({ cls := "java/util/Arrays", name := "copyOfRange", desc := "([BII)[B" } : Jvm.MethodName) jdk_65_method_132_code (3 : Nat) (Option.some (Jvm.ClassFile.FieldType.array Jvm.ClassFile.FieldType.byte)), Jvm.Cond.code ({ cls := "java/util/Arrays", name := "copyOfRangeByte", desc := "([BII)[B" } : Jvm.MethodName) jdk_65_method_133_code (5 : Nat) (Option.some (Jvm.ClassFile.FieldType.array Jvm.ClassFile.FieldType.byte)), Jvm.Cond.code ({ cls := "java/util/Arrays", name := "checkLength", desc := "(II)V" } : Jvm.MethodName) jdk_65_method_131_code (2 : Nat) (Option.none : Option Jvm.ClassFile.FieldType), Jvm.Cond.code ({ cls := "java/lang/Math", name := "min", desc := "(II)I" } : Jvm.MethodName) jdk_29_method_69_code (2 : Nat) (Option.some Jvm.ClassFile.FieldType.int), Jvm.Cond.code ({ cls := "com/example/carrier_name_resolver/carriernameresolver/card/Plmn", name := "code", desc := "(Ljava/lang/String;)I" } : Jvm.MethodName) prog_21_method_6_code (4 : Nat) (Option.some Jvm.ClassFile.FieldType.int), Jvm.Cond.code ({ cls := "com/example/carrier_name_resolver/carriernameresolver/card/Plmn", name := "equals", desc := "(Ljava/lang/Object;)Z" } : Jvm.MethodName) prog_21_method_11_code (2 : Nat) (Option.some Jvm.ClassFile.FieldType.boolean)]
set_option maxRecDepth 65536 in
theorem codes_eq : words1.filter isCode = codes1 := rfl
theorem w_codes : ∀ c ∈ words1.filter isCode, c.before args0 about1 = true := by
  rw [codes_eq]
  intro c hc
  simp only [codes1, List.mem_cons, List.not_mem_nil, or_false] at hc
  rcases hc with rfl | rfl | rfl | rfl | rfl | rfl | rfl | rfl | rfl | rfl | rfl | rfl | rfl | rfl | rfl | rfl | rfl | rfl | rfl | rfl | rfl | rfl | rfl | rfl | rfl | rfl | rfl | rfl | rfl | rfl | rfl | rfl | rfl | rfl | rfl | rfl | rfl | rfl | rfl
  · exact w_c0
  · exact w_c1
  · exact w_c2
  · exact w_c3
  · exact w_c4
  · exact w_c5
  · exact w_c6
  · exact w_c7
  · exact w_c8
  · exact w_c9
  · exact w_c10
  · exact w_c11
  · exact w_c12
  · exact w_c13
  · exact w_c14
  · exact w_c15
  · exact w_c16
  · exact w_c17
  · exact w_c18
  · exact w_c19
  · exact w_c20
  · exact w_c21
  · exact w_c22
  · exact w_c23
  · exact w_c24
  · exact w_c25
  · exact w_c26
  · exact w_c27
  · exact w_c28
  · exact w_c29
  · exact w_c30
  · exact w_c31
  · exact w_c32
  · exact w_c33
  · exact w_c34
  · exact w_c35
  · exact w_c36
  · exact w_c37
  · exact w_c38
set_option maxRecDepth 65536 in
theorem w_t1 : (words1.take 24).all (fun c => isCode c || c.before args0 about1) = true := by decide +kernel
set_option maxRecDepth 65536 in
theorem w_t2 : ((words1.drop 24).take 24).all (fun c => isCode c || c.before args0 about1) = true := by decide +kernel
set_option maxRecDepth 65536 in
theorem w_t3 : (((words1.drop 24).drop 24).take 24).all (fun c => isCode c || c.before args0 about1) = true := by decide +kernel
set_option maxRecDepth 65536 in
theorem w_t4 : ((((words1.drop 24).drop 24).drop 24).take 24).all (fun c => isCode c || c.before args0 about1) = true := by decide +kernel
set_option maxRecDepth 65536 in
theorem w_t5 : (((((words1.drop 24).drop 24).drop 24).drop 24).take 24).all (fun c => isCode c || c.before args0 about1) = true := by decide +kernel
set_option maxRecDepth 65536 in
theorem w_t6 : ((((((words1.drop 24).drop 24).drop 24).drop 24).drop 24).take 24).all (fun c => isCode c || c.before args0 about1) = true := by decide +kernel
set_option maxRecDepth 65536 in
theorem w_t7 : (((((((words1.drop 24).drop 24).drop 24).drop 24).drop 24).drop 24).take 24).all (fun c => isCode c || c.before args0 about1) = true := by decide +kernel
set_option maxRecDepth 65536 in
theorem w_t8 : ((((((((words1.drop 24).drop 24).drop 24).drop 24).drop 24).drop 24).drop 24).take 24).all (fun c => isCode c || c.before args0 about1) = true := by decide +kernel
set_option maxRecDepth 65536 in
theorem w_t9 : ((((((((words1.drop 24).drop 24).drop 24).drop 24).drop 24).drop 24).drop 24).drop 24).all (fun c => isCode c || c.before args0 about1) = true := by decide +kernel
theorem w_tables : (allAtoms (Jvm.Cond.code x code maxLocals ret :: tables_1)).before args0 about1 = true := by
  rw [allAtoms_all]
  show words1.all (fun c => c.before args0 about1) = true
  refine all_split ?_ w_codes
  rw [← List.take_append_drop 24 words1, List.all_append, w_t1, ← List.take_append_drop 24 (words1.drop 24), List.all_append, w_t2, ← List.take_append_drop 24 ((words1.drop 24).drop 24), List.all_append, w_t3, ← List.take_append_drop 24 (((words1.drop 24).drop 24).drop 24), List.all_append, w_t4, ← List.take_append_drop 24 ((((words1.drop 24).drop 24).drop 24).drop 24), List.all_append, w_t5, ← List.take_append_drop 24 (((((words1.drop 24).drop 24).drop 24).drop 24).drop 24), List.all_append, w_t6, ← List.take_append_drop 24 ((((((words1.drop 24).drop 24).drop 24).drop 24).drop 24).drop 24), List.all_append, w_t7, ← List.take_append_drop 24 (((((((words1.drop 24).drop 24).drop 24).drop 24).drop 24).drop 24).drop 24), List.all_append, w_t8, w_t9]
  rfl
set_option maxRecDepth 65536 in
theorem w_rest : rest_1_c.before args0 about1 = true := by decide +kernel
set_option maxRecDepth 65536 in
theorem w_case : (Jvm.Cond.and given_1 narrow_1).before args0 about1 = true := by decide +kernel
theorem w_applies : (headSpec (Jvm.Cond.code x code maxLocals ret :: tables_1) room_1).applies x e0.platform about1 = true :=
  (Spec.applies_iff w_frames).mpr ⟨w_running, w_runnable, w_alone, w_named, w_hears, w_ripe, w_room, w_tables⟩
theorem atStart : AtStart classFile x code maxLocals ret World_1 tables_1 room_1 Calls_1 rest_1 Pre_1 launch0 p0 e0 about1 theMethod args0 below0 :=
  ⟨lists_1, trivial, launch0.admits_env _ _ _, launch0.least_env, fairChoices_fair.cas, fairChoices_fair.clock, w_frames, w_args, w_heap, w_applies, trivial, w_rest, w_case⟩
end start1
theorem witness_1 : WitnessClaimed_1 := ⟨start1.p0, start1.e0, start1.about1, start1.theMethod, start1.args0, start1.below0, start1.atStart⟩
end Jvm.Pilot.@@N@@
