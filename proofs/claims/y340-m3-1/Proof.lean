import JvmDerived
import JvmDerived.Pilot.@@N@@Statement
import JvmDerived.Pilot.@@N@@Code
set_option linter.unusedVariables false
set_option linter.unusedSimpArgs false
namespace Jvm.RoadKit
open Sem ClassFile Op Lib Jvm.Stand Jvm.Free Jvm.LawKit
section New
variable {p : Program} {l : Launch} {e : Env} {R : Room} {s : State} {m : MethodId} {args : Array Value} {below : List Frame} {meth : Method} {c : Code} {T : State} {locs : List Loc} {cells slots : Nat}
theorem retI (X : Stand p l e R s m args below meth c T locs cells slots) (hx : p.tables.exec = Jvm.exec) {pc : Nat} {Ls : Array Slot} {z : Int32} {rest : List Value} (hret : meth.sig.returnType = some .int) (hd : decode c.code pc = .ok (.ireturn, 1)) {fs : List Frame}
    (hl : ∀ (f : JFrame) (acts : List Action), f.method = m → f.locked = none → f.entered = [] → (doReturn e (T.setTop f) acts (some (.int z))).1 = T.setFrames fs) : Steps p.tables e below (T.setTop (mkF m pc Ls (.int z :: rest))) (T.setFrames fs) := by
  have hm' : T.vm.method? m = some meth := X.method'
  have hn : narrow .int (.int z) = .int z := rfl
  show Steps p.tables e below (T.setTop { method := m, pc := pc, locals := Ls, stack := _ :: rest, locked := none }) _
  jvm_step X.here [X.here.top, hx, hd, hm', hret, hn]
  first | (intro acts; rw [hl _ acts rfl rfl rfl]) | rw [hl _ _ rfl rfl rfl]
  exact Steps.refl _
end New
end Jvm.RoadKit
namespace Jvm.Pilot.@@N@@
open Jvm Jvm.ClassFile Sem Op Lib Jvm.Free Jvm.Stand Jvm.LawKit Jvm.RoadKit Bundle Jvm.Pilot.@@N@@.Jvm.D
theorem tk {α : Type _} {L : List α} {y : α} (i : Nat) (h : L[i]? = some y) : y ∈ L := List.mem_of_getElem? h
set_option maxRecDepth 65536
set_option maxHeartbeats 40000000
abbrev y_0 : MethodName := ⟨"java/lang/String", "coder", "()B"⟩
abbrev y_1 : MethodName := ⟨"java/lang/String", "isLatin1", "()Z"⟩
abbrev y_2 : MethodName := ⟨"java/lang/String", "length", "()I"⟩
abbrev y_3 : MethodName := ⟨"java/lang/Math", "max", "(II)I"⟩
abbrev y_4 : MethodName := ⟨"java/lang/Math", "max", "(JJ)J"⟩
abbrev y_5 : MethodName := ⟨"java/lang/Math", "min", "(JJ)J"⟩
abbrev y_6 : MethodName := ⟨"jdk/internal/util/Preconditions", "checkIndex", "(IILjava/util/function/BiFunction;)I"⟩
abbrev y_7 : MethodName := ⟨"jdk/internal/util/Preconditions", "checkFromToIndex", "(IIILjava/util/function/BiFunction;)I"⟩
abbrev y_8 : MethodName := ⟨"java/util/Objects", "checkIndex", "(II)I"⟩
abbrev y_9 : MethodName := ⟨"java/util/Objects", "checkFromToIndex", "(III)I"⟩
abbrev y_10 : MethodName := ⟨"java/lang/String", "checkIndex", "(II)V"⟩
abbrev y_11 : MethodName := ⟨"java/lang/Character", "charCount", "(I)I"⟩
abbrev y_12 : MethodName := ⟨"java/lang/Character", "isISOControl", "(I)Z"⟩
abbrev y_13 : MethodName := ⟨"dev/treefold/text/Canvas", "showsAsBlank", "(I)Z"⟩
abbrev y_14 : MethodName := ⟨"java/lang/String", "codePointCount", "(II)I"⟩
abbrev y_15 : MethodName := ⟨"java/lang/Character", "offsetByCodePoints", "(Ljava/lang/CharSequence;II)I"⟩
abbrev y_16 : MethodName := ⟨"java/lang/String", "offsetByCodePoints", "(II)I"⟩
abbrev y_17 : MethodName := ⟨"java/lang/String", "codePointAt", "(I)I"⟩
abbrev y_18 : MethodName := ⟨"java/lang/StringLatin1", "charAt", "([BI)C"⟩
abbrev y_19 : MethodName := ⟨"java/lang/String", "charAt", "(I)C"⟩
abbrev y_20 : MethodName := ⟨"dev/treefold/text/Canvas", "clip", "(IIII)V"⟩
abbrev y_21 : MethodName := ⟨"dev/treefold/text/Canvas", "unclip", "()V"⟩
abbrev y_22 : MethodName := ⟨"dev/treefold/text/Canvas", "<init>", "(II)V"⟩
abbrev y_23 : MethodName := ⟨"java/util/Arrays", "rangeCheck", "(III)V"⟩
abbrev y_24 : MethodName := ⟨"java/util/Arrays", "fill", "([IIII)V"⟩
abbrev y_25 : MethodName := ⟨"dev/treefold/text/Canvas", "row", "(II)[I"⟩
abbrev y_26 : MethodName := ⟨"dev/treefold/text/Canvas", "write", "(IILjava/lang/String;)V"⟩
abbrev y_27 : MethodName := ⟨"jdk/internal/util/Preconditions", "checkFromIndexSize", "(IIILjava/util/function/BiFunction;)I"⟩
abbrev y_28 : MethodName := ⟨"java/lang/String", "checkBoundsOffCount", "(III)I"⟩
abbrev y_29 : MethodName := ⟨"java/lang/StringUTF16", "coderFromArrayLen", "([BI)B"⟩
abbrev y_30 : MethodName := ⟨"java/lang/StringUTF16", "compress", "([III)[B"⟩
abbrev y_31 : MethodName := ⟨"java/lang/String", "<init>", "([III)V"⟩
abbrev y_32 : MethodName := ⟨"java/util/AbstractCollection", "<init>", "()V"⟩
abbrev y_33 : MethodName := ⟨"java/util/AbstractList", "<init>", "()V"⟩
abbrev y_34 : MethodName := ⟨"java/util/ArrayList", "<init>", "(I)V"⟩
abbrev y_35 : MethodName := ⟨"java/util/ArrayList", "add", "(Ljava/lang/Object;[Ljava/lang/Object;I)V"⟩
abbrev y_36 : MethodName := ⟨"java/util/ArrayList", "add", "(Ljava/lang/Object;)Z"⟩
abbrev y_37 : MethodName := ⟨"java/util/ArrayList", "size", "()I"⟩
abbrev y_38 : MethodName := ⟨"java/util/ArrayList", "elementData", "(I)Ljava/lang/Object;"⟩
abbrev y_39 : MethodName := ⟨"java/util/ArrayList", "get", "(I)Ljava/lang/Object;"⟩
abbrev y_40 : MethodName := ⟨"dev/treefold/text/Canvas", "lines", "()Ljava/util/List;"⟩
abbrev y_41 : MethodName := ⟨"java/util/List", "add", "(Ljava/lang/Object;)Z"⟩
abbrev y_42 : MethodName := ⟨"dev/treefold/text/CanvasClipPinLaw", "rowOk", "(Ljava/lang/String;IIIZ)Z"⟩
abbrev y_43 : MethodName := ⟨"java/util/List", "size", "()I"⟩
abbrev y_44 : MethodName := ⟨"java/util/List", "get", "(I)Ljava/lang/Object;"⟩
theorem own_backSX {p : Program} {l : Launch} {e : Env} {R : Room} {s : State} {args : Array Value} {below : List Frame} {Z : State} {a0 : Array Value} {EL : List (String × Nat)} {h : Heap} {vm0 : Vm} {y : MethodName} {bytes : ByteArray} {maxL : Nat} {ret : Option FieldType} {rm : Room} {len W : Nat} {as' : Array Value} {Q : Option Value → Heap → List Loc → Prop} {x : Addr}
    (hM : MetFree l y (head1 [Cond.code y bytes maxL ret] rm) (fun a U => a = as' ∧ Z.Warmed39 U.vm ∧ U.heap = h ∧ CHv Z EL U.vm h ∧ Safe Z EL U.vm h x) (fun _ _ _ _ _ => True) (fun _ U o U' => ∃ v L, o = .returned v ∧ Q v U'.heap L ∧ CHr Z EL U.vm U.heap U'.vm U'.heap ∧ ReturnedEndW U o U' L rm.cells rm.slots))
    (hZ : Z.Warmed39 vm0) (wc : (Cond.code y bytes maxL ret).before a0 Z = true) (wz : (Cond.initialized y.cls).before a0 Z = true) (hf : rm.frames + 1 ≤ R.frames) (hl : W + (maxL + 11) + rm.locals ≤ R.locals) (hEL : EW Z a0 EL) (H : CHv Z EL vm0 h) (S : Safe Z EL vm0 h x) (hxl : x < h.size) :
    BackS l R p e below (s.setVm vm0) args y len W (fun A a => a = as' ∧ A.U.heap = h ∧ A.cells + rm.cells ≤ R.cells ∧ A.slots + rm.slots ≤ R.slots)
      (fun A _ v B => ∃ L, Q v B.U.heap L ∧ B.locs = A.locs ++ L ∧ B.cells = A.cells + rm.cells ∧ B.slots = A.slots + rm.slots ∧ CHr Z EL vm0 h B.U.vm B.U.heap) := by
  refine BackS.of_freeW (bytes := bytes) (maxL := maxL) (ret := ret) (E := fun _ first o t L k n => k = rm.cells ∧ n = rm.slots ∧ (∃ v, o = .returned v ∧ Q v t.heap L) ∧ CHr Z EL first.vm first.heap t.vm t.heap) hM hf hl ?_ ?_ (fun _ _ _ _ _ _ _ _ _ => trivial) ?_ ?_
  · intro m meth c A a Y hp
    have hU : Z.Warmed39 A.U.vm := wtrans (s := s.setVm vm0) hZ Y.warmed
    exact ⟨by show (Cond.and _ .tt).before a A.U = true; rw [Cond.before_and, mv hU wc]; rfl, mv hU wc, mv hU wz, hp.2.2.1, hp.2.2.2⟩
  · intro m meth c A a g mk Y hp
    have K := CHv.at Y hZ hEL H
    exact ⟨hp.1, wtrans (s := s.setVm vm0) hZ Y.warmed, hp.2.1, K.1, K.safe hxl S⟩
  · intro _ _ _ _ ⟨v, L, h1, h2, h3, h4⟩
    exact ⟨L, _, _, h4, rfl, rfl, ⟨v, h1, h2⟩, h3⟩
  · intro m meth c A a g mk v t L k n Y hp _ _ ⟨e1, e2, ⟨v', e3, e4⟩, e5⟩
    cases e3
    subst e1 e2
    refine ⟨L, e4, rfl, rfl, rfl, (CHv.at Y hZ hEL H).trans ?_⟩
    rw [← hp.2.1]
    exact e5
def own_es (Z : State) (h : Heap) (x : Addr) : Prop := ∃ (b : Addr) (k : ClassId), Exa Z h x "java/lang/String" ∧ Fld Z h x "java/lang/String" "coder" "B" (.int 0) ∧ Fld Z h x "java/lang/String" "value" "[B" (.ref b) ∧ Arv Z h b k .byte (0 : Int32) [] (.int 0)
theorem own_EW {Z : State} {a0 : Array Value} (hw : ∀ d ∈ tables_1, d.before a0 Z = true) : EW Z a0 consts_1 := (EW.cons (hw _ (tk 78 rfl)) (by decide +kernel) (EW.cons (hw _ (tk 35 rfl)) (by decide +kernel) EW.nil))
theorem own_and255 (x : Int32) : ¬ nar .char ((x &&& (255 : Int32)).toUInt32.toUInt16.toUInt32.toInt32) < 0 ∧ ¬ (255 : Int32) < nar .char ((x &&& (255 : Int32)).toUInt32.toUInt16.toUInt32.toInt32) := by
  have t : ∀ k : Fin 256, ¬ nar .char ((Int32.ofNat k.val).toUInt32.toUInt16.toUInt32.toInt32) < 0 ∧ ¬ (255 : Int32) < nar .char ((Int32.ofNat k.val).toUInt32.toUInt16.toUInt32.toInt32) := by decide +kernel
  have h : (x &&& 255).toBitVec.toNat < 256 := by
    simp only [Int32.toBitVec_and, BitVec.toNat_and]
    exact Nat.lt_succ_of_le Nat.and_le_right
  have e : (x &&& 255) = Int32.ofNat (x &&& 255).toBitVec.toNat := by
    apply Int32.toBitVec_inj.mp
    show _ = BitVec.ofNat 32 _
    rw [BitVec.ofNat_toNat]; simp
  rw [e]
  exact t ⟨_, h⟩
def own_s (Z : State) (h : Heap) (x : Addr) (cs : List Int32) : Prop := ∃ (b : Addr) (k : ClassId), Exa Z h x "java/lang/String" ∧ Fld Z h x "java/lang/String" "coder" "B" (.int 0) ∧ Fld Z h x "java/lang/String" "value" "[B" (.ref b) ∧ Arv Z h b k .byte (Int32.ofNat cs.length) ((cs.map fun c => c.toInt8.toInt32).map Value.int) (.int 0) ∧ (∀ c ∈ cs, ¬ c < 0 ∧ ¬ (255 : Int32) < c) ∧ cs.length ≤ 4
theorem own_s_nil {Z : State} {h : Heap} {x : Addr} (F : own_es Z h x) : own_s Z h x [] := by
  obtain ⟨b, k, h1, h2, h3, h4⟩ := F
  exact ⟨b, k, h1, h2, h3, h4, fun _ q => (nomatch q), Nat.zero_le _⟩
theorem own_s_lt {Z : State} {h : Heap} {x : Addr} {cs : List Int32} (F : own_s Z h x cs) : x < h.size := by
  obtain ⟨b, k, h1, -⟩ := F
  exact h1.lt
theorem own_s_exa {Z : State} {h : Heap} {x : Addr} {cs : List Int32} (F : own_s Z h x cs) : Exa Z h x "java/lang/String" := by
  obtain ⟨b, k, h1, -⟩ := F
  exact h1
theorem own_s_keep {Z : State} {h h' : Heap} {x : Addr} {cs : List Int32} (F : own_s Z h x cs) (K : Keep h h' []) : own_s Z h' x cs := by
  obtain ⟨b, k, h1, h2, h3, h4, h5, h6⟩ := F
  exact ⟨b, k, h1.keep K, h2.keep K nin0, h3.keep K nin0, h4.keep K nin0, h5, h6⟩
theorem own_nat {j : Nat} (h : j < 2 ^ 31) : (Int32.ofNat j).toInt = j := Int32.toInt_ofNat_of_lt h
theorem own_clamp {j : Nat} (h : j < 2 ^ 31) : (Int32.ofNat j).toNatClampNeg = j := by simp only [Int32.toNatClampNeg, own_nat h]; rfl
theorem own_add {i j : Nat} : Int32.ofNat i + Int32.ofNat j = Int32.ofNat (i + j) := by
  apply Int32.toBitVec_inj.mp
  show BitVec.ofNat 32 i + BitVec.ofNat 32 j = BitVec.ofNat 32 (i + j)
  rw [BitVec.ofNat_add]
theorem own_sub {i j : Nat} (h : j ≤ i) (hi : i < 2 ^ 31) : Int32.ofNat i - Int32.ofNat j = Int32.ofNat (i - j) := by
  have e : Int32.ofNat i = Int32.ofNat (i - j) + Int32.ofNat j := by rw [own_add, Nat.sub_add_cancel h]
  rw [e]
  simp
theorem own_lt {i j : Nat} (hi : i < 2 ^ 31) (hj : j < 2 ^ 31) : Int32.ofNat i < Int32.ofNat j ↔ i < j := by rw [Int32.lt_iff_toInt_lt, own_nat hi, own_nat hj]; omega
theorem own_eq {i j : Nat} (hi : i < 2 ^ 31) (hj : j < 2 ^ 31) : Int32.ofNat i = Int32.ofNat j ↔ i = j := ⟨fun h => by have := congrArg Int32.toInt h; rw [own_nat hi, own_nat hj] at this; omega, fun h => by rw [h]⟩
theorem own_n0 {i : Nat} (hi : i < 2 ^ 31) : ¬ Int32.ofNat i < (0 : Int32) := fun h => by rw [Int32.lt_iff_toInt_lt, own_nat hi] at h; have : (0 : Int32).toInt = 0 := rfl; omega
def own_env (Z : State) (G1 : Int32) (G3 : Value) : Prop := Sta Z Z.heap "java/lang/String" "COMPACT_STRINGS" "Z" (.int G1) ∧ ¬ (G1 = (0 : Int32)) ∧ Sta Z Z.heap "jdk/internal/util/Preconditions" "SIOOBE_FORMATTER" "Ljava/util/function/BiFunction;" G3 ∧ G3.isRef = true
theorem own_up {cs : List Int32} (h : ∀ c ∈ cs, ¬ c < 0 ∧ ¬ (255 : Int32) < c) : ∀ c ∈ cs, ¬ c < 0 ∧ ¬ (65535 : Int32) < c := fun c hc => ⟨(h c hc).1, fun q => (h c hc).2 (Int32.lt_trans (by decide) q)⟩
theorem own_l4 {cs : List Int32} (h : cs.length ≤ 4) : cs.length ≤ 4000 := by omega
theorem own_in {j n : Nat} (h : j < n) (hn : n < 2 ^ 31) : ¬ (Int32.ofNat j) < (0 : Int32) ∧ (Int32.ofNat j) < (Int32.ofNat n) := ⟨own_n0 (by omega), (own_lt (by omega) hn).mpr h⟩
theorem own_succ (j : Nat) : (Int32.ofNat j) + (1 : Int32) = Int32.ofNat (j + 1) := own_add (i := j) (j := 1)
theorem own_shr0 (x : Int32) : x >>> ((0 : Int32) &&& 31) = x := by
  apply Int32.toBitVec_inj.mp
  rw [show ((0 : Int32) &&& 31) = 0 from by decide]
  simp
def own_c8 (c : Int32) : Prop := ¬ c < 0 ∧ ¬ (255 : Int32) < c
theorem own_m8 {c : Int32} (h : own_c8 c) : nar .char (((c.toInt8.toInt32) &&& (255 : Int32)).toUInt32.toUInt16.toUInt32.toInt32) = c := by
  have t : ∀ k : Fin 256, nar .char ((((Int32.ofNat k.val).toInt8.toInt32) &&& (255 : Int32)).toUInt32.toUInt16.toUInt32.toInt32) = Int32.ofNat k.val := by decide +kernel
  obtain ⟨h0, h1⟩ := h
  have q0 : 0 ≤ c.toInt := by
    have := Int32.not_lt.mp h0
    rw [Int32.le_iff_toInt_le] at this
    exact this
  have q1 : c.toInt ≤ 255 := by
    have := Int32.not_lt.mp h1
    rw [Int32.le_iff_toInt_le] at this
    exact this
  have e : c = Int32.ofNat c.toInt.toNat := by
    apply Int32.toInt_inj.mp
    rw [Int32.toInt_ofNat_of_lt (by omega)]
    omega
  rw [e]
  exact t ⟨c.toInt.toNat, by omega⟩
theorem own_nar8 {c : Int32} (h : own_c8 c) : nar .char c = c := by
  have t : ∀ k : Fin 256, nar .char (Int32.ofNat k.val) = Int32.ofNat k.val := by decide +kernel
  obtain ⟨h0, h1⟩ := h
  have q0 : 0 ≤ c.toInt := by
    have := Int32.not_lt.mp h0
    rw [Int32.le_iff_toInt_le] at this
    exact this
  have q1 : c.toInt ≤ 255 := by
    have := Int32.not_lt.mp h1
    rw [Int32.le_iff_toInt_le] at this
    exact this
  have e : c = Int32.ofNat c.toInt.toNat := by
    apply Int32.toInt_inj.mp
    rw [Int32.toInt_ofNat_of_lt (by omega)]
    omega
  rw [e]
  exact t ⟨c.toInt.toNat, by omega⟩
theorem own_lb (cs : List Int32) (i : Nat) (h : i < 2 ^ 31) : ((cs.map fun c => c.toInt8.toInt32).map Value.int).getD (Int32.ofNat i).toNatClampNeg (.int 0) = .int ((cs.getD i 0).toInt8.toInt32) := by
  rw [own_clamp h]
  simp only [List.getD_eq_getElem?_getD, List.getElem?_map]
  cases cs[i]? <;> rfl
theorem own_at8 {cs : List Int32} (hp : ∀ c ∈ cs, ¬ c < 0 ∧ ¬ (255 : Int32) < c) {i : Nat} (h : i < cs.length) : own_c8 (cs.getD i 0) := by
  have e : cs.getD i 0 = cs[i] := by simp [List.getD_eq_getElem?_getD, h]
  rw [e]
  exact hp _ (List.getElem_mem h)
theorem own_priv2 {y z x : MethodName} {C : String} {a : Array Value} {s : State} {bytes : ByteArray} {maxL : Nat} {ret : Option FieldType} (hy : y.cls ≠ "java/lang/invoke/MethodHandle" ∧ y.cls ≠ "java/lang/invoke/VarHandle") (wc : (Jvm.Cond.code y bytes maxL ret).before a s = true) (v : (Jvm.Cond.selects C x z).before a s = true) (e : z.cls = y.cls) (hp : (Jvm.Cond.privateMethod y).before a s = true) : (Jvm.Cond.selects y.cls y y).before a s = true := by
  obtain ⟨m, h1⟩ := Cond.code_named wc
  have hc := findClass_of_methodNamed h1
  have h7 := State.methodFound?_of_named h1 hy
  obtain ⟨c, r, m', g1, g2, g3, g4, mk, g5, g6⟩ := Cond.selects_spec v
  have gc := findClass_of_methodNamed g3
  rw [e] at gc
  have e2 := Option.some.inj (hc.symm.trans gc)
  rw [← e2] at g5
  obtain ⟨meth, hm⟩ : ∃ meth, s.vm.method? m = some meth := by
    cases q : s.vm.method? m with
    | some meth => exact ⟨meth, rfl⟩
    | none => simp [Cond.before, Cond.holds, Cond.value, h1, q] at hp
  have h8 := selectMethod_private (p := {}) (c := m.cls) hm (Cond.privateMethod_at hp m meth h1 hm)
  simp [Cond.before, Cond.holds, Cond.value, hc, h7, h1, h8, g5, g6]
def own_mx (a b : Int32) : Int32 := if a < b then b else a
def own_mn (p q : Int64) : Int64 := if (0 : Int32) < lcmpW p q then q else p
def own_mxl (p q : Int64) : Int64 := if lcmpW p q < (0 : Int32) then q else p
def own_q (x : Nat) : List Int32 := List.replicate x 32 ++ [81]
def own_row (x : Nat) : List Value := (own_q x).map Value.int
theorem own_ql (x : Nat) : (own_q x).length = x + 1 := by simp [own_q]
theorem own_qx (x : Nat) : (own_q x).getD x 0 = 81 := by simp [own_q, List.getD_eq_getElem?_getD]
theorem own_rx (x : Nat) (h : x < 2 ^ 31) : (own_row x).getD (Int32.ofNat x).toNatClampNeg (Value.int (0 : Int32)) = .int (81 : Int32) := by rw [own_clamp h]; simp [own_row, own_q, List.getD_eq_getElem?_getD]
theorem own_setq (x : Nat) : ((List.replicate (x + 1) (Value.int (32 : Int32))) : List Value).set x (Value.int (81 : Int32)) = own_row x := by
  rw [List.replicate_succ', List.set_append_right _ _ (by simp)]
  simp [own_row, own_q]
theorem own_seti (i : Nat) : ((List.replicate i (Value.int (32 : Int32)) : List Value) ++ List.replicate 1 (Value.int (0 : Int32))).set i (Value.int (32 : Int32)) = List.replicate (i + 1) (Value.int (32 : Int32)) := by
  have e : List.replicate (i + 1) (Value.int (32 : Int32)) = List.replicate i (Value.int (32 : Int32)) ++ [Value.int (32 : Int32)] := List.replicate_succ'
  rw [e, List.set_append_right _ _ (by simp), List.length_replicate, Nat.sub_self]
  rfl
theorem own_mxn {n : Nat} (h : n ≤ 4) : own_mxl ((Int32.ofNat n).toInt64) (0 : Int64) = (Int32.ofNat n).toInt64 := by
  have t : ∀ n : Fin 5, own_mxl ((Int32.ofNat n.val).toInt64) (0 : Int64) = (Int32.ofNat n.val).toInt64 := by decide +kernel
  exact t ⟨n, by omega⟩
theorem own_mn4 {n : Nat} (h : n ≤ 4) : own_mn (4 : Int64) ((Int32.ofNat n).toInt64) = (Int32.ofNat n).toInt64 := by
  have t : ∀ n : Fin 5, own_mn (4 : Int64) ((Int32.ofNat n.val).toInt64) = (Int32.ofNat n.val).toInt64 := by decide +kernel
  exact t ⟨n, by omega⟩
theorem own_l2i {n : Nat} (h : n ≤ 4) : ((Int32.ofNat n).toInt64).toInt32 = Int32.ofNat n := by
  have t : ∀ n : Fin 5, ((Int32.ofNat n.val).toInt64).toInt32 = Int32.ofNat n.val := by decide +kernel
  exact t ⟨n, by omega⟩
theorem own_end {x : Nat} (h : x < 4) : (Int32.ofNat x).toInt64 + (1 : Int64) = (Int32.ofNat (x + 1)).toInt64 := by
  have t : ∀ x : Fin 4, (Int32.ofNat x.val).toInt64 + (1 : Int64) = (Int32.ofNat (x.val + 1)).toInt64 := by decide +kernel
  exact t ⟨x, h⟩
theorem own_cap {n : Nat} (h : n ≤ 4) : (Int32.ofNat n).toNatClampNeg ≤ 4 := by rw [own_clamp (by omega)]; exact h
theorem own_or {n : Nat} (h : n ≤ 4) : ¬ (((Int32.ofNat n) ||| (0 : Int32)) ||| (Int32.ofNat n)) < (0 : Int32) := by
  have t : ∀ n : Fin 5, ¬ (((Int32.ofNat n.val) ||| (0 : Int32)) ||| (Int32.ofNat n.val)) < (0 : Int32) := by decide +kernel
  exact t ⟨n, by omega⟩
theorem own_s0 (n : Nat) : (Int32.ofNat n) - (0 : Int32) = Int32.ofNat n := Int32.sub_zero _
theorem own_b8 {c : Int32} (h : own_c8 c) : nar .byte (c.toInt8.toInt32) = c.toInt8.toInt32 := by
  have t : ∀ k : Fin 256, nar .byte ((Int32.ofNat k.val).toInt8.toInt32) = (Int32.ofNat k.val).toInt8.toInt32 := by decide +kernel
  obtain ⟨h0, h1⟩ := h
  have q0 : 0 ≤ c.toInt := by
    have := Int32.not_lt.mp h0
    rw [Int32.le_iff_toInt_le] at this
    exact this
  have q1 : c.toInt ≤ 255 := by
    have := Int32.not_lt.mp h1
    rw [Int32.le_iff_toInt_le] at this
    exact this
  have e : c = Int32.ofNat c.toInt.toNat := by
    apply Int32.toInt_inj.mp
    rw [Int32.toInt_ofNat_of_lt (by omega)]
    omega
  rw [e]
  exact t ⟨c.toInt.toNat, by omega⟩
def own_by (cs : List Int32) : List Value := (cs.map fun c => c.toInt8.toInt32).map Value.int
theorem own_by_len (cs : List Int32) : (own_by cs).length = cs.length := by simp [own_by]
theorem own_by1 (cs : List Int32) (i : Nat) (h : i < cs.length) : (own_by (cs.take i) ++ List.replicate 1 (Value.int (0 : Int32))).set i (Value.int ((cs.getD i 0).toInt8.toInt32)) = own_by (cs.take (i + 1)) := by
  have hl : (own_by (cs.take i)).length = i := by rw [own_by_len, List.length_take]; omega
  have e : cs.take (i + 1) = cs.take i ++ [cs.getD i 0] := by
    rw [List.take_add_one]
    simp [List.getD_eq_getElem?_getD, h]
  rw [List.set_append_right _ _ (by omega), hl, Nat.sub_self, e]
  simp only [own_by, List.map_append, List.map_cons, List.map_nil]
  rfl
theorem own_ia (cs : List Int32) (i : Nat) (h : i < 2 ^ 31) : (cs.map Value.int).getD (Int32.ofNat i).toNatClampNeg (Value.int (0 : Int32)) = .int (cs.getD i 0) := by
  rw [own_clamp h]
  simp only [List.getD_eq_getElem?_getD, List.getElem?_map]
  cases cs[i]? <;> rfl
theorem own_sh31 (n : Nat) : ((((Int32.ofNat n) - (Int32.ofNat n)).toUInt32 >>> ((31 : Int32) &&& 31).toUInt32).toInt32).toInt8.toInt32 = (0 : Int32) := by
  rw [Int32.sub_self]; decide
theorem own_nul {y : Nat} (h : y < 3) : ([.null, .null, .null] : List Value).getD (Int32.ofNat y).toNatClampNeg .null = .null := by
  rw [own_clamp (by omega)]
  match y, h with
  | 0, _ => rfl
  | 1, _ => rfl
  | 2, _ => rfl
theorem own_in3 {y : Nat} (h : y < 3) : ¬ (Int32.ofNat y) < (0 : Int32) ∧ (Int32.ofNat y) < (3 : Int32) := own_in (n := 3) h (by omega)
theorem own_lo {a b : Nat} (ha : a ≤ 4) (hb : b ≤ 4) (h : ¬ (a < b)) : ¬ (Int32.ofNat a < Int32.ofNat b) := fun q => h ((own_lt (by omega) (by omega)).mp q)
theorem own_mxx {x l : Nat} (hx : x ≤ 4) (hl : l ≤ 4) (h : l ≤ x) : own_mx (Int32.ofNat x) (Int32.ofNat l) = Int32.ofNat x := if_neg (own_lo hx hl (by omega))
theorem own_mnn {x r : Nat} (hr : r ≤ 4) (hx : x < 4) (h : x < r) : own_mn ((Int32.ofNat r).toInt64) ((Int32.ofNat (x + 1)).toInt64) = (Int32.ofNat (x + 1)).toInt64 := by
  have t : ∀ (r : Fin 5) (x : Fin 4), x.val < r.val → own_mn ((Int32.ofNat r.val).toInt64) ((Int32.ofNat (x.val + 1)).toInt64) = (Int32.ofNat (x.val + 1)).toInt64 := by decide +kernel
  exact t ⟨r, by omega⟩ ⟨x, hx⟩ h
theorem own_outC {x l r : Nat} (hx : x ≤ 3) (hl : l ≤ 4) (hr : r ≤ 4) (h : ¬ (l ≤ x ∧ x < r)) : ¬ ((own_mx (Int32.ofNat x) (Int32.ofNat l)) < ((own_mn ((Int32.ofNat r).toInt64) (((Int32.ofNat x).toInt64) + (1 : Int64))).toInt32)) := by
  have t : ∀ (x : Fin 4) (l r : Fin 5), ¬ (l.val ≤ x.val ∧ x.val < r.val) → ¬ ((own_mx (Int32.ofNat x.val) (Int32.ofNat l.val)) < ((own_mn ((Int32.ofNat r.val).toInt64) (((Int32.ofNat x.val).toInt64) + (1 : Int64))).toInt32)) := by decide +kernel
  exact t ⟨x, by omega⟩ ⟨l, by omega⟩ ⟨r, by omega⟩ h
theorem own_b81 : Jvm.Lit.byteI 81 = (81 : Int32).toInt8.toInt32 := by decide
theorem own_hq : ∀ c ∈ ([81] : List Int32), ¬ c < 0 ∧ ¬ (255 : Int32) < c := by intro c hc; simp only [List.mem_cons, List.not_mem_nil, or_false] at hc; subst hc; decide
theorem own_hqx (x : Nat) : ∀ c ∈ own_q x, ¬ c < 0 ∧ ¬ (255 : Int32) < c := by
  intro c hc
  simp only [own_q, List.mem_append, List.mem_replicate, List.mem_cons, List.not_mem_nil, or_false] at hc
  rcases hc with ⟨-, rfl⟩ | rfl <;> decide
def own_Q (Z : State) (r : Option Value) (h0 : Heap) (n0 : Nat) (v : Option Value) (h : Heap) (L : List Loc) : Prop := v = r ∧ Fr n0 L ∧ h = h0
theorem d19_0 : decode jdk_42_method_152_code 0 = .ok (.getstatic 38, 3) := by decide +kernel
theorem d19_3 : decode jdk_42_method_152_code 3 = .ok (.ifCond .eq 10, 3) := by decide +kernel
theorem d19_6 : decode jdk_42_method_152_code 6 = .ok (.aload_n 0, 1) := by decide +kernel
theorem d19_7 : decode jdk_42_method_152_code 7 = .ok (.getfield 15, 3) := by decide +kernel
theorem d19_10 : decode jdk_42_method_152_code 10 = .ok (.goto 4, 3) := by decide +kernel
theorem d19_14 : decode jdk_42_method_152_code 14 = .ok (.ireturn, 1) := by decide +kernel
theorem pn_19 : plainName "java/lang/String" = true := by first | (simp [plainName, overriddenIn]; done) | decide +kernel
theorem ef_19_r (m : MethodId) (x0 : Addr) : entryFrame m #[(.ref x0)] 1 = mkF m 0 #[.val (.ref x0)] [] := by first | (simp [entryFrame, mkF, argsToLocals, Value.category]; done) | rfl
theorem rmCO (l : Launch) (Z : State) (a0 : Array Value) (hw : ∀ d ∈ tables_1, d.before a0 Z = true) (ws : List Jvm.Cond) (G1 : Int32) (G3 : Value) (x : Addr) (h0 : Heap) (n0 : Nat) (Z0 : n0 ≤ h0.size) (EN : own_env Z G1 G3) (X00 : Old Z n0 h0) (F_coder_x : Fld Z h0 x "java/lang/String" "coder" "B" (.int 0)) :
    MetFree l y_0 (head1 (Jvm.Cond.code y_0 jdk_42_method_152_code 1 (some .byte) :: ws) ({ frames := 0, cells := 0, slots := 0, locals := 0 } : Room)) (fun a_ U_ => a_ = #[(.ref x)] ∧ Z.Warmed39 U_.vm ∧ U_.heap = h0) (fun _ _ _ _ _ => True) (fun _ U_ o_ U1_ => ∃ v_ L_, o_ = .returned v_ ∧ own_Q Z (some (.int 0)) h0 n0 v_ U1_.heap L_ ∧ FrameEnd U_ o_ U1_ L_ ({ frames := 0, cells := 0, slots := 0, locals := 0 } : Room).cells ({ frames := 0, cells := 0, slots := 0, locals := 0 } : Room).slots) := by
  refine MetFree.of_bodySF (plainFor_of_name pn_19) hisR ?_
  intro p e s m args below meth c s₁ Bd hml0 hP hK
  obtain ⟨rfl, hZ, hh⟩ := hP
  have hx := Bd.exec
  have hby := Bd.bytes
  have hml : c.maxLocals = 1 := hml0
  have hown : s.vm.findClass "java/lang/String" = some m.cls := findClass_of_methodNamed Bd.named
  have hnm := (name_of_methodNamed Bd.named Bd.method).1
  have X0 : Stand p l e ({ frames := 0, cells := 0, slots := 0, locals := 0 } : Room) s m #[(.ref x)] below meth c s₁ [] 0 0 := Stand.of_body Bd
  have e0 : s₁.heap = h0 := by rw [← hh, Bd.state]; rfl
  have N0 := Fr.nil n0
  have pre0 : ∀ tt, Steps p.tables e below (s₁.setTop (mkF m 0 #[.val (.ref x)] [])) tt → Steps p.tables e below (s₁.setTop (entryFrame m #[(.ref x)] 1)) tt := fun tt kk => castTop (ef_19_r m x) kk
  have EN0 := EN
  obtain ⟨O2, P5, O4, rG3⟩ := EN
  obtain ⟨T1, X1, e1, st1⟩ := getS2 X0 hx hZ hown (host := "") (Or.inl (hw _ (tk 144 rfl))) Via.refl e0 (Sta.ext X00.2 O2) (g := (mkF m 0 #[.val (.ref x)] [])) rfl (hb hby d19_0)
  obtain ⟨T2, X2, e2, st2⟩ := getF X1 hx hZ hown (host := "") (Or.inl (hw _ (tk 145 rfl))) Via.refl e1 F_coder_x (g := (mkF m 7 #[.val (.ref x)] [(.ref x)])) rfl rfl (hb hby d19_7)
  obtain ⟨fs, hr, hrun, hended, hW, hsame⟩ := X2.leave (v := some (.int 0)) (fun h => by rw [Bd.returns] at h; cases h)
  refine ⟨_, _, pre0 _ ?_, hrun, hended, _, _, rfl, ?_, ⟨_, rfl⟩, hW, hsame.mono (by decide) (by decide)⟩
  · show Steps _ _ _ (s₁.setTop (mkF m 0 #[.val (.ref x)] [])) _
    refine st1 _ ?_
    show Steps _ _ _ (T1.setTop (mkF m 3 #[.val (.ref x)] [(.int G1)])) _
    refine XS.ifNo X1.here hx rfl (hb hby d19_3) rfl ((if0 _ _).trans (feq P5).1) ?_
    refine XS.aloadN X1.here hx rfl (hb hby d19_6) rfl rfl ?_
    show Steps _ _ _ (T1.setTop (mkF m 7 #[.val (.ref x)] [(.ref x)])) _
    refine st2 _ ?_
    show Steps _ _ _ (T2.setTop (mkF m 10 #[.val (.ref x)] [(.int 0)])) _
    refine XS.goto X2.here hx rfl (pc0 := 10) (pc' := 14) rfl (hb hby d19_10) (by decide) (by decide) ?_
    show Steps _ _ _ (T2.setTop (mkF m 14 #[.val (.ref x)] [(.int 0)])) _
    exact retN X2 hx (t := .byte) Bd.returns (by simp) (hb hby d19_14) hr
  · show own_Q Z (some (.int 0)) h0 n0 _ T2.heap _
    rw [e2]
    exact ⟨rfl, N0, rfl⟩
theorem d24_0 : decode jdk_42_method_154_code 0 = .ok (.getstatic 38, 3) := by decide +kernel
theorem d24_3 : decode jdk_42_method_154_code 3 = .ok (.ifCond .eq 14, 3) := by decide +kernel
theorem d24_6 : decode jdk_42_method_154_code 6 = .ok (.aload_n 0, 1) := by decide +kernel
theorem d24_7 : decode jdk_42_method_154_code 7 = .ok (.getfield 15, 3) := by decide +kernel
theorem d24_10 : decode jdk_42_method_154_code 10 = .ok (.ifCond .ne 7, 3) := by decide +kernel
theorem d24_13 : decode jdk_42_method_154_code 13 = .ok (.iconst 1, 1) := by decide +kernel
theorem d24_14 : decode jdk_42_method_154_code 14 = .ok (.goto 4, 3) := by decide +kernel
theorem d24_18 : decode jdk_42_method_154_code 18 = .ok (.ireturn, 1) := by decide +kernel
theorem pn_24 : plainName "java/lang/String" = true := by first | (simp [plainName, overriddenIn]; done) | decide +kernel
theorem ef_24_r (m : MethodId) (x0 : Addr) : entryFrame m #[(.ref x0)] 1 = mkF m 0 #[.val (.ref x0)] [] := by first | (simp [entryFrame, mkF, argsToLocals, Value.category]; done) | rfl
theorem rmLA (l : Launch) (Z : State) (a0 : Array Value) (hw : ∀ d ∈ tables_1, d.before a0 Z = true) (ws : List Jvm.Cond) (G1 : Int32) (G3 : Value) (x : Addr) (h0 : Heap) (n0 : Nat) (Z0 : n0 ≤ h0.size) (EN : own_env Z G1 G3) (X00 : Old Z n0 h0) (F_coder_x : Fld Z h0 x "java/lang/String" "coder" "B" (.int 0)) :
    MetFree l y_1 (head1 (Jvm.Cond.code y_1 jdk_42_method_154_code 1 (some .boolean) :: ws) ({ frames := 0, cells := 0, slots := 0, locals := 0 } : Room)) (fun a_ U_ => a_ = #[(.ref x)] ∧ Z.Warmed39 U_.vm ∧ U_.heap = h0) (fun _ _ _ _ _ => True) (fun _ U_ o_ U1_ => ∃ v_ L_, o_ = .returned v_ ∧ own_Q Z (some (.int 1)) h0 n0 v_ U1_.heap L_ ∧ FrameEnd U_ o_ U1_ L_ ({ frames := 0, cells := 0, slots := 0, locals := 0 } : Room).cells ({ frames := 0, cells := 0, slots := 0, locals := 0 } : Room).slots) := by
  refine MetFree.of_bodySF (plainFor_of_name pn_24) hisR ?_
  intro p e s m args below meth c s₁ Bd hml0 hP hK
  obtain ⟨rfl, hZ, hh⟩ := hP
  have hx := Bd.exec
  have hby := Bd.bytes
  have hml : c.maxLocals = 1 := hml0
  have hown : s.vm.findClass "java/lang/String" = some m.cls := findClass_of_methodNamed Bd.named
  have hnm := (name_of_methodNamed Bd.named Bd.method).1
  have X0 : Stand p l e ({ frames := 0, cells := 0, slots := 0, locals := 0 } : Room) s m #[(.ref x)] below meth c s₁ [] 0 0 := Stand.of_body Bd
  have e0 : s₁.heap = h0 := by rw [← hh, Bd.state]; rfl
  have N0 := Fr.nil n0
  have pre0 : ∀ tt, Steps p.tables e below (s₁.setTop (mkF m 0 #[.val (.ref x)] [])) tt → Steps p.tables e below (s₁.setTop (entryFrame m #[(.ref x)] 1)) tt := fun tt kk => castTop (ef_24_r m x) kk
  have EN0 := EN
  obtain ⟨O2, P5, O4, rG3⟩ := EN
  obtain ⟨T1, X1, e1, st1⟩ := getS2 X0 hx hZ hown (host := "") (Or.inl (hw _ (tk 144 rfl))) Via.refl e0 (Sta.ext X00.2 O2) (g := (mkF m 0 #[.val (.ref x)] [])) rfl (hb hby d24_0)
  obtain ⟨T2, X2, e2, st2⟩ := getF X1 hx hZ hown (host := "") (Or.inl (hw _ (tk 145 rfl))) Via.refl e1 F_coder_x (g := (mkF m 7 #[.val (.ref x)] [(.ref x)])) rfl rfl (hb hby d24_7)
  obtain ⟨fs, hr, hrun, hended, hW, hsame⟩ := X2.leave (v := some (.int 1)) (fun h => by rw [Bd.returns] at h; cases h)
  refine ⟨_, _, pre0 _ ?_, hrun, hended, _, _, rfl, ?_, ⟨_, rfl⟩, hW, hsame.mono (by decide) (by decide)⟩
  · show Steps _ _ _ (s₁.setTop (mkF m 0 #[.val (.ref x)] [])) _
    refine st1 _ ?_
    show Steps _ _ _ (T1.setTop (mkF m 3 #[.val (.ref x)] [(.int G1)])) _
    refine XS.ifNo X1.here hx rfl (hb hby d24_3) rfl ((if0 _ _).trans (feq P5).1) ?_
    refine XS.aloadN X1.here hx rfl (hb hby d24_6) rfl rfl ?_
    show Steps _ _ _ (T1.setTop (mkF m 7 #[.val (.ref x)] [(.ref x)])) _
    refine st2 _ ?_
    show Steps _ _ _ (T2.setTop (mkF m 10 #[.val (.ref x)] [(.int 0)])) _
    refine XS.ifNo X2.here hx rfl (hb hby d24_10) rfl ((if0 _ _).trans (teq (by decide : (0 : Int32) = (0 : Int32))).2) ?_
    refine XS.iconst X2.here hx rfl (hb hby d24_13) ?_
    refine XS.goto X2.here hx rfl (pc0 := 14) (pc' := 18) rfl (hb hby d24_14) (by decide) (by decide) ?_
    show Steps _ _ _ (T2.setTop (mkF m 18 #[.val (.ref x)] [(.int 1)])) _
    exact retN X2 hx (t := .boolean) Bd.returns (by simp) (hb hby d24_18) hr
  · show own_Q Z (some (.int 1)) h0 n0 _ T2.heap _
    rw [e2]
    exact ⟨rfl, N0, rfl⟩
theorem d18_0 : decode jdk_42_method_54_code 0 = .ok (.aload_n 0, 1) := by decide +kernel
theorem d18_1 : decode jdk_42_method_54_code 1 = .ok (.getfield 9, 3) := by decide +kernel
theorem d18_4 : decode jdk_42_method_54_code 4 = .ok (.arraylength, 1) := by decide +kernel
theorem d18_5 : decode jdk_42_method_54_code 5 = .ok (.aload_n 0, 1) := by decide +kernel
theorem pd___B : parseMethodDescriptor "()B" = some ⟨[], some .byte⟩ := by decide +kernel
theorem d18_6 : decode jdk_42_method_54_code 6 = .ok (.invokevirtual 335, 3) := by decide +kernel
theorem d18_9 : decode jdk_42_method_54_code 9 = .ok (.ishr, 1) := by decide +kernel
theorem d18_10 : decode jdk_42_method_54_code 10 = .ok (.ireturn, 1) := by decide +kernel
theorem pn_18 : plainName "java/lang/String" = true := by first | (simp [plainName, overriddenIn]; done) | decide +kernel
theorem ef_18_r (m : MethodId) (x0 : Addr) : entryFrame m #[(.ref x0)] 1 = mkF m 0 #[.val (.ref x0)] [] := by first | (simp [entryFrame, mkF, argsToLocals, Value.category]; done) | rfl
theorem rmLN (l : Launch) (Z : State) (a0 : Array Value) (hw : ∀ d ∈ tables_1, d.before a0 Z = true) (ws : List Jvm.Cond) (G1 : Int32) (G3 : Value) (x : Addr) (cs : List Int32) (h0 : Heap) (n0 : Nat) (Z0 : n0 ≤ h0.size) (EN : own_env Z G1 G3) (X00 : Old Z n0 h0) (S_x : own_s Z h0 x cs) :
    MetFree l y_2 (head1 (Jvm.Cond.code y_2 jdk_42_method_54_code 1 (some .int) :: ws) ({ frames := 1, cells := 0, slots := 0, locals := 13 } : Room)) (fun a_ U_ => a_ = #[(.ref x)] ∧ Z.Warmed39 U_.vm ∧ U_.heap = h0) (fun _ _ _ _ _ => True) (fun _ U_ o_ U1_ => ∃ v_ L_, o_ = .returned v_ ∧ own_Q Z (some (.int (Int32.ofNat cs.length))) h0 n0 v_ U1_.heap L_ ∧ FrameEnd U_ o_ U1_ L_ ({ frames := 1, cells := 0, slots := 0, locals := 13 } : Room).cells ({ frames := 1, cells := 0, slots := 0, locals := 13 } : Room).slots) := by
  refine MetFree.of_bodySF (plainFor_of_name pn_18) hisR ?_
  intro p e s m args below meth c s₁ Bd hml0 hP hK
  obtain ⟨rfl, hZ, hh⟩ := hP
  have hx := Bd.exec
  have hby := Bd.bytes
  have hml : c.maxLocals = 1 := hml0
  have hown : s.vm.findClass "java/lang/String" = some m.cls := findClass_of_methodNamed Bd.named
  have hnm := (name_of_methodNamed Bd.named Bd.method).1
  have X0 : Stand p l e ({ frames := 1, cells := 0, slots := 0, locals := 13 } : Room) s m #[(.ref x)] below meth c s₁ [] 0 0 := Stand.of_body Bd
  have e0 : s₁.heap = h0 := by rw [← hh, Bd.state]; rfl
  have N0 := Fr.nil n0
  have pre0 : ∀ tt, Steps p.tables e below (s₁.setTop (mkF m 0 #[.val (.ref x)] [])) tt → Steps p.tables e below (s₁.setTop (entryFrame m #[(.ref x)] 1)) tt := fun tt kk => castTop (ef_18_r m x) kk
  have EN0 := EN
  obtain ⟨O2, P5, O4, rG3⟩ := EN
  obtain ⟨b_x, k_x, E_x, C_x, V_x, K_x, hp_x, hl_x⟩ := id S_x
  obtain ⟨T1, X1, e1, st1⟩ := getF X0 hx hZ hown (host := "") (Or.inl (hw _ (tk 138 rfl))) Via.refl e0 V_x (g := (mkF m 1 #[.val (.ref x)] [(.ref x)])) rfl rfl (hb hby d18_1)
  obtain ⟨c2, Ar2, -, S2, M2, -, -⟩ := id K_x
  obtain ⟨cq3, kq3, q3a, q3b, q3c⟩ := isOf hZ e1 E_x
  obtain ⟨_, _, ⟨T3, L3, k3, n3⟩, -, X3, ⟨Lc3, hQ3, l3, y3, z3⟩, st3⟩ := X1.virtualBack hx (y := y_0) (z := y_0) hown (mvT hZ (hw _ (tk 139 rfl))) (mvT hZ (hw _ (tk 140 rfl))) (notFace_of_selects (args := #[]) (mvT hZ (hw _ (tk 142 rfl)))) (mvT hZ (hw _ (tk 142 rfl))) (mvT hZ (hw _ (tk 141 rfl))) (by decide) (backOf (W := 1) (rmCO l Z a0 hw [] G1 G3 x h0 n0 Z0 EN0 X00 C_x) hZ (hw _ (tk 143 rfl)) (hw _ (tk 36 rfl)) (by decide) (by decide)) q3a q3c (g := (mkF m 6 #[.val (.ref x)] [(.ref x), (.int (Int32.ofNat cs.length))])) rfl (by rw [hml]; rfl) (Steps.refl _) (argsL := []) (rest := [(.int (Int32.ofNat cs.length))]) (lenOf pd___B rfl) rfl (by show 2 * 0 + _ ≤ _; exact Nat.le_of_eq rfl) (hb hby d18_6) (fun _ _ => ⟨rfl, e1, (by decide : 0 + 0 ≤ _), (by decide : 0 + 0 ≤ _)⟩)
  dsimp only [Pt.U, Pt.locs, Pt.cells, Pt.slots] at X3 l3 y3 z3 st3 hQ3
  subst l3 y3 z3
  obtain ⟨rfl, Nq3, eq3⟩ := hQ3
  have N3 := Fr.app N0 Nq3
  obtain ⟨fs, hr, hrun, hended, hW, hsame⟩ := X3.leave (v := some (.int (Int32.ofNat cs.length))) (fun h => by rw [Bd.returns] at h; cases h)
  refine ⟨_, _, pre0 _ ?_, hrun, hended, _, _, rfl, ?_, ⟨_, rfl⟩, hW, hsame.mono (by decide) (by decide)⟩
  · show Steps _ _ _ (s₁.setTop (mkF m 0 #[.val (.ref x)] [])) _
    refine XS.aloadN X0.here hx rfl (hb hby d18_0) rfl rfl ?_
    show Steps _ _ _ (s₁.setTop (mkF m 1 #[.val (.ref x)] [(.ref x)])) _
    refine st1 _ ?_
    show Steps _ _ _ (T1.setTop (mkF m 4 #[.val (.ref x)] [(.ref b_x)])) _
    refine X1.arraylength hx (by rw [e1]; exact Ar2.1) (State.isArrayOf_alike hZ.alike Ar2.2.1) (g := (mkF m 4 #[.val (.ref x)] [(.ref b_x)])) rfl rfl (hb hby d18_4) _ ?_
    rw [len_of S2 M2]
    show Steps _ _ _ (T1.setTop (mkF m 5 #[.val (.ref x)] [(.int (Int32.ofNat cs.length))])) _
    refine XS.aloadN X1.here hx rfl (hb hby d18_5) rfl rfl ?_
    show Steps _ _ _ (T1.setTop (mkF m 6 #[.val (.ref x)] [(.ref x), (.int (Int32.ofNat cs.length))])) _
    refine st3.trans ?_
    show Steps _ _ _ (T3.setTop (mkF m 9 #[.val (.ref x)] [(.int 0), (.int (Int32.ofNat cs.length))])) _
    refine XS.ishr X3.here hx rfl (hb hby d18_9) rfl ?_
    show Steps _ _ _ (T3.setTop (mkF m 10 #[.val (.ref x)] [(.int ((Int32.ofNat cs.length) >>> ((0 : Int32) &&& 31)))])) _
    rw [(own_shr0 (Int32.ofNat cs.length))]
    show Steps _ _ _ (T3.setTop (mkF m 10 #[.val (.ref x)] [(.int (Int32.ofNat cs.length))])) _
    exact retI X3 hx Bd.returns (hb hby d18_10) hr
  · show own_Q Z (some (.int (Int32.ofNat cs.length))) h0 n0 _ T3.heap _
    rw [eq3]
    exact ⟨rfl, N3, rfl⟩
theorem d20_0 : decode jdk_29_method_65_code 0 = .ok (.iload_n 0, 1) := by decide +kernel
theorem d20_1 : decode jdk_29_method_65_code 1 = .ok (.iload_n 1, 1) := by decide +kernel
theorem d20_2 : decode jdk_29_method_65_code 2 = .ok (.if_icmp .lt 7, 3) := by decide +kernel
theorem d20_5 : decode jdk_29_method_65_code 5 = .ok (.iload_n 0, 1) := by decide +kernel
theorem d20_6 : decode jdk_29_method_65_code 6 = .ok (.goto 4, 3) := by decide +kernel
theorem d20_10 : decode jdk_29_method_65_code 10 = .ok (.ireturn, 1) := by decide +kernel
theorem d20_9 : decode jdk_29_method_65_code 9 = .ok (.iload_n 1, 1) := by decide +kernel
theorem ef_20_rr (m : MethodId) (x0 : Int32) (x1 : Int32) : entryFrame m #[(.int x0), (.int x1)] 2 = mkF m 0 #[.val (.int x0), .val (.int x1)] [] := by first | (simp [entryFrame, mkF, argsToLocals, Value.category]; done) | rfl
theorem rmMX_0 (l : Launch) (Z : State) (a0 : Array Value) (hw : ∀ d ∈ tables_1, d.before a0 Z = true) (ws : List Jvm.Cond) (p1 : Int32) (p2 : Int32) (h0 : Heap) (n0 : Nat) (Z0 : n0 ≤ h0.size) (hc2 : ¬ (p1 < p2)) :
    MetFree l y_3 (head1 (Jvm.Cond.code y_3 jdk_29_method_65_code 2 (some .int) :: ws) ({ frames := 0, cells := 0, slots := 0, locals := 0 } : Room)) (fun a_ U_ => a_ = #[(.int p1), (.int p2)] ∧ Z.Warmed39 U_.vm ∧ U_.heap = h0) (fun _ _ _ _ _ => True) (fun _ U_ o_ U1_ => ∃ v_ L_, o_ = .returned v_ ∧ own_Q Z (some (.int (own_mx p1 p2))) h0 n0 v_ U1_.heap L_ ∧ FrameEnd U_ o_ U1_ L_ ({ frames := 0, cells := 0, slots := 0, locals := 0 } : Room).cells ({ frames := 0, cells := 0, slots := 0, locals := 0 } : Room).slots) := by
  refine MetFree.of_bodySF (Jvm.Free.JP.mathPlain rfl (by decide +kernel)) hisR ?_
  intro p e s m args below meth c s₁ Bd hml0 hP hK
  obtain ⟨rfl, hZ, hh⟩ := hP
  have hx := Bd.exec
  have hby := Bd.bytes
  have hml : c.maxLocals = 2 := hml0
  have hown : s.vm.findClass "java/lang/Math" = some m.cls := findClass_of_methodNamed Bd.named
  have hnm := (name_of_methodNamed Bd.named Bd.method).1
  have X0 : Stand p l e ({ frames := 0, cells := 0, slots := 0, locals := 0 } : Room) s m #[(.int p1), (.int p2)] below meth c s₁ [] 0 0 := Stand.of_body Bd
  have e0 : s₁.heap = h0 := by rw [← hh, Bd.state]; rfl
  have N0 := Fr.nil n0
  have pre0 : ∀ tt, Steps p.tables e below (s₁.setTop (mkF m 0 #[.val (.int p1), .val (.int p2)] [])) tt → Steps p.tables e below (s₁.setTop (entryFrame m #[(.int p1), (.int p2)] 2)) tt := fun tt kk => castTop (ef_20_rr m p1 p2) kk
  obtain ⟨fs, hr, hrun, hended, hW, hsame⟩ := X0.leave (v := some (.int p1)) (fun h => by rw [Bd.returns] at h; cases h)
  refine ⟨_, _, pre0 _ ?_, hrun, hended, _, _, rfl, ?_, ⟨_, rfl⟩, hW, hsame.mono (by decide) (by decide)⟩
  · show Steps _ _ _ (s₁.setTop (mkF m 0 #[.val (.int p1), .val (.int p2)] [])) _
    refine XS.iloadN X0.here hx rfl (hb hby d20_0) rfl ?_
    refine XS.iloadN X0.here hx rfl (hb hby d20_1) rfl ?_
    refine XS.icmpNo X0.here hx rfl (hb hby d20_2) rfl (flt hc2).1 ?_
    refine XS.iloadN X0.here hx rfl (hb hby d20_5) rfl ?_
    refine XS.goto X0.here hx rfl (pc0 := 6) (pc' := 10) rfl (hb hby d20_6) (by decide) (by decide) ?_
    show Steps _ _ _ (s₁.setTop (mkF m 10 #[.val (.int p1), .val (.int p2)] [(.int p1)])) _
    exact retI X0 hx Bd.returns (hb hby d20_10) hr
  · show own_Q Z (some (.int (own_mx p1 p2))) h0 n0 _ s₁.heap _
    rw [e0]
    exact ⟨by rw [own_mx, if_neg hc2], N0, rfl⟩
theorem rmMX_1 (l : Launch) (Z : State) (a0 : Array Value) (hw : ∀ d ∈ tables_1, d.before a0 Z = true) (ws : List Jvm.Cond) (p1 : Int32) (p2 : Int32) (h0 : Heap) (n0 : Nat) (Z0 : n0 ≤ h0.size) (hc2 : p1 < p2) :
    MetFree l y_3 (head1 (Jvm.Cond.code y_3 jdk_29_method_65_code 2 (some .int) :: ws) ({ frames := 0, cells := 0, slots := 0, locals := 0 } : Room)) (fun a_ U_ => a_ = #[(.int p1), (.int p2)] ∧ Z.Warmed39 U_.vm ∧ U_.heap = h0) (fun _ _ _ _ _ => True) (fun _ U_ o_ U1_ => ∃ v_ L_, o_ = .returned v_ ∧ own_Q Z (some (.int (own_mx p1 p2))) h0 n0 v_ U1_.heap L_ ∧ FrameEnd U_ o_ U1_ L_ ({ frames := 0, cells := 0, slots := 0, locals := 0 } : Room).cells ({ frames := 0, cells := 0, slots := 0, locals := 0 } : Room).slots) := by
  refine MetFree.of_bodySF (Jvm.Free.JP.mathPlain rfl (by decide +kernel)) hisR ?_
  intro p e s m args below meth c s₁ Bd hml0 hP hK
  obtain ⟨rfl, hZ, hh⟩ := hP
  have hx := Bd.exec
  have hby := Bd.bytes
  have hml : c.maxLocals = 2 := hml0
  have hown : s.vm.findClass "java/lang/Math" = some m.cls := findClass_of_methodNamed Bd.named
  have hnm := (name_of_methodNamed Bd.named Bd.method).1
  have X0 : Stand p l e ({ frames := 0, cells := 0, slots := 0, locals := 0 } : Room) s m #[(.int p1), (.int p2)] below meth c s₁ [] 0 0 := Stand.of_body Bd
  have e0 : s₁.heap = h0 := by rw [← hh, Bd.state]; rfl
  have N0 := Fr.nil n0
  have pre0 : ∀ tt, Steps p.tables e below (s₁.setTop (mkF m 0 #[.val (.int p1), .val (.int p2)] [])) tt → Steps p.tables e below (s₁.setTop (entryFrame m #[(.int p1), (.int p2)] 2)) tt := fun tt kk => castTop (ef_20_rr m p1 p2) kk
  obtain ⟨fs, hr, hrun, hended, hW, hsame⟩ := X0.leave (v := some (.int p2)) (fun h => by rw [Bd.returns] at h; cases h)
  refine ⟨_, _, pre0 _ ?_, hrun, hended, _, _, rfl, ?_, ⟨_, rfl⟩, hW, hsame.mono (by decide) (by decide)⟩
  · show Steps _ _ _ (s₁.setTop (mkF m 0 #[.val (.int p1), .val (.int p2)] [])) _
    refine XS.iloadN X0.here hx rfl (hb hby d20_0) rfl ?_
    refine XS.iloadN X0.here hx rfl (hb hby d20_1) rfl ?_
    refine XS.icmpYes X0.here hx rfl (pc0 := 2) (pc' := 9) rfl (hb hby d20_2) rfl (tlt hc2).1 (by decide) (by decide) ?_
    refine XS.iloadN X0.here hx rfl (hb hby d20_9) rfl ?_
    show Steps _ _ _ (s₁.setTop (mkF m 10 #[.val (.int p1), .val (.int p2)] [(.int p2)])) _
    exact retI X0 hx Bd.returns (hb hby d20_10) hr
  · show own_Q Z (some (.int (own_mx p1 p2))) h0 n0 _ s₁.heap _
    rw [e0]
    exact ⟨by rw [own_mx, if_pos hc2], N0, rfl⟩
theorem rmMX (l : Launch) (Z : State) (a0 : Array Value) (hw : ∀ d ∈ tables_1, d.before a0 Z = true) (ws : List Jvm.Cond) (p1 : Int32) (p2 : Int32) (h0 : Heap) (n0 : Nat) (Z0 : n0 ≤ h0.size) :
    MetFree l y_3 (head1 (Jvm.Cond.code y_3 jdk_29_method_65_code 2 (some .int) :: ws) ({ frames := 0, cells := 0, slots := 0, locals := 0 } : Room)) (fun a_ U_ => a_ = #[(.int p1), (.int p2)] ∧ Z.Warmed39 U_.vm ∧ U_.heap = h0) (fun _ _ _ _ _ => True) (fun _ U_ o_ U1_ => ∃ v_ L_, o_ = .returned v_ ∧ own_Q Z (some (.int (own_mx p1 p2))) h0 n0 v_ U1_.heap L_ ∧ FrameEnd U_ o_ U1_ L_ ({ frames := 0, cells := 0, slots := 0, locals := 0 } : Room).cells ({ frames := 0, cells := 0, slots := 0, locals := 0 } : Room).slots) := by
  by_cases hf0 : p1 < p2
  · skip
    exact rmMX_1 l Z a0 hw ws p1 p2 h0 n0 Z0  hf0
  · skip
    exact rmMX_0 l Z a0 hw ws p1 p2 h0 n0 Z0  hf0
theorem d27_0 : decode jdk_29_method_66_code 0 = .ok (.lload_n 0, 1) := by decide +kernel
theorem d27_1 : decode jdk_29_method_66_code 1 = .ok (.lload_n 2, 1) := by decide +kernel
theorem d27_2 : decode jdk_29_method_66_code 2 = .ok (.lcmp, 1) := by decide +kernel
theorem d27_3 : decode jdk_29_method_66_code 3 = .ok (.ifCond .lt 7, 3) := by decide +kernel
theorem d27_6 : decode jdk_29_method_66_code 6 = .ok (.lload_n 0, 1) := by decide +kernel
theorem d27_7 : decode jdk_29_method_66_code 7 = .ok (.goto 4, 3) := by decide +kernel
theorem d27_11 : decode jdk_29_method_66_code 11 = .ok (.lreturn, 1) := by decide +kernel
theorem d27_10 : decode jdk_29_method_66_code 10 = .ok (.lload_n 2, 1) := by decide +kernel
theorem ef_27_rr (m : MethodId) (x0 : Int64) (x1 : Int64) : entryFrame m #[(.long x0), (.long x1)] 4 = mkF m 0 #[.val (.long x0), .second, .val (.long x1), .second] [] := by first | (simp [entryFrame, mkF, argsToLocals, Value.category]; done) | rfl
theorem rmMXL_0 (l : Launch) (Z : State) (a0 : Array Value) (hw : ∀ d ∈ tables_1, d.before a0 Z = true) (ws : List Jvm.Cond) (p1 : Int64) (p2 : Int64) (h0 : Heap) (n0 : Nat) (Z0 : n0 ≤ h0.size) (hc3 : ¬ ((lcmpW p1 p2) < (0 : Int32))) :
    MetFree l y_4 (head1 (Jvm.Cond.code y_4 jdk_29_method_66_code 4 (some .long) :: ws) ({ frames := 0, cells := 0, slots := 0, locals := 0 } : Room)) (fun a_ U_ => a_ = #[(.long p1), (.long p2)] ∧ Z.Warmed39 U_.vm ∧ U_.heap = h0) (fun _ _ _ _ _ => True) (fun _ U_ o_ U1_ => ∃ v_ L_, o_ = .returned v_ ∧ own_Q Z (some (.long (own_mxl p1 p2))) h0 n0 v_ U1_.heap L_ ∧ FrameEnd U_ o_ U1_ L_ ({ frames := 0, cells := 0, slots := 0, locals := 0 } : Room).cells ({ frames := 0, cells := 0, slots := 0, locals := 0 } : Room).slots) := by
  refine MetFree.of_bodySF (Jvm.Free.JP.mathPlain rfl (by decide +kernel)) hisR ?_
  intro p e s m args below meth c s₁ Bd hml0 hP hK
  obtain ⟨rfl, hZ, hh⟩ := hP
  have hx := Bd.exec
  have hby := Bd.bytes
  have hml : c.maxLocals = 4 := hml0
  have hown : s.vm.findClass "java/lang/Math" = some m.cls := findClass_of_methodNamed Bd.named
  have hnm := (name_of_methodNamed Bd.named Bd.method).1
  have X0 : Stand p l e ({ frames := 0, cells := 0, slots := 0, locals := 0 } : Room) s m #[(.long p1), (.long p2)] below meth c s₁ [] 0 0 := Stand.of_body Bd
  have e0 : s₁.heap = h0 := by rw [← hh, Bd.state]; rfl
  have N0 := Fr.nil n0
  have pre0 : ∀ tt, Steps p.tables e below (s₁.setTop (mkF m 0 #[.val (.long p1), .second, .val (.long p2), .second] [])) tt → Steps p.tables e below (s₁.setTop (entryFrame m #[(.long p1), (.long p2)] 4)) tt := fun tt kk => castTop (ef_27_rr m p1 p2) kk
  obtain ⟨fs, hr, hrun, hended, hW, hsame⟩ := X0.leave (v := some (.long p1)) (fun h => by rw [Bd.returns] at h; cases h)
  refine ⟨_, _, pre0 _ ?_, hrun, hended, _, _, rfl, ?_, ⟨_, rfl⟩, hW, hsame.mono (by decide) (by decide)⟩
  · show Steps _ _ _ (s₁.setTop (mkF m 0 #[.val (.long p1), .second, .val (.long p2), .second] [])) _
    refine XS.lloadN X0.here hx rfl (hb hby d27_0) rfl ?_
    refine XS.lloadN X0.here hx rfl (hb hby d27_1) rfl ?_
    refine XS.lcmp X0.here hx rfl (hb hby d27_2) rfl ?_
    refine XS.ifNo X0.here hx rfl (hb hby d27_3) rfl ((if0 _ _).trans (flt hc3).1) ?_
    refine XS.lloadN X0.here hx rfl (hb hby d27_6) rfl ?_
    refine XS.goto X0.here hx rfl (pc0 := 7) (pc' := 11) rfl (hb hby d27_7) (by decide) (by decide) ?_
    show Steps _ _ _ (s₁.setTop (mkF m 11 #[.val (.long p1), .second, .val (.long p2), .second] [(.long p1)])) _
    jvm_step X0.here [X0.here.top, hx, (hb hby d27_11), X0.method', Bd.returns, narrow]
    first | (intro acts; rw [hr _ acts rfl rfl rfl]) | rw [hr _ _ rfl rfl rfl]
    exact Steps.refl _
  · show own_Q Z (some (.long (own_mxl p1 p2))) h0 n0 _ s₁.heap _
    rw [e0]
    exact ⟨by rw [own_mxl, if_neg hc3], N0, rfl⟩
theorem rmMXL_1 (l : Launch) (Z : State) (a0 : Array Value) (hw : ∀ d ∈ tables_1, d.before a0 Z = true) (ws : List Jvm.Cond) (p1 : Int64) (p2 : Int64) (h0 : Heap) (n0 : Nat) (Z0 : n0 ≤ h0.size) (hc3 : (lcmpW p1 p2) < (0 : Int32)) :
    MetFree l y_4 (head1 (Jvm.Cond.code y_4 jdk_29_method_66_code 4 (some .long) :: ws) ({ frames := 0, cells := 0, slots := 0, locals := 0 } : Room)) (fun a_ U_ => a_ = #[(.long p1), (.long p2)] ∧ Z.Warmed39 U_.vm ∧ U_.heap = h0) (fun _ _ _ _ _ => True) (fun _ U_ o_ U1_ => ∃ v_ L_, o_ = .returned v_ ∧ own_Q Z (some (.long (own_mxl p1 p2))) h0 n0 v_ U1_.heap L_ ∧ FrameEnd U_ o_ U1_ L_ ({ frames := 0, cells := 0, slots := 0, locals := 0 } : Room).cells ({ frames := 0, cells := 0, slots := 0, locals := 0 } : Room).slots) := by
  refine MetFree.of_bodySF (Jvm.Free.JP.mathPlain rfl (by decide +kernel)) hisR ?_
  intro p e s m args below meth c s₁ Bd hml0 hP hK
  obtain ⟨rfl, hZ, hh⟩ := hP
  have hx := Bd.exec
  have hby := Bd.bytes
  have hml : c.maxLocals = 4 := hml0
  have hown : s.vm.findClass "java/lang/Math" = some m.cls := findClass_of_methodNamed Bd.named
  have hnm := (name_of_methodNamed Bd.named Bd.method).1
  have X0 : Stand p l e ({ frames := 0, cells := 0, slots := 0, locals := 0 } : Room) s m #[(.long p1), (.long p2)] below meth c s₁ [] 0 0 := Stand.of_body Bd
  have e0 : s₁.heap = h0 := by rw [← hh, Bd.state]; rfl
  have N0 := Fr.nil n0
  have pre0 : ∀ tt, Steps p.tables e below (s₁.setTop (mkF m 0 #[.val (.long p1), .second, .val (.long p2), .second] [])) tt → Steps p.tables e below (s₁.setTop (entryFrame m #[(.long p1), (.long p2)] 4)) tt := fun tt kk => castTop (ef_27_rr m p1 p2) kk
  obtain ⟨fs, hr, hrun, hended, hW, hsame⟩ := X0.leave (v := some (.long p2)) (fun h => by rw [Bd.returns] at h; cases h)
  refine ⟨_, _, pre0 _ ?_, hrun, hended, _, _, rfl, ?_, ⟨_, rfl⟩, hW, hsame.mono (by decide) (by decide)⟩
  · show Steps _ _ _ (s₁.setTop (mkF m 0 #[.val (.long p1), .second, .val (.long p2), .second] [])) _
    refine XS.lloadN X0.here hx rfl (hb hby d27_0) rfl ?_
    refine XS.lloadN X0.here hx rfl (hb hby d27_1) rfl ?_
    refine XS.lcmp X0.here hx rfl (hb hby d27_2) rfl ?_
    refine XS.ifYes X0.here hx rfl (pc0 := 3) (pc' := 10) rfl (hb hby d27_3) rfl ((if0 _ _).trans (tlt hc3).1) (by decide) (by decide) ?_
    refine XS.lloadN X0.here hx rfl (hb hby d27_10) rfl ?_
    show Steps _ _ _ (s₁.setTop (mkF m 11 #[.val (.long p1), .second, .val (.long p2), .second] [(.long p2)])) _
    jvm_step X0.here [X0.here.top, hx, (hb hby d27_11), X0.method', Bd.returns, narrow]
    first | (intro acts; rw [hr _ acts rfl rfl rfl]) | rw [hr _ _ rfl rfl rfl]
    exact Steps.refl _
  · show own_Q Z (some (.long (own_mxl p1 p2))) h0 n0 _ s₁.heap _
    rw [e0]
    exact ⟨by rw [own_mxl, if_pos hc3], N0, rfl⟩
theorem rmMXL (l : Launch) (Z : State) (a0 : Array Value) (hw : ∀ d ∈ tables_1, d.before a0 Z = true) (ws : List Jvm.Cond) (p1 : Int64) (p2 : Int64) (h0 : Heap) (n0 : Nat) (Z0 : n0 ≤ h0.size) :
    MetFree l y_4 (head1 (Jvm.Cond.code y_4 jdk_29_method_66_code 4 (some .long) :: ws) ({ frames := 0, cells := 0, slots := 0, locals := 0 } : Room)) (fun a_ U_ => a_ = #[(.long p1), (.long p2)] ∧ Z.Warmed39 U_.vm ∧ U_.heap = h0) (fun _ _ _ _ _ => True) (fun _ U_ o_ U1_ => ∃ v_ L_, o_ = .returned v_ ∧ own_Q Z (some (.long (own_mxl p1 p2))) h0 n0 v_ U1_.heap L_ ∧ FrameEnd U_ o_ U1_ L_ ({ frames := 0, cells := 0, slots := 0, locals := 0 } : Room).cells ({ frames := 0, cells := 0, slots := 0, locals := 0 } : Room).slots) := by
  by_cases hf0 : (lcmpW p1 p2) < (0 : Int32)
  · skip
    exact rmMXL_1 l Z a0 hw ws p1 p2 h0 n0 Z0  hf0
  · skip
    exact rmMXL_0 l Z a0 hw ws p1 p2 h0 n0 Z0  hf0
theorem d25_0 : decode jdk_29_method_70_code 0 = .ok (.lload_n 0, 1) := by decide +kernel
theorem d25_1 : decode jdk_29_method_70_code 1 = .ok (.lload_n 2, 1) := by decide +kernel
theorem d25_2 : decode jdk_29_method_70_code 2 = .ok (.lcmp, 1) := by decide +kernel
theorem d25_3 : decode jdk_29_method_70_code 3 = .ok (.ifCond .gt 7, 3) := by decide +kernel
theorem d25_6 : decode jdk_29_method_70_code 6 = .ok (.lload_n 0, 1) := by decide +kernel
theorem d25_7 : decode jdk_29_method_70_code 7 = .ok (.goto 4, 3) := by decide +kernel
theorem d25_11 : decode jdk_29_method_70_code 11 = .ok (.lreturn, 1) := by decide +kernel
theorem d25_10 : decode jdk_29_method_70_code 10 = .ok (.lload_n 2, 1) := by decide +kernel
theorem ef_25_rr (m : MethodId) (x0 : Int64) (x1 : Int64) : entryFrame m #[(.long x0), (.long x1)] 4 = mkF m 0 #[.val (.long x0), .second, .val (.long x1), .second] [] := by first | (simp [entryFrame, mkF, argsToLocals, Value.category]; done) | rfl
theorem rmMN_0 (l : Launch) (Z : State) (a0 : Array Value) (hw : ∀ d ∈ tables_1, d.before a0 Z = true) (ws : List Jvm.Cond) (p1 : Int64) (p2 : Int64) (h0 : Heap) (n0 : Nat) (Z0 : n0 ≤ h0.size) (hc3 : ¬ ((0 : Int32) < (lcmpW p1 p2))) :
    MetFree l y_5 (head1 (Jvm.Cond.code y_5 jdk_29_method_70_code 4 (some .long) :: ws) ({ frames := 0, cells := 0, slots := 0, locals := 0 } : Room)) (fun a_ U_ => a_ = #[(.long p1), (.long p2)] ∧ Z.Warmed39 U_.vm ∧ U_.heap = h0) (fun _ _ _ _ _ => True) (fun _ U_ o_ U1_ => ∃ v_ L_, o_ = .returned v_ ∧ own_Q Z (some (.long (own_mn p1 p2))) h0 n0 v_ U1_.heap L_ ∧ FrameEnd U_ o_ U1_ L_ ({ frames := 0, cells := 0, slots := 0, locals := 0 } : Room).cells ({ frames := 0, cells := 0, slots := 0, locals := 0 } : Room).slots) := by
  refine MetFree.of_bodySF (Jvm.Free.JP.mathPlain rfl (by decide +kernel)) hisR ?_
  intro p e s m args below meth c s₁ Bd hml0 hP hK
  obtain ⟨rfl, hZ, hh⟩ := hP
  have hx := Bd.exec
  have hby := Bd.bytes
  have hml : c.maxLocals = 4 := hml0
  have hown : s.vm.findClass "java/lang/Math" = some m.cls := findClass_of_methodNamed Bd.named
  have hnm := (name_of_methodNamed Bd.named Bd.method).1
  have X0 : Stand p l e ({ frames := 0, cells := 0, slots := 0, locals := 0 } : Room) s m #[(.long p1), (.long p2)] below meth c s₁ [] 0 0 := Stand.of_body Bd
  have e0 : s₁.heap = h0 := by rw [← hh, Bd.state]; rfl
  have N0 := Fr.nil n0
  have pre0 : ∀ tt, Steps p.tables e below (s₁.setTop (mkF m 0 #[.val (.long p1), .second, .val (.long p2), .second] [])) tt → Steps p.tables e below (s₁.setTop (entryFrame m #[(.long p1), (.long p2)] 4)) tt := fun tt kk => castTop (ef_25_rr m p1 p2) kk
  obtain ⟨fs, hr, hrun, hended, hW, hsame⟩ := X0.leave (v := some (.long p1)) (fun h => by rw [Bd.returns] at h; cases h)
  refine ⟨_, _, pre0 _ ?_, hrun, hended, _, _, rfl, ?_, ⟨_, rfl⟩, hW, hsame.mono (by decide) (by decide)⟩
  · show Steps _ _ _ (s₁.setTop (mkF m 0 #[.val (.long p1), .second, .val (.long p2), .second] [])) _
    refine XS.lloadN X0.here hx rfl (hb hby d25_0) rfl ?_
    refine XS.lloadN X0.here hx rfl (hb hby d25_1) rfl ?_
    refine XS.lcmp X0.here hx rfl (hb hby d25_2) rfl ?_
    refine XS.ifNo X0.here hx rfl (hb hby d25_3) rfl ((if0 _ _).trans (flt hc3).2.2.1) ?_
    refine XS.lloadN X0.here hx rfl (hb hby d25_6) rfl ?_
    refine XS.goto X0.here hx rfl (pc0 := 7) (pc' := 11) rfl (hb hby d25_7) (by decide) (by decide) ?_
    show Steps _ _ _ (s₁.setTop (mkF m 11 #[.val (.long p1), .second, .val (.long p2), .second] [(.long p1)])) _
    jvm_step X0.here [X0.here.top, hx, (hb hby d25_11), X0.method', Bd.returns, narrow]
    first | (intro acts; rw [hr _ acts rfl rfl rfl]) | rw [hr _ _ rfl rfl rfl]
    exact Steps.refl _
  · show own_Q Z (some (.long (own_mn p1 p2))) h0 n0 _ s₁.heap _
    rw [e0]
    exact ⟨by rw [own_mn, if_neg hc3], N0, rfl⟩
theorem rmMN_1 (l : Launch) (Z : State) (a0 : Array Value) (hw : ∀ d ∈ tables_1, d.before a0 Z = true) (ws : List Jvm.Cond) (p1 : Int64) (p2 : Int64) (h0 : Heap) (n0 : Nat) (Z0 : n0 ≤ h0.size) (hc3 : (0 : Int32) < (lcmpW p1 p2)) :
    MetFree l y_5 (head1 (Jvm.Cond.code y_5 jdk_29_method_70_code 4 (some .long) :: ws) ({ frames := 0, cells := 0, slots := 0, locals := 0 } : Room)) (fun a_ U_ => a_ = #[(.long p1), (.long p2)] ∧ Z.Warmed39 U_.vm ∧ U_.heap = h0) (fun _ _ _ _ _ => True) (fun _ U_ o_ U1_ => ∃ v_ L_, o_ = .returned v_ ∧ own_Q Z (some (.long (own_mn p1 p2))) h0 n0 v_ U1_.heap L_ ∧ FrameEnd U_ o_ U1_ L_ ({ frames := 0, cells := 0, slots := 0, locals := 0 } : Room).cells ({ frames := 0, cells := 0, slots := 0, locals := 0 } : Room).slots) := by
  refine MetFree.of_bodySF (Jvm.Free.JP.mathPlain rfl (by decide +kernel)) hisR ?_
  intro p e s m args below meth c s₁ Bd hml0 hP hK
  obtain ⟨rfl, hZ, hh⟩ := hP
  have hx := Bd.exec
  have hby := Bd.bytes
  have hml : c.maxLocals = 4 := hml0
  have hown : s.vm.findClass "java/lang/Math" = some m.cls := findClass_of_methodNamed Bd.named
  have hnm := (name_of_methodNamed Bd.named Bd.method).1
  have X0 : Stand p l e ({ frames := 0, cells := 0, slots := 0, locals := 0 } : Room) s m #[(.long p1), (.long p2)] below meth c s₁ [] 0 0 := Stand.of_body Bd
  have e0 : s₁.heap = h0 := by rw [← hh, Bd.state]; rfl
  have N0 := Fr.nil n0
  have pre0 : ∀ tt, Steps p.tables e below (s₁.setTop (mkF m 0 #[.val (.long p1), .second, .val (.long p2), .second] [])) tt → Steps p.tables e below (s₁.setTop (entryFrame m #[(.long p1), (.long p2)] 4)) tt := fun tt kk => castTop (ef_25_rr m p1 p2) kk
  obtain ⟨fs, hr, hrun, hended, hW, hsame⟩ := X0.leave (v := some (.long p2)) (fun h => by rw [Bd.returns] at h; cases h)
  refine ⟨_, _, pre0 _ ?_, hrun, hended, _, _, rfl, ?_, ⟨_, rfl⟩, hW, hsame.mono (by decide) (by decide)⟩
  · show Steps _ _ _ (s₁.setTop (mkF m 0 #[.val (.long p1), .second, .val (.long p2), .second] [])) _
    refine XS.lloadN X0.here hx rfl (hb hby d25_0) rfl ?_
    refine XS.lloadN X0.here hx rfl (hb hby d25_1) rfl ?_
    refine XS.lcmp X0.here hx rfl (hb hby d25_2) rfl ?_
    refine XS.ifYes X0.here hx rfl (pc0 := 3) (pc' := 10) rfl (hb hby d25_3) rfl ((if0 _ _).trans (tlt hc3).2.2.1) (by decide) (by decide) ?_
    refine XS.lloadN X0.here hx rfl (hb hby d25_10) rfl ?_
    show Steps _ _ _ (s₁.setTop (mkF m 11 #[.val (.long p1), .second, .val (.long p2), .second] [(.long p2)])) _
    jvm_step X0.here [X0.here.top, hx, (hb hby d25_11), X0.method', Bd.returns, narrow]
    first | (intro acts; rw [hr _ acts rfl rfl rfl]) | rw [hr _ _ rfl rfl rfl]
    exact Steps.refl _
  · show own_Q Z (some (.long (own_mn p1 p2))) h0 n0 _ s₁.heap _
    rw [e0]
    exact ⟨by rw [own_mn, if_pos hc3], N0, rfl⟩
theorem rmMN (l : Launch) (Z : State) (a0 : Array Value) (hw : ∀ d ∈ tables_1, d.before a0 Z = true) (ws : List Jvm.Cond) (p1 : Int64) (p2 : Int64) (h0 : Heap) (n0 : Nat) (Z0 : n0 ≤ h0.size) :
    MetFree l y_5 (head1 (Jvm.Cond.code y_5 jdk_29_method_70_code 4 (some .long) :: ws) ({ frames := 0, cells := 0, slots := 0, locals := 0 } : Room)) (fun a_ U_ => a_ = #[(.long p1), (.long p2)] ∧ Z.Warmed39 U_.vm ∧ U_.heap = h0) (fun _ _ _ _ _ => True) (fun _ U_ o_ U1_ => ∃ v_ L_, o_ = .returned v_ ∧ own_Q Z (some (.long (own_mn p1 p2))) h0 n0 v_ U1_.heap L_ ∧ FrameEnd U_ o_ U1_ L_ ({ frames := 0, cells := 0, slots := 0, locals := 0 } : Room).cells ({ frames := 0, cells := 0, slots := 0, locals := 0 } : Room).slots) := by
  by_cases hf0 : (0 : Int32) < (lcmpW p1 p2)
  · skip
    exact rmMN_1 l Z a0 hw ws p1 p2 h0 n0 Z0  hf0
  · skip
    exact rmMN_0 l Z a0 hw ws p1 p2 h0 n0 Z0  hf0
theorem d15_0 : decode jdk_41_method_11_code 0 = .ok (.iload_n 0, 1) := by decide +kernel
theorem d15_1 : decode jdk_41_method_11_code 1 = .ok (.ifCond .lt 8, 3) := by decide +kernel
theorem d15_4 : decode jdk_41_method_11_code 4 = .ok (.iload_n 0, 1) := by decide +kernel
theorem d15_5 : decode jdk_41_method_11_code 5 = .ok (.iload_n 1, 1) := by decide +kernel
theorem d15_6 : decode jdk_41_method_11_code 6 = .ok (.if_icmp .lt 10, 3) := by decide +kernel
theorem d15_16 : decode jdk_41_method_11_code 16 = .ok (.iload_n 0, 1) := by decide +kernel
theorem d15_17 : decode jdk_41_method_11_code 17 = .ok (.ireturn, 1) := by decide +kernel
theorem pn_15 : plainName "jdk/internal/util/Preconditions" = true := by first | (simp [plainName, overriddenIn]; done) | decide +kernel
theorem ef_15_rrn (m : MethodId) (x0 : Int32) (x1 : Int32) : entryFrame m #[(.int x0), (.int x1), .null] 3 = mkF m 0 #[.val (.int x0), .val (.int x1), .val .null] [] := by first | (simp [entryFrame, mkF, argsToLocals, Value.category]; done) | rfl
theorem rmCI0 (l : Launch) (Z : State) (a0 : Array Value) (hw : ∀ d ∈ tables_1, d.before a0 Z = true) (ws : List Jvm.Cond)  (h0 : Heap) (n0 : Nat) (Z0 : n0 ≤ h0.size) :
    MetFree l y_6 (head1 (Jvm.Cond.code y_6 jdk_41_method_11_code 3 (some .int) :: ws) ({ frames := 0, cells := 0, slots := 0, locals := 0 } : Room)) (fun a_ U_ => a_ = #[(.int 0), (.int 3), .null] ∧ Z.Warmed39 U_.vm ∧ U_.heap = h0) (fun _ _ _ _ _ => True) (fun _ U_ o_ U1_ => ∃ v_ L_, o_ = .returned v_ ∧ own_Q Z (some (.int 0)) h0 n0 v_ U1_.heap L_ ∧ FrameEnd U_ o_ U1_ L_ ({ frames := 0, cells := 0, slots := 0, locals := 0 } : Room).cells ({ frames := 0, cells := 0, slots := 0, locals := 0 } : Room).slots) := by
  refine MetFree.of_bodySF (plainFor_of_name pn_15) hisR ?_
  intro p e s m args below meth c s₁ Bd hml0 hP hK
  obtain ⟨rfl, hZ, hh⟩ := hP
  have hx := Bd.exec
  have hby := Bd.bytes
  have hml : c.maxLocals = 3 := hml0
  have hown : s.vm.findClass "jdk/internal/util/Preconditions" = some m.cls := findClass_of_methodNamed Bd.named
  have hnm := (name_of_methodNamed Bd.named Bd.method).1
  have X0 : Stand p l e ({ frames := 0, cells := 0, slots := 0, locals := 0 } : Room) s m #[(.int 0), (.int 3), .null] below meth c s₁ [] 0 0 := Stand.of_body Bd
  have e0 : s₁.heap = h0 := by rw [← hh, Bd.state]; rfl
  have N0 := Fr.nil n0
  have pre0 : ∀ tt, Steps p.tables e below (s₁.setTop (mkF m 0 #[.val (.int 0), .val (.int 3), .val .null] [])) tt → Steps p.tables e below (s₁.setTop (entryFrame m #[(.int 0), (.int 3), .null] 3)) tt := fun tt kk => castTop (ef_15_rrn m (0 : Int32) (3 : Int32)) kk
  obtain ⟨fs, hr, hrun, hended, hW, hsame⟩ := X0.leave (v := some (.int 0)) (fun h => by rw [Bd.returns] at h; cases h)
  refine ⟨_, _, pre0 _ ?_, hrun, hended, _, _, rfl, ?_, ⟨_, rfl⟩, hW, hsame.mono (by decide) (by decide)⟩
  · show Steps _ _ _ (s₁.setTop (mkF m 0 #[.val (.int 0), .val (.int 3), .val .null] [])) _
    refine XS.iloadN X0.here hx rfl (hb hby d15_0) rfl ?_
    refine XS.ifNo X0.here hx rfl (hb hby d15_1) rfl ((if0 _ _).trans (flt (by decide : ¬ ((0 : Int32) < (0 : Int32)))).1) ?_
    refine XS.iloadN X0.here hx rfl (hb hby d15_4) rfl ?_
    refine XS.iloadN X0.here hx rfl (hb hby d15_5) rfl ?_
    refine XS.icmpYes X0.here hx rfl (pc0 := 6) (pc' := 16) rfl (hb hby d15_6) rfl (tlt (by decide : (0 : Int32) < (3 : Int32))).1 (by decide) (by decide) ?_
    refine XS.iloadN X0.here hx rfl (hb hby d15_16) rfl ?_
    show Steps _ _ _ (s₁.setTop (mkF m 17 #[.val (.int 0), .val (.int 3), .val .null] [(.int 0)])) _
    exact retI X0 hx Bd.returns (hb hby d15_17) hr
  · show own_Q Z (some (.int 0)) h0 n0 _ s₁.heap _
    rw [e0]
    exact ⟨rfl, N0, rfl⟩
theorem rmCI1 (l : Launch) (Z : State) (a0 : Array Value) (hw : ∀ d ∈ tables_1, d.before a0 Z = true) (ws : List Jvm.Cond)  (h0 : Heap) (n0 : Nat) (Z0 : n0 ≤ h0.size) :
    MetFree l y_6 (head1 (Jvm.Cond.code y_6 jdk_41_method_11_code 3 (some .int) :: ws) ({ frames := 0, cells := 0, slots := 0, locals := 0 } : Room)) (fun a_ U_ => a_ = #[(.int 1), (.int 3), .null] ∧ Z.Warmed39 U_.vm ∧ U_.heap = h0) (fun _ _ _ _ _ => True) (fun _ U_ o_ U1_ => ∃ v_ L_, o_ = .returned v_ ∧ own_Q Z (some (.int 1)) h0 n0 v_ U1_.heap L_ ∧ FrameEnd U_ o_ U1_ L_ ({ frames := 0, cells := 0, slots := 0, locals := 0 } : Room).cells ({ frames := 0, cells := 0, slots := 0, locals := 0 } : Room).slots) := by
  refine MetFree.of_bodySF (plainFor_of_name pn_15) hisR ?_
  intro p e s m args below meth c s₁ Bd hml0 hP hK
  obtain ⟨rfl, hZ, hh⟩ := hP
  have hx := Bd.exec
  have hby := Bd.bytes
  have hml : c.maxLocals = 3 := hml0
  have hown : s.vm.findClass "jdk/internal/util/Preconditions" = some m.cls := findClass_of_methodNamed Bd.named
  have hnm := (name_of_methodNamed Bd.named Bd.method).1
  have X0 : Stand p l e ({ frames := 0, cells := 0, slots := 0, locals := 0 } : Room) s m #[(.int 1), (.int 3), .null] below meth c s₁ [] 0 0 := Stand.of_body Bd
  have e0 : s₁.heap = h0 := by rw [← hh, Bd.state]; rfl
  have N0 := Fr.nil n0
  have pre0 : ∀ tt, Steps p.tables e below (s₁.setTop (mkF m 0 #[.val (.int 1), .val (.int 3), .val .null] [])) tt → Steps p.tables e below (s₁.setTop (entryFrame m #[(.int 1), (.int 3), .null] 3)) tt := fun tt kk => castTop (ef_15_rrn m (1 : Int32) (3 : Int32)) kk
  obtain ⟨fs, hr, hrun, hended, hW, hsame⟩ := X0.leave (v := some (.int 1)) (fun h => by rw [Bd.returns] at h; cases h)
  refine ⟨_, _, pre0 _ ?_, hrun, hended, _, _, rfl, ?_, ⟨_, rfl⟩, hW, hsame.mono (by decide) (by decide)⟩
  · show Steps _ _ _ (s₁.setTop (mkF m 0 #[.val (.int 1), .val (.int 3), .val .null] [])) _
    refine XS.iloadN X0.here hx rfl (hb hby d15_0) rfl ?_
    refine XS.ifNo X0.here hx rfl (hb hby d15_1) rfl ((if0 _ _).trans (flt (by decide : ¬ ((1 : Int32) < (0 : Int32)))).1) ?_
    refine XS.iloadN X0.here hx rfl (hb hby d15_4) rfl ?_
    refine XS.iloadN X0.here hx rfl (hb hby d15_5) rfl ?_
    refine XS.icmpYes X0.here hx rfl (pc0 := 6) (pc' := 16) rfl (hb hby d15_6) rfl (tlt (by decide : (1 : Int32) < (3 : Int32))).1 (by decide) (by decide) ?_
    refine XS.iloadN X0.here hx rfl (hb hby d15_16) rfl ?_
    show Steps _ _ _ (s₁.setTop (mkF m 17 #[.val (.int 1), .val (.int 3), .val .null] [(.int 1)])) _
    exact retI X0 hx Bd.returns (hb hby d15_17) hr
  · show own_Q Z (some (.int 1)) h0 n0 _ s₁.heap _
    rw [e0]
    exact ⟨rfl, N0, rfl⟩
theorem rmCI2 (l : Launch) (Z : State) (a0 : Array Value) (hw : ∀ d ∈ tables_1, d.before a0 Z = true) (ws : List Jvm.Cond)  (h0 : Heap) (n0 : Nat) (Z0 : n0 ≤ h0.size) :
    MetFree l y_6 (head1 (Jvm.Cond.code y_6 jdk_41_method_11_code 3 (some .int) :: ws) ({ frames := 0, cells := 0, slots := 0, locals := 0 } : Room)) (fun a_ U_ => a_ = #[(.int 2), (.int 3), .null] ∧ Z.Warmed39 U_.vm ∧ U_.heap = h0) (fun _ _ _ _ _ => True) (fun _ U_ o_ U1_ => ∃ v_ L_, o_ = .returned v_ ∧ own_Q Z (some (.int 2)) h0 n0 v_ U1_.heap L_ ∧ FrameEnd U_ o_ U1_ L_ ({ frames := 0, cells := 0, slots := 0, locals := 0 } : Room).cells ({ frames := 0, cells := 0, slots := 0, locals := 0 } : Room).slots) := by
  refine MetFree.of_bodySF (plainFor_of_name pn_15) hisR ?_
  intro p e s m args below meth c s₁ Bd hml0 hP hK
  obtain ⟨rfl, hZ, hh⟩ := hP
  have hx := Bd.exec
  have hby := Bd.bytes
  have hml : c.maxLocals = 3 := hml0
  have hown : s.vm.findClass "jdk/internal/util/Preconditions" = some m.cls := findClass_of_methodNamed Bd.named
  have hnm := (name_of_methodNamed Bd.named Bd.method).1
  have X0 : Stand p l e ({ frames := 0, cells := 0, slots := 0, locals := 0 } : Room) s m #[(.int 2), (.int 3), .null] below meth c s₁ [] 0 0 := Stand.of_body Bd
  have e0 : s₁.heap = h0 := by rw [← hh, Bd.state]; rfl
  have N0 := Fr.nil n0
  have pre0 : ∀ tt, Steps p.tables e below (s₁.setTop (mkF m 0 #[.val (.int 2), .val (.int 3), .val .null] [])) tt → Steps p.tables e below (s₁.setTop (entryFrame m #[(.int 2), (.int 3), .null] 3)) tt := fun tt kk => castTop (ef_15_rrn m (2 : Int32) (3 : Int32)) kk
  obtain ⟨fs, hr, hrun, hended, hW, hsame⟩ := X0.leave (v := some (.int 2)) (fun h => by rw [Bd.returns] at h; cases h)
  refine ⟨_, _, pre0 _ ?_, hrun, hended, _, _, rfl, ?_, ⟨_, rfl⟩, hW, hsame.mono (by decide) (by decide)⟩
  · show Steps _ _ _ (s₁.setTop (mkF m 0 #[.val (.int 2), .val (.int 3), .val .null] [])) _
    refine XS.iloadN X0.here hx rfl (hb hby d15_0) rfl ?_
    refine XS.ifNo X0.here hx rfl (hb hby d15_1) rfl ((if0 _ _).trans (flt (by decide : ¬ ((2 : Int32) < (0 : Int32)))).1) ?_
    refine XS.iloadN X0.here hx rfl (hb hby d15_4) rfl ?_
    refine XS.iloadN X0.here hx rfl (hb hby d15_5) rfl ?_
    refine XS.icmpYes X0.here hx rfl (pc0 := 6) (pc' := 16) rfl (hb hby d15_6) rfl (tlt (by decide : (2 : Int32) < (3 : Int32))).1 (by decide) (by decide) ?_
    refine XS.iloadN X0.here hx rfl (hb hby d15_16) rfl ?_
    show Steps _ _ _ (s₁.setTop (mkF m 17 #[.val (.int 2), .val (.int 3), .val .null] [(.int 2)])) _
    exact retI X0 hx Bd.returns (hb hby d15_17) hr
  · show own_Q Z (some (.int 2)) h0 n0 _ s₁.heap _
    rw [e0]
    exact ⟨rfl, N0, rfl⟩
theorem ef_15_rrv (m : MethodId) (x0 : Int32) (x1 : Int32) (x2 : Value) (y2 : x2.isRef = true) : entryFrame m #[(.int x0), (.int x1), x2] 3 = mkF m 0 #[.val (.int x0), .val (.int x1), .val x2] [] := by rcases ref_cases y2 with rfl | ⟨z2, rfl⟩ <;> first | (simp [entryFrame, mkF, argsToLocals, Value.category]; done) | rfl
theorem rmCIq (l : Launch) (Z : State) (a0 : Array Value) (hw : ∀ d ∈ tables_1, d.before a0 Z = true) (ws : List Jvm.Cond) (G3 : Value) (h0 : Heap) (n0 : Nat) (Z0 : n0 ≤ h0.size) (rG3 : G3.isRef = true) :
    MetFree l y_6 (head1 (Jvm.Cond.code y_6 jdk_41_method_11_code 3 (some .int) :: ws) ({ frames := 0, cells := 0, slots := 0, locals := 0 } : Room)) (fun a_ U_ => a_ = #[(.int 0), (.int 1), G3] ∧ Z.Warmed39 U_.vm ∧ U_.heap = h0) (fun _ _ _ _ _ => True) (fun _ U_ o_ U1_ => ∃ v_ L_, o_ = .returned v_ ∧ own_Q Z (some (.int 0)) h0 n0 v_ U1_.heap L_ ∧ FrameEnd U_ o_ U1_ L_ ({ frames := 0, cells := 0, slots := 0, locals := 0 } : Room).cells ({ frames := 0, cells := 0, slots := 0, locals := 0 } : Room).slots) := by
  refine MetFree.of_bodySF (plainFor_of_name pn_15) hisR ?_
  intro p e s m args below meth c s₁ Bd hml0 hP hK
  obtain ⟨rfl, hZ, hh⟩ := hP
  have hx := Bd.exec
  have hby := Bd.bytes
  have hml : c.maxLocals = 3 := hml0
  have hown : s.vm.findClass "jdk/internal/util/Preconditions" = some m.cls := findClass_of_methodNamed Bd.named
  have hnm := (name_of_methodNamed Bd.named Bd.method).1
  have X0 : Stand p l e ({ frames := 0, cells := 0, slots := 0, locals := 0 } : Room) s m #[(.int 0), (.int 1), G3] below meth c s₁ [] 0 0 := Stand.of_body Bd
  have e0 : s₁.heap = h0 := by rw [← hh, Bd.state]; rfl
  have N0 := Fr.nil n0
  have pre0 : ∀ tt, Steps p.tables e below (s₁.setTop (mkF m 0 #[.val (.int 0), .val (.int 1), .val G3] [])) tt → Steps p.tables e below (s₁.setTop (entryFrame m #[(.int 0), (.int 1), G3] 3)) tt := fun tt kk => castTop (ef_15_rrv m (0 : Int32) (1 : Int32) G3 rG3) kk
  obtain ⟨fs, hr, hrun, hended, hW, hsame⟩ := X0.leave (v := some (.int 0)) (fun h => by rw [Bd.returns] at h; cases h)
  refine ⟨_, _, pre0 _ ?_, hrun, hended, _, _, rfl, ?_, ⟨_, rfl⟩, hW, hsame.mono (by decide) (by decide)⟩
  · show Steps _ _ _ (s₁.setTop (mkF m 0 #[.val (.int 0), .val (.int 1), .val G3] [])) _
    refine XS.iloadN X0.here hx rfl (hb hby d15_0) rfl ?_
    refine XS.ifNo X0.here hx rfl (hb hby d15_1) rfl ((if0 _ _).trans (flt (by decide : ¬ ((0 : Int32) < (0 : Int32)))).1) ?_
    refine XS.iloadN X0.here hx rfl (hb hby d15_4) rfl ?_
    refine XS.iloadN X0.here hx rfl (hb hby d15_5) rfl ?_
    refine XS.icmpYes X0.here hx rfl (pc0 := 6) (pc' := 16) rfl (hb hby d15_6) rfl (tlt (by decide : (0 : Int32) < (1 : Int32))).1 (by decide) (by decide) ?_
    refine XS.iloadN X0.here hx rfl (hb hby d15_16) rfl ?_
    show Steps _ _ _ (s₁.setTop (mkF m 17 #[.val (.int 0), .val (.int 1), .val G3] [(.int 0)])) _
    exact retI X0 hx Bd.returns (hb hby d15_17) hr
  · show own_Q Z (some (.int 0)) h0 n0 _ s₁.heap _
    rw [e0]
    exact ⟨rfl, N0, rfl⟩
theorem d23_0 : decode jdk_41_method_12_code 0 = .ok (.iload_n 0, 1) := by decide +kernel
theorem d23_1 : decode jdk_41_method_12_code 1 = .ok (.ifCond .lt 13, 3) := by decide +kernel
theorem d23_4 : decode jdk_41_method_12_code 4 = .ok (.iload_n 0, 1) := by decide +kernel
theorem d23_5 : decode jdk_41_method_12_code 5 = .ok (.iload_n 1, 1) := by decide +kernel
theorem d23_6 : decode jdk_41_method_12_code 6 = .ok (.if_icmp .gt 8, 3) := by decide +kernel
theorem d23_9 : decode jdk_41_method_12_code 9 = .ok (.iload_n 1, 1) := by decide +kernel
theorem d23_10 : decode jdk_41_method_12_code 10 = .ok (.iload_n 2, 1) := by decide +kernel
theorem d23_11 : decode jdk_41_method_12_code 11 = .ok (.if_icmp .le 11, 3) := by decide +kernel
theorem d23_22 : decode jdk_41_method_12_code 22 = .ok (.iload_n 0, 1) := by decide +kernel
theorem d23_23 : decode jdk_41_method_12_code 23 = .ok (.ireturn, 1) := by decide +kernel
theorem pn_23 : plainName "jdk/internal/util/Preconditions" = true := by first | (simp [plainName, overriddenIn]; done) | decide +kernel
theorem ef_23_rrrn (m : MethodId) (x0 : Int32) (x1 : Int32) (x2 : Int32) : entryFrame m #[(.int x0), (.int x1), (.int x1), .null] 4 = mkF m 0 #[.val (.int x0), .val (.int x1), .val (.int x1), .val .null] [] := by first | (simp [entryFrame, mkF, argsToLocals, Value.category]; done) | rfl
theorem rmCFT (l : Launch) (Z : State) (a0 : Array Value) (hw : ∀ d ∈ tables_1, d.before a0 Z = true) (ws : List Jvm.Cond)  (h0 : Heap) (n0 : Nat) (Z0 : n0 ≤ h0.size) :
    MetFree l y_7 (head1 (Jvm.Cond.code y_7 jdk_41_method_12_code 4 (some .int) :: ws) ({ frames := 0, cells := 0, slots := 0, locals := 0 } : Room)) (fun a_ U_ => a_ = #[(.int 0), (.int 1), (.int 1), .null] ∧ Z.Warmed39 U_.vm ∧ U_.heap = h0) (fun _ _ _ _ _ => True) (fun _ U_ o_ U1_ => ∃ v_ L_, o_ = .returned v_ ∧ own_Q Z (some (.int 0)) h0 n0 v_ U1_.heap L_ ∧ FrameEnd U_ o_ U1_ L_ ({ frames := 0, cells := 0, slots := 0, locals := 0 } : Room).cells ({ frames := 0, cells := 0, slots := 0, locals := 0 } : Room).slots) := by
  refine MetFree.of_bodySF (plainFor_of_name pn_23) hisR ?_
  intro p e s m args below meth c s₁ Bd hml0 hP hK
  obtain ⟨rfl, hZ, hh⟩ := hP
  have hx := Bd.exec
  have hby := Bd.bytes
  have hml : c.maxLocals = 4 := hml0
  have hown : s.vm.findClass "jdk/internal/util/Preconditions" = some m.cls := findClass_of_methodNamed Bd.named
  have hnm := (name_of_methodNamed Bd.named Bd.method).1
  have X0 : Stand p l e ({ frames := 0, cells := 0, slots := 0, locals := 0 } : Room) s m #[(.int 0), (.int 1), (.int 1), .null] below meth c s₁ [] 0 0 := Stand.of_body Bd
  have e0 : s₁.heap = h0 := by rw [← hh, Bd.state]; rfl
  have N0 := Fr.nil n0
  have pre0 : ∀ tt, Steps p.tables e below (s₁.setTop (mkF m 0 #[.val (.int 0), .val (.int 1), .val (.int 1), .val .null] [])) tt → Steps p.tables e below (s₁.setTop (entryFrame m #[(.int 0), (.int 1), (.int 1), .null] 4)) tt := fun tt kk => castTop (ef_23_rrrn m (0 : Int32) (1 : Int32) (1 : Int32)) kk
  obtain ⟨fs, hr, hrun, hended, hW, hsame⟩ := X0.leave (v := some (.int 0)) (fun h => by rw [Bd.returns] at h; cases h)
  refine ⟨_, _, pre0 _ ?_, hrun, hended, _, _, rfl, ?_, ⟨_, rfl⟩, hW, hsame.mono (by decide) (by decide)⟩
  · show Steps _ _ _ (s₁.setTop (mkF m 0 #[.val (.int 0), .val (.int 1), .val (.int 1), .val .null] [])) _
    refine XS.iloadN X0.here hx rfl (hb hby d23_0) rfl ?_
    refine XS.ifNo X0.here hx rfl (hb hby d23_1) rfl ((if0 _ _).trans (flt (by decide : ¬ ((0 : Int32) < (0 : Int32)))).1) ?_
    refine XS.iloadN X0.here hx rfl (hb hby d23_4) rfl ?_
    refine XS.iloadN X0.here hx rfl (hb hby d23_5) rfl ?_
    refine XS.icmpNo X0.here hx rfl (hb hby d23_6) rfl (flt (by decide : ¬ ((1 : Int32) < (0 : Int32)))).2.2.1 ?_
    refine XS.iloadN X0.here hx rfl (hb hby d23_9) rfl ?_
    refine XS.iloadN X0.here hx rfl (hb hby d23_10) rfl ?_
    refine XS.icmpYes X0.here hx rfl (pc0 := 11) (pc' := 22) rfl (hb hby d23_11) rfl (flt (by decide : ¬ ((1 : Int32) < (1 : Int32)))).2.2.2 (by decide) (by decide) ?_
    refine XS.iloadN X0.here hx rfl (hb hby d23_22) rfl ?_
    show Steps _ _ _ (s₁.setTop (mkF m 23 #[.val (.int 0), .val (.int 1), .val (.int 1), .val .null] [(.int 0)])) _
    exact retI X0 hx Bd.returns (hb hby d23_23) hr
  · show own_Q Z (some (.int 0)) h0 n0 _ s₁.heap _
    rw [e0]
    exact ⟨rfl, N0, rfl⟩
theorem d14_0 : decode jdk_31_method_17_code 0 = .ok (.iload_n 0, 1) := by decide +kernel
theorem d14_1 : decode jdk_31_method_17_code 1 = .ok (.iload_n 1, 1) := by decide +kernel
theorem d14_2 : decode jdk_31_method_17_code 2 = .ok (.aconst_null, 1) := by decide +kernel
theorem pd__IILjava_util_function_BiFunction__I : parseMethodDescriptor "(IILjava/util/function/BiFunction;)I" = some ⟨[.int, .int, (.object "java/util/function/BiFunction")], some .int⟩ := by decide +kernel
theorem d14_3 : decode jdk_31_method_17_code 3 = .ok (.invokestatic 105, 3) := by decide +kernel
theorem d14_6 : decode jdk_31_method_17_code 6 = .ok (.ireturn, 1) := by decide +kernel
theorem pn_14 : plainName "java/util/Objects" = true := by first | (simp [plainName, overriddenIn]; done) | decide +kernel
theorem ef_14_rr (m : MethodId) (x0 : Int32) (x1 : Int32) : entryFrame m #[(.int x0), (.int x1)] 2 = mkF m 0 #[.val (.int x0), .val (.int x1)] [] := by first | (simp [entryFrame, mkF, argsToLocals, Value.category]; done) | rfl
theorem rmOC0 (l : Launch) (Z : State) (a0 : Array Value) (hw : ∀ d ∈ tables_1, d.before a0 Z = true) (ws : List Jvm.Cond)  (h0 : Heap) (n0 : Nat) (Z0 : n0 ≤ h0.size) :
    MetFree l y_8 (head1 (Jvm.Cond.code y_8 jdk_31_method_17_code 2 (some .int) :: ws) ({ frames := 1, cells := 0, slots := 0, locals := 14 } : Room)) (fun a_ U_ => a_ = #[(.int 0), (.int 3)] ∧ Z.Warmed39 U_.vm ∧ U_.heap = h0) (fun _ _ _ _ _ => True) (fun _ U_ o_ U1_ => ∃ v_ L_, o_ = .returned v_ ∧ own_Q Z (some (.int 0)) h0 n0 v_ U1_.heap L_ ∧ FrameEnd U_ o_ U1_ L_ ({ frames := 1, cells := 0, slots := 0, locals := 14 } : Room).cells ({ frames := 1, cells := 0, slots := 0, locals := 14 } : Room).slots) := by
  refine MetFree.of_bodySF (plainFor_of_name pn_14) hisR ?_
  intro p e s m args below meth c s₁ Bd hml0 hP hK
  obtain ⟨rfl, hZ, hh⟩ := hP
  have hx := Bd.exec
  have hby := Bd.bytes
  have hml : c.maxLocals = 2 := hml0
  have hown : s.vm.findClass "java/util/Objects" = some m.cls := findClass_of_methodNamed Bd.named
  have hnm := (name_of_methodNamed Bd.named Bd.method).1
  have X0 : Stand p l e ({ frames := 1, cells := 0, slots := 0, locals := 14 } : Room) s m #[(.int 0), (.int 3)] below meth c s₁ [] 0 0 := Stand.of_body Bd
  have e0 : s₁.heap = h0 := by rw [← hh, Bd.state]; rfl
  have N0 := Fr.nil n0
  have pre0 : ∀ tt, Steps p.tables e below (s₁.setTop (mkF m 0 #[.val (.int 0), .val (.int 3)] [])) tt → Steps p.tables e below (s₁.setTop (entryFrame m #[(.int 0), (.int 3)] 2)) tt := fun tt kk => castTop (ef_14_rr m (0 : Int32) (3 : Int32)) kk
  obtain ⟨_, _, ⟨T1, L1, k1, n1⟩, -, X1, ⟨Lc1, hQ1, l1, y1, z1⟩, st1⟩ := Jvm.LawKit.callS X0 hx (y := y_6) hown (mvT hZ (hw _ (tk 118 rfl))) (mvT hZ (hw _ (tk 119 rfl))) (mvT hZ (hw _ (tk 120 rfl))) (mvT hZ (hw _ (tk 121 rfl))) (by decide) (backOf (W := 0) (rmCI0 l Z a0 hw [] h0 n0 Z0) hZ (hw _ (tk 121 rfl)) (hw _ (tk 120 rfl)) (by decide) (by decide)) (g := (mkF m 3 #[.val (.int 0), .val (.int 3)] [.null, (.int 3), (.int 0)])) rfl (by rw [hml]; rfl) (argsL := [(.int 0), (.int 3), .null]) (rest := []) (lenOf pd__IILjava_util_function_BiFunction__I rfl) rfl (by show 2 * 0 + _ ≤ _; exact Nat.le_of_eq rfl) (hb hby d14_3) (fun _ _ => ⟨rfl, e0, (by decide : 0 + 0 ≤ _), (by decide : 0 + 0 ≤ _)⟩)
  dsimp only [Pt.U, Pt.locs, Pt.cells, Pt.slots] at X1 l1 y1 z1 st1 hQ1
  subst l1 y1 z1
  obtain ⟨rfl, Nq1, eq1⟩ := hQ1
  have N1 := Fr.app N0 Nq1
  obtain ⟨fs, hr, hrun, hended, hW, hsame⟩ := X1.leave (v := some (.int 0)) (fun h => by rw [Bd.returns] at h; cases h)
  refine ⟨_, _, pre0 _ ?_, hrun, hended, _, _, rfl, ?_, ⟨_, rfl⟩, hW, hsame.mono (by decide) (by decide)⟩
  · show Steps _ _ _ (s₁.setTop (mkF m 0 #[.val (.int 0), .val (.int 3)] [])) _
    refine XS.iloadN X0.here hx rfl (hb hby d14_0) rfl ?_
    refine XS.iloadN X0.here hx rfl (hb hby d14_1) rfl ?_
    refine XS.aconstNull X0.here hx rfl (hb hby d14_2) ?_
    show Steps _ _ _ (s₁.setTop (mkF m 3 #[.val (.int 0), .val (.int 3)] [.null, (.int 3), (.int 0)])) _
    refine st1 _ ?_
    show Steps _ _ _ (T1.setTop (mkF m 6 #[.val (.int 0), .val (.int 3)] [(.int 0)])) _
    exact retI X1 hx Bd.returns (hb hby d14_6) hr
  · show own_Q Z (some (.int 0)) h0 n0 _ T1.heap _
    rw [eq1]
    exact ⟨rfl, N1, rfl⟩
theorem rmOC1 (l : Launch) (Z : State) (a0 : Array Value) (hw : ∀ d ∈ tables_1, d.before a0 Z = true) (ws : List Jvm.Cond)  (h0 : Heap) (n0 : Nat) (Z0 : n0 ≤ h0.size) :
    MetFree l y_8 (head1 (Jvm.Cond.code y_8 jdk_31_method_17_code 2 (some .int) :: ws) ({ frames := 1, cells := 0, slots := 0, locals := 14 } : Room)) (fun a_ U_ => a_ = #[(.int 1), (.int 3)] ∧ Z.Warmed39 U_.vm ∧ U_.heap = h0) (fun _ _ _ _ _ => True) (fun _ U_ o_ U1_ => ∃ v_ L_, o_ = .returned v_ ∧ own_Q Z (some (.int 1)) h0 n0 v_ U1_.heap L_ ∧ FrameEnd U_ o_ U1_ L_ ({ frames := 1, cells := 0, slots := 0, locals := 14 } : Room).cells ({ frames := 1, cells := 0, slots := 0, locals := 14 } : Room).slots) := by
  refine MetFree.of_bodySF (plainFor_of_name pn_14) hisR ?_
  intro p e s m args below meth c s₁ Bd hml0 hP hK
  obtain ⟨rfl, hZ, hh⟩ := hP
  have hx := Bd.exec
  have hby := Bd.bytes
  have hml : c.maxLocals = 2 := hml0
  have hown : s.vm.findClass "java/util/Objects" = some m.cls := findClass_of_methodNamed Bd.named
  have hnm := (name_of_methodNamed Bd.named Bd.method).1
  have X0 : Stand p l e ({ frames := 1, cells := 0, slots := 0, locals := 14 } : Room) s m #[(.int 1), (.int 3)] below meth c s₁ [] 0 0 := Stand.of_body Bd
  have e0 : s₁.heap = h0 := by rw [← hh, Bd.state]; rfl
  have N0 := Fr.nil n0
  have pre0 : ∀ tt, Steps p.tables e below (s₁.setTop (mkF m 0 #[.val (.int 1), .val (.int 3)] [])) tt → Steps p.tables e below (s₁.setTop (entryFrame m #[(.int 1), (.int 3)] 2)) tt := fun tt kk => castTop (ef_14_rr m (1 : Int32) (3 : Int32)) kk
  obtain ⟨_, _, ⟨T1, L1, k1, n1⟩, -, X1, ⟨Lc1, hQ1, l1, y1, z1⟩, st1⟩ := Jvm.LawKit.callS X0 hx (y := y_6) hown (mvT hZ (hw _ (tk 118 rfl))) (mvT hZ (hw _ (tk 119 rfl))) (mvT hZ (hw _ (tk 120 rfl))) (mvT hZ (hw _ (tk 121 rfl))) (by decide) (backOf (W := 0) (rmCI1 l Z a0 hw [] h0 n0 Z0) hZ (hw _ (tk 121 rfl)) (hw _ (tk 120 rfl)) (by decide) (by decide)) (g := (mkF m 3 #[.val (.int 1), .val (.int 3)] [.null, (.int 3), (.int 1)])) rfl (by rw [hml]; rfl) (argsL := [(.int 1), (.int 3), .null]) (rest := []) (lenOf pd__IILjava_util_function_BiFunction__I rfl) rfl (by show 2 * 0 + _ ≤ _; exact Nat.le_of_eq rfl) (hb hby d14_3) (fun _ _ => ⟨rfl, e0, (by decide : 0 + 0 ≤ _), (by decide : 0 + 0 ≤ _)⟩)
  dsimp only [Pt.U, Pt.locs, Pt.cells, Pt.slots] at X1 l1 y1 z1 st1 hQ1
  subst l1 y1 z1
  obtain ⟨rfl, Nq1, eq1⟩ := hQ1
  have N1 := Fr.app N0 Nq1
  obtain ⟨fs, hr, hrun, hended, hW, hsame⟩ := X1.leave (v := some (.int 1)) (fun h => by rw [Bd.returns] at h; cases h)
  refine ⟨_, _, pre0 _ ?_, hrun, hended, _, _, rfl, ?_, ⟨_, rfl⟩, hW, hsame.mono (by decide) (by decide)⟩
  · show Steps _ _ _ (s₁.setTop (mkF m 0 #[.val (.int 1), .val (.int 3)] [])) _
    refine XS.iloadN X0.here hx rfl (hb hby d14_0) rfl ?_
    refine XS.iloadN X0.here hx rfl (hb hby d14_1) rfl ?_
    refine XS.aconstNull X0.here hx rfl (hb hby d14_2) ?_
    show Steps _ _ _ (s₁.setTop (mkF m 3 #[.val (.int 1), .val (.int 3)] [.null, (.int 3), (.int 1)])) _
    refine st1 _ ?_
    show Steps _ _ _ (T1.setTop (mkF m 6 #[.val (.int 1), .val (.int 3)] [(.int 1)])) _
    exact retI X1 hx Bd.returns (hb hby d14_6) hr
  · show own_Q Z (some (.int 1)) h0 n0 _ T1.heap _
    rw [eq1]
    exact ⟨rfl, N1, rfl⟩
theorem rmOC2 (l : Launch) (Z : State) (a0 : Array Value) (hw : ∀ d ∈ tables_1, d.before a0 Z = true) (ws : List Jvm.Cond)  (h0 : Heap) (n0 : Nat) (Z0 : n0 ≤ h0.size) :
    MetFree l y_8 (head1 (Jvm.Cond.code y_8 jdk_31_method_17_code 2 (some .int) :: ws) ({ frames := 1, cells := 0, slots := 0, locals := 14 } : Room)) (fun a_ U_ => a_ = #[(.int 2), (.int 3)] ∧ Z.Warmed39 U_.vm ∧ U_.heap = h0) (fun _ _ _ _ _ => True) (fun _ U_ o_ U1_ => ∃ v_ L_, o_ = .returned v_ ∧ own_Q Z (some (.int 2)) h0 n0 v_ U1_.heap L_ ∧ FrameEnd U_ o_ U1_ L_ ({ frames := 1, cells := 0, slots := 0, locals := 14 } : Room).cells ({ frames := 1, cells := 0, slots := 0, locals := 14 } : Room).slots) := by
  refine MetFree.of_bodySF (plainFor_of_name pn_14) hisR ?_
  intro p e s m args below meth c s₁ Bd hml0 hP hK
  obtain ⟨rfl, hZ, hh⟩ := hP
  have hx := Bd.exec
  have hby := Bd.bytes
  have hml : c.maxLocals = 2 := hml0
  have hown : s.vm.findClass "java/util/Objects" = some m.cls := findClass_of_methodNamed Bd.named
  have hnm := (name_of_methodNamed Bd.named Bd.method).1
  have X0 : Stand p l e ({ frames := 1, cells := 0, slots := 0, locals := 14 } : Room) s m #[(.int 2), (.int 3)] below meth c s₁ [] 0 0 := Stand.of_body Bd
  have e0 : s₁.heap = h0 := by rw [← hh, Bd.state]; rfl
  have N0 := Fr.nil n0
  have pre0 : ∀ tt, Steps p.tables e below (s₁.setTop (mkF m 0 #[.val (.int 2), .val (.int 3)] [])) tt → Steps p.tables e below (s₁.setTop (entryFrame m #[(.int 2), (.int 3)] 2)) tt := fun tt kk => castTop (ef_14_rr m (2 : Int32) (3 : Int32)) kk
  obtain ⟨_, _, ⟨T1, L1, k1, n1⟩, -, X1, ⟨Lc1, hQ1, l1, y1, z1⟩, st1⟩ := Jvm.LawKit.callS X0 hx (y := y_6) hown (mvT hZ (hw _ (tk 118 rfl))) (mvT hZ (hw _ (tk 119 rfl))) (mvT hZ (hw _ (tk 120 rfl))) (mvT hZ (hw _ (tk 121 rfl))) (by decide) (backOf (W := 0) (rmCI2 l Z a0 hw [] h0 n0 Z0) hZ (hw _ (tk 121 rfl)) (hw _ (tk 120 rfl)) (by decide) (by decide)) (g := (mkF m 3 #[.val (.int 2), .val (.int 3)] [.null, (.int 3), (.int 2)])) rfl (by rw [hml]; rfl) (argsL := [(.int 2), (.int 3), .null]) (rest := []) (lenOf pd__IILjava_util_function_BiFunction__I rfl) rfl (by show 2 * 0 + _ ≤ _; exact Nat.le_of_eq rfl) (hb hby d14_3) (fun _ _ => ⟨rfl, e0, (by decide : 0 + 0 ≤ _), (by decide : 0 + 0 ≤ _)⟩)
  dsimp only [Pt.U, Pt.locs, Pt.cells, Pt.slots] at X1 l1 y1 z1 st1 hQ1
  subst l1 y1 z1
  obtain ⟨rfl, Nq1, eq1⟩ := hQ1
  have N1 := Fr.app N0 Nq1
  obtain ⟨fs, hr, hrun, hended, hW, hsame⟩ := X1.leave (v := some (.int 2)) (fun h => by rw [Bd.returns] at h; cases h)
  refine ⟨_, _, pre0 _ ?_, hrun, hended, _, _, rfl, ?_, ⟨_, rfl⟩, hW, hsame.mono (by decide) (by decide)⟩
  · show Steps _ _ _ (s₁.setTop (mkF m 0 #[.val (.int 2), .val (.int 3)] [])) _
    refine XS.iloadN X0.here hx rfl (hb hby d14_0) rfl ?_
    refine XS.iloadN X0.here hx rfl (hb hby d14_1) rfl ?_
    refine XS.aconstNull X0.here hx rfl (hb hby d14_2) ?_
    show Steps _ _ _ (s₁.setTop (mkF m 3 #[.val (.int 2), .val (.int 3)] [.null, (.int 3), (.int 2)])) _
    refine st1 _ ?_
    show Steps _ _ _ (T1.setTop (mkF m 6 #[.val (.int 2), .val (.int 3)] [(.int 2)])) _
    exact retI X1 hx Bd.returns (hb hby d14_6) hr
  · show own_Q Z (some (.int 2)) h0 n0 _ T1.heap _
    rw [eq1]
    exact ⟨rfl, N1, rfl⟩
theorem d22_0 : decode jdk_31_method_18_code 0 = .ok (.iload_n 0, 1) := by decide +kernel
theorem d22_1 : decode jdk_31_method_18_code 1 = .ok (.iload_n 1, 1) := by decide +kernel
theorem d22_2 : decode jdk_31_method_18_code 2 = .ok (.iload_n 2, 1) := by decide +kernel
theorem d22_3 : decode jdk_31_method_18_code 3 = .ok (.aconst_null, 1) := by decide +kernel
theorem pd__IIILjava_util_function_BiFunction__I : parseMethodDescriptor "(IIILjava/util/function/BiFunction;)I" = some ⟨[.int, .int, .int, (.object "java/util/function/BiFunction")], some .int⟩ := by decide +kernel
theorem d22_4 : decode jdk_31_method_18_code 4 = .ok (.invokestatic 111, 3) := by decide +kernel
theorem d22_7 : decode jdk_31_method_18_code 7 = .ok (.ireturn, 1) := by decide +kernel
theorem pn_22 : plainName "java/util/Objects" = true := by first | (simp [plainName, overriddenIn]; done) | decide +kernel
theorem ef_22_rrr (m : MethodId) (x0 : Int32) (x1 : Int32) (x2 : Int32) : entryFrame m #[(.int x0), (.int x1), (.int x1)] 3 = mkF m 0 #[.val (.int x0), .val (.int x1), .val (.int x1)] [] := by first | (simp [entryFrame, mkF, argsToLocals, Value.category]; done) | rfl
theorem rmOF0 (l : Launch) (Z : State) (a0 : Array Value) (hw : ∀ d ∈ tables_1, d.before a0 Z = true) (ws : List Jvm.Cond)  (h0 : Heap) (n0 : Nat) (Z0 : n0 ≤ h0.size) :
    MetFree l y_9 (head1 (Jvm.Cond.code y_9 jdk_31_method_18_code 3 (some .int) :: ws) ({ frames := 1, cells := 0, slots := 0, locals := 15 } : Room)) (fun a_ U_ => a_ = #[(.int 0), (.int 1), (.int 1)] ∧ Z.Warmed39 U_.vm ∧ U_.heap = h0) (fun _ _ _ _ _ => True) (fun _ U_ o_ U1_ => ∃ v_ L_, o_ = .returned v_ ∧ own_Q Z (some (.int 0)) h0 n0 v_ U1_.heap L_ ∧ FrameEnd U_ o_ U1_ L_ ({ frames := 1, cells := 0, slots := 0, locals := 15 } : Room).cells ({ frames := 1, cells := 0, slots := 0, locals := 15 } : Room).slots) := by
  refine MetFree.of_bodySF (plainFor_of_name pn_22) hisR ?_
  intro p e s m args below meth c s₁ Bd hml0 hP hK
  obtain ⟨rfl, hZ, hh⟩ := hP
  have hx := Bd.exec
  have hby := Bd.bytes
  have hml : c.maxLocals = 3 := hml0
  have hown : s.vm.findClass "java/util/Objects" = some m.cls := findClass_of_methodNamed Bd.named
  have hnm := (name_of_methodNamed Bd.named Bd.method).1
  have X0 : Stand p l e ({ frames := 1, cells := 0, slots := 0, locals := 15 } : Room) s m #[(.int 0), (.int 1), (.int 1)] below meth c s₁ [] 0 0 := Stand.of_body Bd
  have e0 : s₁.heap = h0 := by rw [← hh, Bd.state]; rfl
  have N0 := Fr.nil n0
  have pre0 : ∀ tt, Steps p.tables e below (s₁.setTop (mkF m 0 #[.val (.int 0), .val (.int 1), .val (.int 1)] [])) tt → Steps p.tables e below (s₁.setTop (entryFrame m #[(.int 0), (.int 1), (.int 1)] 3)) tt := fun tt kk => castTop (ef_22_rrr m (0 : Int32) (1 : Int32) (1 : Int32)) kk
  obtain ⟨_, _, ⟨T1, L1, k1, n1⟩, -, X1, ⟨Lc1, hQ1, l1, y1, z1⟩, st1⟩ := Jvm.LawKit.callS X0 hx (y := y_7) hown (mvT hZ (hw _ (tk 160 rfl))) (mvT hZ (hw _ (tk 161 rfl))) (mvT hZ (hw _ (tk 120 rfl))) (mvT hZ (hw _ (tk 162 rfl))) (by decide) (backOf (W := 0) (rmCFT l Z a0 hw [] h0 n0 Z0) hZ (hw _ (tk 162 rfl)) (hw _ (tk 120 rfl)) (by decide) (by decide)) (g := (mkF m 4 #[.val (.int 0), .val (.int 1), .val (.int 1)] [.null, (.int 1), (.int 1), (.int 0)])) rfl (by rw [hml]; rfl) (argsL := [(.int 0), (.int 1), (.int 1), .null]) (rest := []) (lenOf pd__IIILjava_util_function_BiFunction__I rfl) rfl (by show 2 * 0 + _ ≤ _; exact Nat.le_of_eq rfl) (hb hby d22_4) (fun _ _ => ⟨rfl, e0, (by decide : 0 + 0 ≤ _), (by decide : 0 + 0 ≤ _)⟩)
  dsimp only [Pt.U, Pt.locs, Pt.cells, Pt.slots] at X1 l1 y1 z1 st1 hQ1
  subst l1 y1 z1
  obtain ⟨rfl, Nq1, eq1⟩ := hQ1
  have N1 := Fr.app N0 Nq1
  obtain ⟨fs, hr, hrun, hended, hW, hsame⟩ := X1.leave (v := some (.int 0)) (fun h => by rw [Bd.returns] at h; cases h)
  refine ⟨_, _, pre0 _ ?_, hrun, hended, _, _, rfl, ?_, ⟨_, rfl⟩, hW, hsame.mono (by decide) (by decide)⟩
  · show Steps _ _ _ (s₁.setTop (mkF m 0 #[.val (.int 0), .val (.int 1), .val (.int 1)] [])) _
    refine XS.iloadN X0.here hx rfl (hb hby d22_0) rfl ?_
    refine XS.iloadN X0.here hx rfl (hb hby d22_1) rfl ?_
    refine XS.iloadN X0.here hx rfl (hb hby d22_2) rfl ?_
    refine XS.aconstNull X0.here hx rfl (hb hby d22_3) ?_
    show Steps _ _ _ (s₁.setTop (mkF m 4 #[.val (.int 0), .val (.int 1), .val (.int 1)] [.null, (.int 1), (.int 1), (.int 0)])) _
    refine st1 _ ?_
    show Steps _ _ _ (T1.setTop (mkF m 7 #[.val (.int 0), .val (.int 1), .val (.int 1)] [(.int 0)])) _
    exact retI X1 hx Bd.returns (hb hby d22_7) hr
  · show own_Q Z (some (.int 0)) h0 n0 _ T1.heap _
    rw [eq1]
    exact ⟨rfl, N1, rfl⟩
theorem d33_0 : decode jdk_42_method_155_code 0 = .ok (.iload_n 0, 1) := by decide +kernel
theorem d33_1 : decode jdk_42_method_155_code 1 = .ok (.iload_n 1, 1) := by decide +kernel
theorem d33_2 : decode jdk_42_method_155_code 2 = .ok (.getstatic 1053, 3) := by decide +kernel
theorem d33_5 : decode jdk_42_method_155_code 5 = .ok (.invokestatic 1059, 3) := by decide +kernel
theorem d33_8 : decode jdk_42_method_155_code 8 = .ok (.pop, 1) := by decide +kernel
theorem d33_9 : decode jdk_42_method_155_code 9 = .ok (.return_, 1) := by decide +kernel
theorem pn_33 : plainName "java/lang/String" = true := by first | (simp [plainName, overriddenIn]; done) | decide +kernel
theorem ef_33_rr (m : MethodId) (x0 : Int32) (x1 : Int32) : entryFrame m #[(.int x0), (.int x1)] 2 = mkF m 0 #[.val (.int x0), .val (.int x1)] [] := by first | (simp [entryFrame, mkF, argsToLocals, Value.category]; done) | rfl
theorem rmSCI0 (l : Launch) (Z : State) (a0 : Array Value) (hw : ∀ d ∈ tables_1, d.before a0 Z = true) (ws : List Jvm.Cond) (G1 : Int32) (G3 : Value) (h0 : Heap) (n0 : Nat) (Z0 : n0 ≤ h0.size) (EN : own_env Z G1 G3) (X00 : Old Z n0 h0) :
    MetFree l y_10 (head1 (Jvm.Cond.code y_10 jdk_42_method_155_code 2 none :: ws) ({ frames := 1, cells := 0, slots := 0, locals := 14 } : Room)) (fun a_ U_ => a_ = #[(.int 0), (.int 1)] ∧ Z.Warmed39 U_.vm ∧ U_.heap = h0) (fun _ _ _ _ _ => True) (fun _ U_ o_ U1_ => ∃ v_ L_, o_ = .returned v_ ∧ own_Q Z (none) h0 n0 v_ U1_.heap L_ ∧ FrameEnd U_ o_ U1_ L_ ({ frames := 1, cells := 0, slots := 0, locals := 14 } : Room).cells ({ frames := 1, cells := 0, slots := 0, locals := 14 } : Room).slots) := by
  refine MetFree.of_bodySF (plainFor_of_name pn_33) hisR ?_
  intro p e s m args below meth c s₁ Bd hml0 hP hK
  obtain ⟨rfl, hZ, hh⟩ := hP
  have hx := Bd.exec
  have hby := Bd.bytes
  have hml : c.maxLocals = 2 := hml0
  have hown : s.vm.findClass "java/lang/String" = some m.cls := findClass_of_methodNamed Bd.named
  have hnm := (name_of_methodNamed Bd.named Bd.method).1
  have X0 : Stand p l e ({ frames := 1, cells := 0, slots := 0, locals := 14 } : Room) s m #[(.int 0), (.int 1)] below meth c s₁ [] 0 0 := Stand.of_body Bd
  have e0 : s₁.heap = h0 := by rw [← hh, Bd.state]; rfl
  have N0 := Fr.nil n0
  have pre0 : ∀ tt, Steps p.tables e below (s₁.setTop (mkF m 0 #[.val (.int 0), .val (.int 1)] [])) tt → Steps p.tables e below (s₁.setTop (entryFrame m #[(.int 0), (.int 1)] 2)) tt := fun tt kk => castTop (ef_33_rr m (0 : Int32) (1 : Int32)) kk
  have EN0 := EN
  obtain ⟨O2, P5, O4, rG3⟩ := EN
  obtain ⟨T1, X1, e1, st1⟩ := getS2 X0 hx hZ hown (host := "") (Or.inl (hw _ (tk 212 rfl))) Via.refl e0 (Sta.ext X00.2 O4) (g := (mkF m 2 #[.val (.int 0), .val (.int 1)] [(.int 1), (.int 0)])) rfl (hb hby d33_2)
  obtain ⟨_, _, ⟨T2, L2, k2, n2⟩, -, X2, ⟨Lc2, hQ2, l2, y2, z2⟩, st2⟩ := Jvm.LawKit.callS X1 hx (y := y_6) hown (mvT hZ (hw _ (tk 213 rfl))) (mvT hZ (hw _ (tk 119 rfl))) (mvT hZ (hw _ (tk 120 rfl))) (mvT hZ (hw _ (tk 121 rfl))) (by decide) (backOf (W := 0) (rmCIq l Z a0 hw [] G3 h0 n0 Z0 rG3) hZ (hw _ (tk 121 rfl)) (hw _ (tk 120 rfl)) (by decide) (by decide)) (g := (mkF m 5 #[.val (.int 0), .val (.int 1)] [G3, (.int 1), (.int 0)])) rfl (by rw [hml]; rfl) (argsL := [(.int 0), (.int 1), G3]) (rest := []) (lenOf pd__IILjava_util_function_BiFunction__I rfl) rfl (by show 2 * 0 + _ ≤ _; exact Nat.le_of_eq rfl) (hb hby d33_5) (fun _ _ => ⟨rfl, e1, (by decide : 0 + 0 ≤ _), (by decide : 0 + 0 ≤ _)⟩)
  dsimp only [Pt.U, Pt.locs, Pt.cells, Pt.slots] at X2 l2 y2 z2 st2 hQ2
  subst l2 y2 z2
  obtain ⟨rfl, Nq2, eq2⟩ := hQ2
  have N2 := Fr.app N0 Nq2
  obtain ⟨fs, hr, hrun, hended, hW, hsame⟩ := X2.leave (v := none) (fun _ => rfl)
  refine ⟨_, _, pre0 _ ?_, hrun, hended, _, _, rfl, ?_, ⟨_, rfl⟩, hW, hsame.mono (by decide) (by decide)⟩
  · show Steps _ _ _ (s₁.setTop (mkF m 0 #[.val (.int 0), .val (.int 1)] [])) _
    refine XS.iloadN X0.here hx rfl (hb hby d33_0) rfl ?_
    refine XS.iloadN X0.here hx rfl (hb hby d33_1) rfl ?_
    show Steps _ _ _ (s₁.setTop (mkF m 2 #[.val (.int 0), .val (.int 1)] [(.int 1), (.int 0)])) _
    refine st1 _ ?_
    show Steps _ _ _ (T1.setTop (mkF m 5 #[.val (.int 0), .val (.int 1)] [G3, (.int 1), (.int 0)])) _
    refine st2 _ ?_
    show Steps _ _ _ (T2.setTop (mkF m 8 #[.val (.int 0), .val (.int 1)] [(.int 0)])) _
    refine XS.pop X2.here hx rfl (hb hby d33_8) rfl rfl ?_
    show Steps _ _ _ (T2.setTop (mkF m 9 #[.val (.int 0), .val (.int 1)] [])) _
    exact X2.returnOut hx Bd.returns (hb hby d33_9) hr
  · show own_Q Z (none) h0 n0 _ T2.heap _
    rw [eq2]
    exact ⟨rfl, N2, rfl⟩
theorem d34_0 : decode jdk_89_method_18_code 0 = .ok (.iload_n 0, 1) := by decide +kernel
theorem d34_1 : decode jdk_89_method_18_code 1 = .ok (.ldc 73, 2) := by decide +kernel
theorem d34_3 : decode jdk_89_method_18_code 3 = .ok (.if_icmp .lt 7, 3) := by decide +kernel
theorem d34_10 : decode jdk_89_method_18_code 10 = .ok (.iconst 1, 1) := by decide +kernel
theorem d34_11 : decode jdk_89_method_18_code 11 = .ok (.ireturn, 1) := by decide +kernel
theorem pn_34 : plainName "java/lang/Character" = true := by first | (simp [plainName, overriddenIn]; done) | decide +kernel
theorem ef_34_r (m : MethodId) (x0 : Int32) : entryFrame m #[(.int x0)] 1 = mkF m 0 #[.val (.int x0)] [] := by first | (simp [entryFrame, mkF, argsToLocals, Value.category]; done) | rfl
theorem rmCC0 (l : Launch) (Z : State) (a0 : Array Value) (hw : ∀ d ∈ tables_1, d.before a0 Z = true) (ws : List Jvm.Cond)  (h0 : Heap) (n0 : Nat) (Z0 : n0 ≤ h0.size) :
    MetFree l y_11 (head1 (Jvm.Cond.code y_11 jdk_89_method_18_code 1 (some .int) :: ws) ({ frames := 0, cells := 0, slots := 0, locals := 0 } : Room)) (fun a_ U_ => a_ = #[(.int 81)] ∧ Z.Warmed39 U_.vm ∧ U_.heap = h0) (fun _ _ _ _ _ => True) (fun _ U_ o_ U1_ => ∃ v_ L_, o_ = .returned v_ ∧ own_Q Z (some (.int 1)) h0 n0 v_ U1_.heap L_ ∧ FrameEnd U_ o_ U1_ L_ ({ frames := 0, cells := 0, slots := 0, locals := 0 } : Room).cells ({ frames := 0, cells := 0, slots := 0, locals := 0 } : Room).slots) := by
  refine MetFree.of_bodySF (plainFor_of_name pn_34) hisR ?_
  intro p e s m args below meth c s₁ Bd hml0 hP hK
  obtain ⟨rfl, hZ, hh⟩ := hP
  have hx := Bd.exec
  have hby := Bd.bytes
  have hml : c.maxLocals = 1 := hml0
  have hown : s.vm.findClass "java/lang/Character" = some m.cls := findClass_of_methodNamed Bd.named
  have hnm := (name_of_methodNamed Bd.named Bd.method).1
  have X0 : Stand p l e ({ frames := 0, cells := 0, slots := 0, locals := 0 } : Room) s m #[(.int 81)] below meth c s₁ [] 0 0 := Stand.of_body Bd
  have e0 : s₁.heap = h0 := by rw [← hh, Bd.state]; rfl
  have N0 := Fr.nil n0
  have pre0 : ∀ tt, Steps p.tables e below (s₁.setTop (mkF m 0 #[.val (.int 81)] [])) tt → Steps p.tables e below (s₁.setTop (entryFrame m #[(.int 81)] 1)) tt := fun tt kk => castTop (ef_34_r m (81 : Int32)) kk
  obtain ⟨fs, hr, hrun, hended, hW, hsame⟩ := X0.leave (v := some (.int 1)) (fun h => by rw [Bd.returns] at h; cases h)
  refine ⟨_, _, pre0 _ ?_, hrun, hended, _, _, rfl, ?_, ⟨_, rfl⟩, hW, hsame.mono (by decide) (by decide)⟩
  · show Steps _ _ _ (s₁.setTop (mkF m 0 #[.val (.int 81)] [])) _
    refine XS.iloadN X0.here hx rfl (hb hby d34_0) rfl ?_
    show Steps _ _ _ (s₁.setTop (mkF m 1 #[.val (.int 81)] [(.int 81)])) _
    refine X0.ldcInt hx hown (mvT hZ (hw _ (tk 217 rfl))) (g := (mkF m 1 #[.val (.int 81)] [(.int 81)])) rfl (hb hby d34_1) _ ?_
    show Steps _ _ _ (s₁.setTop (mkF m 3 #[.val (.int 81)] [(.int 65536), (.int 81)])) _
    refine XS.icmpYes X0.here hx rfl (pc0 := 3) (pc' := 10) rfl (hb hby d34_3) rfl (tlt (by decide : (81 : Int32) < (65536 : Int32))).1 (by decide) (by decide) ?_
    refine XS.iconst X0.here hx rfl (hb hby d34_10) ?_
    show Steps _ _ _ (s₁.setTop (mkF m 11 #[.val (.int 81)] [(.int 1)])) _
    exact retI X0 hx Bd.returns (hb hby d34_11) hr
  · show own_Q Z (some (.int 1)) h0 n0 _ s₁.heap _
    rw [e0]
    exact ⟨rfl, N0, rfl⟩
theorem d36_0 : decode jdk_89_method_89_code 0 = .ok (.iload_n 0, 1) := by decide +kernel
theorem d36_1 : decode jdk_89_method_89_code 1 = .ok (.sipush 159, 3) := by decide +kernel
theorem d36_4 : decode jdk_89_method_89_code 4 = .ok (.if_icmp .gt 19, 3) := by decide +kernel
theorem d36_7 : decode jdk_89_method_89_code 7 = .ok (.iload_n 0, 1) := by decide +kernel
theorem d36_8 : decode jdk_89_method_89_code 8 = .ok (.bipush 127, 2) := by decide +kernel
theorem d36_10 : decode jdk_89_method_89_code 10 = .ok (.if_icmp .ge 9, 3) := by decide +kernel
theorem d36_13 : decode jdk_89_method_89_code 13 = .ok (.iload_n 0, 1) := by decide +kernel
theorem d36_14 : decode jdk_89_method_89_code 14 = .ok (.iconst 5, 1) := by decide +kernel
theorem d36_15 : decode jdk_89_method_89_code 15 = .ok (.iushr, 1) := by decide +kernel
theorem d36_16 : decode jdk_89_method_89_code 16 = .ok (.ifCond .ne 7, 3) := by decide +kernel
theorem d36_23 : decode jdk_89_method_89_code 23 = .ok (.iconst 0, 1) := by decide +kernel
theorem d36_24 : decode jdk_89_method_89_code 24 = .ok (.ireturn, 1) := by decide +kernel
theorem pn_36 : plainName "java/lang/Character" = true := by first | (simp [plainName, overriddenIn]; done) | decide +kernel
theorem ef_36_r (m : MethodId) (x0 : Int32) : entryFrame m #[(.int x0)] 1 = mkF m 0 #[.val (.int x0)] [] := by first | (simp [entryFrame, mkF, argsToLocals, Value.category]; done) | rfl
theorem rmISO0 (l : Launch) (Z : State) (a0 : Array Value) (hw : ∀ d ∈ tables_1, d.before a0 Z = true) (ws : List Jvm.Cond)  (h0 : Heap) (n0 : Nat) (Z0 : n0 ≤ h0.size) :
    MetFree l y_12 (head1 (Jvm.Cond.code y_12 jdk_89_method_89_code 1 (some .boolean) :: ws) ({ frames := 0, cells := 0, slots := 0, locals := 0 } : Room)) (fun a_ U_ => a_ = #[(.int 81)] ∧ Z.Warmed39 U_.vm ∧ U_.heap = h0) (fun _ _ _ _ _ => True) (fun _ U_ o_ U1_ => ∃ v_ L_, o_ = .returned v_ ∧ own_Q Z (some (.int 0)) h0 n0 v_ U1_.heap L_ ∧ FrameEnd U_ o_ U1_ L_ ({ frames := 0, cells := 0, slots := 0, locals := 0 } : Room).cells ({ frames := 0, cells := 0, slots := 0, locals := 0 } : Room).slots) := by
  refine MetFree.of_bodySF (plainFor_of_name pn_36) hisR ?_
  intro p e s m args below meth c s₁ Bd hml0 hP hK
  obtain ⟨rfl, hZ, hh⟩ := hP
  have hx := Bd.exec
  have hby := Bd.bytes
  have hml : c.maxLocals = 1 := hml0
  have hown : s.vm.findClass "java/lang/Character" = some m.cls := findClass_of_methodNamed Bd.named
  have hnm := (name_of_methodNamed Bd.named Bd.method).1
  have X0 : Stand p l e ({ frames := 0, cells := 0, slots := 0, locals := 0 } : Room) s m #[(.int 81)] below meth c s₁ [] 0 0 := Stand.of_body Bd
  have e0 : s₁.heap = h0 := by rw [← hh, Bd.state]; rfl
  have N0 := Fr.nil n0
  have pre0 : ∀ tt, Steps p.tables e below (s₁.setTop (mkF m 0 #[.val (.int 81)] [])) tt → Steps p.tables e below (s₁.setTop (entryFrame m #[(.int 81)] 1)) tt := fun tt kk => castTop (ef_36_r m (81 : Int32)) kk
  obtain ⟨fs, hr, hrun, hended, hW, hsame⟩ := X0.leave (v := some (.int 0)) (fun h => by rw [Bd.returns] at h; cases h)
  refine ⟨_, _, pre0 _ ?_, hrun, hended, _, _, rfl, ?_, ⟨_, rfl⟩, hW, hsame.mono (by decide) (by decide)⟩
  · show Steps _ _ _ (s₁.setTop (mkF m 0 #[.val (.int 81)] [])) _
    refine XS.iloadN X0.here hx rfl (hb hby d36_0) rfl ?_
    refine XS.sipush X0.here hx rfl (hb hby d36_1) ?_
    refine XS.icmpNo X0.here hx rfl (hb hby d36_4) rfl (flt (by decide : ¬ ((159 : Int32) < (81 : Int32)))).2.2.1 ?_
    refine XS.iloadN X0.here hx rfl (hb hby d36_7) rfl ?_
    refine XS.bipush X0.here hx rfl (hb hby d36_8) ?_
    refine XS.icmpNo X0.here hx rfl (hb hby d36_10) rfl (tlt (by decide : (81 : Int32) < (127 : Int32))).2.1 ?_
    refine XS.iloadN X0.here hx rfl (hb hby d36_13) rfl ?_
    refine XS.iconst X0.here hx rfl (hb hby d36_14) ?_
    refine XS.iushr X0.here hx rfl (hb hby d36_15) rfl ?_
    show Steps _ _ _ (s₁.setTop (mkF m 16 #[.val (.int 81)] [(.int (((81 : Int32).toUInt32 >>> ((5 : Int32) &&& 31).toUInt32).toInt32))])) _
    rw [(by decide : (((81 : Int32).toUInt32 >>> ((5 : Int32) &&& 31).toUInt32).toInt32) = (2 : Int32))]
    show Steps _ _ _ (s₁.setTop (mkF m 16 #[.val (.int 81)] [(.int 2)])) _
    refine XS.ifYes X0.here hx rfl (pc0 := 16) (pc' := 23) rfl (hb hby d36_16) rfl ((if0 _ _).trans (feq (by decide : ¬ ((2 : Int32) = (0 : Int32)))).2) (by decide) (by decide) ?_
    refine XS.iconst X0.here hx rfl (hb hby d36_23) ?_
    show Steps _ _ _ (s₁.setTop (mkF m 24 #[.val (.int 81)] [(.int 0)])) _
    exact retN X0 hx (t := .boolean) Bd.returns (by simp) (hb hby d36_24) hr
  · show own_Q Z (some (.int 0)) h0 n0 _ s₁.heap _
    rw [e0]
    exact ⟨rfl, N0, rfl⟩
theorem d35_0 : decode prog_104_method_8_code 0 = .ok (.iload_n 0, 1) := by decide +kernel
theorem pd__I_Z : parseMethodDescriptor "(I)Z" = some ⟨[.int], some .boolean⟩ := by decide +kernel
theorem d35_1 : decode prog_104_method_8_code 1 = .ok (.invokestatic 102, 3) := by decide +kernel
theorem d35_4 : decode prog_104_method_8_code 4 = .ok (.ifCond .ne 17, 3) := by decide +kernel
theorem d35_7 : decode prog_104_method_8_code 7 = .ok (.iload_n 0, 1) := by decide +kernel
theorem d35_8 : decode prog_104_method_8_code 8 = .ok (.sipush 8232, 3) := by decide +kernel
theorem d35_11 : decode prog_104_method_8_code 11 = .ok (.if_icmp .eq 10, 3) := by decide +kernel
theorem d35_14 : decode prog_104_method_8_code 14 = .ok (.iload_n 0, 1) := by decide +kernel
theorem d35_15 : decode prog_104_method_8_code 15 = .ok (.sipush 8233, 3) := by decide +kernel
theorem d35_18 : decode prog_104_method_8_code 18 = .ok (.if_icmp .ne 7, 3) := by decide +kernel
theorem d35_25 : decode prog_104_method_8_code 25 = .ok (.iconst 0, 1) := by decide +kernel
theorem d35_26 : decode prog_104_method_8_code 26 = .ok (.ireturn, 1) := by decide +kernel
theorem pn_35 : plainName "dev/treefold/text/Canvas" = true := by first | (simp [plainName, overriddenIn]; done) | decide +kernel
theorem ef_35_r (m : MethodId) (x0 : Int32) : entryFrame m #[(.int x0)] 1 = mkF m 0 #[.val (.int x0)] [] := by first | (simp [entryFrame, mkF, argsToLocals, Value.category]; done) | rfl
theorem rmSAB0 (l : Launch) (Z : State) (a0 : Array Value) (hw : ∀ d ∈ tables_1, d.before a0 Z = true) (ws : List Jvm.Cond)  (h0 : Heap) (n0 : Nat) (Z0 : n0 ≤ h0.size) :
    MetFree l y_13 (head1 (Jvm.Cond.code y_13 prog_104_method_8_code 1 (some .boolean) :: ws) ({ frames := 1, cells := 0, slots := 0, locals := 12 } : Room)) (fun a_ U_ => a_ = #[(.int 81)] ∧ Z.Warmed39 U_.vm ∧ U_.heap = h0) (fun _ _ _ _ _ => True) (fun _ U_ o_ U1_ => ∃ v_ L_, o_ = .returned v_ ∧ own_Q Z (some (.int 0)) h0 n0 v_ U1_.heap L_ ∧ FrameEnd U_ o_ U1_ L_ ({ frames := 1, cells := 0, slots := 0, locals := 12 } : Room).cells ({ frames := 1, cells := 0, slots := 0, locals := 12 } : Room).slots) := by
  refine MetFree.of_bodySF (plainFor_of_name pn_35) hisR ?_
  intro p e s m args below meth c s₁ Bd hml0 hP hK
  obtain ⟨rfl, hZ, hh⟩ := hP
  have hx := Bd.exec
  have hby := Bd.bytes
  have hml : c.maxLocals = 1 := hml0
  have hown : s.vm.findClass "dev/treefold/text/Canvas" = some m.cls := findClass_of_methodNamed Bd.named
  have hnm := (name_of_methodNamed Bd.named Bd.method).1
  have X0 : Stand p l e ({ frames := 1, cells := 0, slots := 0, locals := 12 } : Room) s m #[(.int 81)] below meth c s₁ [] 0 0 := Stand.of_body Bd
  have e0 : s₁.heap = h0 := by rw [← hh, Bd.state]; rfl
  have N0 := Fr.nil n0
  have pre0 : ∀ tt, Steps p.tables e below (s₁.setTop (mkF m 0 #[.val (.int 81)] [])) tt → Steps p.tables e below (s₁.setTop (entryFrame m #[(.int 81)] 1)) tt := fun tt kk => castTop (ef_35_r m (81 : Int32)) kk
  obtain ⟨_, _, ⟨T1, L1, k1, n1⟩, -, X1, ⟨Lc1, hQ1, l1, y1, z1⟩, st1⟩ := Jvm.LawKit.callS X0 hx (y := y_12) hown (mvT hZ (hw _ (tk 221 rfl))) (mvT hZ (hw _ (tk 222 rfl))) (mvT hZ (hw _ (tk 195 rfl))) (mvT hZ (hw _ (tk 223 rfl))) (by decide) (backOf (W := 0) (rmISO0 l Z a0 hw [] h0 n0 Z0) hZ (hw _ (tk 223 rfl)) (hw _ (tk 195 rfl)) (by decide) (by decide)) (g := (mkF m 1 #[.val (.int 81)] [(.int 81)])) rfl (by rw [hml]; rfl) (argsL := [(.int 81)]) (rest := []) (lenOf pd__I_Z rfl) rfl (by show 2 * 0 + _ ≤ _; exact Nat.le_of_eq rfl) (hb hby d35_1) (fun _ _ => ⟨rfl, e0, (by decide : 0 + 0 ≤ _), (by decide : 0 + 0 ≤ _)⟩)
  dsimp only [Pt.U, Pt.locs, Pt.cells, Pt.slots] at X1 l1 y1 z1 st1 hQ1
  subst l1 y1 z1
  obtain ⟨rfl, Nq1, eq1⟩ := hQ1
  have N1 := Fr.app N0 Nq1
  obtain ⟨fs, hr, hrun, hended, hW, hsame⟩ := X1.leave (v := some (.int 0)) (fun h => by rw [Bd.returns] at h; cases h)
  refine ⟨_, _, pre0 _ ?_, hrun, hended, _, _, rfl, ?_, ⟨_, rfl⟩, hW, hsame.mono (by decide) (by decide)⟩
  · show Steps _ _ _ (s₁.setTop (mkF m 0 #[.val (.int 81)] [])) _
    refine XS.iloadN X0.here hx rfl (hb hby d35_0) rfl ?_
    show Steps _ _ _ (s₁.setTop (mkF m 1 #[.val (.int 81)] [(.int 81)])) _
    refine st1 _ ?_
    show Steps _ _ _ (T1.setTop (mkF m 4 #[.val (.int 81)] [(.int 0)])) _
    refine XS.ifNo X1.here hx rfl (hb hby d35_4) rfl ((if0 _ _).trans (teq (by decide : (0 : Int32) = (0 : Int32))).2) ?_
    refine XS.iloadN X1.here hx rfl (hb hby d35_7) rfl ?_
    refine XS.sipush X1.here hx rfl (hb hby d35_8) ?_
    refine XS.icmpNo X1.here hx rfl (hb hby d35_11) rfl (feq (by decide : ¬ ((81 : Int32) = (8232 : Int32)))).1 ?_
    refine XS.iloadN X1.here hx rfl (hb hby d35_14) rfl ?_
    refine XS.sipush X1.here hx rfl (hb hby d35_15) ?_
    refine XS.icmpYes X1.here hx rfl (pc0 := 18) (pc' := 25) rfl (hb hby d35_18) rfl (feq (by decide : ¬ ((81 : Int32) = (8233 : Int32)))).2 (by decide) (by decide) ?_
    refine XS.iconst X1.here hx rfl (hb hby d35_25) ?_
    show Steps _ _ _ (T1.setTop (mkF m 26 #[.val (.int 81)] [(.int 0)])) _
    exact retN X1 hx (t := .boolean) Bd.returns (by simp) (hb hby d35_26) hr
  · show own_Q Z (some (.int 0)) h0 n0 _ T1.heap _
    rw [eq1]
    exact ⟨rfl, N1, rfl⟩
theorem d21_0 : decode jdk_42_method_59_code 0 = .ok (.iload_n 1, 1) := by decide +kernel
theorem d21_1 : decode jdk_42_method_59_code 1 = .ok (.iload_n 2, 1) := by decide +kernel
theorem d21_2 : decode jdk_42_method_59_code 2 = .ok (.aload_n 0, 1) := by decide +kernel
theorem pd___I : parseMethodDescriptor "()I" = some ⟨[], some .int⟩ := by decide +kernel
theorem d21_3 : decode jdk_42_method_59_code 3 = .ok (.invokevirtual 505, 3) := by decide +kernel
theorem pd__III_I : parseMethodDescriptor "(III)I" = some ⟨[.int, .int, .int], some .int⟩ := by decide +kernel
theorem d21_6 : decode jdk_42_method_59_code 6 = .ok (.invokestatic 511, 3) := by decide +kernel
theorem d21_9 : decode jdk_42_method_59_code 9 = .ok (.pop, 1) := by decide +kernel
theorem d21_10 : decode jdk_42_method_59_code 10 = .ok (.aload_n 0, 1) := by decide +kernel
theorem pd___Z : parseMethodDescriptor "()Z" = some ⟨[], some .boolean⟩ := by decide +kernel
theorem d21_11 : decode jdk_42_method_59_code 11 = .ok (.invokevirtual 492, 3) := by decide +kernel
theorem d21_14 : decode jdk_42_method_59_code 14 = .ok (.ifCond .eq 7, 3) := by decide +kernel
theorem d21_17 : decode jdk_42_method_59_code 17 = .ok (.iload_n 2, 1) := by decide +kernel
theorem d21_18 : decode jdk_42_method_59_code 18 = .ok (.iload_n 1, 1) := by decide +kernel
theorem d21_19 : decode jdk_42_method_59_code 19 = .ok (.isub, 1) := by decide +kernel
theorem d21_20 : decode jdk_42_method_59_code 20 = .ok (.ireturn, 1) := by decide +kernel
theorem pn_21 : plainName "java/lang/String" = true := by first | (simp [plainName, overriddenIn]; done) | decide +kernel
theorem ef_21_rrr (m : MethodId) (x0 : Addr) (x1 : Int32) (x2 : Int32) : entryFrame m #[(.ref x0), (.int x1), (.int x2)] 3 = mkF m 0 #[.val (.ref x0), .val (.int x1), .val (.int x2)] [] := by first | (simp [entryFrame, mkF, argsToLocals, Value.category]; done) | rfl
theorem rmCPC (l : Launch) (Z : State) (a0 : Array Value) (hw : ∀ d ∈ tables_1, d.before a0 Z = true) (ws : List Jvm.Cond) (G1 : Int32) (G3 : Value) (x : Addr) (h0 : Heap) (n0 : Nat) (Z0 : n0 ≤ h0.size) (EN : own_env Z G1 G3) (X00 : Old Z n0 h0) (S_x : own_s Z h0 x ([81] : List Int32)) :
    MetFree l y_14 (head1 (Jvm.Cond.code y_14 jdk_42_method_59_code 3 (some .int) :: ws) ({ frames := 2, cells := 0, slots := 0, locals := 29 } : Room)) (fun a_ U_ => a_ = #[(.ref x), (.int 0), (.int 1)] ∧ Z.Warmed39 U_.vm ∧ U_.heap = h0) (fun _ _ _ _ _ => True) (fun _ U_ o_ U1_ => ∃ v_ L_, o_ = .returned v_ ∧ own_Q Z (some (.int 1)) h0 n0 v_ U1_.heap L_ ∧ FrameEnd U_ o_ U1_ L_ ({ frames := 2, cells := 0, slots := 0, locals := 29 } : Room).cells ({ frames := 2, cells := 0, slots := 0, locals := 29 } : Room).slots) := by
  refine MetFree.of_bodySF (plainFor_of_name pn_21) hisR ?_
  intro p e s m args below meth c s₁ Bd hml0 hP hK
  obtain ⟨rfl, hZ, hh⟩ := hP
  have hx := Bd.exec
  have hby := Bd.bytes
  have hml : c.maxLocals = 3 := hml0
  have hown : s.vm.findClass "java/lang/String" = some m.cls := findClass_of_methodNamed Bd.named
  have hnm := (name_of_methodNamed Bd.named Bd.method).1
  have X0 : Stand p l e ({ frames := 2, cells := 0, slots := 0, locals := 29 } : Room) s m #[(.ref x), (.int 0), (.int 1)] below meth c s₁ [] 0 0 := Stand.of_body Bd
  have e0 : s₁.heap = h0 := by rw [← hh, Bd.state]; rfl
  have N0 := Fr.nil n0
  have pre0 : ∀ tt, Steps p.tables e below (s₁.setTop (mkF m 0 #[.val (.ref x), .val (.int 0), .val (.int 1)] [])) tt → Steps p.tables e below (s₁.setTop (entryFrame m #[(.ref x), (.int 0), (.int 1)] 3)) tt := fun tt kk => castTop (ef_21_rrr m x (0 : Int32) (1 : Int32)) kk
  have EN0 := EN
  obtain ⟨O2, P5, O4, rG3⟩ := EN
  obtain ⟨b_x, k_x, E_x, C_x, V_x, K_x, hp_x, hl_x⟩ := id S_x
  obtain ⟨cq1, kq1, q1a, q1b, q1c⟩ := isOf hZ e0 E_x
  obtain ⟨_, _, ⟨T1, L1, k1, n1⟩, -, X1, ⟨Lc1, hQ1, l1, y1, z1⟩, st1⟩ := X0.virtualBack hx (y := y_2) (z := y_2) hown (mvT hZ (hw _ (tk 156 rfl))) (mvT hZ (hw _ (tk 134 rfl))) (notFace_of_selects (args := #[]) (mvT hZ (hw _ (tk 136 rfl)))) (mvT hZ (hw _ (tk 136 rfl))) (mvT hZ (hw _ (tk 135 rfl))) (by decide) (backOf (W := 2) (rmLN l Z a0 hw [] G1 G3 x ([81] : List Int32) h0 n0 Z0 EN0 X00 ⟨b_x, k_x, E_x, C_x, V_x, K_x, hp_x, hl_x⟩) hZ (hw _ (tk 137 rfl)) (hw _ (tk 36 rfl)) (by decide) (by decide)) q1a q1c (g := (mkF m 3 #[.val (.ref x), .val (.int 0), .val (.int 1)] [(.ref x), (.int 1), (.int 0)])) rfl (by rw [hml]; rfl) (Steps.refl _) (argsL := []) (rest := [(.int 1), (.int 0)]) (lenOf pd___I rfl) rfl (by show 2 * 0 + _ ≤ _; exact Nat.le_of_eq rfl) (hb hby d21_3) (fun _ _ => ⟨rfl, e0, (by decide : 0 + 0 ≤ _), (by decide : 0 + 0 ≤ _)⟩)
  dsimp only [Pt.U, Pt.locs, Pt.cells, Pt.slots] at X1 l1 y1 z1 st1 hQ1
  subst l1 y1 z1
  obtain ⟨rfl, Nq1, eq1⟩ := hQ1
  have N1 := Fr.app N0 Nq1
  obtain ⟨_, _, ⟨T2, L2, k2, n2⟩, -, X2, ⟨Lc2, hQ2, l2, y2, z2⟩, st2⟩ := Jvm.LawKit.callS X1 hx (y := y_9) hown (mvT hZ (hw _ (tk 157 rfl))) (mvT hZ (hw _ (tk 158 rfl))) (mvT hZ (hw _ (tk 116 rfl))) (mvT hZ (hw _ (tk 159 rfl))) (by decide) (backOf (W := 0) (rmOF0 l Z a0 hw [] h0 n0 Z0) hZ (hw _ (tk 159 rfl)) (hw _ (tk 116 rfl)) (by decide) (by decide)) (g := (mkF m 6 #[.val (.ref x), .val (.int 0), .val (.int 1)] [(.int 1), (.int 1), (.int 0)])) rfl (by rw [hml]; rfl) (argsL := [(.int 0), (.int 1), (.int 1)]) (rest := []) (lenOf pd__III_I rfl) rfl (by show 2 * 0 + _ ≤ _; exact Nat.le_of_eq rfl) (hb hby d21_6) (fun _ _ => ⟨rfl, eq1, (by decide : 0 + 0 ≤ _), (by decide : 0 + 0 ≤ _)⟩)
  dsimp only [Pt.U, Pt.locs, Pt.cells, Pt.slots] at X2 l2 y2 z2 st2 hQ2
  subst l2 y2 z2
  obtain ⟨rfl, Nq2, eq2⟩ := hQ2
  have N2 := Fr.app N1 Nq2
  obtain ⟨cq3, kq3, q3a, q3b, q3c⟩ := isOf hZ eq2 E_x
  obtain ⟨_, _, ⟨T3, L3, k3, n3⟩, -, X3, ⟨Lc3, hQ3, l3, y3, z3⟩, st3⟩ := X2.virtualBack hx (y := y_1) (z := y_1) hown (mvT hZ (hw _ (tk 163 rfl))) (mvT hZ (hw _ (tk 164 rfl))) (notFace_of_selects (args := #[]) (mvT hZ (hw _ (tk 166 rfl)))) (mvT hZ (hw _ (tk 166 rfl))) (mvT hZ (hw _ (tk 165 rfl))) (by decide) (backOf (W := 0) (rmLA l Z a0 hw [] G1 G3 x h0 n0 Z0 EN0 X00 C_x) hZ (hw _ (tk 167 rfl)) (hw _ (tk 36 rfl)) (by decide) (by decide)) q3a q3c (g := (mkF m 11 #[.val (.ref x), .val (.int 0), .val (.int 1)] [(.ref x)])) rfl (by rw [hml]; rfl) (Steps.refl _) (argsL := []) (rest := []) (lenOf pd___Z rfl) rfl (by show 2 * 0 + _ ≤ _; exact Nat.le_of_eq rfl) (hb hby d21_11) (fun _ _ => ⟨rfl, eq2, (by decide : 0 + 0 ≤ _), (by decide : 0 + 0 ≤ _)⟩)
  dsimp only [Pt.U, Pt.locs, Pt.cells, Pt.slots] at X3 l3 y3 z3 st3 hQ3
  subst l3 y3 z3
  obtain ⟨rfl, Nq3, eq3⟩ := hQ3
  have N3 := Fr.app N2 Nq3
  obtain ⟨fs, hr, hrun, hended, hW, hsame⟩ := X3.leave (v := some (.int 1)) (fun h => by rw [Bd.returns] at h; cases h)
  refine ⟨_, _, pre0 _ ?_, hrun, hended, _, _, rfl, ?_, ⟨_, rfl⟩, hW, hsame.mono (by decide) (by decide)⟩
  · show Steps _ _ _ (s₁.setTop (mkF m 0 #[.val (.ref x), .val (.int 0), .val (.int 1)] [])) _
    refine XS.iloadN X0.here hx rfl (hb hby d21_0) rfl ?_
    refine XS.iloadN X0.here hx rfl (hb hby d21_1) rfl ?_
    refine XS.aloadN X0.here hx rfl (hb hby d21_2) rfl rfl ?_
    show Steps _ _ _ (s₁.setTop (mkF m 3 #[.val (.ref x), .val (.int 0), .val (.int 1)] [(.ref x), (.int 1), (.int 0)])) _
    refine st1.trans ?_
    show Steps _ _ _ (T1.setTop (mkF m 6 #[.val (.ref x), .val (.int 0), .val (.int 1)] [(.int (Int32.ofNat ([81] : List Int32).length)), (.int 1), (.int 0)])) _
    rw [(rfl : Int32.ofNat ([81] : List Int32).length = (1 : Int32))]
    show Steps _ _ _ (T1.setTop (mkF m 6 #[.val (.ref x), .val (.int 0), .val (.int 1)] [(.int 1), (.int 1), (.int 0)])) _
    refine st2 _ ?_
    show Steps _ _ _ (T2.setTop (mkF m 9 #[.val (.ref x), .val (.int 0), .val (.int 1)] [(.int 0)])) _
    refine XS.pop X2.here hx rfl (hb hby d21_9) rfl rfl ?_
    refine XS.aloadN X2.here hx rfl (hb hby d21_10) rfl rfl ?_
    show Steps _ _ _ (T2.setTop (mkF m 11 #[.val (.ref x), .val (.int 0), .val (.int 1)] [(.ref x)])) _
    refine st3.trans ?_
    show Steps _ _ _ (T3.setTop (mkF m 14 #[.val (.ref x), .val (.int 0), .val (.int 1)] [(.int 1)])) _
    refine XS.ifNo X3.here hx rfl (hb hby d21_14) rfl ((if0 _ _).trans (feq (by decide : ¬ ((1 : Int32) = (0 : Int32)))).1) ?_
    refine XS.iloadN X3.here hx rfl (hb hby d21_17) rfl ?_
    refine XS.iloadN X3.here hx rfl (hb hby d21_18) rfl ?_
    refine XS.isub X3.here hx rfl (hb hby d21_19) rfl ?_
    show Steps _ _ _ (T3.setTop (mkF m 20 #[.val (.ref x), .val (.int 0), .val (.int 1)] [(.int ((1 : Int32) - (0 : Int32)))])) _
    rw [(by decide : ((1 : Int32) - (0 : Int32)) = (1 : Int32))]
    show Steps _ _ _ (T3.setTop (mkF m 20 #[.val (.ref x), .val (.int 0), .val (.int 1)] [(.int 1)])) _
    exact retI X3 hx Bd.returns (hb hby d21_20) hr
  · show own_Q Z (some (.int 1)) h0 n0 _ T3.heap _
    rw [eq3]
    exact ⟨rfl, N3, rfl⟩
theorem d31_0 : decode jdk_89_method_36_code 0 = .ok (.aload_n 0, 1) := by decide +kernel
theorem d31_1 : decode jdk_89_method_36_code 1 = .ok (.invokeinterface 92 1, 5) := by decide +kernel
theorem d31_6 : decode jdk_89_method_36_code 6 = .ok (.istore_n 3, 1) := by decide +kernel
theorem d31_7 : decode jdk_89_method_36_code 7 = .ok (.iload_n 1, 1) := by decide +kernel
theorem d31_8 : decode jdk_89_method_36_code 8 = .ok (.ifCond .lt 8, 3) := by decide +kernel
theorem d31_11 : decode jdk_89_method_36_code 11 = .ok (.iload_n 1, 1) := by decide +kernel
theorem d31_12 : decode jdk_89_method_36_code 12 = .ok (.iload_n 3, 1) := by decide +kernel
theorem d31_13 : decode jdk_89_method_36_code 13 = .ok (.if_icmp .le 11, 3) := by decide +kernel
theorem d31_24 : decode jdk_89_method_36_code 24 = .ok (.iload_n 1, 1) := by decide +kernel
theorem d31_25 : decode jdk_89_method_36_code 25 = .ok (.istore 4, 2) := by decide +kernel
theorem d31_27 : decode jdk_89_method_36_code 27 = .ok (.iload_n 2, 1) := by decide +kernel
theorem d31_28 : decode jdk_89_method_36_code 28 = .ok (.ifCond .lt 81, 3) := by decide +kernel
theorem d31_31 : decode jdk_89_method_36_code 31 = .ok (.iconst 0, 1) := by decide +kernel
theorem d31_32 : decode jdk_89_method_36_code 32 = .ok (.istore 5, 2) := by decide +kernel
theorem d31_34 : decode jdk_89_method_36_code 34 = .ok (.iload 4, 2) := by decide +kernel
theorem d31_36 : decode jdk_89_method_36_code 36 = .ok (.iload_n 3, 1) := by decide +kernel
theorem d31_37 : decode jdk_89_method_36_code 37 = .ok (.if_icmp .ge 55, 3) := by decide +kernel
theorem d31_40 : decode jdk_89_method_36_code 40 = .ok (.iload 5, 2) := by decide +kernel
theorem d31_42 : decode jdk_89_method_36_code 42 = .ok (.iload_n 2, 1) := by decide +kernel
theorem d31_43 : decode jdk_89_method_36_code 43 = .ok (.if_icmp .ge 49, 3) := by decide +kernel
theorem d31_92 : decode jdk_89_method_36_code 92 = .ok (.iload 5, 2) := by decide +kernel
theorem d31_94 : decode jdk_89_method_36_code 94 = .ok (.iload_n 2, 1) := by decide +kernel
theorem d31_95 : decode jdk_89_method_36_code 95 = .ok (.if_icmp .ge 11, 3) := by decide +kernel
theorem d31_106 : decode jdk_89_method_36_code 106 = .ok (.goto 76, 3) := by decide +kernel
theorem d31_182 : decode jdk_89_method_36_code 182 = .ok (.iload 4, 2) := by decide +kernel
theorem d31_184 : decode jdk_89_method_36_code 184 = .ok (.ireturn, 1) := by decide +kernel
theorem pn_31 : plainName "java/lang/Character" = true := by first | (simp [plainName, overriddenIn]; done) | decide +kernel
theorem ef_31_rrr (m : MethodId) (x0 : Addr) (x1 : Int32) (x2 : Int32) : entryFrame m #[(.ref x0), (.int x1), (.int x1)] 6 = mkF m 0 #[.val (.ref x0), .val (.int x1), .val (.int x1), .unset, .unset, .unset] [] := by first | (simp [entryFrame, mkF, argsToLocals, Value.category]; done) | rfl
theorem rmOBC (l : Launch) (Z : State) (a0 : Array Value) (hw : ∀ d ∈ tables_1, d.before a0 Z = true) (ws : List Jvm.Cond) (G1 : Int32) (G3 : Value) (x : Addr) (h0 : Heap) (n0 : Nat) (Z0 : n0 ≤ h0.size) (EN : own_env Z G1 G3) (X00 : Old Z n0 h0) (S_x : own_s Z h0 x ([81] : List Int32)) :
    MetFree l y_15 (head1 (Jvm.Cond.code y_15 jdk_89_method_36_code 6 (some .int) :: ws) ({ frames := 2, cells := 0, slots := 0, locals := 25 } : Room)) (fun a_ U_ => a_ = #[(.ref x), (.int 0), (.int 0)] ∧ Z.Warmed39 U_.vm ∧ U_.heap = h0) (fun _ _ _ _ _ => True) (fun _ U_ o_ U1_ => ∃ v_ L_, o_ = .returned v_ ∧ own_Q Z (some (.int 0)) h0 n0 v_ U1_.heap L_ ∧ FrameEnd U_ o_ U1_ L_ ({ frames := 2, cells := 0, slots := 0, locals := 25 } : Room).cells ({ frames := 2, cells := 0, slots := 0, locals := 25 } : Room).slots) := by
  refine MetFree.of_bodySF (plainFor_of_name pn_31) hisR ?_
  intro p e s m args below meth c s₁ Bd hml0 hP hK
  obtain ⟨rfl, hZ, hh⟩ := hP
  have hx := Bd.exec
  have hby := Bd.bytes
  have hml : c.maxLocals = 6 := hml0
  have hown : s.vm.findClass "java/lang/Character" = some m.cls := findClass_of_methodNamed Bd.named
  have hnm := (name_of_methodNamed Bd.named Bd.method).1
  have X0 : Stand p l e ({ frames := 2, cells := 0, slots := 0, locals := 25 } : Room) s m #[(.ref x), (.int 0), (.int 0)] below meth c s₁ [] 0 0 := Stand.of_body Bd
  have e0 : s₁.heap = h0 := by rw [← hh, Bd.state]; rfl
  have N0 := Fr.nil n0
  have pre0 : ∀ tt, Steps p.tables e below (s₁.setTop (mkF m 0 #[.val (.ref x), .val (.int 0), .val (.int 0), .unset, .unset, .unset] [])) tt → Steps p.tables e below (s₁.setTop (entryFrame m #[(.ref x), (.int 0), (.int 0)] 6)) tt := fun tt kk => castTop (ef_31_rrr m x (0 : Int32) (0 : Int32)) kk
  have EN0 := EN
  obtain ⟨O2, P5, O4, rG3⟩ := EN
  obtain ⟨b_x, k_x, E_x, C_x, V_x, K_x, hp_x, hl_x⟩ := id S_x
  obtain ⟨cq1, kq1, q1a, q1b, q1c⟩ := isOf hZ e0 E_x
  obtain ⟨_, _, ⟨T1, L1, k1, n1⟩, -, X1, ⟨Lc1, hQ1, l1, y1, z1⟩, st1⟩ := X0.interfaceBack hx (xi := (⟨"java/lang/CharSequence", "length", "()I"⟩ : MethodName)) (y := y_2) hown (mvT hZ (hw _ (tk 197 rfl))) (mvT hZ (hw _ (tk 198 rfl))) (mvT hZ (hw _ (tk 199 rfl))) (mvT hZ (hw _ (tk 200 rfl))) (mvT hZ (hw _ (tk 135 rfl))) (mvT hZ (hw _ (tk 201 rfl))) (mvT hZ (hw _ (tk 202 rfl))) (mvT hZ (hw _ (tk 203 rfl))) (by decide) (backOf (W := 0) (rmLN l Z a0 hw [] G1 G3 x ([81] : List Int32) h0 n0 Z0 EN0 X00 ⟨b_x, k_x, E_x, C_x, V_x, K_x, hp_x, hl_x⟩) hZ (hw _ (tk 137 rfl)) (hw _ (tk 36 rfl)) (by decide) (by decide)) q1a q1b q1c (g := (mkF m 1 #[.val (.ref x), .val (.int 0), .val (.int 0), .unset, .unset, .unset] [(.ref x)])) rfl (by rw [hml]; rfl) (Steps.refl _) (argsL := []) (rest := []) (lenOf pd___I rfl) rfl (by show 2 * 0 + _ ≤ _; exact Nat.le_of_eq rfl) (hb hby d31_1) (fun _ _ => ⟨rfl, e0, (by decide : 0 + 0 ≤ _), (by decide : 0 + 0 ≤ _)⟩)
  dsimp only [Pt.U, Pt.locs, Pt.cells, Pt.slots] at X1 l1 y1 z1 st1 hQ1
  subst l1 y1 z1
  obtain ⟨rfl, Nq1, eq1⟩ := hQ1
  have N1 := Fr.app N0 Nq1
  obtain ⟨fs, hr, hrun, hended, hW, hsame⟩ := X1.leave (v := some (.int 0)) (fun h => by rw [Bd.returns] at h; cases h)
  refine ⟨_, _, pre0 _ ?_, hrun, hended, _, _, rfl, ?_, ⟨_, rfl⟩, hW, hsame.mono (by decide) (by decide)⟩
  · show Steps _ _ _ (s₁.setTop (mkF m 0 #[.val (.ref x), .val (.int 0), .val (.int 0), .unset, .unset, .unset] [])) _
    refine XS.aloadN X0.here hx rfl (hb hby d31_0) rfl rfl ?_
    show Steps _ _ _ (s₁.setTop (mkF m 1 #[.val (.ref x), .val (.int 0), .val (.int 0), .unset, .unset, .unset] [(.ref x)])) _
    refine st1.trans ?_
    show Steps _ _ _ (T1.setTop (mkF m 6 #[.val (.ref x), .val (.int 0), .val (.int 0), .unset, .unset, .unset] [(.int (Int32.ofNat ([81] : List Int32).length))])) _
    rw [(rfl : Int32.ofNat ([81] : List Int32).length = (1 : Int32))]
    show Steps _ _ _ (T1.setTop (mkF m 6 #[.val (.ref x), .val (.int 0), .val (.int 0), .unset, .unset, .unset] [(.int 1)])) _
    refine XS.istoreN X1.here hx rfl (hb hby d31_6) rfl (l' := #[.val (.ref x), .val (.int 0), .val (.int 0), .val (.int 1), .unset, .unset]) rfl ?_
    refine XS.iloadN X1.here hx rfl (hb hby d31_7) rfl ?_
    refine XS.ifNo X1.here hx rfl (hb hby d31_8) rfl ((if0 _ _).trans (flt (by decide : ¬ ((0 : Int32) < (0 : Int32)))).1) ?_
    refine XS.iloadN X1.here hx rfl (hb hby d31_11) rfl ?_
    refine XS.iloadN X1.here hx rfl (hb hby d31_12) rfl ?_
    refine XS.icmpYes X1.here hx rfl (pc0 := 13) (pc' := 24) rfl (hb hby d31_13) rfl (flt (by decide : ¬ ((1 : Int32) < (0 : Int32)))).2.2.2 (by decide) (by decide) ?_
    refine XS.iloadN X1.here hx rfl (hb hby d31_24) rfl ?_
    refine XS.istore X1.here hx rfl (hb hby d31_25) rfl (l' := #[.val (.ref x), .val (.int 0), .val (.int 0), .val (.int 1), .val (.int 0), .unset]) rfl ?_
    refine XS.iloadN X1.here hx rfl (hb hby d31_27) rfl ?_
    refine XS.ifNo X1.here hx rfl (hb hby d31_28) rfl ((if0 _ _).trans (flt (by decide : ¬ ((0 : Int32) < (0 : Int32)))).1) ?_
    refine XS.iconst X1.here hx rfl (hb hby d31_31) ?_
    show Steps _ _ _ (T1.setTop (mkF m 32 #[.val (.ref x), .val (.int 0), .val (.int 0), .val (.int 1), .val (.int 0), .unset] [(.int 0)])) _
    refine XS.istore X1.here hx rfl (hb hby d31_32) rfl (l' := #[.val (.ref x), .val (.int 0), .val (.int 0), .val (.int 1), .val (.int 0), .val (.int 0)]) rfl ?_
    refine XS.iload X1.here hx rfl (hb hby d31_34) rfl ?_
    refine XS.iloadN X1.here hx rfl (hb hby d31_36) rfl ?_
    refine XS.icmpNo X1.here hx rfl (hb hby d31_37) rfl (tlt (by decide : (0 : Int32) < (1 : Int32))).2.1 ?_
    refine XS.iload X1.here hx rfl (hb hby d31_40) rfl ?_
    refine XS.iloadN X1.here hx rfl (hb hby d31_42) rfl ?_
    refine XS.icmpYes X1.here hx rfl (pc0 := 43) (pc' := 92) rfl (hb hby d31_43) rfl (flt (by decide : ¬ ((0 : Int32) < (0 : Int32)))).2.1 (by decide) (by decide) ?_
    refine XS.iload X1.here hx rfl (hb hby d31_92) rfl ?_
    refine XS.iloadN X1.here hx rfl (hb hby d31_94) rfl ?_
    refine XS.icmpYes X1.here hx rfl (pc0 := 95) (pc' := 106) rfl (hb hby d31_95) rfl (flt (by decide : ¬ ((0 : Int32) < (0 : Int32)))).2.1 (by decide) (by decide) ?_
    refine XS.goto X1.here hx rfl (pc0 := 106) (pc' := 182) rfl (hb hby d31_106) (by decide) (by decide) ?_
    show Steps _ _ _ (T1.setTop (mkF m 182 #[.val (.ref x), .val (.int 0), .val (.int 0), .val (.int 1), .val (.int 0), .val (.int 0)] [])) _
    refine XS.iload X1.here hx rfl (hb hby d31_182) rfl ?_
    show Steps _ _ _ (T1.setTop (mkF m 184 #[.val (.ref x), .val (.int 0), .val (.int 0), .val (.int 1), .val (.int 0), .val (.int 0)] [(.int 0)])) _
    exact retI X1 hx Bd.returns (hb hby d31_184) hr
  · show own_Q Z (some (.int 0)) h0 n0 _ T1.heap _
    rw [eq1]
    exact ⟨rfl, N1, rfl⟩
theorem d30_0 : decode jdk_42_method_60_code 0 = .ok (.aload_n 0, 1) := by decide +kernel
theorem d30_1 : decode jdk_42_method_60_code 1 = .ok (.iload_n 1, 1) := by decide +kernel
theorem d30_2 : decode jdk_42_method_60_code 2 = .ok (.iload_n 2, 1) := by decide +kernel
theorem pd__Ljava_lang_CharSequence_II_I : parseMethodDescriptor "(Ljava/lang/CharSequence;II)I" = some ⟨[(.object "java/lang/CharSequence"), .int, .int], some .int⟩ := by decide +kernel
theorem d30_3 : decode jdk_42_method_60_code 3 = .ok (.invokestatic 517, 3) := by decide +kernel
theorem d30_6 : decode jdk_42_method_60_code 6 = .ok (.ireturn, 1) := by decide +kernel
theorem pn_30 : plainName "java/lang/String" = true := by first | (simp [plainName, overriddenIn]; done) | decide +kernel
theorem ef_30_rrr (m : MethodId) (x0 : Addr) (x1 : Int32) (x2 : Int32) : entryFrame m #[(.ref x0), (.int x1), (.int x1)] 3 = mkF m 0 #[.val (.ref x0), .val (.int x1), .val (.int x1)] [] := by first | (simp [entryFrame, mkF, argsToLocals, Value.category]; done) | rfl
theorem rmOBS (l : Launch) (Z : State) (a0 : Array Value) (hw : ∀ d ∈ tables_1, d.before a0 Z = true) (ws : List Jvm.Cond) (G1 : Int32) (G3 : Value) (x : Addr) (h0 : Heap) (n0 : Nat) (Z0 : n0 ≤ h0.size) (EN : own_env Z G1 G3) (X00 : Old Z n0 h0) (S_x : own_s Z h0 x ([81] : List Int32)) :
    MetFree l y_16 (head1 (Jvm.Cond.code y_16 jdk_42_method_60_code 3 (some .int) :: ws) ({ frames := 3, cells := 0, slots := 0, locals := 42 } : Room)) (fun a_ U_ => a_ = #[(.ref x), (.int 0), (.int 0)] ∧ Z.Warmed39 U_.vm ∧ U_.heap = h0) (fun _ _ _ _ _ => True) (fun _ U_ o_ U1_ => ∃ v_ L_, o_ = .returned v_ ∧ own_Q Z (some (.int 0)) h0 n0 v_ U1_.heap L_ ∧ FrameEnd U_ o_ U1_ L_ ({ frames := 3, cells := 0, slots := 0, locals := 42 } : Room).cells ({ frames := 3, cells := 0, slots := 0, locals := 42 } : Room).slots) := by
  refine MetFree.of_bodySF (plainFor_of_name pn_30) hisR ?_
  intro p e s m args below meth c s₁ Bd hml0 hP hK
  obtain ⟨rfl, hZ, hh⟩ := hP
  have hx := Bd.exec
  have hby := Bd.bytes
  have hml : c.maxLocals = 3 := hml0
  have hown : s.vm.findClass "java/lang/String" = some m.cls := findClass_of_methodNamed Bd.named
  have hnm := (name_of_methodNamed Bd.named Bd.method).1
  have X0 : Stand p l e ({ frames := 3, cells := 0, slots := 0, locals := 42 } : Room) s m #[(.ref x), (.int 0), (.int 0)] below meth c s₁ [] 0 0 := Stand.of_body Bd
  have e0 : s₁.heap = h0 := by rw [← hh, Bd.state]; rfl
  have N0 := Fr.nil n0
  have pre0 : ∀ tt, Steps p.tables e below (s₁.setTop (mkF m 0 #[.val (.ref x), .val (.int 0), .val (.int 0)] [])) tt → Steps p.tables e below (s₁.setTop (entryFrame m #[(.ref x), (.int 0), (.int 0)] 3)) tt := fun tt kk => castTop (ef_30_rrr m x (0 : Int32) (0 : Int32)) kk
  have EN0 := EN
  obtain ⟨O2, P5, O4, rG3⟩ := EN
  obtain ⟨b_x, k_x, E_x, C_x, V_x, K_x, hp_x, hl_x⟩ := id S_x
  obtain ⟨_, _, ⟨T1, L1, k1, n1⟩, -, X1, ⟨Lc1, hQ1, l1, y1, z1⟩, st1⟩ := Jvm.LawKit.callS X0 hx (y := y_15) hown (mvT hZ (hw _ (tk 193 rfl))) (mvT hZ (hw _ (tk 194 rfl))) (mvT hZ (hw _ (tk 195 rfl))) (mvT hZ (hw _ (tk 196 rfl))) (by decide) (backOf (W := 0) (rmOBC l Z a0 hw [] G1 G3 x h0 n0 Z0 EN0 X00 ⟨b_x, k_x, E_x, C_x, V_x, K_x, hp_x, hl_x⟩) hZ (hw _ (tk 196 rfl)) (hw _ (tk 195 rfl)) (by decide) (by decide)) (g := (mkF m 3 #[.val (.ref x), .val (.int 0), .val (.int 0)] [(.int 0), (.int 0), (.ref x)])) rfl (by rw [hml]; rfl) (argsL := [(.ref x), (.int 0), (.int 0)]) (rest := []) (lenOf pd__Ljava_lang_CharSequence_II_I rfl) rfl (by show 2 * 0 + _ ≤ _; exact Nat.le_of_eq rfl) (hb hby d30_3) (fun _ _ => ⟨rfl, e0, (by decide : 0 + 0 ≤ _), (by decide : 0 + 0 ≤ _)⟩)
  dsimp only [Pt.U, Pt.locs, Pt.cells, Pt.slots] at X1 l1 y1 z1 st1 hQ1
  subst l1 y1 z1
  obtain ⟨rfl, Nq1, eq1⟩ := hQ1
  have N1 := Fr.app N0 Nq1
  obtain ⟨fs, hr, hrun, hended, hW, hsame⟩ := X1.leave (v := some (.int 0)) (fun h => by rw [Bd.returns] at h; cases h)
  refine ⟨_, _, pre0 _ ?_, hrun, hended, _, _, rfl, ?_, ⟨_, rfl⟩, hW, hsame.mono (by decide) (by decide)⟩
  · show Steps _ _ _ (s₁.setTop (mkF m 0 #[.val (.ref x), .val (.int 0), .val (.int 0)] [])) _
    refine XS.aloadN X0.here hx rfl (hb hby d30_0) rfl rfl ?_
    refine XS.iloadN X0.here hx rfl (hb hby d30_1) rfl ?_
    refine XS.iloadN X0.here hx rfl (hb hby d30_2) rfl ?_
    show Steps _ _ _ (s₁.setTop (mkF m 3 #[.val (.ref x), .val (.int 0), .val (.int 0)] [(.int 0), (.int 0), (.ref x)])) _
    refine st1 _ ?_
    show Steps _ _ _ (T1.setTop (mkF m 6 #[.val (.ref x), .val (.int 0), .val (.int 0)] [(.int 0)])) _
    exact retI X1 hx Bd.returns (hb hby d30_6) hr
  · show own_Q Z (some (.int 0)) h0 n0 _ T1.heap _
    rw [eq1]
    exact ⟨rfl, N1, rfl⟩
theorem d32_0 : decode jdk_42_method_57_code 0 = .ok (.aload_n 0, 1) := by decide +kernel
theorem d32_1 : decode jdk_42_method_57_code 1 = .ok (.invokevirtual 492, 3) := by decide +kernel
theorem d32_4 : decode jdk_42_method_57_code 4 = .ok (.ifCond .eq 23, 3) := by decide +kernel
theorem d32_7 : decode jdk_42_method_57_code 7 = .ok (.iload_n 1, 1) := by decide +kernel
theorem d32_8 : decode jdk_42_method_57_code 8 = .ok (.aload_n 0, 1) := by decide +kernel
theorem d32_9 : decode jdk_42_method_57_code 9 = .ok (.getfield 9, 3) := by decide +kernel
theorem d32_12 : decode jdk_42_method_57_code 12 = .ok (.arraylength, 1) := by decide +kernel
theorem pd__II_V : parseMethodDescriptor "(II)V" = some ⟨[.int, .int], none⟩ := by decide +kernel
theorem d32_13 : decode jdk_42_method_57_code 13 = .ok (.invokestatic 499, 3) := by decide +kernel
theorem d32_16 : decode jdk_42_method_57_code 16 = .ok (.aload_n 0, 1) := by decide +kernel
theorem d32_17 : decode jdk_42_method_57_code 17 = .ok (.getfield 9, 3) := by decide +kernel
theorem d32_20 : decode jdk_42_method_57_code 20 = .ok (.iload_n 1, 1) := by decide +kernel
theorem d32_21 : decode jdk_42_method_57_code 21 = .ok (.baload, 1) := by decide +kernel
theorem d32_22 : decode jdk_42_method_57_code 22 = .ok (.sipush 255, 3) := by decide +kernel
theorem d32_25 : decode jdk_42_method_57_code 25 = .ok (.iand, 1) := by decide +kernel
theorem d32_26 : decode jdk_42_method_57_code 26 = .ok (.ireturn, 1) := by decide +kernel
theorem pn_32 : plainName "java/lang/String" = true := by first | (simp [plainName, overriddenIn]; done) | decide +kernel
theorem ef_32_rr (m : MethodId) (x0 : Addr) (x1 : Int32) : entryFrame m #[(.ref x0), (.int x1)] 3 = mkF m 0 #[.val (.ref x0), .val (.int x1), .unset] [] := by first | (simp [entryFrame, mkF, argsToLocals, Value.category]; done) | rfl
theorem rmCPA (l : Launch) (Z : State) (a0 : Array Value) (hw : ∀ d ∈ tables_1, d.before a0 Z = true) (ws : List Jvm.Cond) (G1 : Int32) (G3 : Value) (x : Addr) (h0 : Heap) (n0 : Nat) (Z0 : n0 ≤ h0.size) (EN : own_env Z G1 G3) (X00 : Old Z n0 h0) (S_x : own_s Z h0 x ([81] : List Int32)) :
    MetFree l y_17 (head1 (Jvm.Cond.code y_17 jdk_42_method_57_code 3 (some .int) :: ws) ({ frames := 2, cells := 0, slots := 0, locals := 27 } : Room)) (fun a_ U_ => a_ = #[(.ref x), (.int 0)] ∧ Z.Warmed39 U_.vm ∧ U_.heap = h0) (fun _ _ _ _ _ => True) (fun _ U_ o_ U1_ => ∃ v_ L_, o_ = .returned v_ ∧ own_Q Z (some (.int 81)) h0 n0 v_ U1_.heap L_ ∧ FrameEnd U_ o_ U1_ L_ ({ frames := 2, cells := 0, slots := 0, locals := 27 } : Room).cells ({ frames := 2, cells := 0, slots := 0, locals := 27 } : Room).slots) := by
  refine MetFree.of_bodySF (plainFor_of_name pn_32) hisR ?_
  intro p e s m args below meth c s₁ Bd hml0 hP hK
  obtain ⟨rfl, hZ, hh⟩ := hP
  have hx := Bd.exec
  have hby := Bd.bytes
  have hml : c.maxLocals = 3 := hml0
  have hown : s.vm.findClass "java/lang/String" = some m.cls := findClass_of_methodNamed Bd.named
  have hnm := (name_of_methodNamed Bd.named Bd.method).1
  have X0 : Stand p l e ({ frames := 2, cells := 0, slots := 0, locals := 27 } : Room) s m #[(.ref x), (.int 0)] below meth c s₁ [] 0 0 := Stand.of_body Bd
  have e0 : s₁.heap = h0 := by rw [← hh, Bd.state]; rfl
  have N0 := Fr.nil n0
  have pre0 : ∀ tt, Steps p.tables e below (s₁.setTop (mkF m 0 #[.val (.ref x), .val (.int 0), .unset] [])) tt → Steps p.tables e below (s₁.setTop (entryFrame m #[(.ref x), (.int 0)] 3)) tt := fun tt kk => castTop (ef_32_rr m x (0 : Int32)) kk
  have EN0 := EN
  obtain ⟨O2, P5, O4, rG3⟩ := EN
  obtain ⟨b_x, k_x, E_x, C_x, V_x, K_x, hp_x, hl_x⟩ := id S_x
  obtain ⟨cq1, kq1, q1a, q1b, q1c⟩ := isOf hZ e0 E_x
  obtain ⟨_, _, ⟨T1, L1, k1, n1⟩, -, X1, ⟨Lc1, hQ1, l1, y1, z1⟩, st1⟩ := X0.virtualBack hx (y := y_1) (z := y_1) hown (mvT hZ (hw _ (tk 163 rfl))) (mvT hZ (hw _ (tk 164 rfl))) (notFace_of_selects (args := #[]) (mvT hZ (hw _ (tk 166 rfl)))) (mvT hZ (hw _ (tk 166 rfl))) (mvT hZ (hw _ (tk 165 rfl))) (by decide) (backOf (W := 0) (rmLA l Z a0 hw [] G1 G3 x h0 n0 Z0 EN0 X00 C_x) hZ (hw _ (tk 167 rfl)) (hw _ (tk 36 rfl)) (by decide) (by decide)) q1a q1c (g := (mkF m 1 #[.val (.ref x), .val (.int 0), .unset] [(.ref x)])) rfl (by rw [hml]; rfl) (Steps.refl _) (argsL := []) (rest := []) (lenOf pd___Z rfl) rfl (by show 2 * 0 + _ ≤ _; exact Nat.le_of_eq rfl) (hb hby d32_1) (fun _ _ => ⟨rfl, e0, (by decide : 0 + 0 ≤ _), (by decide : 0 + 0 ≤ _)⟩)
  dsimp only [Pt.U, Pt.locs, Pt.cells, Pt.slots] at X1 l1 y1 z1 st1 hQ1
  subst l1 y1 z1
  obtain ⟨rfl, Nq1, eq1⟩ := hQ1
  have N1 := Fr.app N0 Nq1
  obtain ⟨T2, X2, e2, st2⟩ := getF X1 hx hZ hown (host := "") (Or.inl (hw _ (tk 138 rfl))) Via.refl eq1 V_x (g := (mkF m 9 #[.val (.ref x), .val (.int 0), .unset] [(.ref x), (.int 0)])) rfl rfl (hb hby d32_9)
  obtain ⟨c3, Ar3, -, S3, M3, -, -⟩ := id K_x
  obtain ⟨_, _, ⟨T4, L4, k4, n4⟩, -, X4, ⟨Lc4, hQ4, l4, y4, z4⟩, st4⟩ := Jvm.LawKit.callS X2 hx (y := y_10) hown (mvT hZ (hw _ (tk 209 rfl))) (mvT hZ (hw _ (tk 210 rfl))) (mvT hZ (hw _ (tk 36 rfl))) (mvT hZ (hw _ (tk 211 rfl))) (by decide) (backOf (W := 0) (rmSCI0 l Z a0 hw [] G1 G3 h0 n0 Z0 EN0 X00) hZ (hw _ (tk 211 rfl)) (hw _ (tk 36 rfl)) (by decide) (by decide)) (g := (mkF m 13 #[.val (.ref x), .val (.int 0), .unset] [(.int 1), (.int 0)])) rfl (by rw [hml]; rfl) (argsL := [(.int 0), (.int 1)]) (rest := []) (lenOf pd__II_V rfl) rfl (by show 2 * 0 + _ ≤ _; exact Nat.le_of_eq rfl) (hb hby d32_13) (fun _ _ => ⟨rfl, e2, (by decide : 0 + 0 ≤ _), (by decide : 0 + 0 ≤ _)⟩)
  dsimp only [Pt.U, Pt.locs, Pt.cells, Pt.slots] at X4 l4 y4 z4 st4 hQ4
  subst l4 y4 z4
  obtain ⟨rfl, Nq4, eq4⟩ := hQ4
  have N4 := Fr.app N1 Nq4
  obtain ⟨T5, X5, e5, st5⟩ := getF X4 hx hZ hown (host := "") (Or.inl (hw _ (tk 138 rfl))) Via.refl eq4 V_x (g := (mkF m 17 #[.val (.ref x), .val (.int 0), .unset] [(.ref x)])) rfl rfl (hb hby d32_17)
  obtain ⟨c6, Ar6, -, S6, M6, H6, -⟩ := id K_x
  have hin6 := inb_of (j := (0 : Int32)) S6 ⟨by decide, by decide⟩
  obtain ⟨fs, hr, hrun, hended, hW, hsame⟩ := X5.leave (v := some (.int 81)) (fun h => by rw [Bd.returns] at h; cases h)
  refine ⟨_, _, pre0 _ ?_, hrun, hended, _, _, rfl, ?_, ⟨_, rfl⟩, hW, hsame.mono (by decide) (by decide)⟩
  · show Steps _ _ _ (s₁.setTop (mkF m 0 #[.val (.ref x), .val (.int 0), .unset] [])) _
    refine XS.aloadN X0.here hx rfl (hb hby d32_0) rfl rfl ?_
    show Steps _ _ _ (s₁.setTop (mkF m 1 #[.val (.ref x), .val (.int 0), .unset] [(.ref x)])) _
    refine st1.trans ?_
    show Steps _ _ _ (T1.setTop (mkF m 4 #[.val (.ref x), .val (.int 0), .unset] [(.int 1)])) _
    refine XS.ifNo X1.here hx rfl (hb hby d32_4) rfl ((if0 _ _).trans (feq (by decide : ¬ ((1 : Int32) = (0 : Int32)))).1) ?_
    refine XS.iloadN X1.here hx rfl (hb hby d32_7) rfl ?_
    refine XS.aloadN X1.here hx rfl (hb hby d32_8) rfl rfl ?_
    show Steps _ _ _ (T1.setTop (mkF m 9 #[.val (.ref x), .val (.int 0), .unset] [(.ref x), (.int 0)])) _
    refine st2 _ ?_
    show Steps _ _ _ (T2.setTop (mkF m 12 #[.val (.ref x), .val (.int 0), .unset] [(.ref b_x), (.int 0)])) _
    refine X2.arraylength hx (by rw [e2]; exact Ar3.1) (State.isArrayOf_alike hZ.alike Ar3.2.1) (g := (mkF m 12 #[.val (.ref x), .val (.int 0), .unset] [(.ref b_x), (.int 0)])) rfl rfl (hb hby d32_12) _ ?_
    rw [len_of S3 M3]
    show Steps _ _ _ (T2.setTop (mkF m 13 #[.val (.ref x), .val (.int 0), .unset] [(.int (Int32.ofNat ([81] : List Int32).length)), (.int 0)])) _
    rw [(rfl : Int32.ofNat ([81] : List Int32).length = (1 : Int32))]
    show Steps _ _ _ (T2.setTop (mkF m 13 #[.val (.ref x), .val (.int 0), .unset] [(.int 1), (.int 0)])) _
    refine st4 _ ?_
    show Steps _ _ _ (T4.setTop (mkF m 16 #[.val (.ref x), .val (.int 0), .unset] [])) _
    refine XS.aloadN X4.here hx rfl (hb hby d32_16) rfl rfl ?_
    show Steps _ _ _ (T4.setTop (mkF m 17 #[.val (.ref x), .val (.int 0), .unset] [(.ref x)])) _
    refine st5 _ ?_
    show Steps _ _ _ (T5.setTop (mkF m 20 #[.val (.ref x), .val (.int 0), .unset] [(.ref b_x)])) _
    refine XS.iloadN X5.here hx rfl (hb hby d32_20) rfl ?_
    show Steps _ _ _ (T5.setTop (mkF m 21 #[.val (.ref x), .val (.int 0), .unset] [(.int 0), (.ref b_x)])) _
    refine X5.baloadBytes hx (j := (0 : Int32)) (v := (.int 81)) (by rw [e5]; exact Ar6.1) (State.isArrayOf_alike hZ.alike Ar6.2.1) Ar6.2.2 hin6 (H6.at hin6 (show _ = Value.int 81 from congrArg Value.int (by decide : (81 : Int32).toInt8.toInt32 = 81))) (g := (mkF m 21 #[.val (.ref x), .val (.int 0), .unset] [(.int 0), (.ref b_x)])) rfl rfl (hb hby d32_21) _ ?_
    show Steps _ _ _ (T5.setTop (mkF m 22 #[.val (.ref x), .val (.int 0), .unset] [(.int 81)])) _
    refine XS.sipush X5.here hx rfl (hb hby d32_22) ?_
    refine XS.iand X5.here hx rfl (hb hby d32_25) rfl ?_
    show Steps _ _ _ (T5.setTop (mkF m 26 #[.val (.ref x), .val (.int 0), .unset] [(.int ((81 : Int32) &&& (255 : Int32)))])) _
    rw [(by decide : ((81 : Int32) &&& (255 : Int32)) = (81 : Int32))]
    show Steps _ _ _ (T5.setTop (mkF m 26 #[.val (.ref x), .val (.int 0), .unset] [(.int 81)])) _
    exact retI X5 hx Bd.returns (hb hby d32_26) hr
  · show own_Q Z (some (.int 81)) h0 n0 _ T5.heap _
    rw [e5]
    exact ⟨rfl, N4, rfl⟩
theorem rmPCI (l : Launch) (Z : State) (a0 : Array Value) (hw : ∀ d ∈ tables_1, d.before a0 Z = true) (ws : List Jvm.Cond) (G3 : Value) (j : Nat) (nn : Nat) (h0 : Heap) (n0 : Nat) (Z0 : n0 ≤ h0.size) (rG3 : G3.isRef = true) (hj : j < nn) (hnn : nn < 2 ^ 31) :
    MetFree l y_6 (head1 (Jvm.Cond.code y_6 jdk_41_method_11_code 3 (some .int) :: ws) ({ frames := 0, cells := 0, slots := 0, locals := 0 } : Room)) (fun a_ U_ => a_ = #[(.int (Int32.ofNat j)), (.int (Int32.ofNat nn)), G3] ∧ Z.Warmed39 U_.vm ∧ U_.heap = h0) (fun _ _ _ _ _ => True) (fun _ U_ o_ U1_ => ∃ v_ L_, o_ = .returned v_ ∧ own_Q Z (some (.int (Int32.ofNat j))) h0 n0 v_ U1_.heap L_ ∧ FrameEnd U_ o_ U1_ L_ ({ frames := 0, cells := 0, slots := 0, locals := 0 } : Room).cells ({ frames := 0, cells := 0, slots := 0, locals := 0 } : Room).slots) := by
  refine MetFree.of_bodySF (plainFor_of_name pn_15) hisR ?_
  intro p e s m args below meth c s₁ Bd hml0 hP hK
  obtain ⟨rfl, hZ, hh⟩ := hP
  have hx := Bd.exec
  have hby := Bd.bytes
  have hml : c.maxLocals = 3 := hml0
  have hown : s.vm.findClass "jdk/internal/util/Preconditions" = some m.cls := findClass_of_methodNamed Bd.named
  have hnm := (name_of_methodNamed Bd.named Bd.method).1
  have X0 : Stand p l e ({ frames := 0, cells := 0, slots := 0, locals := 0 } : Room) s m #[(.int (Int32.ofNat j)), (.int (Int32.ofNat nn)), G3] below meth c s₁ [] 0 0 := Stand.of_body Bd
  have e0 : s₁.heap = h0 := by rw [← hh, Bd.state]; rfl
  have N0 := Fr.nil n0
  have pre0 : ∀ tt, Steps p.tables e below (s₁.setTop (mkF m 0 #[.val (.int (Int32.ofNat j)), .val (.int (Int32.ofNat nn)), .val G3] [])) tt → Steps p.tables e below (s₁.setTop (entryFrame m #[(.int (Int32.ofNat j)), (.int (Int32.ofNat nn)), G3] 3)) tt := fun tt kk => castTop (ef_15_rrv m (Int32.ofNat j) (Int32.ofNat nn) G3 rG3) kk
  obtain ⟨fs, hr, hrun, hended, hW, hsame⟩ := X0.leave (v := some (.int (Int32.ofNat j))) (fun h => by rw [Bd.returns] at h; cases h)
  refine ⟨_, _, pre0 _ ?_, hrun, hended, _, _, rfl, ?_, ⟨_, rfl⟩, hW, hsame.mono (by decide) (by decide)⟩
  · show Steps _ _ _ (s₁.setTop (mkF m 0 #[.val (.int (Int32.ofNat j)), .val (.int (Int32.ofNat nn)), .val G3] [])) _
    refine XS.iloadN X0.here hx rfl (hb hby d15_0) rfl ?_
    refine XS.ifNo X0.here hx rfl (hb hby d15_1) rfl ((if0 _ _).trans (flt (own_in hj hnn).1).1) ?_
    refine XS.iloadN X0.here hx rfl (hb hby d15_4) rfl ?_
    refine XS.iloadN X0.here hx rfl (hb hby d15_5) rfl ?_
    refine XS.icmpYes X0.here hx rfl (pc0 := 6) (pc' := 16) rfl (hb hby d15_6) rfl (tlt (own_in hj hnn).2).1 (by decide) (by decide) ?_
    refine XS.iloadN X0.here hx rfl (hb hby d15_16) rfl ?_
    show Steps _ _ _ (s₁.setTop (mkF m 17 #[.val (.int (Int32.ofNat j)), .val (.int (Int32.ofNat nn)), .val G3] [(.int (Int32.ofNat j))])) _
    exact retI X0 hx Bd.returns (hb hby d15_17) hr
  · show own_Q Z (some (.int (Int32.ofNat j))) h0 n0 _ s₁.heap _
    rw [e0]
    exact ⟨rfl, N0, rfl⟩
theorem rmSCIg (l : Launch) (Z : State) (a0 : Array Value) (hw : ∀ d ∈ tables_1, d.before a0 Z = true) (ws : List Jvm.Cond) (G1 : Int32) (G3 : Value) (j : Nat) (nn : Nat) (h0 : Heap) (n0 : Nat) (Z0 : n0 ≤ h0.size) (EN : own_env Z G1 G3) (X00 : Old Z n0 h0) (hj : j < nn) (hnn : nn < 2 ^ 31) :
    MetFree l y_10 (head1 (Jvm.Cond.code y_10 jdk_42_method_155_code 2 none :: ws) ({ frames := 1, cells := 0, slots := 0, locals := 14 } : Room)) (fun a_ U_ => a_ = #[(.int (Int32.ofNat j)), (.int (Int32.ofNat nn))] ∧ Z.Warmed39 U_.vm ∧ U_.heap = h0) (fun _ _ _ _ _ => True) (fun _ U_ o_ U1_ => ∃ v_ L_, o_ = .returned v_ ∧ own_Q Z (none) h0 n0 v_ U1_.heap L_ ∧ FrameEnd U_ o_ U1_ L_ ({ frames := 1, cells := 0, slots := 0, locals := 14 } : Room).cells ({ frames := 1, cells := 0, slots := 0, locals := 14 } : Room).slots) := by
  refine MetFree.of_bodySF (plainFor_of_name pn_33) hisR ?_
  intro p e s m args below meth c s₁ Bd hml0 hP hK
  obtain ⟨rfl, hZ, hh⟩ := hP
  have hx := Bd.exec
  have hby := Bd.bytes
  have hml : c.maxLocals = 2 := hml0
  have hown : s.vm.findClass "java/lang/String" = some m.cls := findClass_of_methodNamed Bd.named
  have hnm := (name_of_methodNamed Bd.named Bd.method).1
  have X0 : Stand p l e ({ frames := 1, cells := 0, slots := 0, locals := 14 } : Room) s m #[(.int (Int32.ofNat j)), (.int (Int32.ofNat nn))] below meth c s₁ [] 0 0 := Stand.of_body Bd
  have e0 : s₁.heap = h0 := by rw [← hh, Bd.state]; rfl
  have N0 := Fr.nil n0
  have pre0 : ∀ tt, Steps p.tables e below (s₁.setTop (mkF m 0 #[.val (.int (Int32.ofNat j)), .val (.int (Int32.ofNat nn))] [])) tt → Steps p.tables e below (s₁.setTop (entryFrame m #[(.int (Int32.ofNat j)), (.int (Int32.ofNat nn))] 2)) tt := fun tt kk => castTop (ef_33_rr m (Int32.ofNat j) (Int32.ofNat nn)) kk
  have EN0 := EN
  obtain ⟨O2, P5, O4, rG3⟩ := EN
  obtain ⟨T1, X1, e1, st1⟩ := getS2 X0 hx hZ hown (host := "") (Or.inl (hw _ (tk 212 rfl))) Via.refl e0 (Sta.ext X00.2 O4) (g := (mkF m 2 #[.val (.int (Int32.ofNat j)), .val (.int (Int32.ofNat nn))] [(.int (Int32.ofNat nn)), (.int (Int32.ofNat j))])) rfl (hb hby d33_2)
  obtain ⟨_, _, ⟨T2, L2, k2, n2⟩, -, X2, ⟨Lc2, hQ2, l2, y2, z2⟩, st2⟩ := Jvm.LawKit.callS X1 hx (y := y_6) hown (mvT hZ (hw _ (tk 213 rfl))) (mvT hZ (hw _ (tk 119 rfl))) (mvT hZ (hw _ (tk 120 rfl))) (mvT hZ (hw _ (tk 121 rfl))) (by decide) (backOf (W := 0) (rmPCI l Z a0 hw [] G3 j nn h0 n0 Z0 rG3 hj hnn) hZ (hw _ (tk 121 rfl)) (hw _ (tk 120 rfl)) (by decide) (by decide)) (g := (mkF m 5 #[.val (.int (Int32.ofNat j)), .val (.int (Int32.ofNat nn))] [G3, (.int (Int32.ofNat nn)), (.int (Int32.ofNat j))])) rfl (by rw [hml]; rfl) (argsL := [(.int (Int32.ofNat j)), (.int (Int32.ofNat nn)), G3]) (rest := []) (lenOf pd__IILjava_util_function_BiFunction__I rfl) rfl (by show 2 * 0 + _ ≤ _; exact Nat.le_of_eq rfl) (hb hby d33_5) (fun _ _ => ⟨rfl, e1, (by decide : 0 + 0 ≤ _), (by decide : 0 + 0 ≤ _)⟩)
  dsimp only [Pt.U, Pt.locs, Pt.cells, Pt.slots] at X2 l2 y2 z2 st2 hQ2
  subst l2 y2 z2
  obtain ⟨rfl, Nq2, eq2⟩ := hQ2
  have N2 := Fr.app N0 Nq2
  obtain ⟨fs, hr, hrun, hended, hW, hsame⟩ := X2.leave (v := none) (fun _ => rfl)
  refine ⟨_, _, pre0 _ ?_, hrun, hended, _, _, rfl, ?_, ⟨_, rfl⟩, hW, hsame.mono (by decide) (by decide)⟩
  · show Steps _ _ _ (s₁.setTop (mkF m 0 #[.val (.int (Int32.ofNat j)), .val (.int (Int32.ofNat nn))] [])) _
    refine XS.iloadN X0.here hx rfl (hb hby d33_0) rfl ?_
    refine XS.iloadN X0.here hx rfl (hb hby d33_1) rfl ?_
    show Steps _ _ _ (s₁.setTop (mkF m 2 #[.val (.int (Int32.ofNat j)), .val (.int (Int32.ofNat nn))] [(.int (Int32.ofNat nn)), (.int (Int32.ofNat j))])) _
    refine st1 _ ?_
    show Steps _ _ _ (T1.setTop (mkF m 5 #[.val (.int (Int32.ofNat j)), .val (.int (Int32.ofNat nn))] [G3, (.int (Int32.ofNat nn)), (.int (Int32.ofNat j))])) _
    refine st2 _ ?_
    show Steps _ _ _ (T2.setTop (mkF m 8 #[.val (.int (Int32.ofNat j)), .val (.int (Int32.ofNat nn))] [(.int (Int32.ofNat j))])) _
    refine XS.pop X2.here hx rfl (hb hby d33_8) rfl rfl ?_
    show Steps _ _ _ (T2.setTop (mkF m 9 #[.val (.int (Int32.ofNat j)), .val (.int (Int32.ofNat nn))] [])) _
    exact X2.returnOut hx Bd.returns (hb hby d33_9) hr
  · show own_Q Z (none) h0 n0 _ T2.heap _
    rw [eq2]
    exact ⟨rfl, N2, rfl⟩
theorem d43_0 : decode jdk_43_method_2_code 0 = .ok (.iload_n 1, 1) := by decide +kernel
theorem d43_1 : decode jdk_43_method_2_code 1 = .ok (.aload_n 0, 1) := by decide +kernel
theorem d43_2 : decode jdk_43_method_2_code 2 = .ok (.arraylength, 1) := by decide +kernel
theorem d43_3 : decode jdk_43_method_2_code 3 = .ok (.invokestatic 9, 3) := by decide +kernel
theorem d43_6 : decode jdk_43_method_2_code 6 = .ok (.aload_n 0, 1) := by decide +kernel
theorem d43_7 : decode jdk_43_method_2_code 7 = .ok (.iload_n 1, 1) := by decide +kernel
theorem d43_8 : decode jdk_43_method_2_code 8 = .ok (.baload, 1) := by decide +kernel
theorem d43_9 : decode jdk_43_method_2_code 9 = .ok (.sipush 255, 3) := by decide +kernel
theorem d43_12 : decode jdk_43_method_2_code 12 = .ok (.iand, 1) := by decide +kernel
theorem d43_13 : decode jdk_43_method_2_code 13 = .ok (.i2c, 1) := by decide +kernel
theorem d43_14 : decode jdk_43_method_2_code 14 = .ok (.ireturn, 1) := by decide +kernel
theorem pn_43 : plainName "java/lang/StringLatin1" = true := by first | (simp [plainName, overriddenIn]; done) | decide +kernel
theorem ef_43_rr (m : MethodId) (x0 : Addr) (x1 : Int32) : entryFrame m #[(.ref x0), (.int x1)] 2 = mkF m 0 #[.val (.ref x0), .val (.int x1)] [] := by first | (simp [entryFrame, mkF, argsToLocals, Value.category]; done) | rfl
theorem rmLCA (l : Launch) (Z : State) (a0 : Array Value) (hw : ∀ d ∈ tables_1, d.before a0 Z = true) (ws : List Jvm.Cond) (G1 : Int32) (G3 : Value) (b : Addr) (kb : ClassId) (cs : List Int32) (j : Nat) (h0 : Heap) (n0 : Nat) (Z0 : n0 ≤ h0.size) (EN : own_env Z G1 G3) (X00 : Old Z n0 h0) (V_b : Arv Z h0 b kb .byte (Int32.ofNat cs.length) ((cs.map fun c => c.toInt8.toInt32).map Value.int) (.int 0)) (hj : j < cs.length) (hl : cs.length ≤ 4) (hp : ∀ c ∈ cs, ¬ c < 0 ∧ ¬ (255 : Int32) < c) :
    MetFree l y_18 (head1 (Jvm.Cond.code y_18 jdk_43_method_2_code 2 (some .char) :: ws) ({ frames := 2, cells := 0, slots := 0, locals := 27 } : Room)) (fun a_ U_ => a_ = #[(.ref b), (.int (Int32.ofNat j))] ∧ Z.Warmed39 U_.vm ∧ U_.heap = h0) (fun _ _ _ _ _ => True) (fun _ U_ o_ U1_ => ∃ v_ L_, o_ = .returned v_ ∧ own_Q Z (some (.int (cs.getD j 0))) h0 n0 v_ U1_.heap L_ ∧ FrameEnd U_ o_ U1_ L_ ({ frames := 2, cells := 0, slots := 0, locals := 27 } : Room).cells ({ frames := 2, cells := 0, slots := 0, locals := 27 } : Room).slots) := by
  refine MetFree.of_bodySF (plainFor_of_name pn_43) hisR ?_
  intro p e s m args below meth c s₁ Bd hml0 hP hK
  obtain ⟨rfl, hZ, hh⟩ := hP
  have hx := Bd.exec
  have hby := Bd.bytes
  have hml : c.maxLocals = 2 := hml0
  have hown : s.vm.findClass "java/lang/StringLatin1" = some m.cls := findClass_of_methodNamed Bd.named
  have hnm := (name_of_methodNamed Bd.named Bd.method).1
  have X0 : Stand p l e ({ frames := 2, cells := 0, slots := 0, locals := 27 } : Room) s m #[(.ref b), (.int (Int32.ofNat j))] below meth c s₁ [] 0 0 := Stand.of_body Bd
  have e0 : s₁.heap = h0 := by rw [← hh, Bd.state]; rfl
  have N0 := Fr.nil n0
  have pre0 : ∀ tt, Steps p.tables e below (s₁.setTop (mkF m 0 #[.val (.ref b), .val (.int (Int32.ofNat j))] [])) tt → Steps p.tables e below (s₁.setTop (entryFrame m #[(.ref b), (.int (Int32.ofNat j))] 2)) tt := fun tt kk => castTop (ef_43_rr m b (Int32.ofNat j)) kk
  have EN0 := EN
  obtain ⟨O2, P5, O4, rG3⟩ := EN
  obtain ⟨c1, Ar1, -, S1, M1, -, -⟩ := id V_b
  obtain ⟨_, _, ⟨T2, L2, k2, n2⟩, -, X2, ⟨Lc2, hQ2, l2, y2, z2⟩, st2⟩ := Jvm.LawKit.callS X0 hx (y := y_10) hown (mvT hZ (hw _ (tk 251 rfl))) (mvT hZ (hw _ (tk 210 rfl))) (mvT hZ (hw _ (tk 36 rfl))) (mvT hZ (hw _ (tk 211 rfl))) (by decide) (backOf (W := 0) (rmSCIg l Z a0 hw [] G1 G3 j cs.length h0 n0 Z0 EN0 X00 hj (by omega)) hZ (hw _ (tk 211 rfl)) (hw _ (tk 36 rfl)) (by decide) (by decide)) (g := (mkF m 3 #[.val (.ref b), .val (.int (Int32.ofNat j))] [(.int (Int32.ofNat cs.length)), (.int (Int32.ofNat j))])) rfl (by rw [hml]; rfl) (argsL := [(.int (Int32.ofNat j)), (.int (Int32.ofNat cs.length))]) (rest := []) (lenOf pd__II_V rfl) rfl (by show 2 * 0 + _ ≤ _; exact Nat.le_of_eq rfl) (hb hby d43_3) (fun _ _ => ⟨rfl, e0, (by decide : 0 + 0 ≤ _), (by decide : 0 + 0 ≤ _)⟩)
  dsimp only [Pt.U, Pt.locs, Pt.cells, Pt.slots] at X2 l2 y2 z2 st2 hQ2
  subst l2 y2 z2
  obtain ⟨rfl, Nq2, eq2⟩ := hQ2
  have N2 := Fr.app N0 Nq2
  obtain ⟨c3, Ar3, -, S3, M3, H3, -⟩ := id V_b
  have hin3 := inb_of (j := (Int32.ofNat j)) S3 (own_in hj (by omega))
  obtain ⟨fs, hr, hrun, hended, hW, hsame⟩ := X2.leave (v := some (.int (nar .char ((((cs.getD j 0).toInt8.toInt32) &&& (255 : Int32)).toUInt32.toUInt16.toUInt32.toInt32)))) (fun h => by rw [Bd.returns] at h; cases h)
  refine ⟨_, _, pre0 _ ?_, hrun, hended, _, _, rfl, ?_, ⟨_, rfl⟩, hW, hsame.mono (by decide) (by decide)⟩
  · show Steps _ _ _ (s₁.setTop (mkF m 0 #[.val (.ref b), .val (.int (Int32.ofNat j))] [])) _
    refine XS.iloadN X0.here hx rfl (hb hby d43_0) rfl ?_
    refine XS.aloadN X0.here hx rfl (hb hby d43_1) rfl rfl ?_
    show Steps _ _ _ (s₁.setTop (mkF m 2 #[.val (.ref b), .val (.int (Int32.ofNat j))] [(.ref b), (.int (Int32.ofNat j))])) _
    refine X0.arraylength hx (by rw [e0]; exact Ar1.1) (State.isArrayOf_alike hZ.alike Ar1.2.1) (g := (mkF m 2 #[.val (.ref b), .val (.int (Int32.ofNat j))] [(.ref b), (.int (Int32.ofNat j))])) rfl rfl (hb hby d43_2) _ ?_
    rw [len_of S1 M1]
    show Steps _ _ _ (s₁.setTop (mkF m 3 #[.val (.ref b), .val (.int (Int32.ofNat j))] [(.int (Int32.ofNat cs.length)), (.int (Int32.ofNat j))])) _
    refine st2 _ ?_
    show Steps _ _ _ (T2.setTop (mkF m 6 #[.val (.ref b), .val (.int (Int32.ofNat j))] [])) _
    refine XS.aloadN X2.here hx rfl (hb hby d43_6) rfl rfl ?_
    refine XS.iloadN X2.here hx rfl (hb hby d43_7) rfl ?_
    show Steps _ _ _ (T2.setTop (mkF m 8 #[.val (.ref b), .val (.int (Int32.ofNat j))] [(.int (Int32.ofNat j)), (.ref b)])) _
    refine X2.baloadBytes hx (j := (Int32.ofNat j)) (v := (.int ((cs.getD j 0).toInt8.toInt32))) (by rw [eq2]; exact Ar3.1) (State.isArrayOf_alike hZ.alike Ar3.2.1) Ar3.2.2 hin3 (H3.at hin3 (own_lb cs j (by omega))) (g := (mkF m 8 #[.val (.ref b), .val (.int (Int32.ofNat j))] [(.int (Int32.ofNat j)), (.ref b)])) rfl rfl (hb hby d43_8) _ ?_
    show Steps _ _ _ (T2.setTop (mkF m 9 #[.val (.ref b), .val (.int (Int32.ofNat j))] [(.int ((cs.getD j 0).toInt8.toInt32))])) _
    refine XS.sipush X2.here hx rfl (hb hby d43_9) ?_
    refine XS.iand X2.here hx rfl (hb hby d43_12) rfl ?_
    refine XS.i2c X2.here hx rfl (hb hby d43_13) rfl ?_
    show Steps _ _ _ (T2.setTop (mkF m 14 #[.val (.ref b), .val (.int (Int32.ofNat j))] [(.int ((((cs.getD j 0).toInt8.toInt32) &&& (255 : Int32)).toUInt32.toUInt16.toUInt32.toInt32))])) _
    exact retN X2 hx (t := .char) Bd.returns (by simp) (hb hby d43_14) hr
  · show own_Q Z (some (.int (cs.getD j 0))) h0 n0 _ T2.heap _
    rw [eq2]
    exact ⟨by rw [own_m8 (own_at8 hp hj)], N2, rfl⟩
theorem d42_0 : decode jdk_42_method_56_code 0 = .ok (.aload_n 0, 1) := by decide +kernel
theorem d42_1 : decode jdk_42_method_56_code 1 = .ok (.invokevirtual 492, 3) := by decide +kernel
theorem d42_4 : decode jdk_42_method_56_code 4 = .ok (.ifCond .eq 12, 3) := by decide +kernel
theorem d42_7 : decode jdk_42_method_56_code 7 = .ok (.aload_n 0, 1) := by decide +kernel
theorem d42_8 : decode jdk_42_method_56_code 8 = .ok (.getfield 9, 3) := by decide +kernel
theorem d42_11 : decode jdk_42_method_56_code 11 = .ok (.iload_n 1, 1) := by decide +kernel
theorem pd___BI_C : parseMethodDescriptor "([BI)C" = some ⟨[(.array .byte), .int], some .char⟩ := by decide +kernel
theorem d42_12 : decode jdk_42_method_56_code 12 = .ok (.invokestatic 495, 3) := by decide +kernel
theorem d42_15 : decode jdk_42_method_56_code 15 = .ok (.ireturn, 1) := by decide +kernel
theorem pn_42 : plainName "java/lang/String" = true := by first | (simp [plainName, overriddenIn]; done) | decide +kernel
theorem ef_42_rr (m : MethodId) (x0 : Addr) (x1 : Int32) : entryFrame m #[(.ref x0), (.int x1)] 2 = mkF m 0 #[.val (.ref x0), .val (.int x1)] [] := by first | (simp [entryFrame, mkF, argsToLocals, Value.category]; done) | rfl
theorem rmCHA (l : Launch) (Z : State) (a0 : Array Value) (hw : ∀ d ∈ tables_1, d.before a0 Z = true) (ws : List Jvm.Cond) (G1 : Int32) (G3 : Value) (x : Addr) (cs : List Int32) (j : Nat) (h0 : Heap) (n0 : Nat) (Z0 : n0 ≤ h0.size) (EN : own_env Z G1 G3) (X00 : Old Z n0 h0) (S_x : own_s Z h0 x cs) (hj : j < cs.length) :
    MetFree l y_19 (head1 (Jvm.Cond.code y_19 jdk_42_method_56_code 2 (some .char) :: ws) ({ frames := 3, cells := 0, slots := 0, locals := 40 } : Room)) (fun a_ U_ => a_ = #[(.ref x), (.int (Int32.ofNat j))] ∧ Z.Warmed39 U_.vm ∧ U_.heap = h0) (fun _ _ _ _ _ => True) (fun _ U_ o_ U1_ => ∃ v_ L_, o_ = .returned v_ ∧ own_Q Z (some (.int (cs.getD j 0))) h0 n0 v_ U1_.heap L_ ∧ FrameEnd U_ o_ U1_ L_ ({ frames := 3, cells := 0, slots := 0, locals := 40 } : Room).cells ({ frames := 3, cells := 0, slots := 0, locals := 40 } : Room).slots) := by
  refine MetFree.of_bodySF (plainFor_of_name pn_42) hisR ?_
  intro p e s m args below meth c s₁ Bd hml0 hP hK
  obtain ⟨rfl, hZ, hh⟩ := hP
  have hx := Bd.exec
  have hby := Bd.bytes
  have hml : c.maxLocals = 2 := hml0
  have hown : s.vm.findClass "java/lang/String" = some m.cls := findClass_of_methodNamed Bd.named
  have hnm := (name_of_methodNamed Bd.named Bd.method).1
  have X0 : Stand p l e ({ frames := 3, cells := 0, slots := 0, locals := 40 } : Room) s m #[(.ref x), (.int (Int32.ofNat j))] below meth c s₁ [] 0 0 := Stand.of_body Bd
  have e0 : s₁.heap = h0 := by rw [← hh, Bd.state]; rfl
  have N0 := Fr.nil n0
  have pre0 : ∀ tt, Steps p.tables e below (s₁.setTop (mkF m 0 #[.val (.ref x), .val (.int (Int32.ofNat j))] [])) tt → Steps p.tables e below (s₁.setTop (entryFrame m #[(.ref x), (.int (Int32.ofNat j))] 2)) tt := fun tt kk => castTop (ef_42_rr m x (Int32.ofNat j)) kk
  have EN0 := EN
  obtain ⟨O2, P5, O4, rG3⟩ := EN
  obtain ⟨b_x, k_x, E_x, C_x, V_x, K_x, hp_x, hl_x⟩ := id S_x
  obtain ⟨cq1, kq1, q1a, q1b, q1c⟩ := isOf hZ e0 E_x
  obtain ⟨_, _, ⟨T1, L1, k1, n1⟩, -, X1, ⟨Lc1, hQ1, l1, y1, z1⟩, st1⟩ := X0.virtualBack hx (y := y_1) (z := y_1) hown (mvT hZ (hw _ (tk 163 rfl))) (mvT hZ (hw _ (tk 164 rfl))) (notFace_of_selects (args := #[]) (mvT hZ (hw _ (tk 166 rfl)))) (mvT hZ (hw _ (tk 166 rfl))) (mvT hZ (hw _ (tk 165 rfl))) (by decide) (backOf (W := 0) (rmLA l Z a0 hw [] G1 G3 x h0 n0 Z0 EN0 X00 C_x) hZ (hw _ (tk 167 rfl)) (hw _ (tk 36 rfl)) (by decide) (by decide)) q1a q1c (g := (mkF m 1 #[.val (.ref x), .val (.int (Int32.ofNat j))] [(.ref x)])) rfl (by rw [hml]; rfl) (Steps.refl _) (argsL := []) (rest := []) (lenOf pd___Z rfl) rfl (by show 2 * 0 + _ ≤ _; exact Nat.le_of_eq rfl) (hb hby d42_1) (fun _ _ => ⟨rfl, e0, (by decide : 0 + 0 ≤ _), (by decide : 0 + 0 ≤ _)⟩)
  dsimp only [Pt.U, Pt.locs, Pt.cells, Pt.slots] at X1 l1 y1 z1 st1 hQ1
  subst l1 y1 z1
  obtain ⟨rfl, Nq1, eq1⟩ := hQ1
  have N1 := Fr.app N0 Nq1
  obtain ⟨T2, X2, e2, st2⟩ := getF X1 hx hZ hown (host := "") (Or.inl (hw _ (tk 138 rfl))) Via.refl eq1 V_x (g := (mkF m 8 #[.val (.ref x), .val (.int (Int32.ofNat j))] [(.ref x)])) rfl rfl (hb hby d42_8)
  obtain ⟨_, _, ⟨T3, L3, k3, n3⟩, -, X3, ⟨Lc3, hQ3, l3, y3, z3⟩, st3⟩ := Jvm.LawKit.callS X2 hx (y := y_18) hown (mvT hZ (hw _ (tk 247 rfl))) (mvT hZ (hw _ (tk 248 rfl))) (mvT hZ (hw _ (tk 249 rfl))) (mvT hZ (hw _ (tk 250 rfl))) (by decide) (backOf (W := 0) (rmLCA l Z a0 hw [] G1 G3 b_x k_x cs j h0 n0 Z0 EN0 X00 K_x hj hl_x hp_x) hZ (hw _ (tk 250 rfl)) (hw _ (tk 249 rfl)) (by decide) (by decide)) (g := (mkF m 12 #[.val (.ref x), .val (.int (Int32.ofNat j))] [(.int (Int32.ofNat j)), (.ref b_x)])) rfl (by rw [hml]; rfl) (argsL := [(.ref b_x), (.int (Int32.ofNat j))]) (rest := []) (lenOf pd___BI_C rfl) rfl (by show 2 * 0 + _ ≤ _; exact Nat.le_of_eq rfl) (hb hby d42_12) (fun _ _ => ⟨rfl, e2, (by decide : 0 + 0 ≤ _), (by decide : 0 + 0 ≤ _)⟩)
  dsimp only [Pt.U, Pt.locs, Pt.cells, Pt.slots] at X3 l3 y3 z3 st3 hQ3
  subst l3 y3 z3
  obtain ⟨rfl, Nq3, eq3⟩ := hQ3
  have N3 := Fr.app N1 Nq3
  obtain ⟨fs, hr, hrun, hended, hW, hsame⟩ := X3.leave (v := some (.int (nar .char (cs.getD j 0)))) (fun h => by rw [Bd.returns] at h; cases h)
  refine ⟨_, _, pre0 _ ?_, hrun, hended, _, _, rfl, ?_, ⟨_, rfl⟩, hW, hsame.mono (by decide) (by decide)⟩
  · show Steps _ _ _ (s₁.setTop (mkF m 0 #[.val (.ref x), .val (.int (Int32.ofNat j))] [])) _
    refine XS.aloadN X0.here hx rfl (hb hby d42_0) rfl rfl ?_
    show Steps _ _ _ (s₁.setTop (mkF m 1 #[.val (.ref x), .val (.int (Int32.ofNat j))] [(.ref x)])) _
    refine st1.trans ?_
    show Steps _ _ _ (T1.setTop (mkF m 4 #[.val (.ref x), .val (.int (Int32.ofNat j))] [(.int 1)])) _
    refine XS.ifNo X1.here hx rfl (hb hby d42_4) rfl ((if0 _ _).trans (feq (by decide : ¬ ((1 : Int32) = (0 : Int32)))).1) ?_
    refine XS.aloadN X1.here hx rfl (hb hby d42_7) rfl rfl ?_
    show Steps _ _ _ (T1.setTop (mkF m 8 #[.val (.ref x), .val (.int (Int32.ofNat j))] [(.ref x)])) _
    refine st2 _ ?_
    show Steps _ _ _ (T2.setTop (mkF m 11 #[.val (.ref x), .val (.int (Int32.ofNat j))] [(.ref b_x)])) _
    refine XS.iloadN X2.here hx rfl (hb hby d42_11) rfl ?_
    show Steps _ _ _ (T2.setTop (mkF m 12 #[.val (.ref x), .val (.int (Int32.ofNat j))] [(.int (Int32.ofNat j)), (.ref b_x)])) _
    refine st3 _ ?_
    show Steps _ _ _ (T3.setTop (mkF m 15 #[.val (.ref x), .val (.int (Int32.ofNat j))] [(.int (cs.getD j 0))])) _
    exact retN X3 hx (t := .char) Bd.returns (by simp) (hb hby d42_15) hr
  · show own_Q Z (some (.int (cs.getD j 0))) h0 n0 _ T3.heap _
    rw [eq3]
    exact ⟨by rw [own_nar8 (own_at8 hp_x hj)], N3, rfl⟩
def own_QC (Z : State) (cv R : Addr) (wv i1 i2 i3 i4 : Int32) (h0 : Heap) (n0 : Nat) (v : Option Value) (h : Heap) (L : List Loc) : Prop := v = none ∧ Fr n0 L ∧ Keep h0 h [cv] ∧ Exa Z h cv "dev/treefold/text/Canvas" ∧ Fld Z h cv "dev/treefold/text/Canvas" "width" "I" (.int wv) ∧ Fld Z h cv "dev/treefold/text/Canvas" "rows" "[[I" (.ref R) ∧ Fld Z h cv "dev/treefold/text/Canvas" "clipLeft" "I" (.int i1) ∧ Fld Z h cv "dev/treefold/text/Canvas" "clipTop" "I" (.int i2) ∧ Fld Z h cv "dev/treefold/text/Canvas" "clipRight" "I" (.int i3) ∧ Fld Z h cv "dev/treefold/text/Canvas" "clipBottom" "I" (.int i4)
theorem d4_0 : decode prog_104_method_6_code 0 = .ok (.aload_n 0, 1) := by decide +kernel
theorem d4_1 : decode prog_104_method_6_code 1 = .ok (.iload_n 1, 1) := by decide +kernel
theorem d4_2 : decode prog_104_method_6_code 2 = .ok (.putfield 37, 3) := by decide +kernel
theorem d4_5 : decode prog_104_method_6_code 5 = .ok (.aload_n 0, 1) := by decide +kernel
theorem d4_6 : decode prog_104_method_6_code 6 = .ok (.iload_n 2, 1) := by decide +kernel
theorem d4_7 : decode prog_104_method_6_code 7 = .ok (.putfield 31, 3) := by decide +kernel
theorem d4_10 : decode prog_104_method_6_code 10 = .ok (.aload_n 0, 1) := by decide +kernel
theorem d4_11 : decode prog_104_method_6_code 11 = .ok (.iload_n 3, 1) := by decide +kernel
theorem d4_12 : decode prog_104_method_6_code 12 = .ok (.putfield 55, 3) := by decide +kernel
theorem d4_15 : decode prog_104_method_6_code 15 = .ok (.aload_n 0, 1) := by decide +kernel
theorem d4_16 : decode prog_104_method_6_code 16 = .ok (.iload 4, 2) := by decide +kernel
theorem d4_18 : decode prog_104_method_6_code 18 = .ok (.putfield 34, 3) := by decide +kernel
theorem d4_21 : decode prog_104_method_6_code 21 = .ok (.return_, 1) := by decide +kernel
theorem pn_4 : plainName "dev/treefold/text/Canvas" = true := by first | (simp [plainName, overriddenIn]; done) | decide +kernel
theorem ef_4_rrrrr (m : MethodId) (x0 : Addr) (x1 : Int32) (x2 : Int32) (x3 : Int32) (x4 : Int32) : entryFrame m #[(.ref x0), (.int x1), (.int x2), (.int x3), (.int x4)] 5 = mkF m 0 #[.val (.ref x0), .val (.int x1), .val (.int x2), .val (.int x3), .val (.int x4)] [] := by first | (simp [entryFrame, mkF, argsToLocals, Value.category]; done) | rfl
theorem rmCL (l : Launch) (Z : State) (a0 : Array Value) (hw : ∀ d ∈ tables_1, d.before a0 Z = true) (ws : List Jvm.Cond) (cv : Addr) (R : Addr) (wv : Int32) (q1 : Int32) (q2 : Int32) (q3 : Int32) (q4 : Int32) (i1 : Int32) (i2 : Int32) (i3 : Int32) (i4 : Int32) (h0 : Heap) (n0 : Nat) (Z0 : n0 ≤ h0.size) (E_cv : Exa Z h0 cv "dev/treefold/text/Canvas") (F_width_cv : Fld Z h0 cv "dev/treefold/text/Canvas" "width" "I" (.int wv)) (F_rows_cv : Fld Z h0 cv "dev/treefold/text/Canvas" "rows" "[[I" (.ref R)) (F_clipLeft_cv : Fld Z h0 cv "dev/treefold/text/Canvas" "clipLeft" "I" (.int q1)) (F_clipTop_cv : Fld Z h0 cv "dev/treefold/text/Canvas" "clipTop" "I" (.int q2)) (F_clipRight_cv : Fld Z h0 cv "dev/treefold/text/Canvas" "clipRight" "I" (.int q3)) (F_clipBottom_cv : Fld Z h0 cv "dev/treefold/text/Canvas" "clipBottom" "I" (.int q4)) (g_cv : n0 ≤ cv) :
    MetFree l y_20 (head1 (Jvm.Cond.code y_20 prog_104_method_6_code 5 none :: ws) ({ frames := 0, cells := 0, slots := 0, locals := 0 } : Room)) (fun a_ U_ => a_ = #[(.ref cv), (.int i1), (.int i2), (.int i3), (.int i4)] ∧ Z.Warmed39 U_.vm ∧ U_.heap = h0) (fun _ _ _ _ _ => True) (fun _ U_ o_ U1_ => ∃ v_ L_, o_ = .returned v_ ∧ own_QC Z cv R wv i1 i2 i3 i4 h0 n0 v_ U1_.heap L_ ∧ FrameEnd U_ o_ U1_ L_ ({ frames := 0, cells := 0, slots := 0, locals := 0 } : Room).cells ({ frames := 0, cells := 0, slots := 0, locals := 0 } : Room).slots) := by
  refine MetFree.of_bodySF (plainFor_of_name pn_4) hisR ?_
  intro p e s m args below meth c s₁ Bd hml0 hP hK
  obtain ⟨rfl, hZ, hh⟩ := hP
  have hx := Bd.exec
  have hby := Bd.bytes
  have hml : c.maxLocals = 5 := hml0
  have hown : s.vm.findClass "dev/treefold/text/Canvas" = some m.cls := findClass_of_methodNamed Bd.named
  have hnm := (name_of_methodNamed Bd.named Bd.method).1
  have X0 : Stand p l e ({ frames := 0, cells := 0, slots := 0, locals := 0 } : Room) s m #[(.ref cv), (.int i1), (.int i2), (.int i3), (.int i4)] below meth c s₁ [] 0 0 := Stand.of_body Bd
  have e0 : s₁.heap = h0 := by rw [← hh, Bd.state]; rfl
  have N0 := Fr.nil n0
  have pre0 : ∀ tt, Steps p.tables e below (s₁.setTop (mkF m 0 #[.val (.ref cv), .val (.int i1), .val (.int i2), .val (.int i3), .val (.int i4)] [])) tt → Steps p.tables e below (s₁.setTop (entryFrame m #[(.ref cv), (.int i1), (.int i2), (.int i3), (.int i4)] 5)) tt := fun tt kk => castTop (ef_4_rrrrr m cv i1 i2 i3 i4) kk
  obtain ⟨T1, h1, X1, e1, W1, st1⟩ := putF X0 hx hZ hown (host := "") (Or.inl (hw _ (tk 26 rfl))) Via.refl e0 F_clipLeft_cv E_cv (Or.inl (hw _ (tk 27 rfl))) (hw _ (tk 2 rfl)) (ty := .int) (by decide) rfl rfl (g := (mkF m 2 #[.val (.ref cv), .val (.int i1), .val (.int i2), .val (.int i3), .val (.int i4)] [(.int i1), (.ref cv)])) rfl rfl (hb hby d4_2)
  have Fw1 := F_clipLeft_cv.same W1
  have N1 := Fr.snoc X1 N0 g_cv
  have f3 := (E_cv.wr W1)
  have f4 := (F_clipTop_cv.other W1 (Or.inr (slot_ne (Or.inl (hw _ (tk 29 rfl))) (Or.inl (hw _ (tk 27 rfl))) (by decide) (t := .int) (t' := .int) (by decide) (by decide))))
  obtain ⟨T2, h2, X2, e2, W2, st2⟩ := putF X1 hx hZ hown (host := "") (Or.inl (hw _ (tk 28 rfl))) Via.refl e1 f4 f3 (Or.inl (hw _ (tk 29 rfl))) (hw _ (tk 2 rfl)) (ty := .int) (by decide) rfl rfl (g := (mkF m 7 #[.val (.ref cv), .val (.int i1), .val (.int i2), .val (.int i3), .val (.int i4)] [(.int i2), (.ref cv)])) rfl rfl (hb hby d4_7)
  have Fw2 := f4.same W2
  have N2 := Fr.snoc X2 N1 g_cv
  have f6 := (f3.wr W2)
  have f7 := ((F_clipRight_cv.other W1 (Or.inr (slot_ne (Or.inl (hw _ (tk 31 rfl))) (Or.inl (hw _ (tk 27 rfl))) (by decide) (t := .int) (t' := .int) (by decide) (by decide)))).other W2 (Or.inr (slot_ne (Or.inl (hw _ (tk 31 rfl))) (Or.inl (hw _ (tk 29 rfl))) (by decide) (t := .int) (t' := .int) (by decide) (by decide))))
  obtain ⟨T5, h5, X5, e5, W5, st5⟩ := putF X2 hx hZ hown (host := "") (Or.inl (hw _ (tk 30 rfl))) Via.refl e2 f7 f6 (Or.inl (hw _ (tk 31 rfl))) (hw _ (tk 2 rfl)) (ty := .int) (by decide) rfl rfl (g := (mkF m 12 #[.val (.ref cv), .val (.int i1), .val (.int i2), .val (.int i3), .val (.int i4)] [(.int i3), (.ref cv)])) rfl rfl (hb hby d4_12)
  have Fw5 := f7.same W5
  have N5 := Fr.snoc X5 N2 g_cv
  have f9 := (f6.wr W5)
  have f10 := (((F_clipBottom_cv.other W1 (Or.inr (slot_ne (Or.inl (hw _ (tk 33 rfl))) (Or.inl (hw _ (tk 27 rfl))) (by decide) (t := .int) (t' := .int) (by decide) (by decide)))).other W2 (Or.inr (slot_ne (Or.inl (hw _ (tk 33 rfl))) (Or.inl (hw _ (tk 29 rfl))) (by decide) (t := .int) (t' := .int) (by decide) (by decide)))).other W5 (Or.inr (slot_ne (Or.inl (hw _ (tk 33 rfl))) (Or.inl (hw _ (tk 31 rfl))) (by decide) (t := .int) (t' := .int) (by decide) (by decide))))
  obtain ⟨T8, h8, X8, e8, W8, st8⟩ := putF X5 hx hZ hown (host := "") (Or.inl (hw _ (tk 32 rfl))) Via.refl e5 f10 f9 (Or.inl (hw _ (tk 33 rfl))) (hw _ (tk 2 rfl)) (ty := .int) (by decide) rfl rfl (g := (mkF m 18 #[.val (.ref cv), .val (.int i1), .val (.int i2), .val (.int i3), .val (.int i4)] [(.int i4), (.ref cv)])) rfl rfl (hb hby d4_18)
  have Fw8 := f10.same W8
  have N8 := Fr.snoc X8 N5 g_cv
  have f11 := (f9.wr W8)
  have f12 := ((((F_width_cv.other W1 (Or.inr (slot_ne (Or.inr (hw _ (tk 11 rfl))) (Or.inl (hw _ (tk 27 rfl))) (by decide) (t := .int) (t' := .int) (by decide) (by decide)))).other W2 (Or.inr (slot_ne (Or.inr (hw _ (tk 11 rfl))) (Or.inl (hw _ (tk 29 rfl))) (by decide) (t := .int) (t' := .int) (by decide) (by decide)))).other W5 (Or.inr (slot_ne (Or.inr (hw _ (tk 11 rfl))) (Or.inl (hw _ (tk 31 rfl))) (by decide) (t := .int) (t' := .int) (by decide) (by decide)))).other W8 (Or.inr (slot_ne (Or.inr (hw _ (tk 11 rfl))) (Or.inl (hw _ (tk 33 rfl))) (by decide) (t := .int) (t' := .int) (by decide) (by decide))))
  have f13 := ((((F_rows_cv.other W1 (Or.inr (slot_ne (Or.inr (hw _ (tk 15 rfl))) (Or.inl (hw _ (tk 27 rfl))) (by decide) (t := (.array (.array .int))) (t' := .int) (by decide) (by decide)))).other W2 (Or.inr (slot_ne (Or.inr (hw _ (tk 15 rfl))) (Or.inl (hw _ (tk 29 rfl))) (by decide) (t := (.array (.array .int))) (t' := .int) (by decide) (by decide)))).other W5 (Or.inr (slot_ne (Or.inr (hw _ (tk 15 rfl))) (Or.inl (hw _ (tk 31 rfl))) (by decide) (t := (.array (.array .int))) (t' := .int) (by decide) (by decide)))).other W8 (Or.inr (slot_ne (Or.inr (hw _ (tk 15 rfl))) (Or.inl (hw _ (tk 33 rfl))) (by decide) (t := (.array (.array .int))) (t' := .int) (by decide) (by decide))))
  have f14 := (((Fw1.other W2 (Or.inr (slot_ne (Or.inl (hw _ (tk 27 rfl))) (Or.inl (hw _ (tk 29 rfl))) (by decide) (t := .int) (t' := .int) (by decide) (by decide)))).other W5 (Or.inr (slot_ne (Or.inl (hw _ (tk 27 rfl))) (Or.inl (hw _ (tk 31 rfl))) (by decide) (t := .int) (t' := .int) (by decide) (by decide)))).other W8 (Or.inr (slot_ne (Or.inl (hw _ (tk 27 rfl))) (Or.inl (hw _ (tk 33 rfl))) (by decide) (t := .int) (t' := .int) (by decide) (by decide))))
  have f15 := ((Fw2.other W5 (Or.inr (slot_ne (Or.inl (hw _ (tk 29 rfl))) (Or.inl (hw _ (tk 31 rfl))) (by decide) (t := .int) (t' := .int) (by decide) (by decide)))).other W8 (Or.inr (slot_ne (Or.inl (hw _ (tk 29 rfl))) (Or.inl (hw _ (tk 33 rfl))) (by decide) (t := .int) (t' := .int) (by decide) (by decide))))
  have f16 := (Fw5.other W8 (Or.inr (slot_ne (Or.inl (hw _ (tk 31 rfl))) (Or.inl (hw _ (tk 33 rfl))) (by decide) (t := .int) (t' := .int) (by decide) (by decide))))
  obtain ⟨fs, hr, hrun, hended, hW, hsame⟩ := X8.leave (v := none) (fun _ => rfl)
  refine ⟨_, _, pre0 _ ?_, hrun, hended, _, _, rfl, ?_, ⟨_, rfl⟩, hW, hsame.mono (by decide) (by decide)⟩
  · show Steps _ _ _ (s₁.setTop (mkF m 0 #[.val (.ref cv), .val (.int i1), .val (.int i2), .val (.int i3), .val (.int i4)] [])) _
    refine XS.aloadN X0.here hx rfl (hb hby d4_0) rfl rfl ?_
    refine XS.iloadN X0.here hx rfl (hb hby d4_1) rfl ?_
    show Steps _ _ _ (s₁.setTop (mkF m 2 #[.val (.ref cv), .val (.int i1), .val (.int i2), .val (.int i3), .val (.int i4)] [(.int i1), (.ref cv)])) _
    refine st1 _ ?_
    show Steps _ _ _ (T1.setTop (mkF m 5 #[.val (.ref cv), .val (.int i1), .val (.int i2), .val (.int i3), .val (.int i4)] [])) _
    refine XS.aloadN X1.here hx rfl (hb hby d4_5) rfl rfl ?_
    refine XS.iloadN X1.here hx rfl (hb hby d4_6) rfl ?_
    show Steps _ _ _ (T1.setTop (mkF m 7 #[.val (.ref cv), .val (.int i1), .val (.int i2), .val (.int i3), .val (.int i4)] [(.int i2), (.ref cv)])) _
    refine st2 _ ?_
    show Steps _ _ _ (T2.setTop (mkF m 10 #[.val (.ref cv), .val (.int i1), .val (.int i2), .val (.int i3), .val (.int i4)] [])) _
    refine XS.aloadN X2.here hx rfl (hb hby d4_10) rfl rfl ?_
    refine XS.iloadN X2.here hx rfl (hb hby d4_11) rfl ?_
    show Steps _ _ _ (T2.setTop (mkF m 12 #[.val (.ref cv), .val (.int i1), .val (.int i2), .val (.int i3), .val (.int i4)] [(.int i3), (.ref cv)])) _
    refine st5 _ ?_
    show Steps _ _ _ (T5.setTop (mkF m 15 #[.val (.ref cv), .val (.int i1), .val (.int i2), .val (.int i3), .val (.int i4)] [])) _
    refine XS.aloadN X5.here hx rfl (hb hby d4_15) rfl rfl ?_
    refine XS.iload X5.here hx rfl (hb hby d4_16) rfl ?_
    show Steps _ _ _ (T5.setTop (mkF m 18 #[.val (.ref cv), .val (.int i1), .val (.int i2), .val (.int i3), .val (.int i4)] [(.int i4), (.ref cv)])) _
    refine st8 _ ?_
    show Steps _ _ _ (T8.setTop (mkF m 21 #[.val (.ref cv), .val (.int i1), .val (.int i2), .val (.int i3), .val (.int i4)] [])) _
    exact X8.returnOut hx Bd.returns (hb hby d4_21) hr
  · show own_QC Z cv R wv i1 i2 i3 i4 h0 n0 _ T8.heap _
    rw [e8]
    exact ⟨rfl, N8, (((((Keep.refl h0 [cv]).wr W1 (Or.inl (tk 0 rfl))).wr W2 (Or.inl (tk 0 rfl))).wr W5 (Or.inl (tk 0 rfl))).wr W8 (Or.inl (tk 0 rfl))), f11, f12, f13, f14, f15, f16, Fw8⟩
def own_QU (Z : State) (cv R : Addr) (h0 : Heap) (n0 : Nat) (v : Option Value) (h : Heap) (L : List Loc) : Prop := v = none ∧ Fr n0 L ∧ Keep h0 h [cv] ∧ Exa Z h cv "dev/treefold/text/Canvas" ∧ Fld Z h cv "dev/treefold/text/Canvas" "width" "I" (.int 4) ∧ Fld Z h cv "dev/treefold/text/Canvas" "rows" "[[I" (.ref R) ∧ Fld Z h cv "dev/treefold/text/Canvas" "clipLeft" "I" (.int 0) ∧ Fld Z h cv "dev/treefold/text/Canvas" "clipTop" "I" (.int 0) ∧ Fld Z h cv "dev/treefold/text/Canvas" "clipRight" "I" (.int 4) ∧ Fld Z h cv "dev/treefold/text/Canvas" "clipBottom" "I" (.int 3)
theorem d3_0 : decode prog_104_method_7_code 0 = .ok (.aload_n 0, 1) := by decide +kernel
theorem d3_1 : decode prog_104_method_7_code 1 = .ok (.iconst 0, 1) := by decide +kernel
theorem d3_2 : decode prog_104_method_7_code 2 = .ok (.iconst 0, 1) := by decide +kernel
theorem d3_3 : decode prog_104_method_7_code 3 = .ok (.aload_n 0, 1) := by decide +kernel
theorem d3_4 : decode prog_104_method_7_code 4 = .ok (.getfield 16, 3) := by decide +kernel
theorem d3_7 : decode prog_104_method_7_code 7 = .ok (.aload_n 0, 1) := by decide +kernel
theorem d3_8 : decode prog_104_method_7_code 8 = .ok (.getfield 24, 3) := by decide +kernel
theorem d3_11 : decode prog_104_method_7_code 11 = .ok (.arraylength, 1) := by decide +kernel
theorem pd__IIII_V : parseMethodDescriptor "(IIII)V" = some ⟨[.int, .int, .int, .int], none⟩ := by decide +kernel
theorem d3_12 : decode prog_104_method_7_code 12 = .ok (.invokevirtual 98, 3) := by decide +kernel
theorem d3_15 : decode prog_104_method_7_code 15 = .ok (.return_, 1) := by decide +kernel
theorem pn_3 : plainName "dev/treefold/text/Canvas" = true := by first | (simp [plainName, overriddenIn]; done) | decide +kernel
theorem ef_3_r (m : MethodId) (x0 : Addr) : entryFrame m #[(.ref x0)] 1 = mkF m 0 #[.val (.ref x0)] [] := by first | (simp [entryFrame, mkF, argsToLocals, Value.category]; done) | rfl
theorem rmUN (l : Launch) (Z : State) (a0 : Array Value) (hw : ∀ d ∈ tables_1, d.before a0 Z = true) (ws : List Jvm.Cond) (cv : Addr) (R : Addr) (kR : ClassId) (h0 : Heap) (n0 : Nat) (Z0 : n0 ≤ h0.size) (E_cv : Exa Z h0 cv "dev/treefold/text/Canvas") (F_width_cv : Fld Z h0 cv "dev/treefold/text/Canvas" "width" "I" (.int 4)) (F_rows_cv : Fld Z h0 cv "dev/treefold/text/Canvas" "rows" "[[I" (.ref R)) (F_clipLeft_cv : Fld Z h0 cv "dev/treefold/text/Canvas" "clipLeft" "I" (.int 0)) (F_clipTop_cv : Fld Z h0 cv "dev/treefold/text/Canvas" "clipTop" "I" (.int 0)) (F_clipRight_cv : Fld Z h0 cv "dev/treefold/text/Canvas" "clipRight" "I" (.int 0)) (F_clipBottom_cv : Fld Z h0 cv "dev/treefold/text/Canvas" "clipBottom" "I" (.int 0)) (g_cv : n0 ≤ cv) (V_R : Arv Z h0 R kR (.array .int) (3 : Int32) [.null, .null, .null] .null) :
    MetFree l y_21 (head1 (Jvm.Cond.code y_21 prog_104_method_7_code 1 none :: ws) ({ frames := 1, cells := 0, slots := 0, locals := 16 } : Room)) (fun a_ U_ => a_ = #[(.ref cv)] ∧ Z.Warmed39 U_.vm ∧ U_.heap = h0) (fun _ _ _ _ _ => True) (fun _ U_ o_ U1_ => ∃ v_ L_, o_ = .returned v_ ∧ own_QU Z cv R h0 n0 v_ U1_.heap L_ ∧ FrameEnd U_ o_ U1_ L_ ({ frames := 1, cells := 0, slots := 0, locals := 16 } : Room).cells ({ frames := 1, cells := 0, slots := 0, locals := 16 } : Room).slots) := by
  refine MetFree.of_bodySF (plainFor_of_name pn_3) hisR ?_
  intro p e s m args below meth c s₁ Bd hml0 hP hK
  obtain ⟨rfl, hZ, hh⟩ := hP
  have hx := Bd.exec
  have hby := Bd.bytes
  have hml : c.maxLocals = 1 := hml0
  have hown : s.vm.findClass "dev/treefold/text/Canvas" = some m.cls := findClass_of_methodNamed Bd.named
  have hnm := (name_of_methodNamed Bd.named Bd.method).1
  have X0 : Stand p l e ({ frames := 1, cells := 0, slots := 0, locals := 16 } : Room) s m #[(.ref cv)] below meth c s₁ [] 0 0 := Stand.of_body Bd
  have e0 : s₁.heap = h0 := by rw [← hh, Bd.state]; rfl
  have N0 := Fr.nil n0
  have pre0 : ∀ tt, Steps p.tables e below (s₁.setTop (mkF m 0 #[.val (.ref cv)] [])) tt → Steps p.tables e below (s₁.setTop (entryFrame m #[(.ref cv)] 1)) tt := fun tt kk => castTop (ef_3_r m cv) kk
  obtain ⟨T1, X1, e1, st1⟩ := getF X0 hx hZ hown (host := "") (Or.inl (hw _ (tk 10 rfl))) Via.refl e0 F_width_cv (g := (mkF m 4 #[.val (.ref cv)] [(.ref cv), (.int 0), (.int 0), (.ref cv)])) rfl rfl (hb hby d3_4)
  obtain ⟨T2, X2, e2, st2⟩ := getF X1 hx hZ hown (host := "") (Or.inl (hw _ (tk 14 rfl))) Via.refl e1 F_rows_cv (g := (mkF m 8 #[.val (.ref cv)] [(.ref cv), (.int 4), (.int 0), (.int 0), (.ref cv)])) rfl rfl (hb hby d3_8)
  obtain ⟨c3, Ar3, -, S3, M3, -, -⟩ := id V_R
  obtain ⟨cq4, kq4, q4a, q4b, q4c⟩ := isOf hZ e2 E_cv
  obtain ⟨_, _, ⟨T4, L4, k4, n4⟩, -, X4, ⟨Lc4, hQ4, l4, y4, z4⟩, st4⟩ := X2.virtualBack hx (y := y_20) (z := y_20) hown (mvT hZ (hw _ (tk 21 rfl))) (mvT hZ (hw _ (tk 22 rfl))) (notFace_of_selects (args := #[]) (mvT hZ (hw _ (tk 24 rfl)))) (mvT hZ (hw _ (tk 24 rfl))) (mvT hZ (hw _ (tk 23 rfl))) (by decide) (backOf (W := 0) (rmCL l Z a0 hw [] cv R (4 : Int32) (0 : Int32) (0 : Int32) (0 : Int32) (0 : Int32) (0 : Int32) (0 : Int32) (4 : Int32) (3 : Int32) h0 n0 Z0 E_cv F_width_cv F_rows_cv F_clipLeft_cv F_clipTop_cv F_clipRight_cv F_clipBottom_cv g_cv) hZ (hw _ (tk 25 rfl)) (hw _ (tk 3 rfl)) (by decide) (by decide)) q4a q4c (g := (mkF m 12 #[.val (.ref cv)] [(.int 3), (.int 4), (.int 0), (.int 0), (.ref cv)])) rfl (by rw [hml]; rfl) (Steps.refl _) (argsL := [(.int 0), (.int 0), (.int 4), (.int 3)]) (rest := []) (lenOf pd__IIII_V rfl) rfl (by show 2 * 0 + _ ≤ _; exact Nat.le_of_eq rfl) (hb hby d3_12) (fun _ _ => ⟨rfl, e2, (by decide : 0 + 0 ≤ _), (by decide : 0 + 0 ≤ _)⟩)
  dsimp only [Pt.U, Pt.locs, Pt.cells, Pt.slots] at X4 l4 y4 z4 st4 hQ4
  subst l4 y4 z4
  obtain ⟨rfl, Nq4, Kq4, Ec4, Fc4_0, Fc4_1, Fc4_2, Fc4_3, Fc4_4, Fc4_5⟩ := hQ4
  have N4 := Fr.app N0 Nq4
  obtain ⟨fs, hr, hrun, hended, hW, hsame⟩ := X4.leave (v := none) (fun _ => rfl)
  refine ⟨_, _, pre0 _ ?_, hrun, hended, _, _, rfl, ?_, ⟨_, rfl⟩, hW, hsame.mono (by decide) (by decide)⟩
  · show Steps _ _ _ (s₁.setTop (mkF m 0 #[.val (.ref cv)] [])) _
    refine XS.aloadN X0.here hx rfl (hb hby d3_0) rfl rfl ?_
    refine XS.iconst X0.here hx rfl (hb hby d3_1) ?_
    refine XS.iconst X0.here hx rfl (hb hby d3_2) ?_
    refine XS.aloadN X0.here hx rfl (hb hby d3_3) rfl rfl ?_
    show Steps _ _ _ (s₁.setTop (mkF m 4 #[.val (.ref cv)] [(.ref cv), (.int 0), (.int 0), (.ref cv)])) _
    refine st1 _ ?_
    show Steps _ _ _ (T1.setTop (mkF m 7 #[.val (.ref cv)] [(.int 4), (.int 0), (.int 0), (.ref cv)])) _
    refine XS.aloadN X1.here hx rfl (hb hby d3_7) rfl rfl ?_
    show Steps _ _ _ (T1.setTop (mkF m 8 #[.val (.ref cv)] [(.ref cv), (.int 4), (.int 0), (.int 0), (.ref cv)])) _
    refine st2 _ ?_
    show Steps _ _ _ (T2.setTop (mkF m 11 #[.val (.ref cv)] [(.ref R), (.int 4), (.int 0), (.int 0), (.ref cv)])) _
    refine X2.arraylength hx (by rw [e2]; exact Ar3.1) (State.isArrayOf_alike hZ.alike Ar3.2.1) (g := (mkF m 11 #[.val (.ref cv)] [(.ref R), (.int 4), (.int 0), (.int 0), (.ref cv)])) rfl rfl (hb hby d3_11) _ ?_
    rw [len_of S3 M3]
    show Steps _ _ _ (T2.setTop (mkF m 12 #[.val (.ref cv)] [(.int 3), (.int 4), (.int 0), (.int 0), (.ref cv)])) _
    refine st4.trans ?_
    show Steps _ _ _ (T4.setTop (mkF m 15 #[.val (.ref cv)] [])) _
    exact X4.returnOut hx Bd.returns (hb hby d3_15) hr
  · show own_QU Z cv R h0 n0 _ T4.heap _
    exact ⟨rfl, N4, ((Keep.refl h0 [cv]).trans Kq4 (allS (P := fun zz => zz ∈ [cv] ∨ h0.size ≤ zz) (Or.inl (tk 0 rfl)) all0)), Ec4, Fc4_0, Fc4_1, Fc4_2, Fc4_3, Fc4_4, Fc4_5⟩
def own_QK (Z : State) (cv : Addr) (h0 : Heap) (n0 : Nat) (v : Option Value) (h : Heap) (L : List Loc) : Prop := ∃ (R : Addr) (kR : ClassId), v = none ∧ Fr n0 L ∧ n0 ≤ R ∧ h0.size ≤ R ∧ Keep h0 h [cv] ∧ Exa Z h cv "dev/treefold/text/Canvas" ∧ Fld Z h cv "dev/treefold/text/Canvas" "width" "I" (.int 4) ∧ Fld Z h cv "dev/treefold/text/Canvas" "rows" "[[I" (.ref R) ∧ Fld Z h cv "dev/treefold/text/Canvas" "clipLeft" "I" (.int 0) ∧ Fld Z h cv "dev/treefold/text/Canvas" "clipTop" "I" (.int 0) ∧ Fld Z h cv "dev/treefold/text/Canvas" "clipRight" "I" (.int 4) ∧ Fld Z h cv "dev/treefold/text/Canvas" "clipBottom" "I" (.int 3) ∧ Arv Z h R kR (.array .int) (3 : Int32) [.null, .null, .null] .null ∧ OvrA Z kR .int "[I"
theorem d1_0 : decode prog_104_method_1_code 0 = .ok (.aload_n 0, 1) := by decide +kernel
theorem d1_1 : decode prog_104_method_1_code 1 = .ok (.invokespecial 1, 3) := by decide +kernel
theorem d1_4 : decode prog_104_method_1_code 4 = .ok (.iload_n 1, 1) := by decide +kernel
theorem d1_5 : decode prog_104_method_1_code 5 = .ok (.ifCond .lt 7, 3) := by decide +kernel
theorem d1_8 : decode prog_104_method_1_code 8 = .ok (.iload_n 2, 1) := by decide +kernel
theorem d1_9 : decode prog_104_method_1_code 9 = .ok (.ifCond .ge 18, 3) := by decide +kernel
theorem d1_27 : decode prog_104_method_1_code 27 = .ok (.aload_n 0, 1) := by decide +kernel
theorem d1_28 : decode prog_104_method_1_code 28 = .ok (.iload_n 1, 1) := by decide +kernel
theorem d1_29 : decode prog_104_method_1_code 29 = .ok (.putfield 16, 3) := by decide +kernel
theorem d1_32 : decode prog_104_method_1_code 32 = .ok (.aload_n 0, 1) := by decide +kernel
theorem d1_33 : decode prog_104_method_1_code 33 = .ok (.iload_n 2, 1) := by decide +kernel
theorem d1_34 : decode prog_104_method_1_code 34 = .ok (.anewarray 22, 3) := by decide +kernel
theorem d1_37 : decode prog_104_method_1_code 37 = .ok (.putfield 24, 3) := by decide +kernel
theorem d1_40 : decode prog_104_method_1_code 40 = .ok (.aload_n 0, 1) := by decide +kernel
theorem pd___V : parseMethodDescriptor "()V" = some ⟨[], none⟩ := by decide +kernel
theorem d1_41 : decode prog_104_method_1_code 41 = .ok (.invokevirtual 28, 3) := by decide +kernel
theorem d1_44 : decode prog_104_method_1_code 44 = .ok (.return_, 1) := by decide +kernel
theorem pn_1 : plainName "dev/treefold/text/Canvas" = true := by first | (simp [plainName, overriddenIn]; done) | decide +kernel
theorem ef_1_rrr (m : MethodId) (x0 : Addr) (x1 : Int32) (x2 : Int32) : entryFrame m #[(.ref x0), (.int x1), (.int x2)] 3 = mkF m 0 #[.val (.ref x0), .val (.int x1), .val (.int x2)] [] := by first | (simp [entryFrame, mkF, argsToLocals, Value.category]; done) | rfl
theorem rmCV (l : Launch) (Z : State) (a0 : Array Value) (hw : ∀ d ∈ tables_1, d.before a0 Z = true) (ws : List Jvm.Cond) (cv : Addr) (h0 : Heap) (n0 : Nat) (Z0 : n0 ≤ h0.size) (E_cv : Exa Z h0 cv "dev/treefold/text/Canvas") (F_width_cv : Fld Z h0 cv "dev/treefold/text/Canvas" "width" "I" (.int 0)) (F_rows_cv : Fld Z h0 cv "dev/treefold/text/Canvas" "rows" "[[I" .null) (F_clipLeft_cv : Fld Z h0 cv "dev/treefold/text/Canvas" "clipLeft" "I" (.int 0)) (F_clipTop_cv : Fld Z h0 cv "dev/treefold/text/Canvas" "clipTop" "I" (.int 0)) (F_clipRight_cv : Fld Z h0 cv "dev/treefold/text/Canvas" "clipRight" "I" (.int 0)) (F_clipBottom_cv : Fld Z h0 cv "dev/treefold/text/Canvas" "clipBottom" "I" (.int 0)) (g_cv : n0 ≤ cv) :
    MetFree l y_22 (head1 (Jvm.Cond.code y_22 prog_104_method_1_code 3 none :: ws) ({ frames := 2, cells := 1, slots := 3, locals := 28 } : Room)) (fun a_ U_ => a_ = #[(.ref cv), (.int 4), (.int 3)] ∧ Z.Warmed39 U_.vm ∧ U_.heap = h0) (fun _ _ _ _ _ => True) (fun _ U_ o_ U1_ => ∃ v_ L_, o_ = .returned v_ ∧ own_QK Z cv h0 n0 v_ U1_.heap L_ ∧ FrameEnd U_ o_ U1_ L_ ({ frames := 2, cells := 1, slots := 3, locals := 28 } : Room).cells ({ frames := 2, cells := 1, slots := 3, locals := 28 } : Room).slots) := by
  refine MetFree.of_bodySF (plainFor_of_name pn_1) hisR ?_
  intro p e s m args below meth c s₁ Bd hml0 hP hK
  obtain ⟨rfl, hZ, hh⟩ := hP
  have hx := Bd.exec
  have hby := Bd.bytes
  have hml : c.maxLocals = 3 := hml0
  have hown : s.vm.findClass "dev/treefold/text/Canvas" = some m.cls := findClass_of_methodNamed Bd.named
  have hnm := (name_of_methodNamed Bd.named Bd.method).1
  have X0 : Stand p l e ({ frames := 2, cells := 1, slots := 3, locals := 28 } : Room) s m #[(.ref cv), (.int 4), (.int 3)] below meth c s₁ [] 0 0 := Stand.of_body Bd
  have e0 : s₁.heap = h0 := by rw [← hh, Bd.state]; rfl
  have N0 := Fr.nil n0
  have pre0 : ∀ tt, Steps p.tables e below (s₁.setTop (mkF m 0 #[.val (.ref cv), .val (.int 4), .val (.int 3)] [])) tt → Steps p.tables e below (s₁.setTop (entryFrame m #[(.ref cv), (.int 4), (.int 3)] 3)) tt := fun tt kk => castTop (ef_1_rrr m cv (4 : Int32) (3 : Int32)) kk
  obtain ⟨T1, X1, e1, st1⟩ := initO X0 hx hZ hown (hw _ (tk 7 rfl)) (hw _ (tk 8 rfl)) (hw _ (tk 9 rfl)) e0 (g := (mkF m 1 #[.val (.ref cv), .val (.int 4), .val (.int 3)] [(.ref cv)])) rfl (by rw [hml]; rfl) rfl (hb hby d1_1) (by decide) (W := 0) (by show 2 * 0 + _ ≤ _; exact Nat.le_of_eq rfl) (by decide)
  obtain ⟨T2, h2, X2, e2, W2, st2⟩ := putF X1 hx hZ hown (host := "") (Or.inl (hw _ (tk 10 rfl))) Via.refl e1 F_width_cv E_cv (Or.inr ⟨(hw _ (tk 11 rfl)), rfl, hnm⟩) (hw _ (tk 2 rfl)) (ty := .int) (by decide) rfl rfl (g := (mkF m 29 #[.val (.ref cv), .val (.int 4), .val (.int 3)] [(.int 4), (.ref cv)])) rfl rfl (hb hby d1_29)
  have Fw2 := F_width_cv.same W2
  have N2 := Fr.snoc X2 N0 g_cv
  obtain ⟨T3, h3, k3, X3, e3, E3, A3, Ex3, O3, st3⟩ := newRA X2 hx hZ hown (C := "[I") (ty := .int) (by decide) (hw _ (tk 12 rfl)) (hw _ (tk 13 rfl)) e2 (g := (mkF m 34 #[.val (.ref cv), .val (.int 4), .val (.int 3)] [(.int 3), (.ref cv)])) rfl (hb hby d1_34) rfl (by decide) (cap := 3) (by decide) (by decide) (by decide) (by decide) (ad := "[[I") (by decide)
  obtain ⟨b3, g3⟩ : ∃ z, z = h2.size := ⟨_, rfl⟩
  rw [← g3] at A3 Ex3 st3
  have g_b3 : n0 ≤ b3 := Nat.le_trans (Nat.le_trans Z0 (Keep.of_wr W2).1) (Nat.le_of_eq g3.symm)
  have sz_b3 : h0.size ≤ b3 := Nat.le_trans (Keep.of_wr W2).1 (Nat.le_of_eq g3.symm)
  have V3 : Arv Z h3 b3 k3 (.array .int) (3 : Int32) [.null, .null, .null] .null := (Arv.new A3 (by decide)).pad (pad_rep [] .null 3)
  have f5 := ((E_cv.wr W2).ext E3)
  have f6 := ((F_rows_cv.other W2 (Or.inr (slot_ne (Or.inr (hw _ (tk 15 rfl))) (Or.inr (hw _ (tk 11 rfl))) (by decide) (t := (.array (.array .int))) (t' := .int) (by decide) (by decide)))).ext E3)
  obtain ⟨T4, h4, X4, e4, W4, st4⟩ := putF X3 hx hZ hown (host := "") (Or.inl (hw _ (tk 14 rfl))) Via.refl e3 f6 f5 (Or.inr ⟨(hw _ (tk 15 rfl)), rfl, hnm⟩) (hw _ (tk 2 rfl)) (ty := (.array (.array .int))) (by decide) rfl rfl (g := (mkF m 37 #[.val (.ref cv), .val (.int 4), .val (.int 3)] [(.ref b3), (.ref cv)])) rfl rfl (hb hby d1_37)
  have Fw4 := f6.same W4
  have N4 := Fr.snoc X4 N2 g_cv
  have f8 := (f5.wr W4)
  have f9 := ((Fw2.ext E3).other W4 (Or.inr (slot_ne (Or.inr (hw _ (tk 11 rfl))) (Or.inr (hw _ (tk 15 rfl))) (by decide) (t := .int) (t' := (.array (.array .int))) (by decide) (by decide))))
  have f10 := (((F_clipLeft_cv.other W2 (Or.inr (slot_ne (Or.inl (hw _ (tk 27 rfl))) (Or.inr (hw _ (tk 11 rfl))) (by decide) (t := .int) (t' := .int) (by decide) (by decide)))).ext E3).other W4 (Or.inr (slot_ne (Or.inl (hw _ (tk 27 rfl))) (Or.inr (hw _ (tk 15 rfl))) (by decide) (t := .int) (t' := (.array (.array .int))) (by decide) (by decide))))
  have f11 := (((F_clipTop_cv.other W2 (Or.inr (slot_ne (Or.inl (hw _ (tk 29 rfl))) (Or.inr (hw _ (tk 11 rfl))) (by decide) (t := .int) (t' := .int) (by decide) (by decide)))).ext E3).other W4 (Or.inr (slot_ne (Or.inl (hw _ (tk 29 rfl))) (Or.inr (hw _ (tk 15 rfl))) (by decide) (t := .int) (t' := (.array (.array .int))) (by decide) (by decide))))
  have f12 := (((F_clipRight_cv.other W2 (Or.inr (slot_ne (Or.inl (hw _ (tk 31 rfl))) (Or.inr (hw _ (tk 11 rfl))) (by decide) (t := .int) (t' := .int) (by decide) (by decide)))).ext E3).other W4 (Or.inr (slot_ne (Or.inl (hw _ (tk 31 rfl))) (Or.inr (hw _ (tk 15 rfl))) (by decide) (t := .int) (t' := (.array (.array .int))) (by decide) (by decide))))
  have f13 := (((F_clipBottom_cv.other W2 (Or.inr (slot_ne (Or.inl (hw _ (tk 33 rfl))) (Or.inr (hw _ (tk 11 rfl))) (by decide) (t := .int) (t' := .int) (by decide) (by decide)))).ext E3).other W4 (Or.inr (slot_ne (Or.inl (hw _ (tk 33 rfl))) (Or.inr (hw _ (tk 15 rfl))) (by decide) (t := .int) (t' := (.array (.array .int))) (by decide) (by decide))))
  have f14 := (V3.other W4 (Ne.symm (Nat.ne_of_lt (Nat.lt_of_lt_of_le (Nat.lt_of_lt_of_le E_cv.lt (Keep.of_wr W2).1) (Nat.le_of_eq g3.symm)))))
  obtain ⟨cq7, kq7, q7a, q7b, q7c⟩ := isOf hZ e4 f8
  obtain ⟨_, _, ⟨T7, L7, k7, n7⟩, -, X7, ⟨Lc7, hQ7, l7, y7, z7⟩, st7⟩ := X4.virtualBack hx (y := y_21) (z := y_21) hown (mvT hZ (hw _ (tk 16 rfl))) (mvT hZ (hw _ (tk 17 rfl))) (notFace_of_selects (args := #[]) (mvT hZ (hw _ (tk 19 rfl)))) (mvT hZ (hw _ (tk 19 rfl))) (mvT hZ (hw _ (tk 18 rfl))) (by decide) (backOf (W := 0) (rmUN l Z a0 hw [] cv b3 k3 h4 n0 (Nat.le_trans Z0 (Nat.le_trans (Nat.le_trans (Keep.of_wr W2).1 E3.1) (Keep.of_wr W4).1)) f8 f9 Fw4 f10 f11 f12 f13 g_cv f14) hZ (hw _ (tk 20 rfl)) (hw _ (tk 3 rfl)) (by decide) (by decide)) q7a q7c (g := (mkF m 41 #[.val (.ref cv), .val (.int 4), .val (.int 3)] [(.ref cv)])) rfl (by rw [hml]; rfl) (Steps.refl _) (argsL := []) (rest := []) (lenOf pd___V rfl) rfl (by show 2 * 0 + _ ≤ _; exact Nat.le_of_eq rfl) (hb hby d1_41) (fun _ _ => ⟨rfl, e4, (by decide : 1 + 0 ≤ _), (by decide : 3 + 0 ≤ _)⟩)
  dsimp only [Pt.U, Pt.locs, Pt.cells, Pt.slots] at X7 l7 y7 z7 st7 hQ7
  subst l7 y7 z7
  obtain ⟨rfl, Nq7, Kq7, Ec7, Fc7_0, Fc7_1, Fc7_2, Fc7_3, Fc7_4, Fc7_5⟩ := hQ7
  have N7 := Fr.app N4 Nq7
  have f15 := (f14.keep Kq7 (ninS (Ne.symm (Nat.ne_of_lt (Nat.lt_of_lt_of_le (Nat.lt_of_lt_of_le E_cv.lt (Keep.of_wr W2).1) (Nat.le_of_eq g3.symm)))) nin0))
  obtain ⟨fs, hr, hrun, hended, hW, hsame⟩ := X7.leave (v := none) (fun _ => rfl)
  refine ⟨_, _, pre0 _ ?_, hrun, hended, _, _, rfl, ?_, ⟨_, rfl⟩, hW, hsame.mono (by decide) (by decide)⟩
  · show Steps _ _ _ (s₁.setTop (mkF m 0 #[.val (.ref cv), .val (.int 4), .val (.int 3)] [])) _
    refine XS.aloadN X0.here hx rfl (hb hby d1_0) rfl rfl ?_
    show Steps _ _ _ (s₁.setTop (mkF m 1 #[.val (.ref cv), .val (.int 4), .val (.int 3)] [(.ref cv)])) _
    refine st1 _ ?_
    show Steps _ _ _ (T1.setTop (mkF m 4 #[.val (.ref cv), .val (.int 4), .val (.int 3)] [])) _
    refine XS.iloadN X1.here hx rfl (hb hby d1_4) rfl ?_
    refine XS.ifNo X1.here hx rfl (hb hby d1_5) rfl ((if0 _ _).trans (flt (by decide : ¬ ((4 : Int32) < (0 : Int32)))).1) ?_
    refine XS.iloadN X1.here hx rfl (hb hby d1_8) rfl ?_
    refine XS.ifYes X1.here hx rfl (pc0 := 9) (pc' := 27) rfl (hb hby d1_9) rfl ((if0 _ _).trans (flt (by decide : ¬ ((3 : Int32) < (0 : Int32)))).2.1) (by decide) (by decide) ?_
    refine XS.aloadN X1.here hx rfl (hb hby d1_27) rfl rfl ?_
    refine XS.iloadN X1.here hx rfl (hb hby d1_28) rfl ?_
    show Steps _ _ _ (T1.setTop (mkF m 29 #[.val (.ref cv), .val (.int 4), .val (.int 3)] [(.int 4), (.ref cv)])) _
    refine st2 _ ?_
    show Steps _ _ _ (T2.setTop (mkF m 32 #[.val (.ref cv), .val (.int 4), .val (.int 3)] [])) _
    refine XS.aloadN X2.here hx rfl (hb hby d1_32) rfl rfl ?_
    refine XS.iloadN X2.here hx rfl (hb hby d1_33) rfl ?_
    show Steps _ _ _ (T2.setTop (mkF m 34 #[.val (.ref cv), .val (.int 4), .val (.int 3)] [(.int 3), (.ref cv)])) _
    refine st3 _ ?_
    show Steps _ _ _ (T3.setTop (mkF m 37 #[.val (.ref cv), .val (.int 4), .val (.int 3)] [(.ref b3), (.ref cv)])) _
    refine st4 _ ?_
    show Steps _ _ _ (T4.setTop (mkF m 40 #[.val (.ref cv), .val (.int 4), .val (.int 3)] [])) _
    refine XS.aloadN X4.here hx rfl (hb hby d1_40) rfl rfl ?_
    show Steps _ _ _ (T4.setTop (mkF m 41 #[.val (.ref cv), .val (.int 4), .val (.int 3)] [(.ref cv)])) _
    refine st7.trans ?_
    show Steps _ _ _ (T7.setTop (mkF m 44 #[.val (.ref cv), .val (.int 4), .val (.int 3)] [])) _
    exact X7.returnOut hx Bd.returns (hb hby d1_44) hr
  · show own_QK Z cv h0 n0 _ T7.heap _
    exact ⟨b3, k3, rfl, N7, g_b3, sz_b3, (((((Keep.refl h0 [cv]).wr W2 (Or.inl (tk 0 rfl))).ext E3).wr W4 (Or.inl (tk 0 rfl))).trans Kq7 (allS (P := fun zz => zz ∈ [cv] ∨ h0.size ≤ zz) (Or.inl (tk 0 rfl)) all0)), Ec7, Fc7_0, Fc7_1, Fc7_2, Fc7_3, Fc7_4, Fc7_5, f15, O3⟩
theorem d29_0 : decode jdk_65_method_30_code 0 = .ok (.iload_n 1, 1) := by decide +kernel
theorem d29_1 : decode jdk_65_method_30_code 1 = .ok (.iload_n 2, 1) := by decide +kernel
theorem d29_2 : decode jdk_65_method_30_code 2 = .ok (.if_icmp .le 44, 3) := by decide +kernel
theorem d29_46 : decode jdk_65_method_30_code 46 = .ok (.iload_n 1, 1) := by decide +kernel
theorem d29_47 : decode jdk_65_method_30_code 47 = .ok (.ifCond .ge 12, 3) := by decide +kernel
theorem d29_59 : decode jdk_65_method_30_code 59 = .ok (.iload_n 2, 1) := by decide +kernel
theorem d29_60 : decode jdk_65_method_30_code 60 = .ok (.iload_n 0, 1) := by decide +kernel
theorem d29_61 : decode jdk_65_method_30_code 61 = .ok (.if_icmp .le 12, 3) := by decide +kernel
theorem d29_73 : decode jdk_65_method_30_code 73 = .ok (.return_, 1) := by decide +kernel
theorem pn_29 : plainName "java/util/Arrays" = true := by first | (simp [plainName, overriddenIn]; done) | decide +kernel
theorem ef_29_rrr (m : MethodId) (x0 : Int32) (x1 : Int32) (x2 : Int32) : entryFrame m #[(.int x0), (.int x1), (.int x0)] 3 = mkF m 0 #[.val (.int x0), .val (.int x1), .val (.int x0)] [] := by first | (simp [entryFrame, mkF, argsToLocals, Value.category]; done) | rfl
theorem rmRC (l : Launch) (Z : State) (a0 : Array Value) (hw : ∀ d ∈ tables_1, d.before a0 Z = true) (ws : List Jvm.Cond) (n : Nat) (h0 : Heap) (n0 : Nat) (Z0 : n0 ≤ h0.size) (hn4 : n ≤ 4) :
    MetFree l y_23 (head1 (Jvm.Cond.code y_23 jdk_65_method_30_code 3 none :: ws) ({ frames := 0, cells := 0, slots := 0, locals := 0 } : Room)) (fun a_ U_ => a_ = #[(.int (Int32.ofNat n)), (.int 0), (.int (Int32.ofNat n))] ∧ Z.Warmed39 U_.vm ∧ U_.heap = h0) (fun _ _ _ _ _ => True) (fun _ U_ o_ U1_ => ∃ v_ L_, o_ = .returned v_ ∧ own_Q Z (none) h0 n0 v_ U1_.heap L_ ∧ FrameEnd U_ o_ U1_ L_ ({ frames := 0, cells := 0, slots := 0, locals := 0 } : Room).cells ({ frames := 0, cells := 0, slots := 0, locals := 0 } : Room).slots) := by
  refine MetFree.of_bodySF (plainFor_of_name pn_29) hisR ?_
  intro p e s m args below meth c s₁ Bd hml0 hP hK
  obtain ⟨rfl, hZ, hh⟩ := hP
  have hx := Bd.exec
  have hby := Bd.bytes
  have hml : c.maxLocals = 3 := hml0
  have hown : s.vm.findClass "java/util/Arrays" = some m.cls := findClass_of_methodNamed Bd.named
  have hnm := (name_of_methodNamed Bd.named Bd.method).1
  have X0 : Stand p l e ({ frames := 0, cells := 0, slots := 0, locals := 0 } : Room) s m #[(.int (Int32.ofNat n)), (.int 0), (.int (Int32.ofNat n))] below meth c s₁ [] 0 0 := Stand.of_body Bd
  have e0 : s₁.heap = h0 := by rw [← hh, Bd.state]; rfl
  have N0 := Fr.nil n0
  have pre0 : ∀ tt, Steps p.tables e below (s₁.setTop (mkF m 0 #[.val (.int (Int32.ofNat n)), .val (.int 0), .val (.int (Int32.ofNat n))] [])) tt → Steps p.tables e below (s₁.setTop (entryFrame m #[(.int (Int32.ofNat n)), (.int 0), (.int (Int32.ofNat n))] 3)) tt := fun tt kk => castTop (ef_29_rrr m (Int32.ofNat n) (0 : Int32) (Int32.ofNat n)) kk
  obtain ⟨fs, hr, hrun, hended, hW, hsame⟩ := X0.leave (v := none) (fun _ => rfl)
  refine ⟨_, _, pre0 _ ?_, hrun, hended, _, _, rfl, ?_, ⟨_, rfl⟩, hW, hsame.mono (by decide) (by decide)⟩
  · show Steps _ _ _ (s₁.setTop (mkF m 0 #[.val (.int (Int32.ofNat n)), .val (.int 0), .val (.int (Int32.ofNat n))] [])) _
    refine XS.iloadN X0.here hx rfl (hb hby d29_0) rfl ?_
    refine XS.iloadN X0.here hx rfl (hb hby d29_1) rfl ?_
    refine XS.icmpYes X0.here hx rfl (pc0 := 2) (pc' := 46) rfl (hb hby d29_2) rfl (flt (own_n0 (by omega))).2.2.2 (by decide) (by decide) ?_
    refine XS.iloadN X0.here hx rfl (hb hby d29_46) rfl ?_
    refine XS.ifYes X0.here hx rfl (pc0 := 47) (pc' := 59) rfl (hb hby d29_47) rfl ((if0 _ _).trans (flt (by decide : ¬ ((0 : Int32) < (0 : Int32)))).2.1) (by decide) (by decide) ?_
    refine XS.iloadN X0.here hx rfl (hb hby d29_59) rfl ?_
    refine XS.iloadN X0.here hx rfl (hb hby d29_60) rfl ?_
    refine XS.icmpYes X0.here hx rfl (pc0 := 61) (pc' := 73) rfl (hb hby d29_61) rfl (flt (Int32.lt_irrefl : ¬ ((Int32.ofNat n) < (Int32.ofNat n)))).2.2.2 (by decide) (by decide) ?_
    show Steps _ _ _ (s₁.setTop (mkF m 73 #[.val (.int (Int32.ofNat n)), .val (.int 0), .val (.int (Int32.ofNat n))] [])) _
    exact X0.returnOut hx Bd.returns (hb hby d29_73) hr
  · show own_Q Z (none) h0 n0 _ s₁.heap _
    rw [e0]
    exact ⟨rfl, N0, rfl⟩
def own_QF (Z : State) (t : Addr) (kt : ClassId) (n : Nat) (h0 : Heap) (n0 : Nat) (v : Option Value) (h : Heap) (L : List Loc) : Prop := v = none ∧ Fr n0 L ∧ Keep h0 h [t] ∧ Arv Z h t kt .int (Int32.ofNat n) (List.replicate n (Value.int (32 : Int32))) (.int 0)
theorem d28_0 : decode jdk_65_method_104_code 0 = .ok (.aload_n 0, 1) := by decide +kernel
theorem d28_1 : decode jdk_65_method_104_code 1 = .ok (.arraylength, 1) := by decide +kernel
theorem d28_2 : decode jdk_65_method_104_code 2 = .ok (.iload_n 1, 1) := by decide +kernel
theorem d28_3 : decode jdk_65_method_104_code 3 = .ok (.iload_n 2, 1) := by decide +kernel
theorem pd__III_V : parseMethodDescriptor "(III)V" = some ⟨[.int, .int, .int], none⟩ := by decide +kernel
theorem d28_4 : decode jdk_65_method_104_code 4 = .ok (.invokestatic 13, 3) := by decide +kernel
theorem d28_7 : decode jdk_65_method_104_code 7 = .ok (.iload_n 1, 1) := by decide +kernel
theorem d28_8 : decode jdk_65_method_104_code 8 = .ok (.istore 4, 2) := by decide +kernel
theorem d28_27 : decode jdk_65_method_104_code 27 = .ok (.return_, 1) := by decide +kernel
theorem pn_28 : plainName "java/util/Arrays" = true := by first | (simp [plainName, overriddenIn]; done) | decide +kernel
theorem ef_28_rrrr (m : MethodId) (x0 : Addr) (x1 : Int32) (x2 : Int32) (x3 : Int32) : entryFrame m #[(.ref x0), (.int x1), (.int x2), (.int x3)] 5 = mkF m 0 #[.val (.ref x0), .val (.int x1), .val (.int x2), .val (.int x3), .unset] [] := by first | (simp [entryFrame, mkF, argsToLocals, Value.category]; done) | rfl
theorem d28_10 : decode jdk_65_method_104_code 10 = .ok (.iload 4, 2) := by decide +kernel
theorem d28_12 : decode jdk_65_method_104_code 12 = .ok (.iload_n 2, 1) := by decide +kernel
theorem d28_13 : decode jdk_65_method_104_code 13 = .ok (.if_icmp .ge 14, 3) := by decide +kernel
theorem d28_16 : decode jdk_65_method_104_code 16 = .ok (.aload_n 0, 1) := by decide +kernel
theorem d28_17 : decode jdk_65_method_104_code 17 = .ok (.iload 4, 2) := by decide +kernel
theorem d28_19 : decode jdk_65_method_104_code 19 = .ok (.iload_n 3, 1) := by decide +kernel
theorem d28_20 : decode jdk_65_method_104_code 20 = .ok (.iastore, 1) := by decide +kernel
theorem d28_21 : decode jdk_65_method_104_code 21 = .ok (.iinc 4 1, 3) := by decide +kernel
theorem d28_24 : decode jdk_65_method_104_code 24 = .ok (.goto (-14), 3) := by decide +kernel
theorem tnFL {p : Program} {l : Launch} {e : Env} {s : State} {m : MethodId} {args : Array Value} {below : List Frame} {meth : Method} {c : Code} {s₁ : State} {L0 : List Loc} {Z : State} {a0 : Array Value} (t : Addr) (kt : ClassId) (n : Nat) (i : Nat) (h0 : Heap) (n0 : Nat) (X0 : Stand p l e ({ frames := 1, cells := 0, slots := 0, locals := 14 } : Room) s m args below meth c s₁ L0 0 0) (hx : p.tables.exec = Jvm.exec) (hZ : Z.Warmed39 s.vm) (hw : ∀ d ∈ tables_1, d.before a0 Z = true) (hby : c.code = jdk_65_method_104_code) (hml : c.maxLocals = 5) (hown : s.vm.findClass "java/util/Arrays" = some m.cls) (e0 : s₁.heap = h0) (N0 : Fr n0 L0) (Z0 : n0 ≤ h0.size) (V_t : Arv Z h0 t kt .int (Int32.ofNat n) (List.replicate i (Value.int (32 : Int32))) (.int 0)) (g_t : n0 ≤ t) (hn4 : n ≤ 4) (hi : i < n) :
    ∃ (T' : State) (h' : Heap) (L' : List Loc) , Stand p l e ({ frames := 1, cells := 0, slots := 0, locals := 14 } : Room) s m args below meth c T' L' 0 0 ∧ T'.heap = h' ∧ Fr n0 L' ∧ n0 ≤ h'.size ∧ Keep h0 h' [t] ∧ Arv Z h' t kt .int (Int32.ofNat n) (List.replicate (i + 1) (Value.int (32 : Int32))) (.int 0) ∧ 
      ∀ target, Steps p.tables e below (T'.setTop (mkF m 10 #[.val (.ref t), .val (.int 0), .val (.int (Int32.ofNat n)), .val (.int 32), .val (.int (Int32.ofNat (i + 1)))] [])) target → Steps p.tables e below (s₁.setTop (mkF m 10 #[.val (.ref t), .val (.int 0), .val (.int (Int32.ofNat n)), .val (.int 32), .val (.int (Int32.ofNat i))] [])) target := by
  obtain ⟨c1, Ar1, q1, S1, M1, H1, Gz1⟩ := id (V_t.pad (pad_rep (List.replicate i (Value.int (32 : Int32))) (.int 0) 1))
  have hin1 := inb_of (j := (Int32.ofNat i)) S1 (own_in hi (by omega))
  obtain ⟨T1, h1, X1, e1, W1, st1⟩ := stI X0 hx hZ e0 Ar1 (j := (Int32.ofNat i)) hin1 (g := (mkF m 20 #[.val (.ref t), .val (.int 0), .val (.int (Int32.ofNat n)), .val (.int 32), .val (.int (Int32.ofNat i))] [(.int 32), (.int (Int32.ofNat i)), (.ref t)])) rfl rfl (hb hby d28_20)
  have V1 : Arv Z h1 t kt .int (Int32.ofNat n) (List.replicate (i + 1) (Value.int (32 : Int32))) (.int 0) := (by rw [← (own_seti i)]; exact Arv.set Ar1 q1 S1 M1 H1 Gz1 rfl W1 i (own_clamp (by omega)) (by simp))
  have N1 := Fr.snoc X1 N0 g_t
  refine ⟨T1, h1, _, X1, e1, N1, (Nat.le_trans Z0 (Keep.of_wr W1).1), ((Keep.refl h0 [t]).wr W1 (Or.inl (tk 0 rfl))), V1, fun target kt => ?_⟩
  show Steps _ _ _ (s₁.setTop (mkF m 10 #[.val (.ref t), .val (.int 0), .val (.int (Int32.ofNat n)), .val (.int 32), .val (.int (Int32.ofNat i))] [])) _
  refine XS.iload X0.here hx rfl (hb hby d28_10) rfl ?_
  refine XS.iloadN X0.here hx rfl (hb hby d28_12) rfl ?_
  refine XS.icmpNo X0.here hx rfl (hb hby d28_13) rfl (tlt ((own_lt (by omega) (by omega)).mpr hi)).2.1 ?_
  refine XS.aloadN X0.here hx rfl (hb hby d28_16) rfl rfl ?_
  refine XS.iload X0.here hx rfl (hb hby d28_17) rfl ?_
  refine XS.iloadN X0.here hx rfl (hb hby d28_19) rfl ?_
  show Steps _ _ _ (s₁.setTop (mkF m 20 #[.val (.ref t), .val (.int 0), .val (.int (Int32.ofNat n)), .val (.int 32), .val (.int (Int32.ofNat i))] [(.int 32), (.int (Int32.ofNat i)), (.ref t)])) _
  refine st1 _ ?_
  show Steps _ _ _ (T1.setTop (mkF m 21 #[.val (.ref t), .val (.int 0), .val (.int (Int32.ofNat n)), .val (.int 32), .val (.int (Int32.ofNat i))] [])) _
  refine XS.iinc X1.here hx rfl (hb hby d28_21) rfl (l' := #[.val (.ref t), .val (.int 0), .val (.int (Int32.ofNat n)), .val (.int 32), .val (.int ((Int32.ofNat i) + (1 : Int32)))]) rfl ?_
  refine XS.goto X1.here hx rfl (pc0 := 24) (pc' := 10) rfl (hb hby d28_24) (by decide) (by decide) ?_
  show Steps _ _ _ (T1.setTop (mkF m 10 #[.val (.ref t), .val (.int 0), .val (.int (Int32.ofNat n)), .val (.int 32), .val (.int ((Int32.ofNat i) + (1 : Int32)))] [])) _
  rw [(own_succ i)]
  show Steps _ _ _ (T1.setTop (mkF m 10 #[.val (.ref t), .val (.int 0), .val (.int (Int32.ofNat n)), .val (.int 32), .val (.int (Int32.ofNat (i + 1)))] [])) _
  exact kt
theorem lvFL {p : Program} {l : Launch} {e : Env} {s : State} {m : MethodId} {args : Array Value} {below : List Frame} {meth : Method} {c : Code} {s₁ : State} {L0 : List Loc} {Z : State} {a0 : Array Value} (t : Addr) (kt : ClassId) (n : Nat) (h0 : Heap) (n0 : Nat) (X0 : Stand p l e ({ frames := 1, cells := 0, slots := 0, locals := 14 } : Room) s m args below meth c s₁ L0 0 0) (hx : p.tables.exec = Jvm.exec) (hZ : Z.Warmed39 s.vm) (hw : ∀ d ∈ tables_1, d.before a0 Z = true) (hby : c.code = jdk_65_method_104_code) (hml : c.maxLocals = 5) (hown : s.vm.findClass "java/util/Arrays" = some m.cls) (e0 : s₁.heap = h0) (N0 : Fr n0 L0) (Z0 : n0 ≤ h0.size) :
    ∃ (T' : State) (h' : Heap) (L' : List Loc) , Stand p l e ({ frames := 1, cells := 0, slots := 0, locals := 14 } : Room) s m args below meth c T' L' 0 0 ∧ T'.heap = h' ∧ Fr n0 L' ∧ n0 ≤ h'.size ∧ h' = h0 ∧ 
      ∀ target, Steps p.tables e below (T'.setTop (mkF m 27 #[.val (.ref t), .val (.int 0), .val (.int (Int32.ofNat n)), .val (.int 32), .val (.int (Int32.ofNat n))] [])) target → Steps p.tables e below (s₁.setTop (mkF m 10 #[.val (.ref t), .val (.int 0), .val (.int (Int32.ofNat n)), .val (.int 32), .val (.int (Int32.ofNat n))] [])) target := by
  refine ⟨s₁, h0, _, X0, e0, N0, Z0, rfl, fun target kt => ?_⟩
  show Steps _ _ _ (s₁.setTop (mkF m 10 #[.val (.ref t), .val (.int 0), .val (.int (Int32.ofNat n)), .val (.int 32), .val (.int (Int32.ofNat n))] [])) _
  refine XS.iload X0.here hx rfl (hb hby d28_10) rfl ?_
  refine XS.iloadN X0.here hx rfl (hb hby d28_12) rfl ?_
  refine XS.icmpYes X0.here hx rfl (pc0 := 13) (pc' := 27) rfl (hb hby d28_13) rfl (flt (Int32.lt_irrefl : ¬ ((Int32.ofNat n) < (Int32.ofNat n)))).2.1 (by decide) (by decide) ?_
  exact kt
theorem lpFL {p : Program} {l : Launch} {e : Env} {s : State} {m : MethodId} {args : Array Value} {below : List Frame} {meth : Method} {c : Code} {Z : State} {a0 : Array Value} (t : Addr) (kt : ClassId) (n : Nat) (n0 : Nat) (hx : p.tables.exec = Jvm.exec) (hZ : Z.Warmed39 s.vm) (hw : ∀ d ∈ tables_1, d.before a0 Z = true) (hby : c.code = jdk_65_method_104_code) (hml : c.maxLocals = 5) (hown : s.vm.findClass "java/util/Arrays" = some m.cls) (hn4 : n ≤ 4) (g_t : n0 ≤ t) :
    ∀ (q : Nat) (s₁ : State) (L0 : List Loc) (h0 : Heap) (i : Nat) (X0 : Stand p l e ({ frames := 1, cells := 0, slots := 0, locals := 14 } : Room) s m args below meth c s₁ L0 0 0) (e0 : s₁.heap = h0) (N0 : Fr n0 L0) (Z0 : n0 ≤ h0.size) (V_t : Arv Z h0 t kt .int (Int32.ofNat n) (List.replicate i (Value.int (32 : Int32))) (.int 0)) (hi : i + q = n),
    ∃ (T' : State) (h' : Heap) (L' : List Loc), Stand p l e ({ frames := 1, cells := 0, slots := 0, locals := 14 } : Room) s m args below meth c T' L' 0 0 ∧ T'.heap = h' ∧ Fr n0 L' ∧ n0 ≤ h'.size ∧ Keep h0 h' [t] ∧ Arv Z h' t kt .int (Int32.ofNat n) (List.replicate n (Value.int (32 : Int32))) (.int 0) ∧
      ∀ target, Steps p.tables e below (T'.setTop (mkF m 27 #[.val (.ref t), .val (.int 0), .val (.int (Int32.ofNat n)), .val (.int 32), .val (.int (Int32.ofNat n))] [])) target → Steps p.tables e below (s₁.setTop (mkF m 10 #[.val (.ref t), .val (.int 0), .val (.int (Int32.ofNat n)), .val (.int 32), .val (.int (Int32.ofNat i))] [])) target := by
  intro q
  induction q with
  | zero =>
    intro s₁ L0 h0 i X0 e0 N0 Z0 V_t hi
    obtain rfl : i = n := by omega
    obtain ⟨T1, h1, L1, X1, f1, N1, Z1, hh, st1⟩ := lvFL t kt i h0 n0 X0 hx hZ hw hby hml hown e0 N0 Z0
    subst hh
    exact ⟨T1, _, L1, X1, f1, N1, Z1, Keep.refl _ _, V_t, st1⟩
  | succ q ih =>
    intro s₁ L0 h0 i X0 e0 N0 Z0 V_t hi
    obtain ⟨T1, h1, L1, X1, f1, N1, Z1, K1, V1, st1⟩ := tnFL t kt n i h0 n0 X0 hx hZ hw hby hml hown e0 N0 Z0 V_t g_t hn4 (by omega)
    obtain ⟨T2, h2, L2, X2, f2, N2, Z2, K2, V2, st2⟩ := ih T1 L1 h1 (i + 1) X1 f1 N1 Z1 V1 (by omega)
    exact ⟨T2, h2, L2, X2, f2, N2, Z2, K1.trans K2 (fun x hx => Or.inl hx), V2, fun target kt => st1 _ (st2 _ kt)⟩
theorem rmFL (l : Launch) (Z : State) (a0 : Array Value) (hw : ∀ d ∈ tables_1, d.before a0 Z = true) (ws : List Jvm.Cond) (t : Addr) (kt : ClassId) (n : Nat) (h0 : Heap) (n0 : Nat) (Z0 : n0 ≤ h0.size) (V_t : Arv Z h0 t kt .int (Int32.ofNat n) [] (.int 0)) (g_t : n0 ≤ t) (hn4 : n ≤ 4) :
    MetFree l y_24 (head1 (Jvm.Cond.code y_24 jdk_65_method_104_code 5 none :: ws) ({ frames := 1, cells := 0, slots := 0, locals := 14 } : Room)) (fun a_ U_ => a_ = #[(.ref t), (.int 0), (.int (Int32.ofNat n)), (.int 32)] ∧ Z.Warmed39 U_.vm ∧ U_.heap = h0) (fun _ _ _ _ _ => True) (fun _ U_ o_ U1_ => ∃ v_ L_, o_ = .returned v_ ∧ own_QF Z t kt n h0 n0 v_ U1_.heap L_ ∧ FrameEnd U_ o_ U1_ L_ ({ frames := 1, cells := 0, slots := 0, locals := 14 } : Room).cells ({ frames := 1, cells := 0, slots := 0, locals := 14 } : Room).slots) := by
  refine MetFree.of_bodySF (plainFor_of_name pn_28) hisR ?_
  intro p e s m args below meth c s₁ Bd hml0 hP hK
  obtain ⟨rfl, hZ, hh⟩ := hP
  have hx := Bd.exec
  have hby := Bd.bytes
  have hml : c.maxLocals = 5 := hml0
  have hown : s.vm.findClass "java/util/Arrays" = some m.cls := findClass_of_methodNamed Bd.named
  have hnm := (name_of_methodNamed Bd.named Bd.method).1
  have X0 : Stand p l e ({ frames := 1, cells := 0, slots := 0, locals := 14 } : Room) s m #[(.ref t), (.int 0), (.int (Int32.ofNat n)), (.int 32)] below meth c s₁ [] 0 0 := Stand.of_body Bd
  have e0 : s₁.heap = h0 := by rw [← hh, Bd.state]; rfl
  have N0 := Fr.nil n0
  have pre0 : ∀ tt, Steps p.tables e below (s₁.setTop (mkF m 0 #[.val (.ref t), .val (.int 0), .val (.int (Int32.ofNat n)), .val (.int 32), .unset] [])) tt → Steps p.tables e below (s₁.setTop (entryFrame m #[(.ref t), (.int 0), (.int (Int32.ofNat n)), (.int 32)] 5)) tt := fun tt kk => castTop (ef_28_rrrr m t (0 : Int32) (Int32.ofNat n) (32 : Int32)) kk
  obtain ⟨c1, Ar1, -, S1, M1, -, -⟩ := id V_t
  obtain ⟨_, _, ⟨T2, L2, k2, n2⟩, -, X2, ⟨Lc2, hQ2, l2, y2, z2⟩, st2⟩ := Jvm.LawKit.callS X0 hx (y := y_23) hown (mvT hZ (hw _ (tk 184 rfl))) (mvT hZ (hw _ (tk 185 rfl))) (mvT hZ (hw _ (tk 182 rfl))) (mvT hZ (hw _ (tk 186 rfl))) (by decide) (backOf (W := 0) (rmRC l Z a0 hw [] n h0 n0 Z0 hn4) hZ (hw _ (tk 186 rfl)) (hw _ (tk 182 rfl)) (by decide) (by decide)) (g := (mkF m 4 #[.val (.ref t), .val (.int 0), .val (.int (Int32.ofNat n)), .val (.int 32), .unset] [(.int (Int32.ofNat n)), (.int 0), (.int (Int32.ofNat n))])) rfl (by rw [hml]; rfl) (argsL := [(.int (Int32.ofNat n)), (.int 0), (.int (Int32.ofNat n))]) (rest := []) (lenOf pd__III_V rfl) rfl (by show 2 * 0 + _ ≤ _; exact Nat.le_of_eq rfl) (hb hby d28_4) (fun _ _ => ⟨rfl, e0, (by decide : 0 + 0 ≤ _), (by decide : 0 + 0 ≤ _)⟩)
  dsimp only [Pt.U, Pt.locs, Pt.cells, Pt.slots] at X2 l2 y2 z2 st2 hQ2
  subst l2 y2 z2
  obtain ⟨rfl, Nq2, eq2⟩ := hQ2
  have N2 := Fr.app N0 Nq2
  obtain ⟨T9, h9, L9, X9, e9, N9, Z9, K9, V9, st9⟩ := lpFL t kt n n0 hx hZ hw hby hml hown hn4 g_t n T2 _ h0 0 X2 eq2 N2 Z0 V_t (by omega)
  obtain ⟨fs, hr, hrun, hended, hW, hsame⟩ := X9.leave (v := none) (fun _ => rfl)
  refine ⟨_, _, pre0 _ ?_, hrun, hended, _, _, rfl, ?_, ⟨_, rfl⟩, hW, hsame.mono (by decide) (by decide)⟩
  · show Steps _ _ _ (s₁.setTop (mkF m 0 #[.val (.ref t), .val (.int 0), .val (.int (Int32.ofNat n)), .val (.int 32), .unset] [])) _
    refine XS.aloadN X0.here hx rfl (hb hby d28_0) rfl rfl ?_
    show Steps _ _ _ (s₁.setTop (mkF m 1 #[.val (.ref t), .val (.int 0), .val (.int (Int32.ofNat n)), .val (.int 32), .unset] [(.ref t)])) _
    refine X0.arraylength hx (by rw [e0]; exact Ar1.1) (State.isArrayOf_alike hZ.alike Ar1.2.1) (g := (mkF m 1 #[.val (.ref t), .val (.int 0), .val (.int (Int32.ofNat n)), .val (.int 32), .unset] [(.ref t)])) rfl rfl (hb hby d28_1) _ ?_
    rw [len_of S1 M1]
    show Steps _ _ _ (s₁.setTop (mkF m 2 #[.val (.ref t), .val (.int 0), .val (.int (Int32.ofNat n)), .val (.int 32), .unset] [(.int (Int32.ofNat n))])) _
    refine XS.iloadN X0.here hx rfl (hb hby d28_2) rfl ?_
    refine XS.iloadN X0.here hx rfl (hb hby d28_3) rfl ?_
    show Steps _ _ _ (s₁.setTop (mkF m 4 #[.val (.ref t), .val (.int 0), .val (.int (Int32.ofNat n)), .val (.int 32), .unset] [(.int (Int32.ofNat n)), (.int 0), (.int (Int32.ofNat n))])) _
    refine st2 _ ?_
    show Steps _ _ _ (T2.setTop (mkF m 7 #[.val (.ref t), .val (.int 0), .val (.int (Int32.ofNat n)), .val (.int 32), .unset] [])) _
    refine XS.iloadN X2.here hx rfl (hb hby d28_7) rfl ?_
    refine XS.istore X2.here hx rfl (hb hby d28_8) rfl (l' := #[.val (.ref t), .val (.int 0), .val (.int (Int32.ofNat n)), .val (.int 32), .val (.int 0)]) rfl ?_
    show Steps _ _ _ (T2.setTop (mkF m 10 #[.val (.ref t), .val (.int 0), .val (.int (Int32.ofNat n)), .val (.int 32), .val (.int (Int32.ofNat 0))] [])) _
    refine st9 _ ?_
    show Steps _ _ _ (T9.setTop (mkF m 27 #[.val (.ref t), .val (.int 0), .val (.int (Int32.ofNat n)), .val (.int 32), .val (.int (Int32.ofNat n))] [])) _
    exact X9.returnOut hx Bd.returns (hb hby d28_27) hr
  · show own_QF Z t kt n h0 n0 _ T9.heap _
    rw [e9]
    exact ⟨rfl, N9, ((Keep.refl h0 [t]).trans K9 (allS (P := fun zz => zz ∈ [t] ∨ h0.size ≤ zz) (Or.inl (tk 0 rfl)) all0)), V9⟩
def own_QO (Z : State) (R : Addr) (kR : ClassId) (y n : Nat) (h0 : Heap) (n0 : Nat) (v : Option Value) (h : Heap) (L : List Loc) : Prop := ∃ (t : Addr) (kt : ClassId), v = some (.ref t) ∧ Fr n0 L ∧ n0 ≤ t ∧ h0.size ≤ t ∧ Keep h0 h [R] ∧ Arv Z h R kR (.array .int) (3 : Int32) (([.null, .null, .null] : List Value).set y (.ref t)) .null ∧ Arv Z h t kt .int (Int32.ofNat n) (List.replicate n (Value.int (32 : Int32))) (.int 0)
theorem d26_0 : decode prog_104_method_9_code 0 = .ok (.aload_n 0, 1) := by decide +kernel
theorem d26_1 : decode prog_104_method_9_code 1 = .ok (.getfield 24, 3) := by decide +kernel
theorem d26_4 : decode prog_104_method_9_code 4 = .ok (.iload_n 1, 1) := by decide +kernel
theorem d26_5 : decode prog_104_method_9_code 5 = .ok (.aaload, 1) := by decide +kernel
theorem d26_6 : decode prog_104_method_9_code 6 = .ok (.astore_n 3, 1) := by decide +kernel
theorem d26_7 : decode prog_104_method_9_code 7 = .ok (.aload_n 3, 1) := by decide +kernel
theorem d26_8 : decode prog_104_method_9_code 8 = .ok (.ifnonnull 7, 3) := by decide +kernel
theorem d26_11 : decode prog_104_method_9_code 11 = .ok (.iconst 0, 1) := by decide +kernel
theorem d26_12 : decode prog_104_method_9_code 12 = .ok (.goto 5, 3) := by decide +kernel
theorem d26_17 : decode prog_104_method_9_code 17 = .ok (.istore 4, 2) := by decide +kernel
theorem d26_19 : decode prog_104_method_9_code 19 = .ok (.iload 4, 2) := by decide +kernel
theorem d26_21 : decode prog_104_method_9_code 21 = .ok (.iload_n 2, 1) := by decide +kernel
theorem d26_22 : decode prog_104_method_9_code 22 = .ok (.if_icmp .ge 61, 3) := by decide +kernel
theorem d26_25 : decode prog_104_method_9_code 25 = .ok (.aload_n 0, 1) := by decide +kernel
theorem d26_26 : decode prog_104_method_9_code 26 = .ok (.getfield 16, 3) := by decide +kernel
theorem d26_29 : decode prog_104_method_9_code 29 = .ok (.i2l, 1) := by decide +kernel
theorem d26_30 : decode prog_104_method_9_code 30 = .ok (.iload_n 2, 1) := by decide +kernel
theorem d26_31 : decode prog_104_method_9_code 31 = .ok (.i2l, 1) := by decide +kernel
theorem d26_32 : decode prog_104_method_9_code 32 = .ok (.ldc2_w 105, 3) := by decide +kernel
theorem d26_35 : decode prog_104_method_9_code 35 = .ok (.iload 4, 2) := by decide +kernel
theorem d26_37 : decode prog_104_method_9_code 37 = .ok (.i2l, 1) := by decide +kernel
theorem d26_38 : decode prog_104_method_9_code 38 = .ok (.lmul, 1) := by decide +kernel
theorem pd__JJ_J : parseMethodDescriptor "(JJ)J" = some ⟨[.long, .long], some .long⟩ := by decide +kernel
theorem d26_39 : decode prog_104_method_9_code 39 = .ok (.invokestatic 107, 3) := by decide +kernel
theorem d26_42 : decode prog_104_method_9_code 42 = .ok (.invokestatic 58, 3) := by decide +kernel
theorem d26_45 : decode prog_104_method_9_code 45 = .ok (.l2i, 1) := by decide +kernel
theorem d26_46 : decode prog_104_method_9_code 46 = .ok (.istore 5, 2) := by decide +kernel
theorem d26_48 : decode prog_104_method_9_code 48 = .ok (.aload_n 3, 1) := by decide +kernel
theorem d26_49 : decode prog_104_method_9_code 49 = .ok (.ifnonnull 10, 3) := by decide +kernel
theorem d26_52 : decode prog_104_method_9_code 52 = .ok (.iload 5, 2) := by decide +kernel
theorem d26_54 : decode prog_104_method_9_code 54 = .ok (.newarray .int, 2) := by decide +kernel
theorem d26_56 : decode prog_104_method_9_code 56 = .ok (.goto 9, 3) := by decide +kernel
theorem d26_65 : decode prog_104_method_9_code 65 = .ok (.astore_n 3, 1) := by decide +kernel
theorem d26_66 : decode prog_104_method_9_code 66 = .ok (.aload_n 3, 1) := by decide +kernel
theorem d26_67 : decode prog_104_method_9_code 67 = .ok (.iload 4, 2) := by decide +kernel
theorem d26_69 : decode prog_104_method_9_code 69 = .ok (.iload 5, 2) := by decide +kernel
theorem d26_71 : decode prog_104_method_9_code 71 = .ok (.bipush 32, 2) := by decide +kernel
theorem pd___IIII_V : parseMethodDescriptor "([IIII)V" = some ⟨[(.array .int), .int, .int, .int], none⟩ := by decide +kernel
theorem d26_73 : decode prog_104_method_9_code 73 = .ok (.invokestatic 115, 3) := by decide +kernel
theorem d26_76 : decode prog_104_method_9_code 76 = .ok (.aload_n 0, 1) := by decide +kernel
theorem d26_77 : decode prog_104_method_9_code 77 = .ok (.getfield 24, 3) := by decide +kernel
theorem d26_80 : decode prog_104_method_9_code 80 = .ok (.iload_n 1, 1) := by decide +kernel
theorem d26_81 : decode prog_104_method_9_code 81 = .ok (.aload_n 3, 1) := by decide +kernel
theorem d26_82 : decode prog_104_method_9_code 82 = .ok (.aastore, 1) := by decide +kernel
theorem d26_83 : decode prog_104_method_9_code 83 = .ok (.aload_n 3, 1) := by decide +kernel
theorem d26_84 : decode prog_104_method_9_code 84 = .ok (.areturn, 1) := by decide +kernel
theorem pn_26 : plainName "dev/treefold/text/Canvas" = true := by first | (simp [plainName, overriddenIn]; done) | decide +kernel
theorem ef_26_rrr (m : MethodId) (x0 : Addr) (x1 : Int32) (x2 : Int32) : entryFrame m #[(.ref x0), (.int x1), (.int x2)] 6 = mkF m 0 #[.val (.ref x0), .val (.int x1), .val (.int x2), .unset, .unset, .unset] [] := by first | (simp [entryFrame, mkF, argsToLocals, Value.category]; done) | rfl
theorem rmRO (l : Launch) (Z : State) (a0 : Array Value) (hw : ∀ d ∈ tables_1, d.before a0 Z = true) (ws : List Jvm.Cond) (cv : Addr) (R : Addr) (kR : ClassId) (y : Nat) (n : Nat) (q1 : Int32) (q2 : Int32) (q3 : Int32) (q4 : Int32) (h0 : Heap) (n0 : Nat) (Z0 : n0 ≤ h0.size) (E_cv : Exa Z h0 cv "dev/treefold/text/Canvas") (F_width_cv : Fld Z h0 cv "dev/treefold/text/Canvas" "width" "I" (.int 4)) (F_rows_cv : Fld Z h0 cv "dev/treefold/text/Canvas" "rows" "[[I" (.ref R)) (F_clipLeft_cv : Fld Z h0 cv "dev/treefold/text/Canvas" "clipLeft" "I" (.int q1)) (F_clipTop_cv : Fld Z h0 cv "dev/treefold/text/Canvas" "clipTop" "I" (.int q2)) (F_clipRight_cv : Fld Z h0 cv "dev/treefold/text/Canvas" "clipRight" "I" (.int q3)) (F_clipBottom_cv : Fld Z h0 cv "dev/treefold/text/Canvas" "clipBottom" "I" (.int q4)) (g_cv : n0 ≤ cv) (V_R : Arv Z h0 R kR (.array .int) (3 : Int32) [.null, .null, .null] .null) (OvR : OvrA Z kR .int "[I") (g_R : n0 ≤ R) (hy : y < 3) (hn1 : 1 ≤ n) (hn4 : n ≤ 4) :
    MetFree l y_25 (head1 (Jvm.Cond.code y_25 prog_104_method_9_code 6 (some (.array .int)) :: ws) ({ frames := 2, cells := 1, slots := 4, locals := 30 } : Room)) (fun a_ U_ => a_ = #[(.ref cv), (.int (Int32.ofNat y)), (.int (Int32.ofNat n))] ∧ Z.Warmed39 U_.vm ∧ U_.heap = h0) (fun _ _ _ _ _ => True) (fun _ U_ o_ U1_ => ∃ v_ L_, o_ = .returned v_ ∧ own_QO Z R kR y n h0 n0 v_ U1_.heap L_ ∧ FrameEnd U_ o_ U1_ L_ ({ frames := 2, cells := 1, slots := 4, locals := 30 } : Room).cells ({ frames := 2, cells := 1, slots := 4, locals := 30 } : Room).slots) := by
  refine MetFree.of_bodySF (plainFor_of_name pn_26) hisR ?_
  intro p e s m args below meth c s₁ Bd hml0 hP hK
  obtain ⟨rfl, hZ, hh⟩ := hP
  have hx := Bd.exec
  have hby := Bd.bytes
  have hml : c.maxLocals = 6 := hml0
  have hown : s.vm.findClass "dev/treefold/text/Canvas" = some m.cls := findClass_of_methodNamed Bd.named
  have hnm := (name_of_methodNamed Bd.named Bd.method).1
  have X0 : Stand p l e ({ frames := 2, cells := 1, slots := 4, locals := 30 } : Room) s m #[(.ref cv), (.int (Int32.ofNat y)), (.int (Int32.ofNat n))] below meth c s₁ [] 0 0 := Stand.of_body Bd
  have e0 : s₁.heap = h0 := by rw [← hh, Bd.state]; rfl
  have N0 := Fr.nil n0
  have pre0 : ∀ tt, Steps p.tables e below (s₁.setTop (mkF m 0 #[.val (.ref cv), .val (.int (Int32.ofNat y)), .val (.int (Int32.ofNat n)), .unset, .unset, .unset] [])) tt → Steps p.tables e below (s₁.setTop (entryFrame m #[(.ref cv), (.int (Int32.ofNat y)), (.int (Int32.ofNat n))] 6)) tt := fun tt kk => castTop (ef_26_rrr m cv (Int32.ofNat y) (Int32.ofNat n)) kk
  obtain ⟨T1, X1, e1, st1⟩ := getF X0 hx hZ hown (host := "") (Or.inl (hw _ (tk 14 rfl))) Via.refl e0 F_rows_cv (g := (mkF m 1 #[.val (.ref cv), .val (.int (Int32.ofNat y)), .val (.int (Int32.ofNat n)), .unset, .unset, .unset] [(.ref cv)])) rfl rfl (hb hby d26_1)
  obtain ⟨c2, Ar2, -, S2, M2, H2, -⟩ := id V_R
  have hin2 := inb_of (j := (Int32.ofNat y)) S2 (own_in3 hy)
  obtain ⟨T3, X3, e3, st3⟩ := getF X1 hx hZ hown (host := "") (Or.inl (hw _ (tk 10 rfl))) Via.refl e1 F_width_cv (g := (mkF m 26 #[.val (.ref cv), .val (.int (Int32.ofNat y)), .val (.int (Int32.ofNat n)), .val .null, .val (.int 0), .unset] [(.ref cv)])) rfl rfl (hb hby d26_26)
  obtain ⟨_, _, ⟨T4, L4, k4, n4⟩, -, X4, ⟨Lc4, hQ4, l4, y4, z4⟩, st4⟩ := Jvm.LawKit.callS X3 hx (y := y_4) hown (mvT hZ (hw _ (tk 176 rfl))) (mvT hZ (hw _ (tk 177 rfl))) (mvT hZ (hw _ (tk 148 rfl))) (mvT hZ (hw _ (tk 178 rfl))) (by decide) (backOf (W := 2) (rmMXL l Z a0 hw [] ((Int32.ofNat n).toInt64) (0 : Int64) h0 n0 Z0) hZ (hw _ (tk 178 rfl)) (hw _ (tk 148 rfl)) (by decide) (by decide)) (g := (mkF m 39 #[.val (.ref cv), .val (.int (Int32.ofNat y)), .val (.int (Int32.ofNat n)), .val .null, .val (.int 0), .unset] [(.long (0 : Int64)), (.long ((Int32.ofNat n).toInt64)), (.long (4 : Int64))])) rfl (by rw [hml]; rfl) (argsL := [(.long ((Int32.ofNat n).toInt64)), (.long (0 : Int64))]) (rest := [(.long (4 : Int64))]) (lenOf pd__JJ_J rfl) rfl (by show 2 * 0 + _ ≤ _; exact Nat.le_of_eq rfl) (hb hby d26_39) (fun _ _ => ⟨rfl, e3, (by decide : 0 + 0 ≤ _), (by decide : 0 + 0 ≤ _)⟩)
  dsimp only [Pt.U, Pt.locs, Pt.cells, Pt.slots] at X4 l4 y4 z4 st4 hQ4
  subst l4 y4 z4
  obtain ⟨rfl, Nq4, eq4⟩ := hQ4
  have N4 := Fr.app N0 Nq4
  obtain ⟨_, _, ⟨T5, L5, k5, n5⟩, -, X5, ⟨Lc5, hQ5, l5, y5, z5⟩, st5⟩ := Jvm.LawKit.callS X4 hx (y := y_5) hown (mvT hZ (hw _ (tk 168 rfl))) (mvT hZ (hw _ (tk 169 rfl))) (mvT hZ (hw _ (tk 148 rfl))) (mvT hZ (hw _ (tk 170 rfl))) (by decide) (backOf (W := 0) (rmMN l Z a0 hw [] (4 : Int64) ((Int32.ofNat n).toInt64) h0 n0 Z0) hZ (hw _ (tk 170 rfl)) (hw _ (tk 148 rfl)) (by decide) (by decide)) (g := (mkF m 42 #[.val (.ref cv), .val (.int (Int32.ofNat y)), .val (.int (Int32.ofNat n)), .val .null, .val (.int 0), .unset] [(.long ((Int32.ofNat n).toInt64)), (.long (4 : Int64))])) rfl (by rw [hml]; rfl) (argsL := [(.long (4 : Int64)), (.long ((Int32.ofNat n).toInt64))]) (rest := []) (lenOf pd__JJ_J rfl) rfl (by show 2 * 0 + _ ≤ _; exact Nat.le_of_eq rfl) (hb hby d26_42) (fun _ _ => ⟨rfl, eq4, (by decide : 0 + 0 ≤ _), (by decide : 0 + 0 ≤ _)⟩)
  dsimp only [Pt.U, Pt.locs, Pt.cells, Pt.slots] at X5 l5 y5 z5 st5 hQ5
  subst l5 y5 z5
  obtain ⟨rfl, Nq5, eq5⟩ := hQ5
  have N5 := Fr.app N4 Nq5
  obtain ⟨T6, h6, k6, X6, e6, E6, A6, Ex6, st6⟩ := newPE X5 hx hZ (hw _ (tk 179 rfl)) eq5 (g := (mkF m 54 #[.val (.ref cv), .val (.int (Int32.ofNat y)), .val (.int (Int32.ofNat n)), .val .null, .val (.int 0), .val (.int (Int32.ofNat n))] [(.int (Int32.ofNat n))])) rfl (hb hby d26_54) rfl (own_n0 (by omega)) (cap := 4) (own_cap hn4) (by decide) (by decide) (by decide) (ad := "[I") (by decide)
  obtain ⟨b6, g6⟩ : ∃ z, z = h0.size := ⟨_, rfl⟩
  rw [← g6] at A6 Ex6 st6
  have g_b6 : n0 ≤ b6 := Nat.le_trans Z0 (Nat.le_of_eq g6.symm)
  have sz_b6 : h0.size ≤ b6 := Nat.le_trans (Nat.le_refl _) (Nat.le_of_eq g6.symm)
  have V6 : Arv Z h6 b6 k6 .int (Int32.ofNat n) [] (.int 0) := Arv.new A6 (own_n0 (by omega))
  obtain ⟨_, _, ⟨T7, L7, k7, n7⟩, -, X7, ⟨Lc7, hQ7, l7, y7, z7⟩, st7⟩ := Jvm.LawKit.callS X6 hx (y := y_24) hown (mvT hZ (hw _ (tk 180 rfl))) (mvT hZ (hw _ (tk 181 rfl))) (mvT hZ (hw _ (tk 182 rfl))) (mvT hZ (hw _ (tk 183 rfl))) (by decide) (backOf (W := 0) (rmFL l Z a0 hw [] b6 k6 n h6 n0 (Nat.le_trans Z0 E6.1) V6 g_b6 hn4) hZ (hw _ (tk 183 rfl)) (hw _ (tk 182 rfl)) (by decide) (by decide)) (g := (mkF m 73 #[.val (.ref cv), .val (.int (Int32.ofNat y)), .val (.int (Int32.ofNat n)), .val (.ref b6), .val (.int 0), .val (.int (Int32.ofNat n))] [(.int 32), (.int (Int32.ofNat n)), (.int 0), (.ref b6)])) rfl (by rw [hml]; rfl) (argsL := [(.ref b6), (.int 0), (.int (Int32.ofNat n)), (.int 32)]) (rest := []) (lenOf pd___IIII_V rfl) rfl (by show 2 * 0 + _ ≤ _; exact Nat.le_of_eq rfl) (hb hby d26_73) (fun _ _ => ⟨rfl, e6, (by decide : 1 + 0 ≤ _), (by decide : 4 + 0 ≤ _)⟩)
  dsimp only [Pt.U, Pt.locs, Pt.cells, Pt.slots] at X7 l7 y7 z7 st7 hQ7
  subst l7 y7 z7
  obtain ⟨rfl, Nq7, Kq7, Vq7⟩ := hQ7
  have N7 := Fr.app N5 Nq7
  have f9 := ((F_rows_cv.ext E6).keep Kq7 (ninS (Nat.ne_of_lt (Nat.lt_of_lt_of_le E_cv.lt (Nat.le_of_eq g6.symm))) nin0))
  obtain ⟨T8, X8, e8, st8⟩ := getF X7 hx hZ hown (host := "") (Or.inl (hw _ (tk 14 rfl))) Via.refl rfl f9 (g := (mkF m 77 #[.val (.ref cv), .val (.int (Int32.ofNat y)), .val (.int (Int32.ofNat n)), .val (.ref b6), .val (.int 0), .val (.int (Int32.ofNat n))] [(.ref cv)])) rfl rfl (hb hby d26_77)
  have f10 := (Ex6.keep Kq7)
  have f12 := ((V_R.ext E6).keep Kq7 (ninS (Nat.ne_of_lt (Nat.lt_of_lt_of_le V_R.lt (Nat.le_of_eq g6.symm))) nin0))
  obtain ⟨c11, Ar11, q11, S11, M11, H11, Gz11⟩ := id f12
  have hin11 := inb_of (j := (Int32.ofNat y)) S11 (own_in3 hy)
  obtain ⟨T11, h11, X11, e11, W11, st11⟩ := stR X8 hx hZ e8 Ar11 (j := (Int32.ofNat y)) hin11 rfl (Sto.ofVA Ar11 q11 OvR (Ins.self f10)) (g := (mkF m 82 #[.val (.ref cv), .val (.int (Int32.ofNat y)), .val (.int (Int32.ofNat n)), .val (.ref b6), .val (.int 0), .val (.int (Int32.ofNat n))] [(.ref b6), (.int (Int32.ofNat y)), (.ref R)])) rfl rfl (hb hby d26_82)
  have V11 : Arv Z h11 R kR (.array .int) (3 : Int32) (([.null, .null, .null] : List Value).set y (.ref b6)) .null := Arv.set Ar11 q11 S11 M11 H11 Gz11 rfl W11 y (own_clamp (by omega)) (by show y < 3; omega)
  have N11 := Fr.snoc X11 N7 g_R
  have f13 := (Vq7.other W11 (Ne.symm (Nat.ne_of_lt (Nat.lt_of_lt_of_le V_R.lt (Nat.le_of_eq g6.symm)))))
  obtain ⟨fs, hr, hrun, hended, hW, hsame⟩ := X11.leave (v := some (.ref b6)) (fun h => by rw [Bd.returns] at h; cases h)
  refine ⟨_, _, pre0 _ ?_, hrun, hended, _, _, rfl, ?_, ⟨_, rfl⟩, hW, hsame.mono (by decide) (by decide)⟩
  · show Steps _ _ _ (s₁.setTop (mkF m 0 #[.val (.ref cv), .val (.int (Int32.ofNat y)), .val (.int (Int32.ofNat n)), .unset, .unset, .unset] [])) _
    refine XS.aloadN X0.here hx rfl (hb hby d26_0) rfl rfl ?_
    show Steps _ _ _ (s₁.setTop (mkF m 1 #[.val (.ref cv), .val (.int (Int32.ofNat y)), .val (.int (Int32.ofNat n)), .unset, .unset, .unset] [(.ref cv)])) _
    refine st1 _ ?_
    show Steps _ _ _ (T1.setTop (mkF m 4 #[.val (.ref cv), .val (.int (Int32.ofNat y)), .val (.int (Int32.ofNat n)), .unset, .unset, .unset] [(.ref R)])) _
    refine XS.iloadN X1.here hx rfl (hb hby d26_4) rfl ?_
    show Steps _ _ _ (T1.setTop (mkF m 5 #[.val (.ref cv), .val (.int (Int32.ofNat y)), .val (.int (Int32.ofNat n)), .unset, .unset, .unset] [(.int (Int32.ofNat y)), (.ref R)])) _
    refine X1.aaload hx (j := (Int32.ofNat y)) (v := .null) (by rw [e1]; exact Ar2.1) (State.isArrayOf_alike hZ.alike Ar2.2.1) rfl Ar2.2.2 hin2 (H2.at hin2 (own_nul hy)) (g := (mkF m 5 #[.val (.ref cv), .val (.int (Int32.ofNat y)), .val (.int (Int32.ofNat n)), .unset, .unset, .unset] [(.int (Int32.ofNat y)), (.ref R)])) rfl rfl (hb hby d26_5) _ ?_
    show Steps _ _ _ (T1.setTop (mkF m 6 #[.val (.ref cv), .val (.int (Int32.ofNat y)), .val (.int (Int32.ofNat n)), .unset, .unset, .unset] [.null])) _
    refine XS.astoreN X1.here hx rfl (hb hby d26_6) rfl rfl (l' := #[.val (.ref cv), .val (.int (Int32.ofNat y)), .val (.int (Int32.ofNat n)), .val .null, .unset, .unset]) rfl ?_
    refine XS.aloadN X1.here hx rfl (hb hby d26_7) rfl rfl ?_
    refine XS.ifnonnullNo X1.here hx rfl (hb hby d26_8) rfl ?_
    refine XS.iconst X1.here hx rfl (hb hby d26_11) ?_
    refine XS.goto X1.here hx rfl (pc0 := 12) (pc' := 17) rfl (hb hby d26_12) (by decide) (by decide) ?_
    refine XS.istore X1.here hx rfl (hb hby d26_17) rfl (l' := #[.val (.ref cv), .val (.int (Int32.ofNat y)), .val (.int (Int32.ofNat n)), .val .null, .val (.int 0), .unset]) rfl ?_
    refine XS.iload X1.here hx rfl (hb hby d26_19) rfl ?_
    refine XS.iloadN X1.here hx rfl (hb hby d26_21) rfl ?_
    refine XS.icmpNo X1.here hx rfl (hb hby d26_22) rfl (tlt ((own_lt (i := 0) (by omega) (by omega)).mpr (by omega))).2.1 ?_
    refine XS.aloadN X1.here hx rfl (hb hby d26_25) rfl rfl ?_
    show Steps _ _ _ (T1.setTop (mkF m 26 #[.val (.ref cv), .val (.int (Int32.ofNat y)), .val (.int (Int32.ofNat n)), .val .null, .val (.int 0), .unset] [(.ref cv)])) _
    refine st3 _ ?_
    show Steps _ _ _ (T3.setTop (mkF m 29 #[.val (.ref cv), .val (.int (Int32.ofNat y)), .val (.int (Int32.ofNat n)), .val .null, .val (.int 0), .unset] [(.int 4)])) _
    refine XS.i2l X3.here hx rfl (hb hby d26_29) rfl ?_
    show Steps _ _ _ (T3.setTop (mkF m 30 #[.val (.ref cv), .val (.int (Int32.ofNat y)), .val (.int (Int32.ofNat n)), .val .null, .val (.int 0), .unset] [(.long ((4 : Int32).toInt64))])) _
    rw [(by decide : ((4 : Int32).toInt64) = (4 : Int64))]
    show Steps _ _ _ (T3.setTop (mkF m 30 #[.val (.ref cv), .val (.int (Int32.ofNat y)), .val (.int (Int32.ofNat n)), .val .null, .val (.int 0), .unset] [(.long (4 : Int64))])) _
    refine XS.iloadN X3.here hx rfl (hb hby d26_30) rfl ?_
    refine XS.i2l X3.here hx rfl (hb hby d26_31) rfl ?_
    show Steps _ _ _ (T3.setTop (mkF m 32 #[.val (.ref cv), .val (.int (Int32.ofNat y)), .val (.int (Int32.ofNat n)), .val .null, .val (.int 0), .unset] [(.long ((Int32.ofNat n).toInt64)), (.long (4 : Int64))])) _
    refine X3.ldc2Long hx hown (mvT hZ (hw _ (tk 175 rfl))) (g := (mkF m 32 #[.val (.ref cv), .val (.int (Int32.ofNat y)), .val (.int (Int32.ofNat n)), .val .null, .val (.int 0), .unset] [(.long ((Int32.ofNat n).toInt64)), (.long (4 : Int64))])) rfl (hb hby d26_32) _ ?_
    show Steps _ _ _ (T3.setTop (mkF m 35 #[.val (.ref cv), .val (.int (Int32.ofNat y)), .val (.int (Int32.ofNat n)), .val .null, .val (.int 0), .unset] [(.long (2 : Int64)), (.long ((Int32.ofNat n).toInt64)), (.long (4 : Int64))])) _
    refine XS.iload X3.here hx rfl (hb hby d26_35) rfl ?_
    refine XS.i2l X3.here hx rfl (hb hby d26_37) rfl ?_
    show Steps _ _ _ (T3.setTop (mkF m 38 #[.val (.ref cv), .val (.int (Int32.ofNat y)), .val (.int (Int32.ofNat n)), .val .null, .val (.int 0), .unset] [(.long ((0 : Int32).toInt64)), (.long (2 : Int64)), (.long ((Int32.ofNat n).toInt64)), (.long (4 : Int64))])) _
    rw [(by decide : ((0 : Int32).toInt64) = (0 : Int64))]
    show Steps _ _ _ (T3.setTop (mkF m 38 #[.val (.ref cv), .val (.int (Int32.ofNat y)), .val (.int (Int32.ofNat n)), .val .null, .val (.int 0), .unset] [(.long (0 : Int64)), (.long (2 : Int64)), (.long ((Int32.ofNat n).toInt64)), (.long (4 : Int64))])) _
    refine XS.lmul X3.here hx rfl (hb hby d26_38) rfl ?_
    show Steps _ _ _ (T3.setTop (mkF m 39 #[.val (.ref cv), .val (.int (Int32.ofNat y)), .val (.int (Int32.ofNat n)), .val .null, .val (.int 0), .unset] [(.long ((2 : Int64) * (0 : Int64))), (.long ((Int32.ofNat n).toInt64)), (.long (4 : Int64))])) _
    rw [(by decide : ((2 : Int64) * (0 : Int64)) = (0 : Int64))]
    show Steps _ _ _ (T3.setTop (mkF m 39 #[.val (.ref cv), .val (.int (Int32.ofNat y)), .val (.int (Int32.ofNat n)), .val .null, .val (.int 0), .unset] [(.long (0 : Int64)), (.long ((Int32.ofNat n).toInt64)), (.long (4 : Int64))])) _
    refine st4 _ ?_
    show Steps _ _ _ (T4.setTop (mkF m 42 #[.val (.ref cv), .val (.int (Int32.ofNat y)), .val (.int (Int32.ofNat n)), .val .null, .val (.int 0), .unset] [(.long (own_mxl ((Int32.ofNat n).toInt64) (0 : Int64))), (.long (4 : Int64))])) _
    rw [(own_mxn hn4)]
    show Steps _ _ _ (T4.setTop (mkF m 42 #[.val (.ref cv), .val (.int (Int32.ofNat y)), .val (.int (Int32.ofNat n)), .val .null, .val (.int 0), .unset] [(.long ((Int32.ofNat n).toInt64)), (.long (4 : Int64))])) _
    refine st5 _ ?_
    show Steps _ _ _ (T5.setTop (mkF m 45 #[.val (.ref cv), .val (.int (Int32.ofNat y)), .val (.int (Int32.ofNat n)), .val .null, .val (.int 0), .unset] [(.long (own_mn (4 : Int64) ((Int32.ofNat n).toInt64)))])) _
    rw [(own_mn4 hn4)]
    show Steps _ _ _ (T5.setTop (mkF m 45 #[.val (.ref cv), .val (.int (Int32.ofNat y)), .val (.int (Int32.ofNat n)), .val .null, .val (.int 0), .unset] [(.long ((Int32.ofNat n).toInt64))])) _
    refine XS.l2i X5.here hx rfl (hb hby d26_45) rfl ?_
    show Steps _ _ _ (T5.setTop (mkF m 46 #[.val (.ref cv), .val (.int (Int32.ofNat y)), .val (.int (Int32.ofNat n)), .val .null, .val (.int 0), .unset] [(.int (((Int32.ofNat n).toInt64).toInt32))])) _
    rw [(own_l2i hn4)]
    show Steps _ _ _ (T5.setTop (mkF m 46 #[.val (.ref cv), .val (.int (Int32.ofNat y)), .val (.int (Int32.ofNat n)), .val .null, .val (.int 0), .unset] [(.int (Int32.ofNat n))])) _
    refine XS.istore X5.here hx rfl (hb hby d26_46) rfl (l' := #[.val (.ref cv), .val (.int (Int32.ofNat y)), .val (.int (Int32.ofNat n)), .val .null, .val (.int 0), .val (.int (Int32.ofNat n))]) rfl ?_
    refine XS.aloadN X5.here hx rfl (hb hby d26_48) rfl rfl ?_
    refine XS.ifnonnullNo X5.here hx rfl (hb hby d26_49) rfl ?_
    refine XS.iload X5.here hx rfl (hb hby d26_52) rfl ?_
    show Steps _ _ _ (T5.setTop (mkF m 54 #[.val (.ref cv), .val (.int (Int32.ofNat y)), .val (.int (Int32.ofNat n)), .val .null, .val (.int 0), .val (.int (Int32.ofNat n))] [(.int (Int32.ofNat n))])) _
    refine st6 _ ?_
    show Steps _ _ _ (T6.setTop (mkF m 56 #[.val (.ref cv), .val (.int (Int32.ofNat y)), .val (.int (Int32.ofNat n)), .val .null, .val (.int 0), .val (.int (Int32.ofNat n))] [(.ref b6)])) _
    refine XS.goto X6.here hx rfl (pc0 := 56) (pc' := 65) rfl (hb hby d26_56) (by decide) (by decide) ?_
    refine XS.astoreN X6.here hx rfl (hb hby d26_65) rfl rfl (l' := #[.val (.ref cv), .val (.int (Int32.ofNat y)), .val (.int (Int32.ofNat n)), .val (.ref b6), .val (.int 0), .val (.int (Int32.ofNat n))]) rfl ?_
    refine XS.aloadN X6.here hx rfl (hb hby d26_66) rfl rfl ?_
    refine XS.iload X6.here hx rfl (hb hby d26_67) rfl ?_
    refine XS.iload X6.here hx rfl (hb hby d26_69) rfl ?_
    refine XS.bipush X6.here hx rfl (hb hby d26_71) ?_
    show Steps _ _ _ (T6.setTop (mkF m 73 #[.val (.ref cv), .val (.int (Int32.ofNat y)), .val (.int (Int32.ofNat n)), .val (.ref b6), .val (.int 0), .val (.int (Int32.ofNat n))] [(.int 32), (.int (Int32.ofNat n)), (.int 0), (.ref b6)])) _
    refine st7 _ ?_
    show Steps _ _ _ (T7.setTop (mkF m 76 #[.val (.ref cv), .val (.int (Int32.ofNat y)), .val (.int (Int32.ofNat n)), .val (.ref b6), .val (.int 0), .val (.int (Int32.ofNat n))] [])) _
    refine XS.aloadN X7.here hx rfl (hb hby d26_76) rfl rfl ?_
    show Steps _ _ _ (T7.setTop (mkF m 77 #[.val (.ref cv), .val (.int (Int32.ofNat y)), .val (.int (Int32.ofNat n)), .val (.ref b6), .val (.int 0), .val (.int (Int32.ofNat n))] [(.ref cv)])) _
    refine st8 _ ?_
    show Steps _ _ _ (T8.setTop (mkF m 80 #[.val (.ref cv), .val (.int (Int32.ofNat y)), .val (.int (Int32.ofNat n)), .val (.ref b6), .val (.int 0), .val (.int (Int32.ofNat n))] [(.ref R)])) _
    refine XS.iloadN X8.here hx rfl (hb hby d26_80) rfl ?_
    refine XS.aloadN X8.here hx rfl (hb hby d26_81) rfl rfl ?_
    show Steps _ _ _ (T8.setTop (mkF m 82 #[.val (.ref cv), .val (.int (Int32.ofNat y)), .val (.int (Int32.ofNat n)), .val (.ref b6), .val (.int 0), .val (.int (Int32.ofNat n))] [(.ref b6), (.int (Int32.ofNat y)), (.ref R)])) _
    refine st11 _ ?_
    show Steps _ _ _ (T11.setTop (mkF m 83 #[.val (.ref cv), .val (.int (Int32.ofNat y)), .val (.int (Int32.ofNat n)), .val (.ref b6), .val (.int 0), .val (.int (Int32.ofNat n))] [])) _
    refine XS.aloadN X11.here hx rfl (hb hby d26_83) rfl rfl ?_
    show Steps _ _ _ (T11.setTop (mkF m 84 #[.val (.ref cv), .val (.int (Int32.ofNat y)), .val (.int (Int32.ofNat n)), .val (.ref b6), .val (.int 0), .val (.int (Int32.ofNat n))] [(.ref b6)])) _
    jvm_step X11.here [X11.here.top, hx, (hb hby d26_84), X11.method', Bd.returns, Value.isRef, FieldType.isReference]
    first | (intro acts; rw [hr _ acts rfl rfl rfl]) | rw [hr _ _ rfl rfl rfl]
    exact Steps.refl _
  · show own_QO Z R kR y n h0 n0 _ T11.heap _
    rw [e11]
    exact ⟨b6, k6, rfl, N11, g_b6, sz_b6, ((((Keep.refl h0 [R]).ext E6).trans Kq7 (allS (P := fun zz => zz ∈ [R] ∨ h0.size ≤ zz) (Or.inr sz_b6) all0)).wr W11 (Or.inl (tk 0 rfl))), V11, f13⟩
def own_QW (Z : State) (R : Addr) (kR : ClassId) (y x : Nat) (h0 : Heap) (n0 : Nat) (v : Option Value) (h : Heap) (L : List Loc) : Prop := ∃ (t : Addr) (kt : ClassId), v = none ∧ Fr n0 L ∧ n0 ≤ t ∧ h0.size ≤ t ∧ Keep h0 h [R] ∧ Arv Z h R kR (.array .int) (3 : Int32) (([.null, .null, .null] : List Value).set y (.ref t)) .null ∧ Arv Z h t kt .int (Int32.ofNat (x + 1)) (own_row x) (.int 0)
theorem d5_0 : decode prog_104_method_2_code 0 = .ok (.iload_n 2, 1) := by decide +kernel
theorem d5_1 : decode prog_104_method_2_code 1 = .ok (.aload_n 0, 1) := by decide +kernel
theorem d5_2 : decode prog_104_method_2_code 2 = .ok (.getfield 31, 3) := by decide +kernel
theorem d5_5 : decode prog_104_method_2_code 5 = .ok (.if_icmp .lt 11, 3) := by decide +kernel
theorem d5_8 : decode prog_104_method_2_code 8 = .ok (.iload_n 2, 1) := by decide +kernel
theorem d5_9 : decode prog_104_method_2_code 9 = .ok (.aload_n 0, 1) := by decide +kernel
theorem d5_10 : decode prog_104_method_2_code 10 = .ok (.getfield 34, 3) := by decide +kernel
theorem d5_13 : decode prog_104_method_2_code 13 = .ok (.if_icmp .lt 4, 3) := by decide +kernel
theorem d5_17 : decode prog_104_method_2_code 17 = .ok (.iload_n 1, 1) := by decide +kernel
theorem d5_18 : decode prog_104_method_2_code 18 = .ok (.aload_n 0, 1) := by decide +kernel
theorem d5_19 : decode prog_104_method_2_code 19 = .ok (.getfield 37, 3) := by decide +kernel
theorem pd__II_I : parseMethodDescriptor "(II)I" = some ⟨[.int, .int], some .int⟩ := by decide +kernel
theorem d5_22 : decode prog_104_method_2_code 22 = .ok (.invokestatic 40, 3) := by decide +kernel
theorem d5_25 : decode prog_104_method_2_code 25 = .ok (.istore 4, 2) := by decide +kernel
theorem d5_27 : decode prog_104_method_2_code 27 = .ok (.iload_n 1, 1) := by decide +kernel
theorem d5_28 : decode prog_104_method_2_code 28 = .ok (.i2l, 1) := by decide +kernel
theorem d5_29 : decode prog_104_method_2_code 29 = .ok (.aload_n 3, 1) := by decide +kernel
theorem d5_30 : decode prog_104_method_2_code 30 = .ok (.iconst 0, 1) := by decide +kernel
theorem d5_31 : decode prog_104_method_2_code 31 = .ok (.aload_n 3, 1) := by decide +kernel
theorem d5_32 : decode prog_104_method_2_code 32 = .ok (.invokevirtual 46, 3) := by decide +kernel
theorem d5_35 : decode prog_104_method_2_code 35 = .ok (.invokevirtual 52, 3) := by decide +kernel
theorem d5_38 : decode prog_104_method_2_code 38 = .ok (.i2l, 1) := by decide +kernel
theorem d5_39 : decode prog_104_method_2_code 39 = .ok (.ladd, 1) := by decide +kernel
theorem d5_40 : decode prog_104_method_2_code 40 = .ok (.lstore 5, 2) := by decide +kernel
theorem d5_42 : decode prog_104_method_2_code 42 = .ok (.aload_n 0, 1) := by decide +kernel
theorem d5_43 : decode prog_104_method_2_code 43 = .ok (.getfield 55, 3) := by decide +kernel
theorem d5_46 : decode prog_104_method_2_code 46 = .ok (.i2l, 1) := by decide +kernel
theorem d5_47 : decode prog_104_method_2_code 47 = .ok (.lload 5, 2) := by decide +kernel
theorem d5_49 : decode prog_104_method_2_code 49 = .ok (.invokestatic 58, 3) := by decide +kernel
theorem d5_52 : decode prog_104_method_2_code 52 = .ok (.l2i, 1) := by decide +kernel
theorem d5_53 : decode prog_104_method_2_code 53 = .ok (.istore 7, 2) := by decide +kernel
theorem d5_55 : decode prog_104_method_2_code 55 = .ok (.iload 7, 2) := by decide +kernel
theorem d5_57 : decode prog_104_method_2_code 57 = .ok (.iload 4, 2) := by decide +kernel
theorem d5_59 : decode prog_104_method_2_code 59 = .ok (.if_icmp .gt 4, 3) := by decide +kernel
theorem d5_63 : decode prog_104_method_2_code 63 = .ok (.aload_n 0, 1) := by decide +kernel
theorem d5_64 : decode prog_104_method_2_code 64 = .ok (.iload_n 2, 1) := by decide +kernel
theorem d5_65 : decode prog_104_method_2_code 65 = .ok (.iload 7, 2) := by decide +kernel
theorem pd__II__I : parseMethodDescriptor "(II)[I" = some ⟨[.int, .int], some (.array .int)⟩ := by decide +kernel
theorem d5_67 : decode prog_104_method_2_code 67 = .ok (.invokevirtual 62, 3) := by decide +kernel
theorem d5_70 : decode prog_104_method_2_code 70 = .ok (.astore 8, 2) := by decide +kernel
theorem d5_72 : decode prog_104_method_2_code 72 = .ok (.aload_n 3, 1) := by decide +kernel
theorem d5_73 : decode prog_104_method_2_code 73 = .ok (.iconst 0, 1) := by decide +kernel
theorem d5_74 : decode prog_104_method_2_code 74 = .ok (.iload 4, 2) := by decide +kernel
theorem d5_76 : decode prog_104_method_2_code 76 = .ok (.iload_n 1, 1) := by decide +kernel
theorem d5_77 : decode prog_104_method_2_code 77 = .ok (.isub, 1) := by decide +kernel
theorem own_neA {Z : State} {h : Heap} {a b : Addr} {k k' : ClassId} {ty ty' : FieldType} {n n' : Int32} {vs vs' : List Value} {d d' : Value} (F : Arv Z h a k ty n vs d) (G : Arv Z h b k' ty' n' vs' d') (hn : ty ≠ ty') : a ≠ b := by
  rintro rfl
  obtain ⟨c, A, -⟩ := F
  obtain ⟨c', A', -⟩ := G
  cases A.1.symm.trans A'.1
  obtain ⟨-, q, q1, comp, q2⟩ := A.2.1
  obtain ⟨-, r, r1, comp', r2⟩ := A'.2.1
  cases q1.symm.trans r1
  rw [q2] at r2
  cases r2
  exact hn rfl
theorem d5_78 : decode prog_104_method_2_code 78 = .ok (.invokevirtual 66, 3) := by decide +kernel
theorem d5_81 : decode prog_104_method_2_code 81 = .ok (.istore 9, 2) := by decide +kernel
theorem d5_83 : decode prog_104_method_2_code 83 = .ok (.iload 4, 2) := by decide +kernel
theorem d5_85 : decode prog_104_method_2_code 85 = .ok (.istore 10, 2) := by decide +kernel
theorem d5_87 : decode prog_104_method_2_code 87 = .ok (.iload 10, 2) := by decide +kernel
theorem d5_89 : decode prog_104_method_2_code 89 = .ok (.iload 7, 2) := by decide +kernel
theorem d5_91 : decode prog_104_method_2_code 91 = .ok (.if_icmp .ge 47, 3) := by decide +kernel
theorem d5_94 : decode prog_104_method_2_code 94 = .ok (.aload_n 3, 1) := by decide +kernel
theorem d5_95 : decode prog_104_method_2_code 95 = .ok (.iload 9, 2) := by decide +kernel
theorem pd__I_I : parseMethodDescriptor "(I)I" = some ⟨[.int], some .int⟩ := by decide +kernel
theorem d5_97 : decode prog_104_method_2_code 97 = .ok (.invokevirtual 69, 3) := by decide +kernel
theorem d5_100 : decode prog_104_method_2_code 100 = .ok (.istore 11, 2) := by decide +kernel
theorem d5_102 : decode prog_104_method_2_code 102 = .ok (.iload 9, 2) := by decide +kernel
theorem d5_104 : decode prog_104_method_2_code 104 = .ok (.iload 11, 2) := by decide +kernel
theorem d5_106 : decode prog_104_method_2_code 106 = .ok (.invokestatic 73, 3) := by decide +kernel
theorem d5_109 : decode prog_104_method_2_code 109 = .ok (.iadd, 1) := by decide +kernel
theorem d5_110 : decode prog_104_method_2_code 110 = .ok (.istore 9, 2) := by decide +kernel
theorem d5_112 : decode prog_104_method_2_code 112 = .ok (.aload 8, 2) := by decide +kernel
theorem d5_114 : decode prog_104_method_2_code 114 = .ok (.iload 10, 2) := by decide +kernel
theorem d5_116 : decode prog_104_method_2_code 116 = .ok (.iload 11, 2) := by decide +kernel
theorem d5_118 : decode prog_104_method_2_code 118 = .ok (.invokestatic 78, 3) := by decide +kernel
theorem d5_121 : decode prog_104_method_2_code 121 = .ok (.ifCond .eq 8, 3) := by decide +kernel
theorem d5_129 : decode prog_104_method_2_code 129 = .ok (.iload 11, 2) := by decide +kernel
theorem d5_131 : decode prog_104_method_2_code 131 = .ok (.iastore, 1) := by decide +kernel
theorem d5_132 : decode prog_104_method_2_code 132 = .ok (.iinc 10 1, 3) := by decide +kernel
theorem d5_135 : decode prog_104_method_2_code 135 = .ok (.goto (-48), 3) := by decide +kernel
theorem d5_138 : decode prog_104_method_2_code 138 = .ok (.return_, 1) := by decide +kernel
theorem pn_5 : plainName "dev/treefold/text/Canvas" = true := by first | (simp [plainName, overriddenIn]; done) | decide +kernel
theorem ef_5_rrrr (m : MethodId) (x0 : Addr) (x1 : Int32) (x2 : Int32) (x3 : Addr) : entryFrame m #[(.ref x0), (.int x1), (.int x2), (.ref x3)] 12 = mkF m 0 #[.val (.ref x0), .val (.int x1), .val (.int x2), .val (.ref x3), .unset, .unset, .unset, .unset, .unset, .unset, .unset, .unset] [] := by first | (simp [entryFrame, mkF, argsToLocals, Value.category]; done) | rfl
theorem rmWI (l : Launch) (Z : State) (a0 : Array Value) (hw : ∀ d ∈ tables_1, d.before a0 Z = true) (ws : List Jvm.Cond) (G1 : Int32) (G3 : Value) (cv : Addr) (R : Addr) (kR : ClassId) (y : Nat) (lf : Nat) (tp : Nat) (rt : Nat) (bt : Nat) (x : Addr) (xn : Nat) (h0 : Heap) (n0 : Nat) (Z0 : n0 ≤ h0.size) (EN : own_env Z G1 G3) (X00 : Old Z n0 h0) (E_cv : Exa Z h0 cv "dev/treefold/text/Canvas") (F_width_cv : Fld Z h0 cv "dev/treefold/text/Canvas" "width" "I" (.int 4)) (F_rows_cv : Fld Z h0 cv "dev/treefold/text/Canvas" "rows" "[[I" (.ref R)) (F_clipLeft_cv : Fld Z h0 cv "dev/treefold/text/Canvas" "clipLeft" "I" (.int (Int32.ofNat lf))) (F_clipTop_cv : Fld Z h0 cv "dev/treefold/text/Canvas" "clipTop" "I" (.int (Int32.ofNat tp))) (F_clipRight_cv : Fld Z h0 cv "dev/treefold/text/Canvas" "clipRight" "I" (.int (Int32.ofNat rt))) (F_clipBottom_cv : Fld Z h0 cv "dev/treefold/text/Canvas" "clipBottom" "I" (.int (Int32.ofNat bt))) (g_cv : n0 ≤ cv) (V_R : Arv Z h0 R kR (.array .int) (3 : Int32) [.null, .null, .null] .null) (OvR : OvrA Z kR .int "[I") (g_R : n0 ≤ R) (hy : y < 3) (S_x : own_s Z h0 x ([81] : List Int32)) (hlf : lf ≤ 4) (htp : tp ≤ 3) (hrt : rt ≤ 4) (hbt : bt ≤ 3) (hxn : xn < 4) (h1 : lf ≤ xn) (h2 : xn < rt) (h3 : tp ≤ y) (h4 : y < bt) :
    MetFree l y_26 (head1 (Jvm.Cond.code y_26 prog_104_method_2_code 12 none :: ws) ({ frames := 4, cells := 1, slots := 4, locals := 56 } : Room)) (fun a_ U_ => a_ = #[(.ref cv), (.int (Int32.ofNat xn)), (.int (Int32.ofNat y)), (.ref x)] ∧ Z.Warmed39 U_.vm ∧ U_.heap = h0) (fun _ _ _ _ _ => True) (fun _ U_ o_ U1_ => ∃ v_ L_, o_ = .returned v_ ∧ own_QW Z R kR y xn h0 n0 v_ U1_.heap L_ ∧ FrameEnd U_ o_ U1_ L_ ({ frames := 4, cells := 1, slots := 4, locals := 56 } : Room).cells ({ frames := 4, cells := 1, slots := 4, locals := 56 } : Room).slots) := by
  refine MetFree.of_bodySF (plainFor_of_name pn_5) hisR ?_
  intro p e s m args below meth c s₁ Bd hml0 hP hK
  obtain ⟨rfl, hZ, hh⟩ := hP
  have hx := Bd.exec
  have hby := Bd.bytes
  have hml : c.maxLocals = 12 := hml0
  have hown : s.vm.findClass "dev/treefold/text/Canvas" = some m.cls := findClass_of_methodNamed Bd.named
  have hnm := (name_of_methodNamed Bd.named Bd.method).1
  have X0 : Stand p l e ({ frames := 4, cells := 1, slots := 4, locals := 56 } : Room) s m #[(.ref cv), (.int (Int32.ofNat xn)), (.int (Int32.ofNat y)), (.ref x)] below meth c s₁ [] 0 0 := Stand.of_body Bd
  have e0 : s₁.heap = h0 := by rw [← hh, Bd.state]; rfl
  have N0 := Fr.nil n0
  have pre0 : ∀ tt, Steps p.tables e below (s₁.setTop (mkF m 0 #[.val (.ref cv), .val (.int (Int32.ofNat xn)), .val (.int (Int32.ofNat y)), .val (.ref x), .unset, .unset, .unset, .unset, .unset, .unset, .unset, .unset] [])) tt → Steps p.tables e below (s₁.setTop (entryFrame m #[(.ref cv), (.int (Int32.ofNat xn)), (.int (Int32.ofNat y)), (.ref x)] 12)) tt := fun tt kk => castTop (ef_5_rrrr m cv (Int32.ofNat xn) (Int32.ofNat y) x) kk
  have EN0 := EN
  obtain ⟨O2, P5, O4, rG3⟩ := EN
  obtain ⟨b_x, k_x, E_x, C_x, V_x, K_x, hp_x, hl_x⟩ := id S_x
  obtain ⟨T1, X1, e1, st1⟩ := getF X0 hx hZ hown (host := "") (Or.inl (hw _ (tk 28 rfl))) Via.refl e0 F_clipTop_cv (g := (mkF m 2 #[.val (.ref cv), .val (.int (Int32.ofNat xn)), .val (.int (Int32.ofNat y)), .val (.ref x), .unset, .unset, .unset, .unset, .unset, .unset, .unset, .unset] [(.ref cv), (.int (Int32.ofNat y))])) rfl rfl (hb hby d5_2)
  obtain ⟨T2, X2, e2, st2⟩ := getF X1 hx hZ hown (host := "") (Or.inl (hw _ (tk 32 rfl))) Via.refl e1 F_clipBottom_cv (g := (mkF m 10 #[.val (.ref cv), .val (.int (Int32.ofNat xn)), .val (.int (Int32.ofNat y)), .val (.ref x), .unset, .unset, .unset, .unset, .unset, .unset, .unset, .unset] [(.ref cv), (.int (Int32.ofNat y))])) rfl rfl (hb hby d5_10)
  obtain ⟨T3, X3, e3, st3⟩ := getF X2 hx hZ hown (host := "") (Or.inl (hw _ (tk 26 rfl))) Via.refl e2 F_clipLeft_cv (g := (mkF m 19 #[.val (.ref cv), .val (.int (Int32.ofNat xn)), .val (.int (Int32.ofNat y)), .val (.ref x), .unset, .unset, .unset, .unset, .unset, .unset, .unset, .unset] [(.ref cv), (.int (Int32.ofNat xn))])) rfl rfl (hb hby d5_19)
  obtain ⟨_, _, ⟨T4, L4, k4, n4⟩, -, X4, ⟨Lc4, hQ4, l4, y4, z4⟩, st4⟩ := Jvm.LawKit.callS X3 hx (y := y_3) hown (mvT hZ (hw _ (tk 146 rfl))) (mvT hZ (hw _ (tk 147 rfl))) (mvT hZ (hw _ (tk 148 rfl))) (mvT hZ (hw _ (tk 149 rfl))) (by decide) (backOf (W := 0) (rmMX l Z a0 hw [] (Int32.ofNat xn) (Int32.ofNat lf) h0 n0 Z0) hZ (hw _ (tk 149 rfl)) (hw _ (tk 148 rfl)) (by decide) (by decide)) (g := (mkF m 22 #[.val (.ref cv), .val (.int (Int32.ofNat xn)), .val (.int (Int32.ofNat y)), .val (.ref x), .unset, .unset, .unset, .unset, .unset, .unset, .unset, .unset] [(.int (Int32.ofNat lf)), (.int (Int32.ofNat xn))])) rfl (by rw [hml]; rfl) (argsL := [(.int (Int32.ofNat xn)), (.int (Int32.ofNat lf))]) (rest := []) (lenOf pd__II_I rfl) rfl (by show 2 * 0 + _ ≤ _; exact Nat.le_of_eq rfl) (hb hby d5_22) (fun _ _ => ⟨rfl, e3, (by decide : 0 + 0 ≤ _), (by decide : 0 + 0 ≤ _)⟩)
  dsimp only [Pt.U, Pt.locs, Pt.cells, Pt.slots] at X4 l4 y4 z4 st4 hQ4
  subst l4 y4 z4
  obtain ⟨rfl, Nq4, eq4⟩ := hQ4
  have N4 := Fr.app N0 Nq4
  obtain ⟨cq5, kq5, q5a, q5b, q5c⟩ := isOf hZ eq4 E_x
  obtain ⟨_, _, ⟨T5, L5, k5, n5⟩, -, X5, ⟨Lc5, hQ5, l5, y5, z5⟩, st5⟩ := X4.virtualBack hx (y := y_2) (z := y_2) hown (mvT hZ (hw _ (tk 150 rfl))) (mvT hZ (hw _ (tk 134 rfl))) (notFace_of_selects (args := #[]) (mvT hZ (hw _ (tk 136 rfl)))) (mvT hZ (hw _ (tk 136 rfl))) (mvT hZ (hw _ (tk 135 rfl))) (by decide) (backOf (W := 4) (rmLN l Z a0 hw [] G1 G3 x ([81] : List Int32) h0 n0 Z0 EN0 X00 ⟨b_x, k_x, E_x, C_x, V_x, K_x, hp_x, hl_x⟩) hZ (hw _ (tk 137 rfl)) (hw _ (tk 36 rfl)) (by decide) (by decide)) q5a q5c (g := (mkF m 32 #[.val (.ref cv), .val (.int (Int32.ofNat xn)), .val (.int (Int32.ofNat y)), .val (.ref x), .val (.int (Int32.ofNat xn)), .unset, .unset, .unset, .unset, .unset, .unset, .unset] [(.ref x), (.int 0), (.ref x), (.long ((Int32.ofNat xn).toInt64))])) rfl (by rw [hml]; rfl) (Steps.refl _) (argsL := []) (rest := [(.int 0), (.ref x), (.long ((Int32.ofNat xn).toInt64))]) (lenOf pd___I rfl) rfl (by show 2 * 0 + _ ≤ _; exact Nat.le_of_eq rfl) (hb hby d5_32) (fun _ _ => ⟨rfl, eq4, (by decide : 0 + 0 ≤ _), (by decide : 0 + 0 ≤ _)⟩)
  dsimp only [Pt.U, Pt.locs, Pt.cells, Pt.slots] at X5 l5 y5 z5 st5 hQ5
  subst l5 y5 z5
  obtain ⟨rfl, Nq5, eq5⟩ := hQ5
  have N5 := Fr.app N4 Nq5
  obtain ⟨cq6, kq6, q6a, q6b, q6c⟩ := isOf hZ eq5 E_x
  obtain ⟨_, _, ⟨T6, L6, k6, n6⟩, -, X6, ⟨Lc6, hQ6, l6, y6, z6⟩, st6⟩ := X5.virtualBack hx (y := y_14) (z := y_14) hown (mvT hZ (hw _ (tk 151 rfl))) (mvT hZ (hw _ (tk 152 rfl))) (notFace_of_selects (args := #[]) (mvT hZ (hw _ (tk 154 rfl)))) (mvT hZ (hw _ (tk 154 rfl))) (mvT hZ (hw _ (tk 153 rfl))) (by decide) (backOf (W := 2) (rmCPC l Z a0 hw [] G1 G3 x h0 n0 Z0 EN0 X00 ⟨b_x, k_x, E_x, C_x, V_x, K_x, hp_x, hl_x⟩) hZ (hw _ (tk 155 rfl)) (hw _ (tk 36 rfl)) (by decide) (by decide)) q6a q6c (g := (mkF m 35 #[.val (.ref cv), .val (.int (Int32.ofNat xn)), .val (.int (Int32.ofNat y)), .val (.ref x), .val (.int (Int32.ofNat xn)), .unset, .unset, .unset, .unset, .unset, .unset, .unset] [(.int 1), (.int 0), (.ref x), (.long ((Int32.ofNat xn).toInt64))])) rfl (by rw [hml]; rfl) (Steps.refl _) (argsL := [(.int 0), (.int 1)]) (rest := [(.long ((Int32.ofNat xn).toInt64))]) (lenOf pd__II_I rfl) rfl (by show 2 * 0 + _ ≤ _; exact Nat.le_of_eq rfl) (hb hby d5_35) (fun _ _ => ⟨rfl, eq5, (by decide : 0 + 0 ≤ _), (by decide : 0 + 0 ≤ _)⟩)
  dsimp only [Pt.U, Pt.locs, Pt.cells, Pt.slots] at X6 l6 y6 z6 st6 hQ6
  subst l6 y6 z6
  obtain ⟨rfl, Nq6, eq6⟩ := hQ6
  have N6 := Fr.app N5 Nq6
  obtain ⟨T7, X7, e7, st7⟩ := getF X6 hx hZ hown (host := "") (Or.inl (hw _ (tk 30 rfl))) Via.refl eq6 F_clipRight_cv (g := (mkF m 43 #[.val (.ref cv), .val (.int (Int32.ofNat xn)), .val (.int (Int32.ofNat y)), .val (.ref x), .val (.int (Int32.ofNat xn)), .val (.long ((Int32.ofNat (xn + 1)).toInt64)), .second, .unset, .unset, .unset, .unset, .unset] [(.ref cv)])) rfl rfl (hb hby d5_43)
  obtain ⟨_, _, ⟨T8, L8, k8, n8⟩, -, X8, ⟨Lc8, hQ8, l8, y8, z8⟩, st8⟩ := Jvm.LawKit.callS X7 hx (y := y_5) hown (mvT hZ (hw _ (tk 168 rfl))) (mvT hZ (hw _ (tk 169 rfl))) (mvT hZ (hw _ (tk 148 rfl))) (mvT hZ (hw _ (tk 170 rfl))) (by decide) (backOf (W := 0) (rmMN l Z a0 hw [] ((Int32.ofNat rt).toInt64) ((Int32.ofNat (xn + 1)).toInt64) h0 n0 Z0) hZ (hw _ (tk 170 rfl)) (hw _ (tk 148 rfl)) (by decide) (by decide)) (g := (mkF m 49 #[.val (.ref cv), .val (.int (Int32.ofNat xn)), .val (.int (Int32.ofNat y)), .val (.ref x), .val (.int (Int32.ofNat xn)), .val (.long ((Int32.ofNat (xn + 1)).toInt64)), .second, .unset, .unset, .unset, .unset, .unset] [(.long ((Int32.ofNat (xn + 1)).toInt64)), (.long ((Int32.ofNat rt).toInt64))])) rfl (by rw [hml]; rfl) (argsL := [(.long ((Int32.ofNat rt).toInt64)), (.long ((Int32.ofNat (xn + 1)).toInt64))]) (rest := []) (lenOf pd__JJ_J rfl) rfl (by show 2 * 0 + _ ≤ _; exact Nat.le_of_eq rfl) (hb hby d5_49) (fun _ _ => ⟨rfl, e7, (by decide : 0 + 0 ≤ _), (by decide : 0 + 0 ≤ _)⟩)
  dsimp only [Pt.U, Pt.locs, Pt.cells, Pt.slots] at X8 l8 y8 z8 st8 hQ8
  subst l8 y8 z8
  obtain ⟨rfl, Nq8, eq8⟩ := hQ8
  have N8 := Fr.app N6 Nq8
  obtain ⟨cq9, q9, q9'⟩ := Exa.cell E_cv
  obtain ⟨_, _, ⟨T9, L9, k9, n9⟩, -, X9, ⟨Lc9, hQ9, l9, y9, z9⟩, st9⟩ := X8.privateBack hx (y := y_25) hown (mvT hZ (hw _ (tk 171 rfl))) (mvT hZ (hw _ (tk 172 rfl))) (own_priv2 (y := y_25) (by decide) (mvT hZ (hw _ (tk 174 rfl))) (mvT hZ (hw _ (tk 24 rfl))) rfl (mvP hZ (hw _ (tk 173 rfl)))) (Cond.privateMethod_at (mvP hZ (hw _ (tk 173 rfl)) (args := #[]))) (mvT hZ (hw _ (tk 174 rfl))) (by decide) (backOf (W := 0) (rmRO l Z a0 hw [] cv R kR y (xn + 1) (Int32.ofNat lf) (Int32.ofNat tp) (Int32.ofNat rt) (Int32.ofNat bt) h0 n0 Z0 E_cv F_width_cv F_rows_cv F_clipLeft_cv F_clipTop_cv F_clipRight_cv F_clipBottom_cv g_cv V_R OvR g_R hy (by omega) (by omega)) hZ (hw _ (tk 174 rfl)) (hw _ (tk 3 rfl)) (by decide) (by decide)) (g := (mkF m 67 #[.val (.ref cv), .val (.int (Int32.ofNat xn)), .val (.int (Int32.ofNat y)), .val (.ref x), .val (.int (Int32.ofNat xn)), .val (.long ((Int32.ofNat (xn + 1)).toInt64)), .second, .val (.int (Int32.ofNat (xn + 1))), .unset, .unset, .unset, .unset] [(.int (Int32.ofNat (xn + 1))), (.int (Int32.ofNat y)), (.ref cv)])) rfl (by rw [hml]; rfl) (Steps.refl _) (a := cv) (by rw [eq8]; exact q9) q9' (argsL := [(.int (Int32.ofNat y)), (.int (Int32.ofNat (xn + 1)))]) (rest := []) (lenOf pd__II__I rfl) rfl (by show 2 * 0 + _ ≤ _; exact Nat.le_of_eq rfl) (hb hby d5_67) (fun _ _ => ⟨rfl, eq8, (by decide : 0 + 1 ≤ _), (by decide : 0 + 4 ≤ _)⟩)
  dsimp only [Pt.U, Pt.locs, Pt.cells, Pt.slots] at X9 l9 y9 z9 st9 hQ9
  subst l9 y9 z9
  obtain ⟨t9, kt9, rfl, Nq9, gt9, st_9, Kq9, VR9, Vt9⟩ := hQ9
  have N9 := Fr.app N8 Nq9
  have szt9 : h0.size ≤ t9 := Nat.le_trans (Nat.le_refl _) st_9
  have f11 := (X00.keep Kq9 (allS g_R all0))
  have f12 := (E_x.keep Kq9)
  have f13 := (C_x.keep Kq9 (ninS (Exa.neArv E_x V_R (hw _ (tk 37 rfl))) nin0))
  have f14 := (V_x.keep Kq9 (ninS (Exa.neArv E_x V_R (hw _ (tk 37 rfl))) nin0))
  have f15 := (K_x.keep Kq9 (ninS (own_neA K_x V_R nofun) nin0))
  obtain ⟨cq10, kq10, q10a, q10b, q10c⟩ := isOf hZ rfl f12
  obtain ⟨_, _, ⟨T10, L10, k10, n10⟩, -, X10, ⟨Lc10, hQ10, l10, y10, z10⟩, st10⟩ := X9.virtualBack hx (y := y_16) (z := y_16) hown (mvT hZ (hw _ (tk 188 rfl))) (mvT hZ (hw _ (tk 189 rfl))) (notFace_of_selects (args := #[]) (mvT hZ (hw _ (tk 191 rfl)))) (mvT hZ (hw _ (tk 191 rfl))) (mvT hZ (hw _ (tk 190 rfl))) (by decide) (backOf (W := 0) (rmOBS l Z a0 hw [] G1 G3 x T9.heap n0 (Nat.le_trans Z0 Kq9.1) EN0 f11 ⟨b_x, k_x, f12, f13, f14, f15, hp_x, hl_x⟩) hZ (hw _ (tk 192 rfl)) (hw _ (tk 36 rfl)) (by decide) (by decide)) q10a q10c (g := (mkF m 78 #[.val (.ref cv), .val (.int (Int32.ofNat xn)), .val (.int (Int32.ofNat y)), .val (.ref x), .val (.int (Int32.ofNat xn)), .val (.long ((Int32.ofNat (xn + 1)).toInt64)), .second, .val (.int (Int32.ofNat (xn + 1))), .val (.ref t9), .unset, .unset, .unset] [(.int 0), (.int 0), (.ref x)])) rfl (by rw [hml]; rfl) (Steps.refl _) (argsL := [(.int 0), (.int 0)]) (rest := []) (lenOf pd__II_I rfl) rfl (by show 2 * 0 + _ ≤ _; exact Nat.le_of_eq rfl) (hb hby d5_78) (fun _ _ => ⟨rfl, rfl, (by decide : 1 + 0 ≤ _), (by decide : 4 + 0 ≤ _)⟩)
  dsimp only [Pt.U, Pt.locs, Pt.cells, Pt.slots] at X10 l10 y10 z10 st10 hQ10
  subst l10 y10 z10
  obtain ⟨rfl, Nq10, eq10⟩ := hQ10
  have N10 := Fr.app N9 Nq10
  obtain ⟨cq16, kq16, q16a, q16b, q16c⟩ := isOf hZ eq10 f12
  obtain ⟨_, _, ⟨T16, L16, k16, n16⟩, -, X16, ⟨Lc16, hQ16, l16, y16, z16⟩, st16⟩ := X10.virtualBack hx (y := y_17) (z := y_17) hown (mvT hZ (hw _ (tk 204 rfl))) (mvT hZ (hw _ (tk 205 rfl))) (notFace_of_selects (args := #[]) (mvT hZ (hw _ (tk 207 rfl)))) (mvT hZ (hw _ (tk 207 rfl))) (mvT hZ (hw _ (tk 206 rfl))) (by decide) (backOf (W := 0) (rmCPA l Z a0 hw [] G1 G3 x T9.heap n0 (Nat.le_trans Z0 Kq9.1) EN0 f11 ⟨b_x, k_x, f12, f13, f14, f15, hp_x, hl_x⟩) hZ (hw _ (tk 208 rfl)) (hw _ (tk 36 rfl)) (by decide) (by decide)) q16a q16c (g := (mkF m 97 #[.val (.ref cv), .val (.int (Int32.ofNat xn)), .val (.int (Int32.ofNat y)), .val (.ref x), .val (.int (Int32.ofNat xn)), .val (.long ((Int32.ofNat (xn + 1)).toInt64)), .second, .val (.int (Int32.ofNat (xn + 1))), .val (.ref t9), .val (.int 0), .val (.int (Int32.ofNat xn)), .unset] [(.int 0), (.ref x)])) rfl (by rw [hml]; rfl) (Steps.refl _) (argsL := [(.int 0)]) (rest := []) (lenOf pd__I_I rfl) rfl (by show 2 * 0 + _ ≤ _; exact Nat.le_of_eq rfl) (hb hby d5_97) (fun _ _ => ⟨rfl, eq10, (by decide : 1 + 0 ≤ _), (by decide : 4 + 0 ≤ _)⟩)
  dsimp only [Pt.U, Pt.locs, Pt.cells, Pt.slots] at X16 l16 y16 z16 st16 hQ16
  subst l16 y16 z16
  obtain ⟨rfl, Nq16, eq16⟩ := hQ16
  have N16 := Fr.app N10 Nq16
  obtain ⟨_, _, ⟨T17, L17, k17, n17⟩, -, X17, ⟨Lc17, hQ17, l17, y17, z17⟩, st17⟩ := Jvm.LawKit.callS X16 hx (y := y_11) hown (mvT hZ (hw _ (tk 214 rfl))) (mvT hZ (hw _ (tk 215 rfl))) (mvT hZ (hw _ (tk 195 rfl))) (mvT hZ (hw _ (tk 216 rfl))) (by decide) (backOf (W := 1) (rmCC0 l Z a0 hw [] T9.heap n0 (Nat.le_trans Z0 Kq9.1)) hZ (hw _ (tk 216 rfl)) (hw _ (tk 195 rfl)) (by decide) (by decide)) (g := (mkF m 106 #[.val (.ref cv), .val (.int (Int32.ofNat xn)), .val (.int (Int32.ofNat y)), .val (.ref x), .val (.int (Int32.ofNat xn)), .val (.long ((Int32.ofNat (xn + 1)).toInt64)), .second, .val (.int (Int32.ofNat (xn + 1))), .val (.ref t9), .val (.int 0), .val (.int (Int32.ofNat xn)), .val (.int 81)] [(.int 81), (.int 0)])) rfl (by rw [hml]; rfl) (argsL := [(.int 81)]) (rest := [(.int 0)]) (lenOf pd__I_I rfl) rfl (by show 2 * 0 + _ ≤ _; exact Nat.le_of_eq rfl) (hb hby d5_106) (fun _ _ => ⟨rfl, eq16, (by decide : 1 + 0 ≤ _), (by decide : 4 + 0 ≤ _)⟩)
  dsimp only [Pt.U, Pt.locs, Pt.cells, Pt.slots] at X17 l17 y17 z17 st17 hQ17
  subst l17 y17 z17
  obtain ⟨rfl, Nq17, eq17⟩ := hQ17
  have N17 := Fr.app N16 Nq17
  obtain ⟨_, _, ⟨T18, L18, k18, n18⟩, -, X18, ⟨Lc18, hQ18, l18, y18, z18⟩, st18⟩ := Jvm.LawKit.callS X17 hx (y := y_13) hown (mvT hZ (hw _ (tk 218 rfl))) (mvT hZ (hw _ (tk 219 rfl))) (mvT hZ (hw _ (tk 3 rfl))) (mvT hZ (hw _ (tk 220 rfl))) (by decide) (backOf (W := 2) (rmSAB0 l Z a0 hw [] T9.heap n0 (Nat.le_trans Z0 Kq9.1)) hZ (hw _ (tk 220 rfl)) (hw _ (tk 3 rfl)) (by decide) (by decide)) (g := (mkF m 118 #[.val (.ref cv), .val (.int (Int32.ofNat xn)), .val (.int (Int32.ofNat y)), .val (.ref x), .val (.int (Int32.ofNat xn)), .val (.long ((Int32.ofNat (xn + 1)).toInt64)), .second, .val (.int (Int32.ofNat (xn + 1))), .val (.ref t9), .val (.int 1), .val (.int (Int32.ofNat xn)), .val (.int 81)] [(.int 81), (.int (Int32.ofNat xn)), (.ref t9)])) rfl (by rw [hml]; rfl) (argsL := [(.int 81)]) (rest := [(.int (Int32.ofNat xn)), (.ref t9)]) (lenOf pd__I_Z rfl) rfl (by show 2 * 0 + _ ≤ _; exact Nat.le_of_eq rfl) (hb hby d5_118) (fun _ _ => ⟨rfl, eq17, (by decide : 1 + 0 ≤ _), (by decide : 4 + 0 ≤ _)⟩)
  dsimp only [Pt.U, Pt.locs, Pt.cells, Pt.slots] at X18 l18 y18 z18 st18 hQ18
  subst l18 y18 z18
  obtain ⟨rfl, Nq18, eq18⟩ := hQ18
  have N18 := Fr.app N17 Nq18
  obtain ⟨c19, Ar19, q19, S19, M19, H19, Gz19⟩ := id Vt9
  have hin19 := inb_of (j := (Int32.ofNat xn)) S19 (own_in (j := xn) (n := xn + 1) (by omega) (by omega))
  obtain ⟨T19, h19, X19, e19, W19, st19⟩ := stI X18 hx hZ eq18 Ar19 (j := (Int32.ofNat xn)) hin19 (g := (mkF m 131 #[.val (.ref cv), .val (.int (Int32.ofNat xn)), .val (.int (Int32.ofNat y)), .val (.ref x), .val (.int (Int32.ofNat xn)), .val (.long ((Int32.ofNat (xn + 1)).toInt64)), .second, .val (.int (Int32.ofNat (xn + 1))), .val (.ref t9), .val (.int 1), .val (.int (Int32.ofNat xn)), .val (.int 81)] [(.int 81), (.int (Int32.ofNat xn)), (.ref t9)])) rfl rfl (hb hby d5_131)
  have V19 : Arv Z h19 t9 kt9 .int (Int32.ofNat (xn + 1)) (own_row xn) (.int 0) := (by rw [← (own_setq xn)]; exact Arv.set Ar19 q19 S19 M19 H19 Gz19 rfl W19 xn (own_clamp (by omega)) (by simp))
  have N19 := Fr.snoc X19 N18 gt9
  have f20 := (VR9.other W19 (Nat.ne_of_lt (Nat.lt_of_lt_of_le V_R.lt st_9)))
  obtain ⟨fs, hr, hrun, hended, hW, hsame⟩ := X19.leave (v := none) (fun _ => rfl)
  refine ⟨_, _, pre0 _ ?_, hrun, hended, _, _, rfl, ?_, ⟨_, rfl⟩, hW, hsame.mono (by decide) (by decide)⟩
  · show Steps _ _ _ (s₁.setTop (mkF m 0 #[.val (.ref cv), .val (.int (Int32.ofNat xn)), .val (.int (Int32.ofNat y)), .val (.ref x), .unset, .unset, .unset, .unset, .unset, .unset, .unset, .unset] [])) _
    refine XS.iloadN X0.here hx rfl (hb hby d5_0) rfl ?_
    refine XS.aloadN X0.here hx rfl (hb hby d5_1) rfl rfl ?_
    show Steps _ _ _ (s₁.setTop (mkF m 2 #[.val (.ref cv), .val (.int (Int32.ofNat xn)), .val (.int (Int32.ofNat y)), .val (.ref x), .unset, .unset, .unset, .unset, .unset, .unset, .unset, .unset] [(.ref cv), (.int (Int32.ofNat y))])) _
    refine st1 _ ?_
    show Steps _ _ _ (T1.setTop (mkF m 5 #[.val (.ref cv), .val (.int (Int32.ofNat xn)), .val (.int (Int32.ofNat y)), .val (.ref x), .unset, .unset, .unset, .unset, .unset, .unset, .unset, .unset] [(.int (Int32.ofNat tp)), (.int (Int32.ofNat y))])) _
    refine XS.icmpNo X1.here hx rfl (hb hby d5_5) rfl (flt (own_lo (by omega) (by omega) (by omega))).1 ?_
    refine XS.iloadN X1.here hx rfl (hb hby d5_8) rfl ?_
    refine XS.aloadN X1.here hx rfl (hb hby d5_9) rfl rfl ?_
    show Steps _ _ _ (T1.setTop (mkF m 10 #[.val (.ref cv), .val (.int (Int32.ofNat xn)), .val (.int (Int32.ofNat y)), .val (.ref x), .unset, .unset, .unset, .unset, .unset, .unset, .unset, .unset] [(.ref cv), (.int (Int32.ofNat y))])) _
    refine st2 _ ?_
    show Steps _ _ _ (T2.setTop (mkF m 13 #[.val (.ref cv), .val (.int (Int32.ofNat xn)), .val (.int (Int32.ofNat y)), .val (.ref x), .unset, .unset, .unset, .unset, .unset, .unset, .unset, .unset] [(.int (Int32.ofNat bt)), (.int (Int32.ofNat y))])) _
    refine XS.icmpYes X2.here hx rfl (pc0 := 13) (pc' := 17) rfl (hb hby d5_13) rfl (tlt ((own_lt (by omega) (by omega)).mpr h4)).1 (by decide) (by decide) ?_
    refine XS.iloadN X2.here hx rfl (hb hby d5_17) rfl ?_
    refine XS.aloadN X2.here hx rfl (hb hby d5_18) rfl rfl ?_
    show Steps _ _ _ (T2.setTop (mkF m 19 #[.val (.ref cv), .val (.int (Int32.ofNat xn)), .val (.int (Int32.ofNat y)), .val (.ref x), .unset, .unset, .unset, .unset, .unset, .unset, .unset, .unset] [(.ref cv), (.int (Int32.ofNat xn))])) _
    refine st3 _ ?_
    show Steps _ _ _ (T3.setTop (mkF m 22 #[.val (.ref cv), .val (.int (Int32.ofNat xn)), .val (.int (Int32.ofNat y)), .val (.ref x), .unset, .unset, .unset, .unset, .unset, .unset, .unset, .unset] [(.int (Int32.ofNat lf)), (.int (Int32.ofNat xn))])) _
    refine st4 _ ?_
    show Steps _ _ _ (T4.setTop (mkF m 25 #[.val (.ref cv), .val (.int (Int32.ofNat xn)), .val (.int (Int32.ofNat y)), .val (.ref x), .unset, .unset, .unset, .unset, .unset, .unset, .unset, .unset] [(.int (own_mx (Int32.ofNat xn) (Int32.ofNat lf)))])) _
    rw [(own_mxx (by omega) hlf h1)]
    show Steps _ _ _ (T4.setTop (mkF m 25 #[.val (.ref cv), .val (.int (Int32.ofNat xn)), .val (.int (Int32.ofNat y)), .val (.ref x), .unset, .unset, .unset, .unset, .unset, .unset, .unset, .unset] [(.int (Int32.ofNat xn))])) _
    refine XS.istore X4.here hx rfl (hb hby d5_25) rfl (l' := #[.val (.ref cv), .val (.int (Int32.ofNat xn)), .val (.int (Int32.ofNat y)), .val (.ref x), .val (.int (Int32.ofNat xn)), .unset, .unset, .unset, .unset, .unset, .unset, .unset]) rfl ?_
    refine XS.iloadN X4.here hx rfl (hb hby d5_27) rfl ?_
    refine XS.i2l X4.here hx rfl (hb hby d5_28) rfl ?_
    refine XS.aloadN X4.here hx rfl (hb hby d5_29) rfl rfl ?_
    refine XS.iconst X4.here hx rfl (hb hby d5_30) ?_
    refine XS.aloadN X4.here hx rfl (hb hby d5_31) rfl rfl ?_
    show Steps _ _ _ (T4.setTop (mkF m 32 #[.val (.ref cv), .val (.int (Int32.ofNat xn)), .val (.int (Int32.ofNat y)), .val (.ref x), .val (.int (Int32.ofNat xn)), .unset, .unset, .unset, .unset, .unset, .unset, .unset] [(.ref x), (.int 0), (.ref x), (.long ((Int32.ofNat xn).toInt64))])) _
    refine st5.trans ?_
    show Steps _ _ _ (T5.setTop (mkF m 35 #[.val (.ref cv), .val (.int (Int32.ofNat xn)), .val (.int (Int32.ofNat y)), .val (.ref x), .val (.int (Int32.ofNat xn)), .unset, .unset, .unset, .unset, .unset, .unset, .unset] [(.int (Int32.ofNat ([81] : List Int32).length)), (.int 0), (.ref x), (.long ((Int32.ofNat xn).toInt64))])) _
    rw [(rfl : Int32.ofNat ([81] : List Int32).length = (1 : Int32))]
    show Steps _ _ _ (T5.setTop (mkF m 35 #[.val (.ref cv), .val (.int (Int32.ofNat xn)), .val (.int (Int32.ofNat y)), .val (.ref x), .val (.int (Int32.ofNat xn)), .unset, .unset, .unset, .unset, .unset, .unset, .unset] [(.int 1), (.int 0), (.ref x), (.long ((Int32.ofNat xn).toInt64))])) _
    refine st6.trans ?_
    show Steps _ _ _ (T6.setTop (mkF m 38 #[.val (.ref cv), .val (.int (Int32.ofNat xn)), .val (.int (Int32.ofNat y)), .val (.ref x), .val (.int (Int32.ofNat xn)), .unset, .unset, .unset, .unset, .unset, .unset, .unset] [(.int 1), (.long ((Int32.ofNat xn).toInt64))])) _
    refine XS.i2l X6.here hx rfl (hb hby d5_38) rfl ?_
    show Steps _ _ _ (T6.setTop (mkF m 39 #[.val (.ref cv), .val (.int (Int32.ofNat xn)), .val (.int (Int32.ofNat y)), .val (.ref x), .val (.int (Int32.ofNat xn)), .unset, .unset, .unset, .unset, .unset, .unset, .unset] [(.long ((1 : Int32).toInt64)), (.long ((Int32.ofNat xn).toInt64))])) _
    rw [(by decide : ((1 : Int32).toInt64) = (1 : Int64))]
    show Steps _ _ _ (T6.setTop (mkF m 39 #[.val (.ref cv), .val (.int (Int32.ofNat xn)), .val (.int (Int32.ofNat y)), .val (.ref x), .val (.int (Int32.ofNat xn)), .unset, .unset, .unset, .unset, .unset, .unset, .unset] [(.long (1 : Int64)), (.long ((Int32.ofNat xn).toInt64))])) _
    refine XS.ladd X6.here hx rfl (hb hby d5_39) rfl ?_
    show Steps _ _ _ (T6.setTop (mkF m 40 #[.val (.ref cv), .val (.int (Int32.ofNat xn)), .val (.int (Int32.ofNat y)), .val (.ref x), .val (.int (Int32.ofNat xn)), .unset, .unset, .unset, .unset, .unset, .unset, .unset] [(.long (((Int32.ofNat xn).toInt64) + (1 : Int64)))])) _
    rw [(own_end hxn)]
    show Steps _ _ _ (T6.setTop (mkF m 40 #[.val (.ref cv), .val (.int (Int32.ofNat xn)), .val (.int (Int32.ofNat y)), .val (.ref x), .val (.int (Int32.ofNat xn)), .unset, .unset, .unset, .unset, .unset, .unset, .unset] [(.long ((Int32.ofNat (xn + 1)).toInt64))])) _
    refine XS.lstore X6.here hx rfl (hb hby d5_40) rfl (l' := #[.val (.ref cv), .val (.int (Int32.ofNat xn)), .val (.int (Int32.ofNat y)), .val (.ref x), .val (.int (Int32.ofNat xn)), .val (.long ((Int32.ofNat (xn + 1)).toInt64)), .second, .unset, .unset, .unset, .unset, .unset]) rfl ?_
    refine XS.aloadN X6.here hx rfl (hb hby d5_42) rfl rfl ?_
    show Steps _ _ _ (T6.setTop (mkF m 43 #[.val (.ref cv), .val (.int (Int32.ofNat xn)), .val (.int (Int32.ofNat y)), .val (.ref x), .val (.int (Int32.ofNat xn)), .val (.long ((Int32.ofNat (xn + 1)).toInt64)), .second, .unset, .unset, .unset, .unset, .unset] [(.ref cv)])) _
    refine st7 _ ?_
    show Steps _ _ _ (T7.setTop (mkF m 46 #[.val (.ref cv), .val (.int (Int32.ofNat xn)), .val (.int (Int32.ofNat y)), .val (.ref x), .val (.int (Int32.ofNat xn)), .val (.long ((Int32.ofNat (xn + 1)).toInt64)), .second, .unset, .unset, .unset, .unset, .unset] [(.int (Int32.ofNat rt))])) _
    refine XS.i2l X7.here hx rfl (hb hby d5_46) rfl ?_
    refine XS.lload X7.here hx rfl (hb hby d5_47) rfl ?_
    show Steps _ _ _ (T7.setTop (mkF m 49 #[.val (.ref cv), .val (.int (Int32.ofNat xn)), .val (.int (Int32.ofNat y)), .val (.ref x), .val (.int (Int32.ofNat xn)), .val (.long ((Int32.ofNat (xn + 1)).toInt64)), .second, .unset, .unset, .unset, .unset, .unset] [(.long ((Int32.ofNat (xn + 1)).toInt64)), (.long ((Int32.ofNat rt).toInt64))])) _
    refine st8 _ ?_
    show Steps _ _ _ (T8.setTop (mkF m 52 #[.val (.ref cv), .val (.int (Int32.ofNat xn)), .val (.int (Int32.ofNat y)), .val (.ref x), .val (.int (Int32.ofNat xn)), .val (.long ((Int32.ofNat (xn + 1)).toInt64)), .second, .unset, .unset, .unset, .unset, .unset] [(.long (own_mn ((Int32.ofNat rt).toInt64) ((Int32.ofNat (xn + 1)).toInt64)))])) _
    rw [(own_mnn hrt hxn h2)]
    show Steps _ _ _ (T8.setTop (mkF m 52 #[.val (.ref cv), .val (.int (Int32.ofNat xn)), .val (.int (Int32.ofNat y)), .val (.ref x), .val (.int (Int32.ofNat xn)), .val (.long ((Int32.ofNat (xn + 1)).toInt64)), .second, .unset, .unset, .unset, .unset, .unset] [(.long ((Int32.ofNat (xn + 1)).toInt64))])) _
    refine XS.l2i X8.here hx rfl (hb hby d5_52) rfl ?_
    show Steps _ _ _ (T8.setTop (mkF m 53 #[.val (.ref cv), .val (.int (Int32.ofNat xn)), .val (.int (Int32.ofNat y)), .val (.ref x), .val (.int (Int32.ofNat xn)), .val (.long ((Int32.ofNat (xn + 1)).toInt64)), .second, .unset, .unset, .unset, .unset, .unset] [(.int (((Int32.ofNat (xn + 1)).toInt64).toInt32))])) _
    rw [(own_l2i (n := xn + 1) (by omega))]
    show Steps _ _ _ (T8.setTop (mkF m 53 #[.val (.ref cv), .val (.int (Int32.ofNat xn)), .val (.int (Int32.ofNat y)), .val (.ref x), .val (.int (Int32.ofNat xn)), .val (.long ((Int32.ofNat (xn + 1)).toInt64)), .second, .unset, .unset, .unset, .unset, .unset] [(.int (Int32.ofNat (xn + 1)))])) _
    refine XS.istore X8.here hx rfl (hb hby d5_53) rfl (l' := #[.val (.ref cv), .val (.int (Int32.ofNat xn)), .val (.int (Int32.ofNat y)), .val (.ref x), .val (.int (Int32.ofNat xn)), .val (.long ((Int32.ofNat (xn + 1)).toInt64)), .second, .val (.int (Int32.ofNat (xn + 1))), .unset, .unset, .unset, .unset]) rfl ?_
    refine XS.iload X8.here hx rfl (hb hby d5_55) rfl ?_
    refine XS.iload X8.here hx rfl (hb hby d5_57) rfl ?_
    refine XS.icmpYes X8.here hx rfl (pc0 := 59) (pc' := 63) rfl (hb hby d5_59) rfl (tlt ((own_lt (by omega) (by omega)).mpr (by omega))).2.2.1 (by decide) (by decide) ?_
    refine XS.aloadN X8.here hx rfl (hb hby d5_63) rfl rfl ?_
    refine XS.iloadN X8.here hx rfl (hb hby d5_64) rfl ?_
    refine XS.iload X8.here hx rfl (hb hby d5_65) rfl ?_
    show Steps _ _ _ (T8.setTop (mkF m 67 #[.val (.ref cv), .val (.int (Int32.ofNat xn)), .val (.int (Int32.ofNat y)), .val (.ref x), .val (.int (Int32.ofNat xn)), .val (.long ((Int32.ofNat (xn + 1)).toInt64)), .second, .val (.int (Int32.ofNat (xn + 1))), .unset, .unset, .unset, .unset] [(.int (Int32.ofNat (xn + 1))), (.int (Int32.ofNat y)), (.ref cv)])) _
    refine st9.trans ?_
    show Steps _ _ _ (T9.setTop (mkF m 70 #[.val (.ref cv), .val (.int (Int32.ofNat xn)), .val (.int (Int32.ofNat y)), .val (.ref x), .val (.int (Int32.ofNat xn)), .val (.long ((Int32.ofNat (xn + 1)).toInt64)), .second, .val (.int (Int32.ofNat (xn + 1))), .unset, .unset, .unset, .unset] [(.ref t9)])) _
    refine XS.astore X9.here hx rfl (hb hby d5_70) rfl rfl (l' := #[.val (.ref cv), .val (.int (Int32.ofNat xn)), .val (.int (Int32.ofNat y)), .val (.ref x), .val (.int (Int32.ofNat xn)), .val (.long ((Int32.ofNat (xn + 1)).toInt64)), .second, .val (.int (Int32.ofNat (xn + 1))), .val (.ref t9), .unset, .unset, .unset]) rfl ?_
    refine XS.aloadN X9.here hx rfl (hb hby d5_72) rfl rfl ?_
    refine XS.iconst X9.here hx rfl (hb hby d5_73) ?_
    refine XS.iload X9.here hx rfl (hb hby d5_74) rfl ?_
    refine XS.iloadN X9.here hx rfl (hb hby d5_76) rfl ?_
    refine XS.isub X9.here hx rfl (hb hby d5_77) rfl ?_
    show Steps _ _ _ (T9.setTop (mkF m 78 #[.val (.ref cv), .val (.int (Int32.ofNat xn)), .val (.int (Int32.ofNat y)), .val (.ref x), .val (.int (Int32.ofNat xn)), .val (.long ((Int32.ofNat (xn + 1)).toInt64)), .second, .val (.int (Int32.ofNat (xn + 1))), .val (.ref t9), .unset, .unset, .unset] [(.int ((Int32.ofNat xn) - (Int32.ofNat xn))), (.int 0), (.ref x)])) _
    rw [(Int32.sub_self (Int32.ofNat xn))]
    show Steps _ _ _ (T9.setTop (mkF m 78 #[.val (.ref cv), .val (.int (Int32.ofNat xn)), .val (.int (Int32.ofNat y)), .val (.ref x), .val (.int (Int32.ofNat xn)), .val (.long ((Int32.ofNat (xn + 1)).toInt64)), .second, .val (.int (Int32.ofNat (xn + 1))), .val (.ref t9), .unset, .unset, .unset] [(.int 0), (.int 0), (.ref x)])) _
    refine st10.trans ?_
    show Steps _ _ _ (T10.setTop (mkF m 81 #[.val (.ref cv), .val (.int (Int32.ofNat xn)), .val (.int (Int32.ofNat y)), .val (.ref x), .val (.int (Int32.ofNat xn)), .val (.long ((Int32.ofNat (xn + 1)).toInt64)), .second, .val (.int (Int32.ofNat (xn + 1))), .val (.ref t9), .unset, .unset, .unset] [(.int 0)])) _
    refine XS.istore X10.here hx rfl (hb hby d5_81) rfl (l' := #[.val (.ref cv), .val (.int (Int32.ofNat xn)), .val (.int (Int32.ofNat y)), .val (.ref x), .val (.int (Int32.ofNat xn)), .val (.long ((Int32.ofNat (xn + 1)).toInt64)), .second, .val (.int (Int32.ofNat (xn + 1))), .val (.ref t9), .val (.int 0), .unset, .unset]) rfl ?_
    refine XS.iload X10.here hx rfl (hb hby d5_83) rfl ?_
    refine XS.istore X10.here hx rfl (hb hby d5_85) rfl (l' := #[.val (.ref cv), .val (.int (Int32.ofNat xn)), .val (.int (Int32.ofNat y)), .val (.ref x), .val (.int (Int32.ofNat xn)), .val (.long ((Int32.ofNat (xn + 1)).toInt64)), .second, .val (.int (Int32.ofNat (xn + 1))), .val (.ref t9), .val (.int 0), .val (.int (Int32.ofNat xn)), .unset]) rfl ?_
    refine XS.iload X10.here hx rfl (hb hby d5_87) rfl ?_
    refine XS.iload X10.here hx rfl (hb hby d5_89) rfl ?_
    refine XS.icmpNo X10.here hx rfl (hb hby d5_91) rfl (tlt ((own_lt (by omega) (by omega)).mpr (by omega))).2.1 ?_
    refine XS.aloadN X10.here hx rfl (hb hby d5_94) rfl rfl ?_
    refine XS.iload X10.here hx rfl (hb hby d5_95) rfl ?_
    show Steps _ _ _ (T10.setTop (mkF m 97 #[.val (.ref cv), .val (.int (Int32.ofNat xn)), .val (.int (Int32.ofNat y)), .val (.ref x), .val (.int (Int32.ofNat xn)), .val (.long ((Int32.ofNat (xn + 1)).toInt64)), .second, .val (.int (Int32.ofNat (xn + 1))), .val (.ref t9), .val (.int 0), .val (.int (Int32.ofNat xn)), .unset] [(.int 0), (.ref x)])) _
    refine st16.trans ?_
    show Steps _ _ _ (T16.setTop (mkF m 100 #[.val (.ref cv), .val (.int (Int32.ofNat xn)), .val (.int (Int32.ofNat y)), .val (.ref x), .val (.int (Int32.ofNat xn)), .val (.long ((Int32.ofNat (xn + 1)).toInt64)), .second, .val (.int (Int32.ofNat (xn + 1))), .val (.ref t9), .val (.int 0), .val (.int (Int32.ofNat xn)), .unset] [(.int 81)])) _
    refine XS.istore X16.here hx rfl (hb hby d5_100) rfl (l' := #[.val (.ref cv), .val (.int (Int32.ofNat xn)), .val (.int (Int32.ofNat y)), .val (.ref x), .val (.int (Int32.ofNat xn)), .val (.long ((Int32.ofNat (xn + 1)).toInt64)), .second, .val (.int (Int32.ofNat (xn + 1))), .val (.ref t9), .val (.int 0), .val (.int (Int32.ofNat xn)), .val (.int 81)]) rfl ?_
    refine XS.iload X16.here hx rfl (hb hby d5_102) rfl ?_
    refine XS.iload X16.here hx rfl (hb hby d5_104) rfl ?_
    show Steps _ _ _ (T16.setTop (mkF m 106 #[.val (.ref cv), .val (.int (Int32.ofNat xn)), .val (.int (Int32.ofNat y)), .val (.ref x), .val (.int (Int32.ofNat xn)), .val (.long ((Int32.ofNat (xn + 1)).toInt64)), .second, .val (.int (Int32.ofNat (xn + 1))), .val (.ref t9), .val (.int 0), .val (.int (Int32.ofNat xn)), .val (.int 81)] [(.int 81), (.int 0)])) _
    refine st17 _ ?_
    show Steps _ _ _ (T17.setTop (mkF m 109 #[.val (.ref cv), .val (.int (Int32.ofNat xn)), .val (.int (Int32.ofNat y)), .val (.ref x), .val (.int (Int32.ofNat xn)), .val (.long ((Int32.ofNat (xn + 1)).toInt64)), .second, .val (.int (Int32.ofNat (xn + 1))), .val (.ref t9), .val (.int 0), .val (.int (Int32.ofNat xn)), .val (.int 81)] [(.int 1), (.int 0)])) _
    refine XS.iadd X17.here hx rfl (hb hby d5_109) rfl ?_
    show Steps _ _ _ (T17.setTop (mkF m 110 #[.val (.ref cv), .val (.int (Int32.ofNat xn)), .val (.int (Int32.ofNat y)), .val (.ref x), .val (.int (Int32.ofNat xn)), .val (.long ((Int32.ofNat (xn + 1)).toInt64)), .second, .val (.int (Int32.ofNat (xn + 1))), .val (.ref t9), .val (.int 0), .val (.int (Int32.ofNat xn)), .val (.int 81)] [(.int ((0 : Int32) + (1 : Int32)))])) _
    rw [(by decide : ((0 : Int32) + (1 : Int32)) = (1 : Int32))]
    show Steps _ _ _ (T17.setTop (mkF m 110 #[.val (.ref cv), .val (.int (Int32.ofNat xn)), .val (.int (Int32.ofNat y)), .val (.ref x), .val (.int (Int32.ofNat xn)), .val (.long ((Int32.ofNat (xn + 1)).toInt64)), .second, .val (.int (Int32.ofNat (xn + 1))), .val (.ref t9), .val (.int 0), .val (.int (Int32.ofNat xn)), .val (.int 81)] [(.int 1)])) _
    refine XS.istore X17.here hx rfl (hb hby d5_110) rfl (l' := #[.val (.ref cv), .val (.int (Int32.ofNat xn)), .val (.int (Int32.ofNat y)), .val (.ref x), .val (.int (Int32.ofNat xn)), .val (.long ((Int32.ofNat (xn + 1)).toInt64)), .second, .val (.int (Int32.ofNat (xn + 1))), .val (.ref t9), .val (.int 1), .val (.int (Int32.ofNat xn)), .val (.int 81)]) rfl ?_
    refine XS.aload X17.here hx rfl (hb hby d5_112) rfl rfl ?_
    refine XS.iload X17.here hx rfl (hb hby d5_114) rfl ?_
    refine XS.iload X17.here hx rfl (hb hby d5_116) rfl ?_
    show Steps _ _ _ (T17.setTop (mkF m 118 #[.val (.ref cv), .val (.int (Int32.ofNat xn)), .val (.int (Int32.ofNat y)), .val (.ref x), .val (.int (Int32.ofNat xn)), .val (.long ((Int32.ofNat (xn + 1)).toInt64)), .second, .val (.int (Int32.ofNat (xn + 1))), .val (.ref t9), .val (.int 1), .val (.int (Int32.ofNat xn)), .val (.int 81)] [(.int 81), (.int (Int32.ofNat xn)), (.ref t9)])) _
    refine st18 _ ?_
    show Steps _ _ _ (T18.setTop (mkF m 121 #[.val (.ref cv), .val (.int (Int32.ofNat xn)), .val (.int (Int32.ofNat y)), .val (.ref x), .val (.int (Int32.ofNat xn)), .val (.long ((Int32.ofNat (xn + 1)).toInt64)), .second, .val (.int (Int32.ofNat (xn + 1))), .val (.ref t9), .val (.int 1), .val (.int (Int32.ofNat xn)), .val (.int 81)] [(.int 0), (.int (Int32.ofNat xn)), (.ref t9)])) _
    refine XS.ifYes X18.here hx rfl (pc0 := 121) (pc' := 129) rfl (hb hby d5_121) rfl ((if0 _ _).trans (teq (by decide : (0 : Int32) = (0 : Int32))).1) (by decide) (by decide) ?_
    refine XS.iload X18.here hx rfl (hb hby d5_129) rfl ?_
    show Steps _ _ _ (T18.setTop (mkF m 131 #[.val (.ref cv), .val (.int (Int32.ofNat xn)), .val (.int (Int32.ofNat y)), .val (.ref x), .val (.int (Int32.ofNat xn)), .val (.long ((Int32.ofNat (xn + 1)).toInt64)), .second, .val (.int (Int32.ofNat (xn + 1))), .val (.ref t9), .val (.int 1), .val (.int (Int32.ofNat xn)), .val (.int 81)] [(.int 81), (.int (Int32.ofNat xn)), (.ref t9)])) _
    refine st19 _ ?_
    show Steps _ _ _ (T19.setTop (mkF m 132 #[.val (.ref cv), .val (.int (Int32.ofNat xn)), .val (.int (Int32.ofNat y)), .val (.ref x), .val (.int (Int32.ofNat xn)), .val (.long ((Int32.ofNat (xn + 1)).toInt64)), .second, .val (.int (Int32.ofNat (xn + 1))), .val (.ref t9), .val (.int 1), .val (.int (Int32.ofNat xn)), .val (.int 81)] [])) _
    refine XS.iinc X19.here hx rfl (hb hby d5_132) rfl (l' := #[.val (.ref cv), .val (.int (Int32.ofNat xn)), .val (.int (Int32.ofNat y)), .val (.ref x), .val (.int (Int32.ofNat xn)), .val (.long ((Int32.ofNat (xn + 1)).toInt64)), .second, .val (.int (Int32.ofNat (xn + 1))), .val (.ref t9), .val (.int 1), .val (.int ((Int32.ofNat xn) + (1 : Int32))), .val (.int 81)]) rfl ?_
    refine XS.goto X19.here hx rfl (pc0 := 135) (pc' := 87) rfl (hb hby d5_135) (by decide) (by decide) ?_
    refine XS.iload X19.here hx rfl (hb hby d5_87) rfl ?_
    show Steps _ _ _ (T19.setTop (mkF m 89 #[.val (.ref cv), .val (.int (Int32.ofNat xn)), .val (.int (Int32.ofNat y)), .val (.ref x), .val (.int (Int32.ofNat xn)), .val (.long ((Int32.ofNat (xn + 1)).toInt64)), .second, .val (.int (Int32.ofNat (xn + 1))), .val (.ref t9), .val (.int 1), .val (.int ((Int32.ofNat xn) + (1 : Int32))), .val (.int 81)] [(.int ((Int32.ofNat xn) + (1 : Int32)))])) _
    rw [(own_succ xn)]
    show Steps _ _ _ (T19.setTop (mkF m 89 #[.val (.ref cv), .val (.int (Int32.ofNat xn)), .val (.int (Int32.ofNat y)), .val (.ref x), .val (.int (Int32.ofNat xn)), .val (.long ((Int32.ofNat (xn + 1)).toInt64)), .second, .val (.int (Int32.ofNat (xn + 1))), .val (.ref t9), .val (.int 1), .val (.int (Int32.ofNat (xn + 1))), .val (.int 81)] [(.int (Int32.ofNat (xn + 1)))])) _
    refine XS.iload X19.here hx rfl (hb hby d5_89) rfl ?_
    refine XS.icmpYes X19.here hx rfl (pc0 := 91) (pc' := 138) rfl (hb hby d5_91) rfl (flt (Int32.lt_irrefl : ¬ ((Int32.ofNat (xn + 1)) < (Int32.ofNat (xn + 1))))).2.1 (by decide) (by decide) ?_
    show Steps _ _ _ (T19.setTop (mkF m 138 #[.val (.ref cv), .val (.int (Int32.ofNat xn)), .val (.int (Int32.ofNat y)), .val (.ref x), .val (.int (Int32.ofNat xn)), .val (.long ((Int32.ofNat (xn + 1)).toInt64)), .second, .val (.int (Int32.ofNat (xn + 1))), .val (.ref t9), .val (.int 1), .val (.int (Int32.ofNat (xn + 1))), .val (.int 81)] [])) _
    exact X19.returnOut hx Bd.returns (hb hby d5_138) hr
  · show own_QW Z R kR y xn h0 n0 _ T19.heap _
    rw [e19]
    exact ⟨t9, kt9, rfl, N19, gt9, szt9, (((Keep.refl h0 [R]).trans Kq9 (allS (P := fun zz => zz ∈ [R] ∨ h0.size ≤ zz) (Or.inl (tk 0 rfl)) all0)).wr W19 (Or.inr szt9)), f20, V19⟩
theorem d5_16 : decode prog_104_method_2_code 16 = .ok (.return_, 1) := by decide +kernel
theorem d5_62 : decode prog_104_method_2_code 62 = .ok (.return_, 1) := by decide +kernel
theorem rmWOA (l : Launch) (Z : State) (a0 : Array Value) (hw : ∀ d ∈ tables_1, d.before a0 Z = true) (ws : List Jvm.Cond) (G1 : Int32) (G3 : Value) (cv : Addr) (R : Addr) (kR : ClassId) (y : Nat) (lf : Nat) (tp : Nat) (rt : Nat) (bt : Nat) (x : Addr) (xn : Nat) (h0 : Heap) (n0 : Nat) (Z0 : n0 ≤ h0.size) (EN : own_env Z G1 G3) (X00 : Old Z n0 h0) (E_cv : Exa Z h0 cv "dev/treefold/text/Canvas") (F_width_cv : Fld Z h0 cv "dev/treefold/text/Canvas" "width" "I" (.int 4)) (F_rows_cv : Fld Z h0 cv "dev/treefold/text/Canvas" "rows" "[[I" (.ref R)) (F_clipLeft_cv : Fld Z h0 cv "dev/treefold/text/Canvas" "clipLeft" "I" (.int (Int32.ofNat lf))) (F_clipTop_cv : Fld Z h0 cv "dev/treefold/text/Canvas" "clipTop" "I" (.int (Int32.ofNat tp))) (F_clipRight_cv : Fld Z h0 cv "dev/treefold/text/Canvas" "clipRight" "I" (.int (Int32.ofNat rt))) (F_clipBottom_cv : Fld Z h0 cv "dev/treefold/text/Canvas" "clipBottom" "I" (.int (Int32.ofNat bt))) (S_x : own_s Z h0 x ([81] : List Int32)) (hlf : lf ≤ 4) (htp : tp ≤ 3) (hrt : rt ≤ 4) (hbt : bt ≤ 3) (hxn : xn < 4) (hy : y < 3) (h1 : y < tp) :
    MetFree l y_26 (head1 (Jvm.Cond.code y_26 prog_104_method_2_code 12 none :: ws) ({ frames := 3, cells := 0, slots := 0, locals := 45 } : Room)) (fun a_ U_ => a_ = #[(.ref cv), (.int (Int32.ofNat xn)), (.int (Int32.ofNat y)), (.ref x)] ∧ Z.Warmed39 U_.vm ∧ U_.heap = h0) (fun _ _ _ _ _ => True) (fun _ U_ o_ U1_ => ∃ v_ L_, o_ = .returned v_ ∧ own_Q Z none h0 n0 v_ U1_.heap L_ ∧ FrameEnd U_ o_ U1_ L_ ({ frames := 3, cells := 0, slots := 0, locals := 45 } : Room).cells ({ frames := 3, cells := 0, slots := 0, locals := 45 } : Room).slots) := by
  refine MetFree.of_bodySF (plainFor_of_name pn_5) hisR ?_
  intro p e s m args below meth c s₁ Bd hml0 hP hK
  obtain ⟨rfl, hZ, hh⟩ := hP
  have hx := Bd.exec
  have hby := Bd.bytes
  have hml : c.maxLocals = 12 := hml0
  have hown : s.vm.findClass "dev/treefold/text/Canvas" = some m.cls := findClass_of_methodNamed Bd.named
  have hnm := (name_of_methodNamed Bd.named Bd.method).1
  have X0 : Stand p l e ({ frames := 3, cells := 0, slots := 0, locals := 45 } : Room) s m #[(.ref cv), (.int (Int32.ofNat xn)), (.int (Int32.ofNat y)), (.ref x)] below meth c s₁ [] 0 0 := Stand.of_body Bd
  have e0 : s₁.heap = h0 := by rw [← hh, Bd.state]; rfl
  have N0 := Fr.nil n0
  have pre0 : ∀ tt, Steps p.tables e below (s₁.setTop (mkF m 0 #[.val (.ref cv), .val (.int (Int32.ofNat xn)), .val (.int (Int32.ofNat y)), .val (.ref x), .unset, .unset, .unset, .unset, .unset, .unset, .unset, .unset] [])) tt → Steps p.tables e below (s₁.setTop (entryFrame m #[(.ref cv), (.int (Int32.ofNat xn)), (.int (Int32.ofNat y)), (.ref x)] 12)) tt := fun tt kk => castTop (ef_5_rrrr m cv (Int32.ofNat xn) (Int32.ofNat y) x) kk
  have EN0 := EN
  obtain ⟨O2, P5, O4, rG3⟩ := EN
  obtain ⟨b_x, k_x, E_x, C_x, V_x, K_x, hp_x, hl_x⟩ := id S_x
  obtain ⟨T1, X1, e1, st1⟩ := getF X0 hx hZ hown (host := "") (Or.inl (hw _ (tk 28 rfl))) Via.refl e0 F_clipTop_cv (g := (mkF m 2 #[.val (.ref cv), .val (.int (Int32.ofNat xn)), .val (.int (Int32.ofNat y)), .val (.ref x), .unset, .unset, .unset, .unset, .unset, .unset, .unset, .unset] [(.ref cv), (.int (Int32.ofNat y))])) rfl rfl (hb hby d5_2)
  obtain ⟨fs, hr, hrun, hended, hW, hsame⟩ := X1.leave (v := none) (fun _ => rfl)
  refine ⟨_, _, pre0 _ ?_, hrun, hended, _, _, rfl, ?_, ⟨_, rfl⟩, hW, hsame.mono (by decide) (by decide)⟩
  · show Steps _ _ _ (s₁.setTop (mkF m 0 #[.val (.ref cv), .val (.int (Int32.ofNat xn)), .val (.int (Int32.ofNat y)), .val (.ref x), .unset, .unset, .unset, .unset, .unset, .unset, .unset, .unset] [])) _
    refine XS.iloadN X0.here hx rfl (hb hby d5_0) rfl ?_
    refine XS.aloadN X0.here hx rfl (hb hby d5_1) rfl rfl ?_
    show Steps _ _ _ (s₁.setTop (mkF m 2 #[.val (.ref cv), .val (.int (Int32.ofNat xn)), .val (.int (Int32.ofNat y)), .val (.ref x), .unset, .unset, .unset, .unset, .unset, .unset, .unset, .unset] [(.ref cv), (.int (Int32.ofNat y))])) _
    refine st1 _ ?_
    show Steps _ _ _ (T1.setTop (mkF m 5 #[.val (.ref cv), .val (.int (Int32.ofNat xn)), .val (.int (Int32.ofNat y)), .val (.ref x), .unset, .unset, .unset, .unset, .unset, .unset, .unset, .unset] [(.int (Int32.ofNat tp)), (.int (Int32.ofNat y))])) _
    refine XS.icmpYes X1.here hx rfl (pc0 := 5) (pc' := 16) rfl (hb hby d5_5) rfl (tlt ((own_lt (by omega) (by omega)).mpr h1)).1 (by decide) (by decide) ?_
    show Steps _ _ _ (T1.setTop (mkF m 16 #[.val (.ref cv), .val (.int (Int32.ofNat xn)), .val (.int (Int32.ofNat y)), .val (.ref x), .unset, .unset, .unset, .unset, .unset, .unset, .unset, .unset] [])) _
    exact X1.returnOut hx Bd.returns (hb hby d5_16) hr
  · show own_Q Z none h0 n0 _ T1.heap _
    rw [e1]
    exact ⟨rfl, N0, rfl⟩
theorem rmWOB (l : Launch) (Z : State) (a0 : Array Value) (hw : ∀ d ∈ tables_1, d.before a0 Z = true) (ws : List Jvm.Cond) (G1 : Int32) (G3 : Value) (cv : Addr) (R : Addr) (kR : ClassId) (y : Nat) (lf : Nat) (tp : Nat) (rt : Nat) (bt : Nat) (x : Addr) (xn : Nat) (h0 : Heap) (n0 : Nat) (Z0 : n0 ≤ h0.size) (EN : own_env Z G1 G3) (X00 : Old Z n0 h0) (E_cv : Exa Z h0 cv "dev/treefold/text/Canvas") (F_width_cv : Fld Z h0 cv "dev/treefold/text/Canvas" "width" "I" (.int 4)) (F_rows_cv : Fld Z h0 cv "dev/treefold/text/Canvas" "rows" "[[I" (.ref R)) (F_clipLeft_cv : Fld Z h0 cv "dev/treefold/text/Canvas" "clipLeft" "I" (.int (Int32.ofNat lf))) (F_clipTop_cv : Fld Z h0 cv "dev/treefold/text/Canvas" "clipTop" "I" (.int (Int32.ofNat tp))) (F_clipRight_cv : Fld Z h0 cv "dev/treefold/text/Canvas" "clipRight" "I" (.int (Int32.ofNat rt))) (F_clipBottom_cv : Fld Z h0 cv "dev/treefold/text/Canvas" "clipBottom" "I" (.int (Int32.ofNat bt))) (S_x : own_s Z h0 x ([81] : List Int32)) (hlf : lf ≤ 4) (htp : tp ≤ 3) (hrt : rt ≤ 4) (hbt : bt ≤ 3) (hxn : xn < 4) (hy : y < 3) (h1 : ¬ (y < tp)) (h2 : ¬ (y < bt)) :
    MetFree l y_26 (head1 (Jvm.Cond.code y_26 prog_104_method_2_code 12 none :: ws) ({ frames := 3, cells := 0, slots := 0, locals := 45 } : Room)) (fun a_ U_ => a_ = #[(.ref cv), (.int (Int32.ofNat xn)), (.int (Int32.ofNat y)), (.ref x)] ∧ Z.Warmed39 U_.vm ∧ U_.heap = h0) (fun _ _ _ _ _ => True) (fun _ U_ o_ U1_ => ∃ v_ L_, o_ = .returned v_ ∧ own_Q Z none h0 n0 v_ U1_.heap L_ ∧ FrameEnd U_ o_ U1_ L_ ({ frames := 3, cells := 0, slots := 0, locals := 45 } : Room).cells ({ frames := 3, cells := 0, slots := 0, locals := 45 } : Room).slots) := by
  refine MetFree.of_bodySF (plainFor_of_name pn_5) hisR ?_
  intro p e s m args below meth c s₁ Bd hml0 hP hK
  obtain ⟨rfl, hZ, hh⟩ := hP
  have hx := Bd.exec
  have hby := Bd.bytes
  have hml : c.maxLocals = 12 := hml0
  have hown : s.vm.findClass "dev/treefold/text/Canvas" = some m.cls := findClass_of_methodNamed Bd.named
  have hnm := (name_of_methodNamed Bd.named Bd.method).1
  have X0 : Stand p l e ({ frames := 3, cells := 0, slots := 0, locals := 45 } : Room) s m #[(.ref cv), (.int (Int32.ofNat xn)), (.int (Int32.ofNat y)), (.ref x)] below meth c s₁ [] 0 0 := Stand.of_body Bd
  have e0 : s₁.heap = h0 := by rw [← hh, Bd.state]; rfl
  have N0 := Fr.nil n0
  have pre0 : ∀ tt, Steps p.tables e below (s₁.setTop (mkF m 0 #[.val (.ref cv), .val (.int (Int32.ofNat xn)), .val (.int (Int32.ofNat y)), .val (.ref x), .unset, .unset, .unset, .unset, .unset, .unset, .unset, .unset] [])) tt → Steps p.tables e below (s₁.setTop (entryFrame m #[(.ref cv), (.int (Int32.ofNat xn)), (.int (Int32.ofNat y)), (.ref x)] 12)) tt := fun tt kk => castTop (ef_5_rrrr m cv (Int32.ofNat xn) (Int32.ofNat y) x) kk
  have EN0 := EN
  obtain ⟨O2, P5, O4, rG3⟩ := EN
  obtain ⟨b_x, k_x, E_x, C_x, V_x, K_x, hp_x, hl_x⟩ := id S_x
  obtain ⟨T1, X1, e1, st1⟩ := getF X0 hx hZ hown (host := "") (Or.inl (hw _ (tk 28 rfl))) Via.refl e0 F_clipTop_cv (g := (mkF m 2 #[.val (.ref cv), .val (.int (Int32.ofNat xn)), .val (.int (Int32.ofNat y)), .val (.ref x), .unset, .unset, .unset, .unset, .unset, .unset, .unset, .unset] [(.ref cv), (.int (Int32.ofNat y))])) rfl rfl (hb hby d5_2)
  obtain ⟨T2, X2, e2, st2⟩ := getF X1 hx hZ hown (host := "") (Or.inl (hw _ (tk 32 rfl))) Via.refl e1 F_clipBottom_cv (g := (mkF m 10 #[.val (.ref cv), .val (.int (Int32.ofNat xn)), .val (.int (Int32.ofNat y)), .val (.ref x), .unset, .unset, .unset, .unset, .unset, .unset, .unset, .unset] [(.ref cv), (.int (Int32.ofNat y))])) rfl rfl (hb hby d5_10)
  obtain ⟨fs, hr, hrun, hended, hW, hsame⟩ := X2.leave (v := none) (fun _ => rfl)
  refine ⟨_, _, pre0 _ ?_, hrun, hended, _, _, rfl, ?_, ⟨_, rfl⟩, hW, hsame.mono (by decide) (by decide)⟩
  · show Steps _ _ _ (s₁.setTop (mkF m 0 #[.val (.ref cv), .val (.int (Int32.ofNat xn)), .val (.int (Int32.ofNat y)), .val (.ref x), .unset, .unset, .unset, .unset, .unset, .unset, .unset, .unset] [])) _
    refine XS.iloadN X0.here hx rfl (hb hby d5_0) rfl ?_
    refine XS.aloadN X0.here hx rfl (hb hby d5_1) rfl rfl ?_
    show Steps _ _ _ (s₁.setTop (mkF m 2 #[.val (.ref cv), .val (.int (Int32.ofNat xn)), .val (.int (Int32.ofNat y)), .val (.ref x), .unset, .unset, .unset, .unset, .unset, .unset, .unset, .unset] [(.ref cv), (.int (Int32.ofNat y))])) _
    refine st1 _ ?_
    show Steps _ _ _ (T1.setTop (mkF m 5 #[.val (.ref cv), .val (.int (Int32.ofNat xn)), .val (.int (Int32.ofNat y)), .val (.ref x), .unset, .unset, .unset, .unset, .unset, .unset, .unset, .unset] [(.int (Int32.ofNat tp)), (.int (Int32.ofNat y))])) _
    refine XS.icmpNo X1.here hx rfl (hb hby d5_5) rfl (flt (own_lo (by omega) (by omega) h1)).1 ?_
    refine XS.iloadN X1.here hx rfl (hb hby d5_8) rfl ?_
    refine XS.aloadN X1.here hx rfl (hb hby d5_9) rfl rfl ?_
    show Steps _ _ _ (T1.setTop (mkF m 10 #[.val (.ref cv), .val (.int (Int32.ofNat xn)), .val (.int (Int32.ofNat y)), .val (.ref x), .unset, .unset, .unset, .unset, .unset, .unset, .unset, .unset] [(.ref cv), (.int (Int32.ofNat y))])) _
    refine st2 _ ?_
    show Steps _ _ _ (T2.setTop (mkF m 13 #[.val (.ref cv), .val (.int (Int32.ofNat xn)), .val (.int (Int32.ofNat y)), .val (.ref x), .unset, .unset, .unset, .unset, .unset, .unset, .unset, .unset] [(.int (Int32.ofNat bt)), (.int (Int32.ofNat y))])) _
    refine XS.icmpNo X2.here hx rfl (hb hby d5_13) rfl (flt (own_lo (by omega) (by omega) h2)).1 ?_
    show Steps _ _ _ (T2.setTop (mkF m 16 #[.val (.ref cv), .val (.int (Int32.ofNat xn)), .val (.int (Int32.ofNat y)), .val (.ref x), .unset, .unset, .unset, .unset, .unset, .unset, .unset, .unset] [])) _
    exact X2.returnOut hx Bd.returns (hb hby d5_16) hr
  · show own_Q Z none h0 n0 _ T2.heap _
    rw [e2]
    exact ⟨rfl, N0, rfl⟩
theorem rmWOC (l : Launch) (Z : State) (a0 : Array Value) (hw : ∀ d ∈ tables_1, d.before a0 Z = true) (ws : List Jvm.Cond) (G1 : Int32) (G3 : Value) (cv : Addr) (R : Addr) (kR : ClassId) (y : Nat) (lf : Nat) (tp : Nat) (rt : Nat) (bt : Nat) (x : Addr) (xn : Nat) (h0 : Heap) (n0 : Nat) (Z0 : n0 ≤ h0.size) (EN : own_env Z G1 G3) (X00 : Old Z n0 h0) (E_cv : Exa Z h0 cv "dev/treefold/text/Canvas") (F_width_cv : Fld Z h0 cv "dev/treefold/text/Canvas" "width" "I" (.int 4)) (F_rows_cv : Fld Z h0 cv "dev/treefold/text/Canvas" "rows" "[[I" (.ref R)) (F_clipLeft_cv : Fld Z h0 cv "dev/treefold/text/Canvas" "clipLeft" "I" (.int (Int32.ofNat lf))) (F_clipTop_cv : Fld Z h0 cv "dev/treefold/text/Canvas" "clipTop" "I" (.int (Int32.ofNat tp))) (F_clipRight_cv : Fld Z h0 cv "dev/treefold/text/Canvas" "clipRight" "I" (.int (Int32.ofNat rt))) (F_clipBottom_cv : Fld Z h0 cv "dev/treefold/text/Canvas" "clipBottom" "I" (.int (Int32.ofNat bt))) (S_x : own_s Z h0 x ([81] : List Int32)) (hlf : lf ≤ 4) (htp : tp ≤ 3) (hrt : rt ≤ 4) (hbt : bt ≤ 3) (hxn : xn < 4) (hy : y < 3) (h1 : ¬ (y < tp)) (h2 : y < bt) (h3 : ¬ (lf ≤ xn ∧ xn < rt)) :
    MetFree l y_26 (head1 (Jvm.Cond.code y_26 prog_104_method_2_code 12 none :: ws) ({ frames := 3, cells := 0, slots := 0, locals := 45 } : Room)) (fun a_ U_ => a_ = #[(.ref cv), (.int (Int32.ofNat xn)), (.int (Int32.ofNat y)), (.ref x)] ∧ Z.Warmed39 U_.vm ∧ U_.heap = h0) (fun _ _ _ _ _ => True) (fun _ U_ o_ U1_ => ∃ v_ L_, o_ = .returned v_ ∧ own_Q Z none h0 n0 v_ U1_.heap L_ ∧ FrameEnd U_ o_ U1_ L_ ({ frames := 3, cells := 0, slots := 0, locals := 45 } : Room).cells ({ frames := 3, cells := 0, slots := 0, locals := 45 } : Room).slots) := by
  refine MetFree.of_bodySF (plainFor_of_name pn_5) hisR ?_
  intro p e s m args below meth c s₁ Bd hml0 hP hK
  obtain ⟨rfl, hZ, hh⟩ := hP
  have hx := Bd.exec
  have hby := Bd.bytes
  have hml : c.maxLocals = 12 := hml0
  have hown : s.vm.findClass "dev/treefold/text/Canvas" = some m.cls := findClass_of_methodNamed Bd.named
  have hnm := (name_of_methodNamed Bd.named Bd.method).1
  have X0 : Stand p l e ({ frames := 3, cells := 0, slots := 0, locals := 45 } : Room) s m #[(.ref cv), (.int (Int32.ofNat xn)), (.int (Int32.ofNat y)), (.ref x)] below meth c s₁ [] 0 0 := Stand.of_body Bd
  have e0 : s₁.heap = h0 := by rw [← hh, Bd.state]; rfl
  have N0 := Fr.nil n0
  have pre0 : ∀ tt, Steps p.tables e below (s₁.setTop (mkF m 0 #[.val (.ref cv), .val (.int (Int32.ofNat xn)), .val (.int (Int32.ofNat y)), .val (.ref x), .unset, .unset, .unset, .unset, .unset, .unset, .unset, .unset] [])) tt → Steps p.tables e below (s₁.setTop (entryFrame m #[(.ref cv), (.int (Int32.ofNat xn)), (.int (Int32.ofNat y)), (.ref x)] 12)) tt := fun tt kk => castTop (ef_5_rrrr m cv (Int32.ofNat xn) (Int32.ofNat y) x) kk
  have EN0 := EN
  obtain ⟨O2, P5, O4, rG3⟩ := EN
  obtain ⟨b_x, k_x, E_x, C_x, V_x, K_x, hp_x, hl_x⟩ := id S_x
  obtain ⟨T1, X1, e1, st1⟩ := getF X0 hx hZ hown (host := "") (Or.inl (hw _ (tk 28 rfl))) Via.refl e0 F_clipTop_cv (g := (mkF m 2 #[.val (.ref cv), .val (.int (Int32.ofNat xn)), .val (.int (Int32.ofNat y)), .val (.ref x), .unset, .unset, .unset, .unset, .unset, .unset, .unset, .unset] [(.ref cv), (.int (Int32.ofNat y))])) rfl rfl (hb hby d5_2)
  obtain ⟨T2, X2, e2, st2⟩ := getF X1 hx hZ hown (host := "") (Or.inl (hw _ (tk 32 rfl))) Via.refl e1 F_clipBottom_cv (g := (mkF m 10 #[.val (.ref cv), .val (.int (Int32.ofNat xn)), .val (.int (Int32.ofNat y)), .val (.ref x), .unset, .unset, .unset, .unset, .unset, .unset, .unset, .unset] [(.ref cv), (.int (Int32.ofNat y))])) rfl rfl (hb hby d5_10)
  obtain ⟨T3, X3, e3, st3⟩ := getF X2 hx hZ hown (host := "") (Or.inl (hw _ (tk 26 rfl))) Via.refl e2 F_clipLeft_cv (g := (mkF m 19 #[.val (.ref cv), .val (.int (Int32.ofNat xn)), .val (.int (Int32.ofNat y)), .val (.ref x), .unset, .unset, .unset, .unset, .unset, .unset, .unset, .unset] [(.ref cv), (.int (Int32.ofNat xn))])) rfl rfl (hb hby d5_19)
  obtain ⟨_, _, ⟨T4, L4, k4, n4⟩, -, X4, ⟨Lc4, hQ4, l4, y4, z4⟩, st4⟩ := Jvm.LawKit.callS X3 hx (y := y_3) hown (mvT hZ (hw _ (tk 146 rfl))) (mvT hZ (hw _ (tk 147 rfl))) (mvT hZ (hw _ (tk 148 rfl))) (mvT hZ (hw _ (tk 149 rfl))) (by decide) (backOf (W := 0) (rmMX l Z a0 hw [] (Int32.ofNat xn) (Int32.ofNat lf) h0 n0 Z0) hZ (hw _ (tk 149 rfl)) (hw _ (tk 148 rfl)) (by decide) (by decide)) (g := (mkF m 22 #[.val (.ref cv), .val (.int (Int32.ofNat xn)), .val (.int (Int32.ofNat y)), .val (.ref x), .unset, .unset, .unset, .unset, .unset, .unset, .unset, .unset] [(.int (Int32.ofNat lf)), (.int (Int32.ofNat xn))])) rfl (by rw [hml]; rfl) (argsL := [(.int (Int32.ofNat xn)), (.int (Int32.ofNat lf))]) (rest := []) (lenOf pd__II_I rfl) rfl (by show 2 * 0 + _ ≤ _; exact Nat.le_of_eq rfl) (hb hby d5_22) (fun _ _ => ⟨rfl, e3, (by decide : 0 + 0 ≤ _), (by decide : 0 + 0 ≤ _)⟩)
  dsimp only [Pt.U, Pt.locs, Pt.cells, Pt.slots] at X4 l4 y4 z4 st4 hQ4
  subst l4 y4 z4
  obtain ⟨rfl, Nq4, eq4⟩ := hQ4
  have N4 := Fr.app N0 Nq4
  obtain ⟨cq5, kq5, q5a, q5b, q5c⟩ := isOf hZ eq4 E_x
  obtain ⟨_, _, ⟨T5, L5, k5, n5⟩, -, X5, ⟨Lc5, hQ5, l5, y5, z5⟩, st5⟩ := X4.virtualBack hx (y := y_2) (z := y_2) hown (mvT hZ (hw _ (tk 150 rfl))) (mvT hZ (hw _ (tk 134 rfl))) (notFace_of_selects (args := #[]) (mvT hZ (hw _ (tk 136 rfl)))) (mvT hZ (hw _ (tk 136 rfl))) (mvT hZ (hw _ (tk 135 rfl))) (by decide) (backOf (W := 4) (rmLN l Z a0 hw [] G1 G3 x ([81] : List Int32) h0 n0 Z0 EN0 X00 ⟨b_x, k_x, E_x, C_x, V_x, K_x, hp_x, hl_x⟩) hZ (hw _ (tk 137 rfl)) (hw _ (tk 36 rfl)) (by decide) (by decide)) q5a q5c (g := (mkF m 32 #[.val (.ref cv), .val (.int (Int32.ofNat xn)), .val (.int (Int32.ofNat y)), .val (.ref x), .val (.int (own_mx (Int32.ofNat xn) (Int32.ofNat lf))), .unset, .unset, .unset, .unset, .unset, .unset, .unset] [(.ref x), (.int 0), (.ref x), (.long ((Int32.ofNat xn).toInt64))])) rfl (by rw [hml]; rfl) (Steps.refl _) (argsL := []) (rest := [(.int 0), (.ref x), (.long ((Int32.ofNat xn).toInt64))]) (lenOf pd___I rfl) rfl (by show 2 * 0 + _ ≤ _; exact Nat.le_of_eq rfl) (hb hby d5_32) (fun _ _ => ⟨rfl, eq4, (by decide : 0 + 0 ≤ _), (by decide : 0 + 0 ≤ _)⟩)
  dsimp only [Pt.U, Pt.locs, Pt.cells, Pt.slots] at X5 l5 y5 z5 st5 hQ5
  subst l5 y5 z5
  obtain ⟨rfl, Nq5, eq5⟩ := hQ5
  have N5 := Fr.app N4 Nq5
  obtain ⟨cq6, kq6, q6a, q6b, q6c⟩ := isOf hZ eq5 E_x
  obtain ⟨_, _, ⟨T6, L6, k6, n6⟩, -, X6, ⟨Lc6, hQ6, l6, y6, z6⟩, st6⟩ := X5.virtualBack hx (y := y_14) (z := y_14) hown (mvT hZ (hw _ (tk 151 rfl))) (mvT hZ (hw _ (tk 152 rfl))) (notFace_of_selects (args := #[]) (mvT hZ (hw _ (tk 154 rfl)))) (mvT hZ (hw _ (tk 154 rfl))) (mvT hZ (hw _ (tk 153 rfl))) (by decide) (backOf (W := 2) (rmCPC l Z a0 hw [] G1 G3 x h0 n0 Z0 EN0 X00 ⟨b_x, k_x, E_x, C_x, V_x, K_x, hp_x, hl_x⟩) hZ (hw _ (tk 155 rfl)) (hw _ (tk 36 rfl)) (by decide) (by decide)) q6a q6c (g := (mkF m 35 #[.val (.ref cv), .val (.int (Int32.ofNat xn)), .val (.int (Int32.ofNat y)), .val (.ref x), .val (.int (own_mx (Int32.ofNat xn) (Int32.ofNat lf))), .unset, .unset, .unset, .unset, .unset, .unset, .unset] [(.int 1), (.int 0), (.ref x), (.long ((Int32.ofNat xn).toInt64))])) rfl (by rw [hml]; rfl) (Steps.refl _) (argsL := [(.int 0), (.int 1)]) (rest := [(.long ((Int32.ofNat xn).toInt64))]) (lenOf pd__II_I rfl) rfl (by show 2 * 0 + _ ≤ _; exact Nat.le_of_eq rfl) (hb hby d5_35) (fun _ _ => ⟨rfl, eq5, (by decide : 0 + 0 ≤ _), (by decide : 0 + 0 ≤ _)⟩)
  dsimp only [Pt.U, Pt.locs, Pt.cells, Pt.slots] at X6 l6 y6 z6 st6 hQ6
  subst l6 y6 z6
  obtain ⟨rfl, Nq6, eq6⟩ := hQ6
  have N6 := Fr.app N5 Nq6
  obtain ⟨T7, X7, e7, st7⟩ := getF X6 hx hZ hown (host := "") (Or.inl (hw _ (tk 30 rfl))) Via.refl eq6 F_clipRight_cv (g := (mkF m 43 #[.val (.ref cv), .val (.int (Int32.ofNat xn)), .val (.int (Int32.ofNat y)), .val (.ref x), .val (.int (own_mx (Int32.ofNat xn) (Int32.ofNat lf))), .val (.long (((Int32.ofNat xn).toInt64) + (1 : Int64))), .second, .unset, .unset, .unset, .unset, .unset] [(.ref cv)])) rfl rfl (hb hby d5_43)
  obtain ⟨_, _, ⟨T8, L8, k8, n8⟩, -, X8, ⟨Lc8, hQ8, l8, y8, z8⟩, st8⟩ := Jvm.LawKit.callS X7 hx (y := y_5) hown (mvT hZ (hw _ (tk 168 rfl))) (mvT hZ (hw _ (tk 169 rfl))) (mvT hZ (hw _ (tk 148 rfl))) (mvT hZ (hw _ (tk 170 rfl))) (by decide) (backOf (W := 0) (rmMN l Z a0 hw [] ((Int32.ofNat rt).toInt64) (((Int32.ofNat xn).toInt64) + (1 : Int64)) h0 n0 Z0) hZ (hw _ (tk 170 rfl)) (hw _ (tk 148 rfl)) (by decide) (by decide)) (g := (mkF m 49 #[.val (.ref cv), .val (.int (Int32.ofNat xn)), .val (.int (Int32.ofNat y)), .val (.ref x), .val (.int (own_mx (Int32.ofNat xn) (Int32.ofNat lf))), .val (.long (((Int32.ofNat xn).toInt64) + (1 : Int64))), .second, .unset, .unset, .unset, .unset, .unset] [(.long (((Int32.ofNat xn).toInt64) + (1 : Int64))), (.long ((Int32.ofNat rt).toInt64))])) rfl (by rw [hml]; rfl) (argsL := [(.long ((Int32.ofNat rt).toInt64)), (.long (((Int32.ofNat xn).toInt64) + (1 : Int64)))]) (rest := []) (lenOf pd__JJ_J rfl) rfl (by show 2 * 0 + _ ≤ _; exact Nat.le_of_eq rfl) (hb hby d5_49) (fun _ _ => ⟨rfl, e7, (by decide : 0 + 0 ≤ _), (by decide : 0 + 0 ≤ _)⟩)
  dsimp only [Pt.U, Pt.locs, Pt.cells, Pt.slots] at X8 l8 y8 z8 st8 hQ8
  subst l8 y8 z8
  obtain ⟨rfl, Nq8, eq8⟩ := hQ8
  have N8 := Fr.app N6 Nq8
  obtain ⟨fs, hr, hrun, hended, hW, hsame⟩ := X8.leave (v := none) (fun _ => rfl)
  refine ⟨_, _, pre0 _ ?_, hrun, hended, _, _, rfl, ?_, ⟨_, rfl⟩, hW, hsame.mono (by decide) (by decide)⟩
  · show Steps _ _ _ (s₁.setTop (mkF m 0 #[.val (.ref cv), .val (.int (Int32.ofNat xn)), .val (.int (Int32.ofNat y)), .val (.ref x), .unset, .unset, .unset, .unset, .unset, .unset, .unset, .unset] [])) _
    refine XS.iloadN X0.here hx rfl (hb hby d5_0) rfl ?_
    refine XS.aloadN X0.here hx rfl (hb hby d5_1) rfl rfl ?_
    show Steps _ _ _ (s₁.setTop (mkF m 2 #[.val (.ref cv), .val (.int (Int32.ofNat xn)), .val (.int (Int32.ofNat y)), .val (.ref x), .unset, .unset, .unset, .unset, .unset, .unset, .unset, .unset] [(.ref cv), (.int (Int32.ofNat y))])) _
    refine st1 _ ?_
    show Steps _ _ _ (T1.setTop (mkF m 5 #[.val (.ref cv), .val (.int (Int32.ofNat xn)), .val (.int (Int32.ofNat y)), .val (.ref x), .unset, .unset, .unset, .unset, .unset, .unset, .unset, .unset] [(.int (Int32.ofNat tp)), (.int (Int32.ofNat y))])) _
    refine XS.icmpNo X1.here hx rfl (hb hby d5_5) rfl (flt (own_lo (by omega) (by omega) h1)).1 ?_
    refine XS.iloadN X1.here hx rfl (hb hby d5_8) rfl ?_
    refine XS.aloadN X1.here hx rfl (hb hby d5_9) rfl rfl ?_
    show Steps _ _ _ (T1.setTop (mkF m 10 #[.val (.ref cv), .val (.int (Int32.ofNat xn)), .val (.int (Int32.ofNat y)), .val (.ref x), .unset, .unset, .unset, .unset, .unset, .unset, .unset, .unset] [(.ref cv), (.int (Int32.ofNat y))])) _
    refine st2 _ ?_
    show Steps _ _ _ (T2.setTop (mkF m 13 #[.val (.ref cv), .val (.int (Int32.ofNat xn)), .val (.int (Int32.ofNat y)), .val (.ref x), .unset, .unset, .unset, .unset, .unset, .unset, .unset, .unset] [(.int (Int32.ofNat bt)), (.int (Int32.ofNat y))])) _
    refine XS.icmpYes X2.here hx rfl (pc0 := 13) (pc' := 17) rfl (hb hby d5_13) rfl (tlt ((own_lt (by omega) (by omega)).mpr h2)).1 (by decide) (by decide) ?_
    refine XS.iloadN X2.here hx rfl (hb hby d5_17) rfl ?_
    refine XS.aloadN X2.here hx rfl (hb hby d5_18) rfl rfl ?_
    show Steps _ _ _ (T2.setTop (mkF m 19 #[.val (.ref cv), .val (.int (Int32.ofNat xn)), .val (.int (Int32.ofNat y)), .val (.ref x), .unset, .unset, .unset, .unset, .unset, .unset, .unset, .unset] [(.ref cv), (.int (Int32.ofNat xn))])) _
    refine st3 _ ?_
    show Steps _ _ _ (T3.setTop (mkF m 22 #[.val (.ref cv), .val (.int (Int32.ofNat xn)), .val (.int (Int32.ofNat y)), .val (.ref x), .unset, .unset, .unset, .unset, .unset, .unset, .unset, .unset] [(.int (Int32.ofNat lf)), (.int (Int32.ofNat xn))])) _
    refine st4 _ ?_
    show Steps _ _ _ (T4.setTop (mkF m 25 #[.val (.ref cv), .val (.int (Int32.ofNat xn)), .val (.int (Int32.ofNat y)), .val (.ref x), .unset, .unset, .unset, .unset, .unset, .unset, .unset, .unset] [(.int (own_mx (Int32.ofNat xn) (Int32.ofNat lf)))])) _
    refine XS.istore X4.here hx rfl (hb hby d5_25) rfl (l' := #[.val (.ref cv), .val (.int (Int32.ofNat xn)), .val (.int (Int32.ofNat y)), .val (.ref x), .val (.int (own_mx (Int32.ofNat xn) (Int32.ofNat lf))), .unset, .unset, .unset, .unset, .unset, .unset, .unset]) rfl ?_
    refine XS.iloadN X4.here hx rfl (hb hby d5_27) rfl ?_
    refine XS.i2l X4.here hx rfl (hb hby d5_28) rfl ?_
    refine XS.aloadN X4.here hx rfl (hb hby d5_29) rfl rfl ?_
    refine XS.iconst X4.here hx rfl (hb hby d5_30) ?_
    refine XS.aloadN X4.here hx rfl (hb hby d5_31) rfl rfl ?_
    show Steps _ _ _ (T4.setTop (mkF m 32 #[.val (.ref cv), .val (.int (Int32.ofNat xn)), .val (.int (Int32.ofNat y)), .val (.ref x), .val (.int (own_mx (Int32.ofNat xn) (Int32.ofNat lf))), .unset, .unset, .unset, .unset, .unset, .unset, .unset] [(.ref x), (.int 0), (.ref x), (.long ((Int32.ofNat xn).toInt64))])) _
    refine st5.trans ?_
    show Steps _ _ _ (T5.setTop (mkF m 35 #[.val (.ref cv), .val (.int (Int32.ofNat xn)), .val (.int (Int32.ofNat y)), .val (.ref x), .val (.int (own_mx (Int32.ofNat xn) (Int32.ofNat lf))), .unset, .unset, .unset, .unset, .unset, .unset, .unset] [(.int (Int32.ofNat ([81] : List Int32).length)), (.int 0), (.ref x), (.long ((Int32.ofNat xn).toInt64))])) _
    rw [(rfl : Int32.ofNat ([81] : List Int32).length = (1 : Int32))]
    show Steps _ _ _ (T5.setTop (mkF m 35 #[.val (.ref cv), .val (.int (Int32.ofNat xn)), .val (.int (Int32.ofNat y)), .val (.ref x), .val (.int (own_mx (Int32.ofNat xn) (Int32.ofNat lf))), .unset, .unset, .unset, .unset, .unset, .unset, .unset] [(.int 1), (.int 0), (.ref x), (.long ((Int32.ofNat xn).toInt64))])) _
    refine st6.trans ?_
    show Steps _ _ _ (T6.setTop (mkF m 38 #[.val (.ref cv), .val (.int (Int32.ofNat xn)), .val (.int (Int32.ofNat y)), .val (.ref x), .val (.int (own_mx (Int32.ofNat xn) (Int32.ofNat lf))), .unset, .unset, .unset, .unset, .unset, .unset, .unset] [(.int 1), (.long ((Int32.ofNat xn).toInt64))])) _
    refine XS.i2l X6.here hx rfl (hb hby d5_38) rfl ?_
    show Steps _ _ _ (T6.setTop (mkF m 39 #[.val (.ref cv), .val (.int (Int32.ofNat xn)), .val (.int (Int32.ofNat y)), .val (.ref x), .val (.int (own_mx (Int32.ofNat xn) (Int32.ofNat lf))), .unset, .unset, .unset, .unset, .unset, .unset, .unset] [(.long ((1 : Int32).toInt64)), (.long ((Int32.ofNat xn).toInt64))])) _
    rw [(by decide : ((1 : Int32).toInt64) = (1 : Int64))]
    show Steps _ _ _ (T6.setTop (mkF m 39 #[.val (.ref cv), .val (.int (Int32.ofNat xn)), .val (.int (Int32.ofNat y)), .val (.ref x), .val (.int (own_mx (Int32.ofNat xn) (Int32.ofNat lf))), .unset, .unset, .unset, .unset, .unset, .unset, .unset] [(.long (1 : Int64)), (.long ((Int32.ofNat xn).toInt64))])) _
    refine XS.ladd X6.here hx rfl (hb hby d5_39) rfl ?_
    refine XS.lstore X6.here hx rfl (hb hby d5_40) rfl (l' := #[.val (.ref cv), .val (.int (Int32.ofNat xn)), .val (.int (Int32.ofNat y)), .val (.ref x), .val (.int (own_mx (Int32.ofNat xn) (Int32.ofNat lf))), .val (.long (((Int32.ofNat xn).toInt64) + (1 : Int64))), .second, .unset, .unset, .unset, .unset, .unset]) rfl ?_
    refine XS.aloadN X6.here hx rfl (hb hby d5_42) rfl rfl ?_
    show Steps _ _ _ (T6.setTop (mkF m 43 #[.val (.ref cv), .val (.int (Int32.ofNat xn)), .val (.int (Int32.ofNat y)), .val (.ref x), .val (.int (own_mx (Int32.ofNat xn) (Int32.ofNat lf))), .val (.long (((Int32.ofNat xn).toInt64) + (1 : Int64))), .second, .unset, .unset, .unset, .unset, .unset] [(.ref cv)])) _
    refine st7 _ ?_
    show Steps _ _ _ (T7.setTop (mkF m 46 #[.val (.ref cv), .val (.int (Int32.ofNat xn)), .val (.int (Int32.ofNat y)), .val (.ref x), .val (.int (own_mx (Int32.ofNat xn) (Int32.ofNat lf))), .val (.long (((Int32.ofNat xn).toInt64) + (1 : Int64))), .second, .unset, .unset, .unset, .unset, .unset] [(.int (Int32.ofNat rt))])) _
    refine XS.i2l X7.here hx rfl (hb hby d5_46) rfl ?_
    refine XS.lload X7.here hx rfl (hb hby d5_47) rfl ?_
    show Steps _ _ _ (T7.setTop (mkF m 49 #[.val (.ref cv), .val (.int (Int32.ofNat xn)), .val (.int (Int32.ofNat y)), .val (.ref x), .val (.int (own_mx (Int32.ofNat xn) (Int32.ofNat lf))), .val (.long (((Int32.ofNat xn).toInt64) + (1 : Int64))), .second, .unset, .unset, .unset, .unset, .unset] [(.long (((Int32.ofNat xn).toInt64) + (1 : Int64))), (.long ((Int32.ofNat rt).toInt64))])) _
    refine st8 _ ?_
    show Steps _ _ _ (T8.setTop (mkF m 52 #[.val (.ref cv), .val (.int (Int32.ofNat xn)), .val (.int (Int32.ofNat y)), .val (.ref x), .val (.int (own_mx (Int32.ofNat xn) (Int32.ofNat lf))), .val (.long (((Int32.ofNat xn).toInt64) + (1 : Int64))), .second, .unset, .unset, .unset, .unset, .unset] [(.long (own_mn ((Int32.ofNat rt).toInt64) (((Int32.ofNat xn).toInt64) + (1 : Int64))))])) _
    refine XS.l2i X8.here hx rfl (hb hby d5_52) rfl ?_
    refine XS.istore X8.here hx rfl (hb hby d5_53) rfl (l' := #[.val (.ref cv), .val (.int (Int32.ofNat xn)), .val (.int (Int32.ofNat y)), .val (.ref x), .val (.int (own_mx (Int32.ofNat xn) (Int32.ofNat lf))), .val (.long (((Int32.ofNat xn).toInt64) + (1 : Int64))), .second, .val (.int ((own_mn ((Int32.ofNat rt).toInt64) (((Int32.ofNat xn).toInt64) + (1 : Int64))).toInt32)), .unset, .unset, .unset, .unset]) rfl ?_
    refine XS.iload X8.here hx rfl (hb hby d5_55) rfl ?_
    refine XS.iload X8.here hx rfl (hb hby d5_57) rfl ?_
    refine XS.icmpNo X8.here hx rfl (hb hby d5_59) rfl (flt (own_outC (by omega) hlf hrt h3)).2.2.1 ?_
    show Steps _ _ _ (T8.setTop (mkF m 62 #[.val (.ref cv), .val (.int (Int32.ofNat xn)), .val (.int (Int32.ofNat y)), .val (.ref x), .val (.int (own_mx (Int32.ofNat xn) (Int32.ofNat lf))), .val (.long (((Int32.ofNat xn).toInt64) + (1 : Int64))), .second, .val (.int ((own_mn ((Int32.ofNat rt).toInt64) (((Int32.ofNat xn).toInt64) + (1 : Int64))).toInt32)), .unset, .unset, .unset, .unset] [])) _
    exact X8.returnOut hx Bd.returns (hb hby d5_62) hr
  · show own_Q Z none h0 n0 _ T8.heap _
    rw [eq8]
    exact ⟨rfl, N8, rfl⟩
theorem rmWO (l : Launch) (Z : State) (a0 : Array Value) (hw : ∀ d ∈ tables_1, d.before a0 Z = true) (ws : List Jvm.Cond) (G1 : Int32) (G3 : Value) (cv : Addr) (R : Addr) (kR : ClassId) (y : Nat) (lf : Nat) (tp : Nat) (rt : Nat) (bt : Nat) (x : Addr) (xn : Nat) (h0 : Heap) (n0 : Nat) (Z0 : n0 ≤ h0.size) (EN : own_env Z G1 G3) (X00 : Old Z n0 h0) (E_cv : Exa Z h0 cv "dev/treefold/text/Canvas") (F_width_cv : Fld Z h0 cv "dev/treefold/text/Canvas" "width" "I" (.int 4)) (F_rows_cv : Fld Z h0 cv "dev/treefold/text/Canvas" "rows" "[[I" (.ref R)) (F_clipLeft_cv : Fld Z h0 cv "dev/treefold/text/Canvas" "clipLeft" "I" (.int (Int32.ofNat lf))) (F_clipTop_cv : Fld Z h0 cv "dev/treefold/text/Canvas" "clipTop" "I" (.int (Int32.ofNat tp))) (F_clipRight_cv : Fld Z h0 cv "dev/treefold/text/Canvas" "clipRight" "I" (.int (Int32.ofNat rt))) (F_clipBottom_cv : Fld Z h0 cv "dev/treefold/text/Canvas" "clipBottom" "I" (.int (Int32.ofNat bt))) (S_x : own_s Z h0 x ([81] : List Int32)) (hlf : lf ≤ 4) (htp : tp ≤ 3) (hrt : rt ≤ 4) (hbt : bt ≤ 3) (hxn : xn < 4) (hy : y < 3) (hout : ¬ (lf ≤ xn ∧ xn < rt ∧ tp ≤ y ∧ y < bt)) :
    MetFree l y_26 (head1 (Jvm.Cond.code y_26 prog_104_method_2_code 12 none :: ws) ({ frames := 3, cells := 0, slots := 0, locals := 45 } : Room)) (fun a_ U_ => a_ = #[(.ref cv), (.int (Int32.ofNat xn)), (.int (Int32.ofNat y)), (.ref x)] ∧ Z.Warmed39 U_.vm ∧ U_.heap = h0) (fun _ _ _ _ _ => True) (fun _ U_ o_ U1_ => ∃ v_ L_, o_ = .returned v_ ∧ own_Q Z none h0 n0 v_ U1_.heap L_ ∧ FrameEnd U_ o_ U1_ L_ ({ frames := 3, cells := 0, slots := 0, locals := 45 } : Room).cells ({ frames := 3, cells := 0, slots := 0, locals := 45 } : Room).slots) := by
  by_cases h1 : y < tp
  · exact rmWOA l Z a0 hw ws G1 G3 cv R kR y lf tp rt bt x xn h0 n0 Z0 EN X00 E_cv F_width_cv F_rows_cv F_clipLeft_cv F_clipTop_cv F_clipRight_cv F_clipBottom_cv S_x hlf htp hrt hbt hxn hy h1
  · by_cases h2 : y < bt
    · exact rmWOC l Z a0 hw ws G1 G3 cv R kR y lf tp rt bt x xn h0 n0 Z0 EN X00 E_cv F_width_cv F_rows_cv F_clipLeft_cv F_clipTop_cv F_clipRight_cv F_clipBottom_cv S_x hlf htp hrt hbt hxn hy h1 h2 (fun q => hout ⟨q.1, q.2, by omega, h2⟩)
    · exact rmWOB l Z a0 hw ws G1 G3 cv R kR y lf tp rt bt x xn h0 n0 Z0 EN X00 E_cv F_width_cv F_rows_cv F_clipLeft_cv F_clipTop_cv F_clipRight_cv F_clipBottom_cv S_x hlf htp hrt hbt hxn hy h1 h2
theorem d39_0 : decode jdk_41_method_13_code 0 = .ok (.iload_n 2, 1) := by decide +kernel
theorem d39_1 : decode jdk_41_method_13_code 1 = .ok (.iload_n 0, 1) := by decide +kernel
theorem d39_2 : decode jdk_41_method_13_code 2 = .ok (.ior, 1) := by decide +kernel
theorem d39_3 : decode jdk_41_method_13_code 3 = .ok (.iload_n 1, 1) := by decide +kernel
theorem d39_4 : decode jdk_41_method_13_code 4 = .ok (.ior, 1) := by decide +kernel
theorem d39_5 : decode jdk_41_method_13_code 5 = .ok (.ifCond .lt 10, 3) := by decide +kernel
theorem d39_8 : decode jdk_41_method_13_code 8 = .ok (.iload_n 1, 1) := by decide +kernel
theorem d39_9 : decode jdk_41_method_13_code 9 = .ok (.iload_n 2, 1) := by decide +kernel
theorem d39_10 : decode jdk_41_method_13_code 10 = .ok (.iload_n 0, 1) := by decide +kernel
theorem d39_11 : decode jdk_41_method_13_code 11 = .ok (.isub, 1) := by decide +kernel
theorem d39_12 : decode jdk_41_method_13_code 12 = .ok (.if_icmp .le 11, 3) := by decide +kernel
theorem d39_23 : decode jdk_41_method_13_code 23 = .ok (.iload_n 0, 1) := by decide +kernel
theorem d39_24 : decode jdk_41_method_13_code 24 = .ok (.ireturn, 1) := by decide +kernel
theorem pn_39 : plainName "jdk/internal/util/Preconditions" = true := by first | (simp [plainName, overriddenIn]; done) | decide +kernel
theorem ef_39_rrrv (m : MethodId) (x0 : Int32) (x1 : Int32) (x2 : Int32) (x3 : Value) (y3 : x3.isRef = true) : entryFrame m #[(.int x0), (.int x1), (.int x1), x3] 4 = mkF m 0 #[.val (.int x0), .val (.int x1), .val (.int x1), .val x3] [] := by rcases ref_cases y3 with rfl | ⟨z3, rfl⟩ <;> first | (simp [entryFrame, mkF, argsToLocals, Value.category]; done) | rfl
theorem rmCFS (l : Launch) (Z : State) (a0 : Array Value) (hw : ∀ d ∈ tables_1, d.before a0 Z = true) (ws : List Jvm.Cond) (G3 : Value) (n : Nat) (h0 : Heap) (n0 : Nat) (Z0 : n0 ≤ h0.size) (rG3 : G3.isRef = true) (hn4 : n ≤ 4) :
    MetFree l y_27 (head1 (Jvm.Cond.code y_27 jdk_41_method_13_code 4 (some .int) :: ws) ({ frames := 0, cells := 0, slots := 0, locals := 0 } : Room)) (fun a_ U_ => a_ = #[(.int 0), (.int (Int32.ofNat n)), (.int (Int32.ofNat n)), G3] ∧ Z.Warmed39 U_.vm ∧ U_.heap = h0) (fun _ _ _ _ _ => True) (fun _ U_ o_ U1_ => ∃ v_ L_, o_ = .returned v_ ∧ own_Q Z (some (.int 0)) h0 n0 v_ U1_.heap L_ ∧ FrameEnd U_ o_ U1_ L_ ({ frames := 0, cells := 0, slots := 0, locals := 0 } : Room).cells ({ frames := 0, cells := 0, slots := 0, locals := 0 } : Room).slots) := by
  refine MetFree.of_bodySF (plainFor_of_name pn_39) hisR ?_
  intro p e s m args below meth c s₁ Bd hml0 hP hK
  obtain ⟨rfl, hZ, hh⟩ := hP
  have hx := Bd.exec
  have hby := Bd.bytes
  have hml : c.maxLocals = 4 := hml0
  have hown : s.vm.findClass "jdk/internal/util/Preconditions" = some m.cls := findClass_of_methodNamed Bd.named
  have hnm := (name_of_methodNamed Bd.named Bd.method).1
  have X0 : Stand p l e ({ frames := 0, cells := 0, slots := 0, locals := 0 } : Room) s m #[(.int 0), (.int (Int32.ofNat n)), (.int (Int32.ofNat n)), G3] below meth c s₁ [] 0 0 := Stand.of_body Bd
  have e0 : s₁.heap = h0 := by rw [← hh, Bd.state]; rfl
  have N0 := Fr.nil n0
  have pre0 : ∀ tt, Steps p.tables e below (s₁.setTop (mkF m 0 #[.val (.int 0), .val (.int (Int32.ofNat n)), .val (.int (Int32.ofNat n)), .val G3] [])) tt → Steps p.tables e below (s₁.setTop (entryFrame m #[(.int 0), (.int (Int32.ofNat n)), (.int (Int32.ofNat n)), G3] 4)) tt := fun tt kk => castTop (ef_39_rrrv m (0 : Int32) (Int32.ofNat n) (Int32.ofNat n) G3 rG3) kk
  obtain ⟨fs, hr, hrun, hended, hW, hsame⟩ := X0.leave (v := some (.int 0)) (fun h => by rw [Bd.returns] at h; cases h)
  refine ⟨_, _, pre0 _ ?_, hrun, hended, _, _, rfl, ?_, ⟨_, rfl⟩, hW, hsame.mono (by decide) (by decide)⟩
  · show Steps _ _ _ (s₁.setTop (mkF m 0 #[.val (.int 0), .val (.int (Int32.ofNat n)), .val (.int (Int32.ofNat n)), .val G3] [])) _
    refine XS.iloadN X0.here hx rfl (hb hby d39_0) rfl ?_
    refine XS.iloadN X0.here hx rfl (hb hby d39_1) rfl ?_
    refine XS.ior X0.here hx rfl (hb hby d39_2) rfl ?_
    refine XS.iloadN X0.here hx rfl (hb hby d39_3) rfl ?_
    refine XS.ior X0.here hx rfl (hb hby d39_4) rfl ?_
    refine XS.ifNo X0.here hx rfl (hb hby d39_5) rfl ((if0 _ _).trans (flt (own_or hn4)).1) ?_
    refine XS.iloadN X0.here hx rfl (hb hby d39_8) rfl ?_
    refine XS.iloadN X0.here hx rfl (hb hby d39_9) rfl ?_
    refine XS.iloadN X0.here hx rfl (hb hby d39_10) rfl ?_
    refine XS.isub X0.here hx rfl (hb hby d39_11) rfl ?_
    show Steps _ _ _ (s₁.setTop (mkF m 12 #[.val (.int 0), .val (.int (Int32.ofNat n)), .val (.int (Int32.ofNat n)), .val G3] [(.int ((Int32.ofNat n) - (0 : Int32))), (.int (Int32.ofNat n))])) _
    rw [(own_s0 n)]
    show Steps _ _ _ (s₁.setTop (mkF m 12 #[.val (.int 0), .val (.int (Int32.ofNat n)), .val (.int (Int32.ofNat n)), .val G3] [(.int (Int32.ofNat n)), (.int (Int32.ofNat n))])) _
    refine XS.icmpYes X0.here hx rfl (pc0 := 12) (pc' := 23) rfl (hb hby d39_12) rfl (flt (Int32.lt_irrefl : ¬ ((Int32.ofNat n) < (Int32.ofNat n)))).2.2.2 (by decide) (by decide) ?_
    refine XS.iloadN X0.here hx rfl (hb hby d39_23) rfl ?_
    show Steps _ _ _ (s₁.setTop (mkF m 24 #[.val (.int 0), .val (.int (Int32.ofNat n)), .val (.int (Int32.ofNat n)), .val G3] [(.int 0)])) _
    exact retI X0 hx Bd.returns (hb hby d39_24) hr
  · show own_Q Z (some (.int 0)) h0 n0 _ s₁.heap _
    rw [e0]
    exact ⟨rfl, N0, rfl⟩
theorem d38_0 : decode jdk_42_method_157_code 0 = .ok (.iload_n 0, 1) := by decide +kernel
theorem d38_1 : decode jdk_42_method_157_code 1 = .ok (.iload_n 1, 1) := by decide +kernel
theorem d38_2 : decode jdk_42_method_157_code 2 = .ok (.iload_n 2, 1) := by decide +kernel
theorem d38_3 : decode jdk_42_method_157_code 3 = .ok (.getstatic 1053, 3) := by decide +kernel
theorem d38_6 : decode jdk_42_method_157_code 6 = .ok (.invokestatic 1065, 3) := by decide +kernel
theorem d38_9 : decode jdk_42_method_157_code 9 = .ok (.ireturn, 1) := by decide +kernel
theorem pn_38 : plainName "java/lang/String" = true := by first | (simp [plainName, overriddenIn]; done) | decide +kernel
theorem ef_38_rrr (m : MethodId) (x0 : Int32) (x1 : Int32) (x2 : Int32) : entryFrame m #[(.int x0), (.int x1), (.int x1)] 3 = mkF m 0 #[.val (.int x0), .val (.int x1), .val (.int x1)] [] := by first | (simp [entryFrame, mkF, argsToLocals, Value.category]; done) | rfl
theorem rmSBO (l : Launch) (Z : State) (a0 : Array Value) (hw : ∀ d ∈ tables_1, d.before a0 Z = true) (ws : List Jvm.Cond) (G1 : Int32) (G3 : Value) (n : Nat) (h0 : Heap) (n0 : Nat) (Z0 : n0 ≤ h0.size) (EN : own_env Z G1 G3) (X00 : Old Z n0 h0) (hn4 : n ≤ 4) :
    MetFree l y_28 (head1 (Jvm.Cond.code y_28 jdk_42_method_157_code 3 (some .int) :: ws) ({ frames := 1, cells := 0, slots := 0, locals := 15 } : Room)) (fun a_ U_ => a_ = #[(.int 0), (.int (Int32.ofNat n)), (.int (Int32.ofNat n))] ∧ Z.Warmed39 U_.vm ∧ U_.heap = h0) (fun _ _ _ _ _ => True) (fun _ U_ o_ U1_ => ∃ v_ L_, o_ = .returned v_ ∧ own_Q Z (some (.int 0)) h0 n0 v_ U1_.heap L_ ∧ FrameEnd U_ o_ U1_ L_ ({ frames := 1, cells := 0, slots := 0, locals := 15 } : Room).cells ({ frames := 1, cells := 0, slots := 0, locals := 15 } : Room).slots) := by
  refine MetFree.of_bodySF (plainFor_of_name pn_38) hisR ?_
  intro p e s m args below meth c s₁ Bd hml0 hP hK
  obtain ⟨rfl, hZ, hh⟩ := hP
  have hx := Bd.exec
  have hby := Bd.bytes
  have hml : c.maxLocals = 3 := hml0
  have hown : s.vm.findClass "java/lang/String" = some m.cls := findClass_of_methodNamed Bd.named
  have hnm := (name_of_methodNamed Bd.named Bd.method).1
  have X0 : Stand p l e ({ frames := 1, cells := 0, slots := 0, locals := 15 } : Room) s m #[(.int 0), (.int (Int32.ofNat n)), (.int (Int32.ofNat n))] below meth c s₁ [] 0 0 := Stand.of_body Bd
  have e0 : s₁.heap = h0 := by rw [← hh, Bd.state]; rfl
  have N0 := Fr.nil n0
  have pre0 : ∀ tt, Steps p.tables e below (s₁.setTop (mkF m 0 #[.val (.int 0), .val (.int (Int32.ofNat n)), .val (.int (Int32.ofNat n))] [])) tt → Steps p.tables e below (s₁.setTop (entryFrame m #[(.int 0), (.int (Int32.ofNat n)), (.int (Int32.ofNat n))] 3)) tt := fun tt kk => castTop (ef_38_rrr m (0 : Int32) (Int32.ofNat n) (Int32.ofNat n)) kk
  have EN0 := EN
  obtain ⟨O2, P5, O4, rG3⟩ := EN
  obtain ⟨T1, X1, e1, st1⟩ := getS2 X0 hx hZ hown (host := "") (Or.inl (hw _ (tk 212 rfl))) Via.refl e0 (Sta.ext X00.2 O4) (g := (mkF m 3 #[.val (.int 0), .val (.int (Int32.ofNat n)), .val (.int (Int32.ofNat n))] [(.int (Int32.ofNat n)), (.int (Int32.ofNat n)), (.int 0)])) rfl (hb hby d38_3)
  obtain ⟨_, _, ⟨T2, L2, k2, n2⟩, -, X2, ⟨Lc2, hQ2, l2, y2, z2⟩, st2⟩ := Jvm.LawKit.callS X1 hx (y := y_27) hown (mvT hZ (hw _ (tk 232 rfl))) (mvT hZ (hw _ (tk 233 rfl))) (mvT hZ (hw _ (tk 120 rfl))) (mvT hZ (hw _ (tk 234 rfl))) (by decide) (backOf (W := 0) (rmCFS l Z a0 hw [] G3 n h0 n0 Z0 rG3 hn4) hZ (hw _ (tk 234 rfl)) (hw _ (tk 120 rfl)) (by decide) (by decide)) (g := (mkF m 6 #[.val (.int 0), .val (.int (Int32.ofNat n)), .val (.int (Int32.ofNat n))] [G3, (.int (Int32.ofNat n)), (.int (Int32.ofNat n)), (.int 0)])) rfl (by rw [hml]; rfl) (argsL := [(.int 0), (.int (Int32.ofNat n)), (.int (Int32.ofNat n)), G3]) (rest := []) (lenOf pd__IIILjava_util_function_BiFunction__I rfl) rfl (by show 2 * 0 + _ ≤ _; exact Nat.le_of_eq rfl) (hb hby d38_6) (fun _ _ => ⟨rfl, e1, (by decide : 0 + 0 ≤ _), (by decide : 0 + 0 ≤ _)⟩)
  dsimp only [Pt.U, Pt.locs, Pt.cells, Pt.slots] at X2 l2 y2 z2 st2 hQ2
  subst l2 y2 z2
  obtain ⟨rfl, Nq2, eq2⟩ := hQ2
  have N2 := Fr.app N0 Nq2
  obtain ⟨fs, hr, hrun, hended, hW, hsame⟩ := X2.leave (v := some (.int 0)) (fun h => by rw [Bd.returns] at h; cases h)
  refine ⟨_, _, pre0 _ ?_, hrun, hended, _, _, rfl, ?_, ⟨_, rfl⟩, hW, hsame.mono (by decide) (by decide)⟩
  · show Steps _ _ _ (s₁.setTop (mkF m 0 #[.val (.int 0), .val (.int (Int32.ofNat n)), .val (.int (Int32.ofNat n))] [])) _
    refine XS.iloadN X0.here hx rfl (hb hby d38_0) rfl ?_
    refine XS.iloadN X0.here hx rfl (hb hby d38_1) rfl ?_
    refine XS.iloadN X0.here hx rfl (hb hby d38_2) rfl ?_
    show Steps _ _ _ (s₁.setTop (mkF m 3 #[.val (.int 0), .val (.int (Int32.ofNat n)), .val (.int (Int32.ofNat n))] [(.int (Int32.ofNat n)), (.int (Int32.ofNat n)), (.int 0)])) _
    refine st1 _ ?_
    show Steps _ _ _ (T1.setTop (mkF m 6 #[.val (.int 0), .val (.int (Int32.ofNat n)), .val (.int (Int32.ofNat n))] [G3, (.int (Int32.ofNat n)), (.int (Int32.ofNat n)), (.int 0)])) _
    refine st2 _ ?_
    show Steps _ _ _ (T2.setTop (mkF m 9 #[.val (.int 0), .val (.int (Int32.ofNat n)), .val (.int (Int32.ofNat n))] [(.int 0)])) _
    exact retI X2 hx Bd.returns (hb hby d38_9) hr
  · show own_Q Z (some (.int 0)) h0 n0 _ T2.heap _
    rw [eq2]
    exact ⟨rfl, N2, rfl⟩
theorem d41_0 : decode jdk_52_method_15_code 0 = .ok (.iload_n 1, 1) := by decide +kernel
theorem d41_1 : decode jdk_52_method_15_code 1 = .ok (.aload_n 0, 1) := by decide +kernel
theorem d41_2 : decode jdk_52_method_15_code 2 = .ok (.arraylength, 1) := by decide +kernel
theorem d41_3 : decode jdk_52_method_15_code 3 = .ok (.isub, 1) := by decide +kernel
theorem d41_4 : decode jdk_52_method_15_code 4 = .ok (.bipush 31, 2) := by decide +kernel
theorem d41_6 : decode jdk_52_method_15_code 6 = .ok (.iushr, 1) := by decide +kernel
theorem d41_7 : decode jdk_52_method_15_code 7 = .ok (.i2b, 1) := by decide +kernel
theorem d41_8 : decode jdk_52_method_15_code 8 = .ok (.ireturn, 1) := by decide +kernel
theorem pn_41 : plainName "java/lang/StringUTF16" = true := by first | (simp [plainName, overriddenIn]; done) | decide +kernel
theorem ef_41_rr (m : MethodId) (x0 : Addr) (x1 : Int32) : entryFrame m #[(.ref x0), (.int x1)] 2 = mkF m 0 #[.val (.ref x0), .val (.int x1)] [] := by first | (simp [entryFrame, mkF, argsToLocals, Value.category]; done) | rfl
theorem rmCA (l : Launch) (Z : State) (a0 : Array Value) (hw : ∀ d ∈ tables_1, d.before a0 Z = true) (ws : List Jvm.Cond) (t : Addr) (kt : ClassId) (vs : List Value) (n : Nat) (h0 : Heap) (n0 : Nat) (Z0 : n0 ≤ h0.size) (V_t : Arv Z h0 t kt .byte (Int32.ofNat n) vs (.int 0)) :
    MetFree l y_29 (head1 (Jvm.Cond.code y_29 jdk_52_method_15_code 2 (some .byte) :: ws) ({ frames := 0, cells := 0, slots := 0, locals := 0 } : Room)) (fun a_ U_ => a_ = #[(.ref t), (.int (Int32.ofNat n))] ∧ Z.Warmed39 U_.vm ∧ U_.heap = h0) (fun _ _ _ _ _ => True) (fun _ U_ o_ U1_ => ∃ v_ L_, o_ = .returned v_ ∧ own_Q Z (some (.int 0)) h0 n0 v_ U1_.heap L_ ∧ FrameEnd U_ o_ U1_ L_ ({ frames := 0, cells := 0, slots := 0, locals := 0 } : Room).cells ({ frames := 0, cells := 0, slots := 0, locals := 0 } : Room).slots) := by
  refine MetFree.of_bodySF (plainFor_of_name pn_41) hisR ?_
  intro p e s m args below meth c s₁ Bd hml0 hP hK
  obtain ⟨rfl, hZ, hh⟩ := hP
  have hx := Bd.exec
  have hby := Bd.bytes
  have hml : c.maxLocals = 2 := hml0
  have hown : s.vm.findClass "java/lang/StringUTF16" = some m.cls := findClass_of_methodNamed Bd.named
  have hnm := (name_of_methodNamed Bd.named Bd.method).1
  have X0 : Stand p l e ({ frames := 0, cells := 0, slots := 0, locals := 0 } : Room) s m #[(.ref t), (.int (Int32.ofNat n))] below meth c s₁ [] 0 0 := Stand.of_body Bd
  have e0 : s₁.heap = h0 := by rw [← hh, Bd.state]; rfl
  have N0 := Fr.nil n0
  have pre0 : ∀ tt, Steps p.tables e below (s₁.setTop (mkF m 0 #[.val (.ref t), .val (.int (Int32.ofNat n))] [])) tt → Steps p.tables e below (s₁.setTop (entryFrame m #[(.ref t), (.int (Int32.ofNat n))] 2)) tt := fun tt kk => castTop (ef_41_rr m t (Int32.ofNat n)) kk
  obtain ⟨c1, Ar1, -, S1, M1, -, -⟩ := id V_t
  obtain ⟨fs, hr, hrun, hended, hW, hsame⟩ := X0.leave (v := some (.int 0)) (fun h => by rw [Bd.returns] at h; cases h)
  refine ⟨_, _, pre0 _ ?_, hrun, hended, _, _, rfl, ?_, ⟨_, rfl⟩, hW, hsame.mono (by decide) (by decide)⟩
  · show Steps _ _ _ (s₁.setTop (mkF m 0 #[.val (.ref t), .val (.int (Int32.ofNat n))] [])) _
    refine XS.iloadN X0.here hx rfl (hb hby d41_0) rfl ?_
    refine XS.aloadN X0.here hx rfl (hb hby d41_1) rfl rfl ?_
    show Steps _ _ _ (s₁.setTop (mkF m 2 #[.val (.ref t), .val (.int (Int32.ofNat n))] [(.ref t), (.int (Int32.ofNat n))])) _
    refine X0.arraylength hx (by rw [e0]; exact Ar1.1) (State.isArrayOf_alike hZ.alike Ar1.2.1) (g := (mkF m 2 #[.val (.ref t), .val (.int (Int32.ofNat n))] [(.ref t), (.int (Int32.ofNat n))])) rfl rfl (hb hby d41_2) _ ?_
    rw [len_of S1 M1]
    show Steps _ _ _ (s₁.setTop (mkF m 3 #[.val (.ref t), .val (.int (Int32.ofNat n))] [(.int (Int32.ofNat n)), (.int (Int32.ofNat n))])) _
    refine XS.isub X0.here hx rfl (hb hby d41_3) rfl ?_
    show Steps _ _ _ (s₁.setTop (mkF m 4 #[.val (.ref t), .val (.int (Int32.ofNat n))] [(.int ((Int32.ofNat n) - (Int32.ofNat n)))])) _
    rw [(Int32.sub_self (Int32.ofNat n))]
    show Steps _ _ _ (s₁.setTop (mkF m 4 #[.val (.ref t), .val (.int (Int32.ofNat n))] [(.int 0)])) _
    refine XS.bipush X0.here hx rfl (hb hby d41_4) ?_
    refine XS.iushr X0.here hx rfl (hb hby d41_6) rfl ?_
    show Steps _ _ _ (s₁.setTop (mkF m 7 #[.val (.ref t), .val (.int (Int32.ofNat n))] [(.int (((0 : Int32).toUInt32 >>> ((31 : Int32) &&& 31).toUInt32).toInt32))])) _
    rw [(by decide : (((0 : Int32).toUInt32 >>> ((31 : Int32) &&& 31).toUInt32).toInt32) = (0 : Int32))]
    show Steps _ _ _ (s₁.setTop (mkF m 7 #[.val (.ref t), .val (.int (Int32.ofNat n))] [(.int 0)])) _
    refine XS.i2b X0.here hx rfl (hb hby d41_7) rfl ?_
    show Steps _ _ _ (s₁.setTop (mkF m 8 #[.val (.ref t), .val (.int (Int32.ofNat n))] [(.int ((0 : Int32).toInt8.toInt32))])) _
    rw [(by decide : ((0 : Int32).toInt8.toInt32) = (0 : Int32))]
    show Steps _ _ _ (s₁.setTop (mkF m 8 #[.val (.ref t), .val (.int (Int32.ofNat n))] [(.int 0)])) _
    exact retN X0 hx (t := .byte) Bd.returns (by simp) (hb hby d41_8) hr
  · show own_Q Z (some (.int 0)) h0 n0 _ s₁.heap _
    rw [e0]
    exact ⟨rfl, N0, rfl⟩
theorem own_by2 {cs : List Int32} (hp : ∀ c ∈ cs, ¬ c < 0 ∧ ¬ (255 : Int32) < c) {i : Nat} (h : i < cs.length) : (own_by (cs.take i) ++ List.replicate 1 (Value.int (0 : Int32))).set i (Value.int (nar .byte ((cs.getD i 0).toInt8.toInt32))) = own_by (cs.take (i + 1)) := by rw [own_b8 (own_at8 hp h)]; exact own_by1 cs i h
def own_QCP (Z : State) (cs : List Int32) (h0 : Heap) (n0 : Nat) (v : Option Value) (h : Heap) (L : List Loc) : Prop := ∃ (t : Addr) (kt : ClassId), v = some (.ref t) ∧ Fr n0 L ∧ n0 ≤ t ∧ h0.size ≤ t ∧ Keep h0 h [] ∧ Arv Z h t kt .byte (Int32.ofNat cs.length) (own_by cs) (.int 0)
theorem d40_0 : decode jdk_52_method_18_code 0 = .ok (.iload_n 2, 1) := by decide +kernel
theorem d40_1 : decode jdk_52_method_18_code 1 = .ok (.newarray .byte, 2) := by decide +kernel
theorem d40_3 : decode jdk_52_method_18_code 3 = .ok (.astore_n 3, 1) := by decide +kernel
theorem d40_4 : decode jdk_52_method_18_code 4 = .ok (.iload_n 1, 1) := by decide +kernel
theorem d40_5 : decode jdk_52_method_18_code 5 = .ok (.iload_n 2, 1) := by decide +kernel
theorem d40_6 : decode jdk_52_method_18_code 6 = .ok (.iadd, 1) := by decide +kernel
theorem d40_7 : decode jdk_52_method_18_code 7 = .ok (.istore 4, 2) := by decide +kernel
theorem d40_9 : decode jdk_52_method_18_code 9 = .ok (.iconst 0, 1) := by decide +kernel
theorem d40_10 : decode jdk_52_method_18_code 10 = .ok (.istore 5, 2) := by decide +kernel
theorem d40_185 : decode jdk_52_method_18_code 185 = .ok (.aload_n 3, 1) := by decide +kernel
theorem d40_186 : decode jdk_52_method_18_code 186 = .ok (.areturn, 1) := by decide +kernel
theorem pn_40 : plainName "java/lang/StringUTF16" = true := by first | (simp [plainName, overriddenIn]; done) | decide +kernel
theorem ef_40_rrr (m : MethodId) (x0 : Addr) (x1 : Int32) (x2 : Int32) : entryFrame m #[(.ref x0), (.int x1), (.int x2)] 10 = mkF m 0 #[.val (.ref x0), .val (.int x1), .val (.int x2), .unset, .unset, .unset, .unset, .unset, .unset, .unset] [] := by first | (simp [entryFrame, mkF, argsToLocals, Value.category]; done) | rfl
theorem d40_12 : decode jdk_52_method_18_code 12 = .ok (.iload 5, 2) := by decide +kernel
theorem d40_14 : decode jdk_52_method_18_code 14 = .ok (.iload_n 2, 1) := by decide +kernel
theorem d40_15 : decode jdk_52_method_18_code 15 = .ok (.if_icmp .ge 170, 3) := by decide +kernel
theorem d40_18 : decode jdk_52_method_18_code 18 = .ok (.aload_n 0, 1) := by decide +kernel
theorem d40_19 : decode jdk_52_method_18_code 19 = .ok (.iload_n 1, 1) := by decide +kernel
theorem d40_20 : decode jdk_52_method_18_code 20 = .ok (.iaload, 1) := by decide +kernel
theorem d40_21 : decode jdk_52_method_18_code 21 = .ok (.istore 6, 2) := by decide +kernel
theorem d40_23 : decode jdk_52_method_18_code 23 = .ok (.iload 6, 2) := by decide +kernel
theorem d40_25 : decode jdk_52_method_18_code 25 = .ok (.ifCond .lt 21, 3) := by decide +kernel
theorem d40_28 : decode jdk_52_method_18_code 28 = .ok (.iload 6, 2) := by decide +kernel
theorem d40_30 : decode jdk_52_method_18_code 30 = .ok (.sipush 255, 3) := by decide +kernel
theorem d40_33 : decode jdk_52_method_18_code 33 = .ok (.if_icmp .gt 13, 3) := by decide +kernel
theorem d40_36 : decode jdk_52_method_18_code 36 = .ok (.aload_n 3, 1) := by decide +kernel
theorem d40_37 : decode jdk_52_method_18_code 37 = .ok (.iload 5, 2) := by decide +kernel
theorem d40_39 : decode jdk_52_method_18_code 39 = .ok (.iload 6, 2) := by decide +kernel
theorem d40_41 : decode jdk_52_method_18_code 41 = .ok (.i2b, 1) := by decide +kernel
theorem d40_42 : decode jdk_52_method_18_code 42 = .ok (.bastore, 1) := by decide +kernel
theorem d40_43 : decode jdk_52_method_18_code 43 = .ok (.goto 133, 3) := by decide +kernel
theorem d40_176 : decode jdk_52_method_18_code 176 = .ok (.iinc 5 1, 3) := by decide +kernel
theorem d40_179 : decode jdk_52_method_18_code 179 = .ok (.iinc 1 1, 3) := by decide +kernel
theorem d40_182 : decode jdk_52_method_18_code 182 = .ok (.goto (-170), 3) := by decide +kernel
theorem tnCP0 {p : Program} {l : Launch} {e : Env} {s : State} {m : MethodId} {args : Array Value} {below : List Frame} {meth : Method} {c : Code} {s₁ : State} {L0 : List Loc} {Z : State} {a0 : Array Value} (A : Addr) (kA : ClassId) (t : Addr) (kt : ClassId) (cs : List Int32) (i : Nat) (h0 : Heap) (n0 : Nat) (X0 : Stand p l e ({ frames := 0, cells := 1, slots := 4, locals := 0 } : Room) s m args below meth c s₁ L0 1 4) (hx : p.tables.exec = Jvm.exec) (hZ : Z.Warmed39 s.vm) (hw : ∀ d ∈ tables_1, d.before a0 Z = true) (hby : c.code = jdk_52_method_18_code) (hml : c.maxLocals = 10) (hown : s.vm.findClass "java/lang/StringUTF16" = some m.cls) (e0 : s₁.heap = h0) (N0 : Fr n0 L0) (Z0 : n0 ≤ h0.size) (V_A : Arv Z h0 A kA .int (Int32.ofNat cs.length) (cs.map Value.int) (.int 0)) (V_t : Arv Z h0 t kt .byte (Int32.ofNat cs.length) (own_by (cs.take i)) (.int 0)) (g_t : n0 ≤ t) (hn4 : cs.length ≤ 4) (hp : ∀ c ∈ cs, ¬ c < 0 ∧ ¬ (255 : Int32) < c) (hi : i < cs.length) :
    ∃ (T' : State) (h' : Heap) (L' : List Loc) , Stand p l e ({ frames := 0, cells := 1, slots := 4, locals := 0 } : Room) s m args below meth c T' L' 1 4 ∧ T'.heap = h' ∧ Fr n0 L' ∧ n0 ≤ h'.size ∧ Keep h0 h' [t] ∧ Arv Z h' t kt .byte (Int32.ofNat cs.length) (own_by (cs.take (i + 1))) (.int 0) ∧ Arv Z h' A kA .int (Int32.ofNat cs.length) (cs.map Value.int) (.int 0) ∧ 
      ∀ target, Steps p.tables e below (T'.setTop (mkF m 12 #[.val (.ref A), .val (.int (Int32.ofNat (i + 1))), .val (.int (Int32.ofNat cs.length)), .val (.ref t), .val (.int (Int32.ofNat cs.length)), .val (.int (Int32.ofNat (i + 1))), .val (.int (cs.getD i 0)), .unset, .unset, .unset] [])) target → Steps p.tables e below (s₁.setTop (mkF m 12 #[.val (.ref A), .val (.int (Int32.ofNat i)), .val (.int (Int32.ofNat cs.length)), .val (.ref t), .val (.int (Int32.ofNat cs.length)), .val (.int (Int32.ofNat i)), .unset, .unset, .unset, .unset] [])) target := by
  obtain ⟨c1, Ar1, -, S1, M1, H1, -⟩ := id V_A
  have hin1 := inb_of (j := (Int32.ofNat i)) S1 (own_in hi (by omega))
  obtain ⟨c2, Ar2, q2, S2, M2, H2, Gz2⟩ := id (V_t.pad (pad_rep (own_by (cs.take i)) (.int 0) 1))
  have hin2 := inb_of (j := (Int32.ofNat i)) S2 (own_in hi (by omega))
  obtain ⟨T2, h2, X2, e2, W2, st2⟩ := stB X0 hx hZ e0 Ar2 (j := (Int32.ofNat i)) hin2 (g := (mkF m 42 #[.val (.ref A), .val (.int (Int32.ofNat i)), .val (.int (Int32.ofNat cs.length)), .val (.ref t), .val (.int (Int32.ofNat cs.length)), .val (.int (Int32.ofNat i)), .val (.int (cs.getD i 0)), .unset, .unset, .unset] [(.int ((cs.getD i 0).toInt8.toInt32)), (.int (Int32.ofNat i)), (.ref t)])) rfl rfl (hb hby d40_42)
  have V2 : Arv Z h2 t kt .byte (Int32.ofNat cs.length) (own_by (cs.take (i + 1))) (.int 0) := (by rw [← (own_by2 hp hi)]; exact Arv.set Ar2 q2 S2 M2 H2 Gz2 (fits_nar_byte _) W2 i (own_clamp (by omega)) (by rw [List.length_append, own_by_len, List.length_take]; simp; omega))
  have N2 := Fr.snoc X2 N0 g_t
  have f3 := (V_A.other W2 (own_neA V_A V_t nofun))
  refine ⟨T2, h2, _, X2, e2, N2, (Nat.le_trans Z0 (Keep.of_wr W2).1), ((Keep.refl h0 [t]).wr W2 (Or.inl (tk 0 rfl))), V2, f3, fun target kt => ?_⟩
  show Steps _ _ _ (s₁.setTop (mkF m 12 #[.val (.ref A), .val (.int (Int32.ofNat i)), .val (.int (Int32.ofNat cs.length)), .val (.ref t), .val (.int (Int32.ofNat cs.length)), .val (.int (Int32.ofNat i)), .unset, .unset, .unset, .unset] [])) _
  refine XS.iload X0.here hx rfl (hb hby d40_12) rfl ?_
  refine XS.iloadN X0.here hx rfl (hb hby d40_14) rfl ?_
  refine XS.icmpNo X0.here hx rfl (hb hby d40_15) rfl (tlt ((own_lt (by omega) (by omega)).mpr hi)).2.1 ?_
  refine XS.aloadN X0.here hx rfl (hb hby d40_18) rfl rfl ?_
  refine XS.iloadN X0.here hx rfl (hb hby d40_19) rfl ?_
  show Steps _ _ _ (s₁.setTop (mkF m 20 #[.val (.ref A), .val (.int (Int32.ofNat i)), .val (.int (Int32.ofNat cs.length)), .val (.ref t), .val (.int (Int32.ofNat cs.length)), .val (.int (Int32.ofNat i)), .unset, .unset, .unset, .unset] [(.int (Int32.ofNat i)), (.ref A)])) _
  refine X0.iaload hx (j := (Int32.ofNat i)) (v := (.int (cs.getD i 0))) (by rw [e0]; exact Ar1.1) (State.isArrayOf_alike hZ.alike Ar1.2.1) Ar1.2.2 hin1 (H1.at hin1 (own_ia cs i (by omega))) (g := (mkF m 20 #[.val (.ref A), .val (.int (Int32.ofNat i)), .val (.int (Int32.ofNat cs.length)), .val (.ref t), .val (.int (Int32.ofNat cs.length)), .val (.int (Int32.ofNat i)), .unset, .unset, .unset, .unset] [(.int (Int32.ofNat i)), (.ref A)])) rfl rfl (hb hby d40_20) _ ?_
  show Steps _ _ _ (s₁.setTop (mkF m 21 #[.val (.ref A), .val (.int (Int32.ofNat i)), .val (.int (Int32.ofNat cs.length)), .val (.ref t), .val (.int (Int32.ofNat cs.length)), .val (.int (Int32.ofNat i)), .unset, .unset, .unset, .unset] [(.int (cs.getD i 0))])) _
  refine XS.istore X0.here hx rfl (hb hby d40_21) rfl (l' := #[.val (.ref A), .val (.int (Int32.ofNat i)), .val (.int (Int32.ofNat cs.length)), .val (.ref t), .val (.int (Int32.ofNat cs.length)), .val (.int (Int32.ofNat i)), .val (.int (cs.getD i 0)), .unset, .unset, .unset]) rfl ?_
  refine XS.iload X0.here hx rfl (hb hby d40_23) rfl ?_
  refine XS.ifNo X0.here hx rfl (hb hby d40_25) rfl ((if0 _ _).trans (flt (own_at8 hp hi).1).1) ?_
  refine XS.iload X0.here hx rfl (hb hby d40_28) rfl ?_
  refine XS.sipush X0.here hx rfl (hb hby d40_30) ?_
  refine XS.icmpNo X0.here hx rfl (hb hby d40_33) rfl (flt (own_at8 hp hi).2).2.2.1 ?_
  refine XS.aloadN X0.here hx rfl (hb hby d40_36) rfl rfl ?_
  refine XS.iload X0.here hx rfl (hb hby d40_37) rfl ?_
  refine XS.iload X0.here hx rfl (hb hby d40_39) rfl ?_
  refine XS.i2b X0.here hx rfl (hb hby d40_41) rfl ?_
  show Steps _ _ _ (s₁.setTop (mkF m 42 #[.val (.ref A), .val (.int (Int32.ofNat i)), .val (.int (Int32.ofNat cs.length)), .val (.ref t), .val (.int (Int32.ofNat cs.length)), .val (.int (Int32.ofNat i)), .val (.int (cs.getD i 0)), .unset, .unset, .unset] [(.int ((cs.getD i 0).toInt8.toInt32)), (.int (Int32.ofNat i)), (.ref t)])) _
  refine st2 _ ?_
  show Steps _ _ _ (T2.setTop (mkF m 43 #[.val (.ref A), .val (.int (Int32.ofNat i)), .val (.int (Int32.ofNat cs.length)), .val (.ref t), .val (.int (Int32.ofNat cs.length)), .val (.int (Int32.ofNat i)), .val (.int (cs.getD i 0)), .unset, .unset, .unset] [])) _
  refine XS.goto X2.here hx rfl (pc0 := 43) (pc' := 176) rfl (hb hby d40_43) (by decide) (by decide) ?_
  refine XS.iinc X2.here hx rfl (hb hby d40_176) rfl (l' := #[.val (.ref A), .val (.int (Int32.ofNat i)), .val (.int (Int32.ofNat cs.length)), .val (.ref t), .val (.int (Int32.ofNat cs.length)), .val (.int ((Int32.ofNat i) + (1 : Int32))), .val (.int (cs.getD i 0)), .unset, .unset, .unset]) rfl ?_
  refine XS.iinc X2.here hx rfl (hb hby d40_179) rfl (l' := #[.val (.ref A), .val (.int ((Int32.ofNat i) + (1 : Int32))), .val (.int (Int32.ofNat cs.length)), .val (.ref t), .val (.int (Int32.ofNat cs.length)), .val (.int ((Int32.ofNat i) + (1 : Int32))), .val (.int (cs.getD i 0)), .unset, .unset, .unset]) rfl ?_
  refine XS.goto X2.here hx rfl (pc0 := 182) (pc' := 12) rfl (hb hby d40_182) (by decide) (by decide) ?_
  show Steps _ _ _ (T2.setTop (mkF m 12 #[.val (.ref A), .val (.int ((Int32.ofNat i) + (1 : Int32))), .val (.int (Int32.ofNat cs.length)), .val (.ref t), .val (.int (Int32.ofNat cs.length)), .val (.int ((Int32.ofNat i) + (1 : Int32))), .val (.int (cs.getD i 0)), .unset, .unset, .unset] [])) _
  rw [(own_succ i)]
  show Steps _ _ _ (T2.setTop (mkF m 12 #[.val (.ref A), .val (.int (Int32.ofNat (i + 1))), .val (.int (Int32.ofNat cs.length)), .val (.ref t), .val (.int (Int32.ofNat cs.length)), .val (.int (Int32.ofNat (i + 1))), .val (.int (cs.getD i 0)), .unset, .unset, .unset] [])) _
  exact kt
theorem tnCP {p : Program} {l : Launch} {e : Env} {s : State} {m : MethodId} {args : Array Value} {below : List Frame} {meth : Method} {c : Code} {s₁ : State} {L0 : List Loc} {Z : State} {a0 : Array Value} (A : Addr) (kA : ClassId) (t : Addr) (kt : ClassId) (cs : List Int32) (i : Nat) (z6 : Int32) (h0 : Heap) (n0 : Nat) (X0 : Stand p l e ({ frames := 0, cells := 1, slots := 4, locals := 0 } : Room) s m args below meth c s₁ L0 1 4) (hx : p.tables.exec = Jvm.exec) (hZ : Z.Warmed39 s.vm) (hw : ∀ d ∈ tables_1, d.before a0 Z = true) (hby : c.code = jdk_52_method_18_code) (hml : c.maxLocals = 10) (hown : s.vm.findClass "java/lang/StringUTF16" = some m.cls) (e0 : s₁.heap = h0) (N0 : Fr n0 L0) (Z0 : n0 ≤ h0.size) (V_A : Arv Z h0 A kA .int (Int32.ofNat cs.length) (cs.map Value.int) (.int 0)) (V_t : Arv Z h0 t kt .byte (Int32.ofNat cs.length) (own_by (cs.take i)) (.int 0)) (g_t : n0 ≤ t) (hn4 : cs.length ≤ 4) (hp : ∀ c ∈ cs, ¬ c < 0 ∧ ¬ (255 : Int32) < c) (hi : i < cs.length) :
    ∃ (T' : State) (h' : Heap) (L' : List Loc) , Stand p l e ({ frames := 0, cells := 1, slots := 4, locals := 0 } : Room) s m args below meth c T' L' 1 4 ∧ T'.heap = h' ∧ Fr n0 L' ∧ n0 ≤ h'.size ∧ Keep h0 h' [t] ∧ Arv Z h' t kt .byte (Int32.ofNat cs.length) (own_by (cs.take (i + 1))) (.int 0) ∧ Arv Z h' A kA .int (Int32.ofNat cs.length) (cs.map Value.int) (.int 0) ∧ 
      ∀ target, Steps p.tables e below (T'.setTop (mkF m 12 #[.val (.ref A), .val (.int (Int32.ofNat (i + 1))), .val (.int (Int32.ofNat cs.length)), .val (.ref t), .val (.int (Int32.ofNat cs.length)), .val (.int (Int32.ofNat (i + 1))), .val (.int (cs.getD i 0)), .unset, .unset, .unset] [])) target → Steps p.tables e below (s₁.setTop (mkF m 12 #[.val (.ref A), .val (.int (Int32.ofNat i)), .val (.int (Int32.ofNat cs.length)), .val (.ref t), .val (.int (Int32.ofNat cs.length)), .val (.int (Int32.ofNat i)), .val (.int z6), .unset, .unset, .unset] [])) target := by
  obtain ⟨c1, Ar1, -, S1, M1, H1, -⟩ := id V_A
  have hin1 := inb_of (j := (Int32.ofNat i)) S1 (own_in hi (by omega))
  obtain ⟨c2, Ar2, q2, S2, M2, H2, Gz2⟩ := id (V_t.pad (pad_rep (own_by (cs.take i)) (.int 0) 1))
  have hin2 := inb_of (j := (Int32.ofNat i)) S2 (own_in hi (by omega))
  obtain ⟨T2, h2, X2, e2, W2, st2⟩ := stB X0 hx hZ e0 Ar2 (j := (Int32.ofNat i)) hin2 (g := (mkF m 42 #[.val (.ref A), .val (.int (Int32.ofNat i)), .val (.int (Int32.ofNat cs.length)), .val (.ref t), .val (.int (Int32.ofNat cs.length)), .val (.int (Int32.ofNat i)), .val (.int (cs.getD i 0)), .unset, .unset, .unset] [(.int ((cs.getD i 0).toInt8.toInt32)), (.int (Int32.ofNat i)), (.ref t)])) rfl rfl (hb hby d40_42)
  have V2 : Arv Z h2 t kt .byte (Int32.ofNat cs.length) (own_by (cs.take (i + 1))) (.int 0) := (by rw [← (own_by2 hp hi)]; exact Arv.set Ar2 q2 S2 M2 H2 Gz2 (fits_nar_byte _) W2 i (own_clamp (by omega)) (by rw [List.length_append, own_by_len, List.length_take]; simp; omega))
  have N2 := Fr.snoc X2 N0 g_t
  have f3 := (V_A.other W2 (own_neA V_A V_t nofun))
  refine ⟨T2, h2, _, X2, e2, N2, (Nat.le_trans Z0 (Keep.of_wr W2).1), ((Keep.refl h0 [t]).wr W2 (Or.inl (tk 0 rfl))), V2, f3, fun target kt => ?_⟩
  show Steps _ _ _ (s₁.setTop (mkF m 12 #[.val (.ref A), .val (.int (Int32.ofNat i)), .val (.int (Int32.ofNat cs.length)), .val (.ref t), .val (.int (Int32.ofNat cs.length)), .val (.int (Int32.ofNat i)), .val (.int z6), .unset, .unset, .unset] [])) _
  refine XS.iload X0.here hx rfl (hb hby d40_12) rfl ?_
  refine XS.iloadN X0.here hx rfl (hb hby d40_14) rfl ?_
  refine XS.icmpNo X0.here hx rfl (hb hby d40_15) rfl (tlt ((own_lt (by omega) (by omega)).mpr hi)).2.1 ?_
  refine XS.aloadN X0.here hx rfl (hb hby d40_18) rfl rfl ?_
  refine XS.iloadN X0.here hx rfl (hb hby d40_19) rfl ?_
  show Steps _ _ _ (s₁.setTop (mkF m 20 #[.val (.ref A), .val (.int (Int32.ofNat i)), .val (.int (Int32.ofNat cs.length)), .val (.ref t), .val (.int (Int32.ofNat cs.length)), .val (.int (Int32.ofNat i)), .val (.int z6), .unset, .unset, .unset] [(.int (Int32.ofNat i)), (.ref A)])) _
  refine X0.iaload hx (j := (Int32.ofNat i)) (v := (.int (cs.getD i 0))) (by rw [e0]; exact Ar1.1) (State.isArrayOf_alike hZ.alike Ar1.2.1) Ar1.2.2 hin1 (H1.at hin1 (own_ia cs i (by omega))) (g := (mkF m 20 #[.val (.ref A), .val (.int (Int32.ofNat i)), .val (.int (Int32.ofNat cs.length)), .val (.ref t), .val (.int (Int32.ofNat cs.length)), .val (.int (Int32.ofNat i)), .val (.int z6), .unset, .unset, .unset] [(.int (Int32.ofNat i)), (.ref A)])) rfl rfl (hb hby d40_20) _ ?_
  show Steps _ _ _ (s₁.setTop (mkF m 21 #[.val (.ref A), .val (.int (Int32.ofNat i)), .val (.int (Int32.ofNat cs.length)), .val (.ref t), .val (.int (Int32.ofNat cs.length)), .val (.int (Int32.ofNat i)), .val (.int z6), .unset, .unset, .unset] [(.int (cs.getD i 0))])) _
  refine XS.istore X0.here hx rfl (hb hby d40_21) rfl (l' := #[.val (.ref A), .val (.int (Int32.ofNat i)), .val (.int (Int32.ofNat cs.length)), .val (.ref t), .val (.int (Int32.ofNat cs.length)), .val (.int (Int32.ofNat i)), .val (.int (cs.getD i 0)), .unset, .unset, .unset]) rfl ?_
  refine XS.iload X0.here hx rfl (hb hby d40_23) rfl ?_
  refine XS.ifNo X0.here hx rfl (hb hby d40_25) rfl ((if0 _ _).trans (flt (own_at8 hp hi).1).1) ?_
  refine XS.iload X0.here hx rfl (hb hby d40_28) rfl ?_
  refine XS.sipush X0.here hx rfl (hb hby d40_30) ?_
  refine XS.icmpNo X0.here hx rfl (hb hby d40_33) rfl (flt (own_at8 hp hi).2).2.2.1 ?_
  refine XS.aloadN X0.here hx rfl (hb hby d40_36) rfl rfl ?_
  refine XS.iload X0.here hx rfl (hb hby d40_37) rfl ?_
  refine XS.iload X0.here hx rfl (hb hby d40_39) rfl ?_
  refine XS.i2b X0.here hx rfl (hb hby d40_41) rfl ?_
  show Steps _ _ _ (s₁.setTop (mkF m 42 #[.val (.ref A), .val (.int (Int32.ofNat i)), .val (.int (Int32.ofNat cs.length)), .val (.ref t), .val (.int (Int32.ofNat cs.length)), .val (.int (Int32.ofNat i)), .val (.int (cs.getD i 0)), .unset, .unset, .unset] [(.int ((cs.getD i 0).toInt8.toInt32)), (.int (Int32.ofNat i)), (.ref t)])) _
  refine st2 _ ?_
  show Steps _ _ _ (T2.setTop (mkF m 43 #[.val (.ref A), .val (.int (Int32.ofNat i)), .val (.int (Int32.ofNat cs.length)), .val (.ref t), .val (.int (Int32.ofNat cs.length)), .val (.int (Int32.ofNat i)), .val (.int (cs.getD i 0)), .unset, .unset, .unset] [])) _
  refine XS.goto X2.here hx rfl (pc0 := 43) (pc' := 176) rfl (hb hby d40_43) (by decide) (by decide) ?_
  refine XS.iinc X2.here hx rfl (hb hby d40_176) rfl (l' := #[.val (.ref A), .val (.int (Int32.ofNat i)), .val (.int (Int32.ofNat cs.length)), .val (.ref t), .val (.int (Int32.ofNat cs.length)), .val (.int ((Int32.ofNat i) + (1 : Int32))), .val (.int (cs.getD i 0)), .unset, .unset, .unset]) rfl ?_
  refine XS.iinc X2.here hx rfl (hb hby d40_179) rfl (l' := #[.val (.ref A), .val (.int ((Int32.ofNat i) + (1 : Int32))), .val (.int (Int32.ofNat cs.length)), .val (.ref t), .val (.int (Int32.ofNat cs.length)), .val (.int ((Int32.ofNat i) + (1 : Int32))), .val (.int (cs.getD i 0)), .unset, .unset, .unset]) rfl ?_
  refine XS.goto X2.here hx rfl (pc0 := 182) (pc' := 12) rfl (hb hby d40_182) (by decide) (by decide) ?_
  show Steps _ _ _ (T2.setTop (mkF m 12 #[.val (.ref A), .val (.int ((Int32.ofNat i) + (1 : Int32))), .val (.int (Int32.ofNat cs.length)), .val (.ref t), .val (.int (Int32.ofNat cs.length)), .val (.int ((Int32.ofNat i) + (1 : Int32))), .val (.int (cs.getD i 0)), .unset, .unset, .unset] [])) _
  rw [(own_succ i)]
  show Steps _ _ _ (T2.setTop (mkF m 12 #[.val (.ref A), .val (.int (Int32.ofNat (i + 1))), .val (.int (Int32.ofNat cs.length)), .val (.ref t), .val (.int (Int32.ofNat cs.length)), .val (.int (Int32.ofNat (i + 1))), .val (.int (cs.getD i 0)), .unset, .unset, .unset] [])) _
  exact kt
theorem lvCP {p : Program} {l : Launch} {e : Env} {s : State} {m : MethodId} {args : Array Value} {below : List Frame} {meth : Method} {c : Code} {s₁ : State} {L0 : List Loc} {Z : State} {a0 : Array Value} (A : Addr) (kA : ClassId) (t : Addr) (kt : ClassId) (cs : List Int32) (z6 : Int32) (h0 : Heap) (n0 : Nat) (X0 : Stand p l e ({ frames := 0, cells := 1, slots := 4, locals := 0 } : Room) s m args below meth c s₁ L0 1 4) (hx : p.tables.exec = Jvm.exec) (hZ : Z.Warmed39 s.vm) (hw : ∀ d ∈ tables_1, d.before a0 Z = true) (hby : c.code = jdk_52_method_18_code) (hml : c.maxLocals = 10) (hown : s.vm.findClass "java/lang/StringUTF16" = some m.cls) (e0 : s₁.heap = h0) (N0 : Fr n0 L0) (Z0 : n0 ≤ h0.size) :
    ∃ (T' : State) (h' : Heap) (L' : List Loc) , Stand p l e ({ frames := 0, cells := 1, slots := 4, locals := 0 } : Room) s m args below meth c T' L' 1 4 ∧ T'.heap = h' ∧ Fr n0 L' ∧ n0 ≤ h'.size ∧ h' = h0 ∧ 
      ∀ target, Steps p.tables e below (T'.setTop (mkF m 185 #[.val (.ref A), .val (.int (Int32.ofNat cs.length)), .val (.int (Int32.ofNat cs.length)), .val (.ref t), .val (.int (Int32.ofNat cs.length)), .val (.int (Int32.ofNat cs.length)), .val (.int z6), .unset, .unset, .unset] [])) target → Steps p.tables e below (s₁.setTop (mkF m 12 #[.val (.ref A), .val (.int (Int32.ofNat cs.length)), .val (.int (Int32.ofNat cs.length)), .val (.ref t), .val (.int (Int32.ofNat cs.length)), .val (.int (Int32.ofNat cs.length)), .val (.int z6), .unset, .unset, .unset] [])) target := by
  refine ⟨s₁, h0, _, X0, e0, N0, Z0, rfl, fun target kt => ?_⟩
  show Steps _ _ _ (s₁.setTop (mkF m 12 #[.val (.ref A), .val (.int (Int32.ofNat cs.length)), .val (.int (Int32.ofNat cs.length)), .val (.ref t), .val (.int (Int32.ofNat cs.length)), .val (.int (Int32.ofNat cs.length)), .val (.int z6), .unset, .unset, .unset] [])) _
  refine XS.iload X0.here hx rfl (hb hby d40_12) rfl ?_
  refine XS.iloadN X0.here hx rfl (hb hby d40_14) rfl ?_
  refine XS.icmpYes X0.here hx rfl (pc0 := 15) (pc' := 185) rfl (hb hby d40_15) rfl (flt (Int32.lt_irrefl : ¬ ((Int32.ofNat cs.length) < (Int32.ofNat cs.length)))).2.1 (by decide) (by decide) ?_
  exact kt
theorem lpCP {p : Program} {l : Launch} {e : Env} {s : State} {m : MethodId} {args : Array Value} {below : List Frame} {meth : Method} {c : Code} {Z : State} {a0 : Array Value} (A : Addr) (kA : ClassId) (t : Addr) (kt : ClassId) (cs : List Int32) (n0 : Nat) (hx : p.tables.exec = Jvm.exec) (hZ : Z.Warmed39 s.vm) (hw : ∀ d ∈ tables_1, d.before a0 Z = true) (hby : c.code = jdk_52_method_18_code) (hml : c.maxLocals = 10) (hown : s.vm.findClass "java/lang/StringUTF16" = some m.cls) (g_t : n0 ≤ t) (hn4 : cs.length ≤ 4) (hp : ∀ c ∈ cs, ¬ c < 0 ∧ ¬ (255 : Int32) < c) :
    ∀ (q : Nat) (s₁ : State) (L0 : List Loc) (h0 : Heap) (i : Nat) (z6 : Int32) (X0 : Stand p l e ({ frames := 0, cells := 1, slots := 4, locals := 0 } : Room) s m args below meth c s₁ L0 1 4) (e0 : s₁.heap = h0) (N0 : Fr n0 L0) (Z0 : n0 ≤ h0.size) (V_A : Arv Z h0 A kA .int (Int32.ofNat cs.length) (cs.map Value.int) (.int 0)) (V_t : Arv Z h0 t kt .byte (Int32.ofNat cs.length) (own_by (cs.take i)) (.int 0)) (hi : i + q = cs.length),
    ∃ (T' : State) (h' : Heap) (L' : List Loc) (z9 : Int32), Stand p l e ({ frames := 0, cells := 1, slots := 4, locals := 0 } : Room) s m args below meth c T' L' 1 4 ∧ T'.heap = h' ∧ Fr n0 L' ∧ n0 ≤ h'.size ∧ Keep h0 h' [t] ∧ Arv Z h' t kt .byte (Int32.ofNat cs.length) (own_by cs) (.int 0) ∧
      ∀ target, Steps p.tables e below (T'.setTop (mkF m 185 #[.val (.ref A), .val (.int (Int32.ofNat cs.length)), .val (.int (Int32.ofNat cs.length)), .val (.ref t), .val (.int (Int32.ofNat cs.length)), .val (.int (Int32.ofNat cs.length)), .val (.int z9), .unset, .unset, .unset] [])) target → Steps p.tables e below (s₁.setTop (mkF m 12 #[.val (.ref A), .val (.int (Int32.ofNat i)), .val (.int (Int32.ofNat cs.length)), .val (.ref t), .val (.int (Int32.ofNat cs.length)), .val (.int (Int32.ofNat i)), .val (.int z6), .unset, .unset, .unset] [])) target := by
  intro q
  induction q with
  | zero =>
    intro s₁ L0 h0 i z6 X0 e0 N0 Z0 V_A V_t hi
    obtain rfl : i = cs.length := by omega
    obtain ⟨T1, h1, L1, X1, f1, N1, Z1, hh, st1⟩ := lvCP A kA t kt cs z6 h0 n0 X0 hx hZ hw hby hml hown e0 N0 Z0
    subst hh
    exact ⟨T1, _, L1, z6, X1, f1, N1, Z1, Keep.refl _ _, by rw [List.take_length] at V_t; exact V_t, st1⟩
  | succ q ih =>
    intro s₁ L0 h0 i z6 X0 e0 N0 Z0 V_A V_t hi
    obtain ⟨T1, h1, L1, X1, f1, N1, Z1, K1, V1, A1, st1⟩ := tnCP A kA t kt cs i z6 h0 n0 X0 hx hZ hw hby hml hown e0 N0 Z0 V_A V_t g_t hn4 hp (by omega)
    obtain ⟨T2, h2, L2, z9, X2, f2, N2, Z2, K2, V2, st2⟩ := ih T1 L1 h1 (i + 1) _ X1 f1 N1 Z1 A1 V1 (by omega)
    exact ⟨T2, h2, L2, z9, X2, f2, N2, Z2, K1.trans K2 (fun x hx => Or.inl hx), V2, fun target kt => st1 _ (st2 _ kt)⟩
theorem rmCP (l : Launch) (Z : State) (a0 : Array Value) (hw : ∀ d ∈ tables_1, d.before a0 Z = true) (ws : List Jvm.Cond) (A : Addr) (kA : ClassId) (cs : List Int32) (h0 : Heap) (n0 : Nat) (Z0 : n0 ≤ h0.size) (V_A : Arv Z h0 A kA .int (Int32.ofNat cs.length) (cs.map Value.int) (.int 0)) (hn1 : 1 ≤ cs.length) (hn4 : cs.length ≤ 4) (hp : ∀ c ∈ cs, ¬ c < 0 ∧ ¬ (255 : Int32) < c) :
    MetFree l y_30 (head1 (Jvm.Cond.code y_30 jdk_52_method_18_code 10 (some (.array .byte)) :: ws) ({ frames := 0, cells := 1, slots := 4, locals := 0 } : Room)) (fun a_ U_ => a_ = #[(.ref A), (.int 0), (.int (Int32.ofNat cs.length))] ∧ Z.Warmed39 U_.vm ∧ U_.heap = h0) (fun _ _ _ _ _ => True) (fun _ U_ o_ U1_ => ∃ v_ L_, o_ = .returned v_ ∧ own_QCP Z cs h0 n0 v_ U1_.heap L_ ∧ FrameEnd U_ o_ U1_ L_ ({ frames := 0, cells := 1, slots := 4, locals := 0 } : Room).cells ({ frames := 0, cells := 1, slots := 4, locals := 0 } : Room).slots) := by
  refine MetFree.of_bodySF (plainFor_of_name pn_40) hisR ?_
  intro p e s m args below meth c s₁ Bd hml0 hP hK
  obtain ⟨rfl, hZ, hh⟩ := hP
  have hx := Bd.exec
  have hby := Bd.bytes
  have hml : c.maxLocals = 10 := hml0
  have hown : s.vm.findClass "java/lang/StringUTF16" = some m.cls := findClass_of_methodNamed Bd.named
  have hnm := (name_of_methodNamed Bd.named Bd.method).1
  have X0 : Stand p l e ({ frames := 0, cells := 1, slots := 4, locals := 0 } : Room) s m #[(.ref A), (.int 0), (.int (Int32.ofNat cs.length))] below meth c s₁ [] 0 0 := Stand.of_body Bd
  have e0 : s₁.heap = h0 := by rw [← hh, Bd.state]; rfl
  have N0 := Fr.nil n0
  have pre0 : ∀ tt, Steps p.tables e below (s₁.setTop (mkF m 0 #[.val (.ref A), .val (.int 0), .val (.int (Int32.ofNat cs.length)), .unset, .unset, .unset, .unset, .unset, .unset, .unset] [])) tt → Steps p.tables e below (s₁.setTop (entryFrame m #[(.ref A), (.int 0), (.int (Int32.ofNat cs.length))] 10)) tt := fun tt kk => castTop (ef_40_rrr m A (0 : Int32) (Int32.ofNat cs.length)) kk
  obtain ⟨T1, h1, k1, X1, e1, E1, A1, st1⟩ := newP X0 hx hZ (hw _ (tk 38 rfl)) e0 (g := (mkF m 1 #[.val (.ref A), .val (.int 0), .val (.int (Int32.ofNat cs.length)), .unset, .unset, .unset, .unset, .unset, .unset, .unset] [(.int (Int32.ofNat cs.length))])) rfl (hb hby d40_1) rfl (own_n0 (by omega)) (cap := 4) (own_cap hn4) (by decide) (by decide) (by decide)
  obtain ⟨b1, g1⟩ : ∃ z, z = h0.size := ⟨_, rfl⟩
  rw [← g1] at A1 st1
  have g_b1 : n0 ≤ b1 := Nat.le_trans Z0 (Nat.le_of_eq g1.symm)
  have sz_b1 : h0.size ≤ b1 := Nat.le_trans (Nat.le_refl _) (Nat.le_of_eq g1.symm)
  have V1 : Arv Z h1 b1 k1 .byte (Int32.ofNat cs.length) [] (.int 0) := Arv.new A1 (own_n0 (by omega))
  have f2 := (V_A.ext E1)
  obtain ⟨T8, h8, L8, X8, e8, N8, Z8, K8, V8, A8, st8⟩ := tnCP0 A kA b1 k1 cs 0 h1 n0 X1 hx hZ hw hby hml hown e1 N0 (Nat.le_trans Z0 E1.1) f2 V1 g_b1 hn4 hp (by omega)
  obtain ⟨T9, h9, L9, z9, X9, e9, N9, Z9, K9, V9, st9⟩ := lpCP A kA b1 k1 cs n0 hx hZ hw hby hml hown g_b1 hn4 hp (cs.length - 1) T8 _ h8 (0 + 1) (cs.getD 0 0) X8 e8 N8 Z8 A8 V8 (by omega)
  obtain ⟨fs, hr, hrun, hended, hW, hsame⟩ := X9.leave (v := some (.ref b1)) (fun h => by rw [Bd.returns] at h; cases h)
  refine ⟨_, _, pre0 _ ?_, hrun, hended, _, _, rfl, ?_, ⟨_, rfl⟩, hW, hsame.mono (by decide) (by decide)⟩
  · show Steps _ _ _ (s₁.setTop (mkF m 0 #[.val (.ref A), .val (.int 0), .val (.int (Int32.ofNat cs.length)), .unset, .unset, .unset, .unset, .unset, .unset, .unset] [])) _
    refine XS.iloadN X0.here hx rfl (hb hby d40_0) rfl ?_
    show Steps _ _ _ (s₁.setTop (mkF m 1 #[.val (.ref A), .val (.int 0), .val (.int (Int32.ofNat cs.length)), .unset, .unset, .unset, .unset, .unset, .unset, .unset] [(.int (Int32.ofNat cs.length))])) _
    refine st1 _ ?_
    show Steps _ _ _ (T1.setTop (mkF m 3 #[.val (.ref A), .val (.int 0), .val (.int (Int32.ofNat cs.length)), .unset, .unset, .unset, .unset, .unset, .unset, .unset] [(.ref b1)])) _
    refine XS.astoreN X1.here hx rfl (hb hby d40_3) rfl rfl (l' := #[.val (.ref A), .val (.int 0), .val (.int (Int32.ofNat cs.length)), .val (.ref b1), .unset, .unset, .unset, .unset, .unset, .unset]) rfl ?_
    refine XS.iloadN X1.here hx rfl (hb hby d40_4) rfl ?_
    refine XS.iloadN X1.here hx rfl (hb hby d40_5) rfl ?_
    refine XS.iadd X1.here hx rfl (hb hby d40_6) rfl ?_
    show Steps _ _ _ (T1.setTop (mkF m 7 #[.val (.ref A), .val (.int 0), .val (.int (Int32.ofNat cs.length)), .val (.ref b1), .unset, .unset, .unset, .unset, .unset, .unset] [(.int ((0 : Int32) + (Int32.ofNat cs.length)))])) _
    rw [(Int32.zero_add (Int32.ofNat cs.length))]
    show Steps _ _ _ (T1.setTop (mkF m 7 #[.val (.ref A), .val (.int 0), .val (.int (Int32.ofNat cs.length)), .val (.ref b1), .unset, .unset, .unset, .unset, .unset, .unset] [(.int (Int32.ofNat cs.length))])) _
    refine XS.istore X1.here hx rfl (hb hby d40_7) rfl (l' := #[.val (.ref A), .val (.int 0), .val (.int (Int32.ofNat cs.length)), .val (.ref b1), .val (.int (Int32.ofNat cs.length)), .unset, .unset, .unset, .unset, .unset]) rfl ?_
    refine XS.iconst X1.here hx rfl (hb hby d40_9) ?_
    refine XS.istore X1.here hx rfl (hb hby d40_10) rfl (l' := #[.val (.ref A), .val (.int 0), .val (.int (Int32.ofNat cs.length)), .val (.ref b1), .val (.int (Int32.ofNat cs.length)), .val (.int 0), .unset, .unset, .unset, .unset]) rfl ?_
    show Steps _ _ _ (T1.setTop (mkF m 12 #[.val (.ref A), .val (.int (Int32.ofNat 0)), .val (.int (Int32.ofNat cs.length)), .val (.ref b1), .val (.int (Int32.ofNat cs.length)), .val (.int (Int32.ofNat 0)), .unset, .unset, .unset, .unset] [])) _
    refine st8 _ ?_
    show Steps _ _ _ (T8.setTop (mkF m 12 #[.val (.ref A), .val (.int (Int32.ofNat (0 + 1))), .val (.int (Int32.ofNat cs.length)), .val (.ref b1), .val (.int (Int32.ofNat cs.length)), .val (.int (Int32.ofNat (0 + 1))), .val (.int (cs.getD 0 0)), .unset, .unset, .unset] [])) _
    refine st9 _ ?_
    show Steps _ _ _ (T9.setTop (mkF m 185 #[.val (.ref A), .val (.int (Int32.ofNat cs.length)), .val (.int (Int32.ofNat cs.length)), .val (.ref b1), .val (.int (Int32.ofNat cs.length)), .val (.int (Int32.ofNat cs.length)), .val (.int z9), .unset, .unset, .unset] [])) _
    refine XS.aloadN X9.here hx rfl (hb hby d40_185) rfl rfl ?_
    show Steps _ _ _ (T9.setTop (mkF m 186 #[.val (.ref A), .val (.int (Int32.ofNat cs.length)), .val (.int (Int32.ofNat cs.length)), .val (.ref b1), .val (.int (Int32.ofNat cs.length)), .val (.int (Int32.ofNat cs.length)), .val (.int z9), .unset, .unset, .unset] [(.ref b1)])) _
    jvm_step X9.here [X9.here.top, hx, (hb hby d40_186), X9.method', Bd.returns, Value.isRef, FieldType.isReference]
    first | (intro acts; rw [hr _ acts rfl rfl rfl]) | rw [hr _ _ rfl rfl rfl]
    exact Steps.refl _
  · show own_QCP Z cs h0 n0 _ T9.heap _
    rw [e9]
    exact ⟨b1, k1, rfl, N9, g_b1, sz_b1, ((((Keep.refl h0 []).ext E1).trans K8 (allS (P := fun zz => zz ∈ ([] : List Addr) ∨ h0.size ≤ zz) (Or.inr sz_b1) all0)).trans K9 (allS (P := fun zz => zz ∈ ([] : List Addr) ∨ h0.size ≤ zz) (Or.inr sz_b1) all0)), V9⟩
def own_QSI (Z : State) (x : Addr) (cs : List Int32) (h0 : Heap) (n0 : Nat) (v : Option Value) (h : Heap) (L : List Loc) : Prop := v = none ∧ Fr n0 L ∧ Keep h0 h [x] ∧ own_s Z h x cs
theorem d37_0 : decode jdk_42_method_6_code 0 = .ok (.aload_n 0, 1) := by decide +kernel
theorem d37_1 : decode jdk_42_method_6_code 1 = .ok (.invokespecial 1, 3) := by decide +kernel
theorem d37_4 : decode jdk_42_method_6_code 4 = .ok (.iload_n 2, 1) := by decide +kernel
theorem d37_5 : decode jdk_42_method_6_code 5 = .ok (.iload_n 3, 1) := by decide +kernel
theorem d37_6 : decode jdk_42_method_6_code 6 = .ok (.aload_n 1, 1) := by decide +kernel
theorem d37_7 : decode jdk_42_method_6_code 7 = .ok (.arraylength, 1) := by decide +kernel
theorem d37_8 : decode jdk_42_method_6_code 8 = .ok (.invokestatic 34, 3) := by decide +kernel
theorem d37_11 : decode jdk_42_method_6_code 11 = .ok (.pop, 1) := by decide +kernel
theorem d37_12 : decode jdk_42_method_6_code 12 = .ok (.iload_n 3, 1) := by decide +kernel
theorem d37_13 : decode jdk_42_method_6_code 13 = .ok (.ifCond .ne 22, 3) := by decide +kernel
theorem d37_35 : decode jdk_42_method_6_code 35 = .ok (.getstatic 38, 3) := by decide +kernel
theorem d37_38 : decode jdk_42_method_6_code 38 = .ok (.ifCond .eq 28, 3) := by decide +kernel
theorem d37_41 : decode jdk_42_method_6_code 41 = .ok (.aload_n 1, 1) := by decide +kernel
theorem d37_42 : decode jdk_42_method_6_code 42 = .ok (.iload_n 2, 1) := by decide +kernel
theorem d37_43 : decode jdk_42_method_6_code 43 = .ok (.iload_n 3, 1) := by decide +kernel
theorem pd___III__B : parseMethodDescriptor "([III)[B" = some ⟨[(.array .int), .int, .int], some (.array .byte)⟩ := by decide +kernel
theorem d37_44 : decode jdk_42_method_6_code 44 = .ok (.invokestatic 41, 3) := by decide +kernel
theorem d37_47 : decode jdk_42_method_6_code 47 = .ok (.astore 4, 2) := by decide +kernel
theorem d37_49 : decode jdk_42_method_6_code 49 = .ok (.aload_n 0, 1) := by decide +kernel
theorem d37_50 : decode jdk_42_method_6_code 50 = .ok (.aload 4, 2) := by decide +kernel
theorem d37_52 : decode jdk_42_method_6_code 52 = .ok (.iload_n 3, 1) := by decide +kernel
theorem pd___BI_B : parseMethodDescriptor "([BI)B" = some ⟨[(.array .byte), .int], some .byte⟩ := by decide +kernel
theorem d37_53 : decode jdk_42_method_6_code 53 = .ok (.invokestatic 47, 3) := by decide +kernel
theorem d37_56 : decode jdk_42_method_6_code 56 = .ok (.putfield 15, 3) := by decide +kernel
theorem d37_59 : decode jdk_42_method_6_code 59 = .ok (.aload_n 0, 1) := by decide +kernel
theorem d37_60 : decode jdk_42_method_6_code 60 = .ok (.aload 4, 2) := by decide +kernel
theorem d37_62 : decode jdk_42_method_6_code 62 = .ok (.putfield 9, 3) := by decide +kernel
theorem d37_65 : decode jdk_42_method_6_code 65 = .ok (.return_, 1) := by decide +kernel
theorem pn_37 : plainName "java/lang/String" = true := by first | (simp [plainName, overriddenIn]; done) | decide +kernel
theorem ef_37_rrrr (m : MethodId) (x0 : Addr) (x1 : Addr) (x2 : Int32) (x3 : Int32) : entryFrame m #[(.ref x0), (.ref x1), (.int x2), (.int x3)] 5 = mkF m 0 #[.val (.ref x0), .val (.ref x1), .val (.int x2), .val (.int x3), .unset] [] := by first | (simp [entryFrame, mkF, argsToLocals, Value.category]; done) | rfl
theorem rmSI (l : Launch) (Z : State) (a0 : Array Value) (hw : ∀ d ∈ tables_1, d.before a0 Z = true) (ws : List Jvm.Cond) (G1 : Int32) (G3 : Value) (x : Addr) (A : Addr) (kA : ClassId) (cs : List Int32) (h0 : Heap) (n0 : Nat) (Z0 : n0 ≤ h0.size) (EN : own_env Z G1 G3) (X00 : Old Z n0 h0) (E_x : Exa Z h0 x "java/lang/String") (F_coder_x : Fld Z h0 x "java/lang/String" "coder" "B" (.int 0)) (F_value_x : Fld Z h0 x "java/lang/String" "value" "[B" .null) (g_x : n0 ≤ x) (V_A : Arv Z h0 A kA .int (Int32.ofNat cs.length) (cs.map Value.int) (.int 0)) (hn1 : 1 ≤ cs.length) (hn4 : cs.length ≤ 4) (hp : ∀ c ∈ cs, ¬ c < 0 ∧ ¬ (255 : Int32) < c) :
    MetFree l y_31 (head1 (Jvm.Cond.code y_31 jdk_42_method_6_code 5 none :: ws) ({ frames := 2, cells := 1, slots := 4, locals := 29 } : Room)) (fun a_ U_ => a_ = #[(.ref x), (.ref A), (.int 0), (.int (Int32.ofNat cs.length))] ∧ Z.Warmed39 U_.vm ∧ U_.heap = h0) (fun _ _ _ _ _ => True) (fun _ U_ o_ U1_ => ∃ v_ L_, o_ = .returned v_ ∧ own_QSI Z x cs h0 n0 v_ U1_.heap L_ ∧ FrameEnd U_ o_ U1_ L_ ({ frames := 2, cells := 1, slots := 4, locals := 29 } : Room).cells ({ frames := 2, cells := 1, slots := 4, locals := 29 } : Room).slots) := by
  refine MetFree.of_bodySF (plainFor_of_name pn_37) hisR ?_
  intro p e s m args below meth c s₁ Bd hml0 hP hK
  obtain ⟨rfl, hZ, hh⟩ := hP
  have hx := Bd.exec
  have hby := Bd.bytes
  have hml : c.maxLocals = 5 := hml0
  have hown : s.vm.findClass "java/lang/String" = some m.cls := findClass_of_methodNamed Bd.named
  have hnm := (name_of_methodNamed Bd.named Bd.method).1
  have X0 : Stand p l e ({ frames := 2, cells := 1, slots := 4, locals := 29 } : Room) s m #[(.ref x), (.ref A), (.int 0), (.int (Int32.ofNat cs.length))] below meth c s₁ [] 0 0 := Stand.of_body Bd
  have e0 : s₁.heap = h0 := by rw [← hh, Bd.state]; rfl
  have N0 := Fr.nil n0
  have pre0 : ∀ tt, Steps p.tables e below (s₁.setTop (mkF m 0 #[.val (.ref x), .val (.ref A), .val (.int 0), .val (.int (Int32.ofNat cs.length)), .unset] [])) tt → Steps p.tables e below (s₁.setTop (entryFrame m #[(.ref x), (.ref A), (.int 0), (.int (Int32.ofNat cs.length))] 5)) tt := fun tt kk => castTop (ef_37_rrrr m x A (0 : Int32) (Int32.ofNat cs.length)) kk
  have EN0 := EN
  obtain ⟨O2, P5, O4, rG3⟩ := EN
  obtain ⟨T1, X1, e1, st1⟩ := initO X0 hx hZ hown (hw _ (tk 228 rfl)) (hw _ (tk 8 rfl)) (hw _ (tk 9 rfl)) e0 (g := (mkF m 1 #[.val (.ref x), .val (.ref A), .val (.int 0), .val (.int (Int32.ofNat cs.length)), .unset] [(.ref x)])) rfl (by rw [hml]; rfl) rfl (hb hby d37_1) (by decide) (W := 0) (by show 2 * 0 + _ ≤ _; exact Nat.le_of_eq rfl) (by decide)
  obtain ⟨c2, Ar2, -, S2, M2, -, -⟩ := id V_A
  obtain ⟨_, _, ⟨T3, L3, k3, n3⟩, -, X3, ⟨Lc3, hQ3, l3, y3, z3⟩, st3⟩ := Jvm.LawKit.callS X1 hx (y := y_28) hown (mvT hZ (hw _ (tk 229 rfl))) (mvT hZ (hw _ (tk 230 rfl))) (mvT hZ (hw _ (tk 36 rfl))) (mvT hZ (hw _ (tk 231 rfl))) (by decide) (backOf (W := 0) (rmSBO l Z a0 hw [] G1 G3 cs.length h0 n0 Z0 EN0 X00 hn4) hZ (hw _ (tk 231 rfl)) (hw _ (tk 36 rfl)) (by decide) (by decide)) (g := (mkF m 8 #[.val (.ref x), .val (.ref A), .val (.int 0), .val (.int (Int32.ofNat cs.length)), .unset] [(.int (Int32.ofNat cs.length)), (.int (Int32.ofNat cs.length)), (.int 0)])) rfl (by rw [hml]; rfl) (argsL := [(.int 0), (.int (Int32.ofNat cs.length)), (.int (Int32.ofNat cs.length))]) (rest := []) (lenOf pd__III_I rfl) rfl (by show 2 * 0 + _ ≤ _; exact Nat.le_of_eq rfl) (hb hby d37_8) (fun _ _ => ⟨rfl, e1, (by decide : 0 + 0 ≤ _), (by decide : 0 + 0 ≤ _)⟩)
  dsimp only [Pt.U, Pt.locs, Pt.cells, Pt.slots] at X3 l3 y3 z3 st3 hQ3
  subst l3 y3 z3
  obtain ⟨rfl, Nq3, eq3⟩ := hQ3
  have N3 := Fr.app N0 Nq3
  obtain ⟨T4, X4, e4, st4⟩ := getS2 X3 hx hZ hown (host := "") (Or.inl (hw _ (tk 144 rfl))) Via.refl eq3 (Sta.ext X00.2 O2) (g := (mkF m 35 #[.val (.ref x), .val (.ref A), .val (.int 0), .val (.int (Int32.ofNat cs.length)), .unset] [])) rfl (hb hby d37_35)
  obtain ⟨_, _, ⟨T5, L5, k5, n5⟩, -, X5, ⟨Lc5, hQ5, l5, y5, z5⟩, st5⟩ := Jvm.LawKit.callS X4 hx (y := y_30) hown (mvT hZ (hw _ (tk 235 rfl))) (mvT hZ (hw _ (tk 236 rfl))) (mvT hZ (hw _ (tk 237 rfl))) (mvT hZ (hw _ (tk 238 rfl))) (by decide) (backOf (W := 0) (rmCP l Z a0 hw [] A kA cs h0 n0 Z0 V_A hn1 hn4 hp) hZ (hw _ (tk 238 rfl)) (hw _ (tk 237 rfl)) (by decide) (by decide)) (g := (mkF m 44 #[.val (.ref x), .val (.ref A), .val (.int 0), .val (.int (Int32.ofNat cs.length)), .unset] [(.int (Int32.ofNat cs.length)), (.int 0), (.ref A)])) rfl (by rw [hml]; rfl) (argsL := [(.ref A), (.int 0), (.int (Int32.ofNat cs.length))]) (rest := []) (lenOf pd___III__B rfl) rfl (by show 2 * 0 + _ ≤ _; exact Nat.le_of_eq rfl) (hb hby d37_44) (fun _ _ => ⟨rfl, e4, (by decide : 0 + 1 ≤ _), (by decide : 0 + 4 ≤ _)⟩)
  dsimp only [Pt.U, Pt.locs, Pt.cells, Pt.slots] at X5 l5 y5 z5 st5 hQ5
  subst l5 y5 z5
  obtain ⟨t5, kt5, rfl, Nq5, gt5, st_5, Kq5, Vt5⟩ := hQ5
  have N5 := Fr.app N3 Nq5
  have szt5 : h0.size ≤ t5 := Nat.le_trans (Nat.le_refl _) st_5
  obtain ⟨_, _, ⟨T6, L6, k6, n6⟩, -, X6, ⟨Lc6, hQ6, l6, y6, z6⟩, st6⟩ := Jvm.LawKit.callS X5 hx (y := y_29) hown (mvT hZ (hw _ (tk 239 rfl))) (mvT hZ (hw _ (tk 240 rfl))) (mvT hZ (hw _ (tk 237 rfl))) (mvT hZ (hw _ (tk 241 rfl))) (by decide) (backOf (W := 1) (rmCA l Z a0 hw [] t5 kt5 (own_by cs) cs.length T5.heap n0 (Nat.le_trans Z0 Kq5.1) Vt5) hZ (hw _ (tk 241 rfl)) (hw _ (tk 237 rfl)) (by decide) (by decide)) (g := (mkF m 53 #[.val (.ref x), .val (.ref A), .val (.int 0), .val (.int (Int32.ofNat cs.length)), .val (.ref t5)] [(.int (Int32.ofNat cs.length)), (.ref t5), (.ref x)])) rfl (by rw [hml]; rfl) (argsL := [(.ref t5), (.int (Int32.ofNat cs.length))]) (rest := [(.ref x)]) (lenOf pd___BI_B rfl) rfl (by show 2 * 0 + _ ≤ _; exact Nat.le_of_eq rfl) (hb hby d37_53) (fun _ _ => ⟨rfl, rfl, (by decide : 1 + 0 ≤ _), (by decide : 4 + 0 ≤ _)⟩)
  dsimp only [Pt.U, Pt.locs, Pt.cells, Pt.slots] at X6 l6 y6 z6 st6 hQ6
  subst l6 y6 z6
  obtain ⟨rfl, Nq6, eq6⟩ := hQ6
  have N6 := Fr.app N5 Nq6
  have f8 := (E_x.keep Kq5)
  have f9 := (F_coder_x.keep Kq5 nin0)
  obtain ⟨T7, h7, X7, e7, W7, st7⟩ := putFN X6 hx hZ hown (hw _ (tk 145 rfl)) Via.refl eq6 f9 f8 (Or.inr ⟨(hw _ (tk 40 rfl)), rfl, hnm⟩) (hw _ (tk 37 rfl)) (ty := .byte) (v' := (.int 0)) (by decide) rfl (by decide) (g := (mkF m 56 #[.val (.ref x), .val (.ref A), .val (.int 0), .val (.int (Int32.ofNat cs.length)), .val (.ref t5)] [(.int 0), (.ref x)])) rfl rfl (hb hby d37_56)
  have Fw7 := f9.same W7
  have N7 := Fr.snoc X7 N6 g_x
  have f11 := (f8.wr W7)
  have f12 := ((F_value_x.keep Kq5 nin0).other W7 (Or.inr (slot_ne (Or.inr (hw _ (tk 39 rfl))) (Or.inr (hw _ (tk 40 rfl))) (by decide) (t := (.array .byte)) (t' := .byte) (by decide) (by decide))))
  obtain ⟨T10, h10, X10, e10, W10, st10⟩ := putF X7 hx hZ hown (host := "") (Or.inl (hw _ (tk 138 rfl))) Via.refl e7 f12 f11 (Or.inr ⟨(hw _ (tk 39 rfl)), rfl, hnm⟩) (hw _ (tk 37 rfl)) (ty := (.array .byte)) (by decide) rfl rfl (g := (mkF m 62 #[.val (.ref x), .val (.ref A), .val (.int 0), .val (.int (Int32.ofNat cs.length)), .val (.ref t5)] [(.ref t5), (.ref x)])) rfl rfl (hb hby d37_62)
  have Fw10 := f12.same W10
  have N10 := Fr.snoc X10 N7 g_x
  have f13 := (f11.wr W10)
  have f14 := (Fw7.other W10 (Or.inr (slot_ne (Or.inr (hw _ (tk 40 rfl))) (Or.inr (hw _ (tk 39 rfl))) (by decide) (t := .byte) (t' := (.array .byte)) (by decide) (by decide))))
  have f15 := ((Vt5.other W7 (Ne.symm (Nat.ne_of_lt (Nat.lt_of_lt_of_le E_x.lt st_5)))).other W10 (Ne.symm (Nat.ne_of_lt (Nat.lt_of_lt_of_le E_x.lt st_5))))
  obtain ⟨fs, hr, hrun, hended, hW, hsame⟩ := X10.leave (v := none) (fun _ => rfl)
  refine ⟨_, _, pre0 _ ?_, hrun, hended, _, _, rfl, ?_, ⟨_, rfl⟩, hW, hsame.mono (by decide) (by decide)⟩
  · show Steps _ _ _ (s₁.setTop (mkF m 0 #[.val (.ref x), .val (.ref A), .val (.int 0), .val (.int (Int32.ofNat cs.length)), .unset] [])) _
    refine XS.aloadN X0.here hx rfl (hb hby d37_0) rfl rfl ?_
    show Steps _ _ _ (s₁.setTop (mkF m 1 #[.val (.ref x), .val (.ref A), .val (.int 0), .val (.int (Int32.ofNat cs.length)), .unset] [(.ref x)])) _
    refine st1 _ ?_
    show Steps _ _ _ (T1.setTop (mkF m 4 #[.val (.ref x), .val (.ref A), .val (.int 0), .val (.int (Int32.ofNat cs.length)), .unset] [])) _
    refine XS.iloadN X1.here hx rfl (hb hby d37_4) rfl ?_
    refine XS.iloadN X1.here hx rfl (hb hby d37_5) rfl ?_
    refine XS.aloadN X1.here hx rfl (hb hby d37_6) rfl rfl ?_
    show Steps _ _ _ (T1.setTop (mkF m 7 #[.val (.ref x), .val (.ref A), .val (.int 0), .val (.int (Int32.ofNat cs.length)), .unset] [(.ref A), (.int (Int32.ofNat cs.length)), (.int 0)])) _
    refine X1.arraylength hx (by rw [e1]; exact Ar2.1) (State.isArrayOf_alike hZ.alike Ar2.2.1) (g := (mkF m 7 #[.val (.ref x), .val (.ref A), .val (.int 0), .val (.int (Int32.ofNat cs.length)), .unset] [(.ref A), (.int (Int32.ofNat cs.length)), (.int 0)])) rfl rfl (hb hby d37_7) _ ?_
    rw [len_of S2 M2]
    show Steps _ _ _ (T1.setTop (mkF m 8 #[.val (.ref x), .val (.ref A), .val (.int 0), .val (.int (Int32.ofNat cs.length)), .unset] [(.int (Int32.ofNat cs.length)), (.int (Int32.ofNat cs.length)), (.int 0)])) _
    refine st3 _ ?_
    show Steps _ _ _ (T3.setTop (mkF m 11 #[.val (.ref x), .val (.ref A), .val (.int 0), .val (.int (Int32.ofNat cs.length)), .unset] [(.int 0)])) _
    refine XS.pop X3.here hx rfl (hb hby d37_11) rfl rfl ?_
    refine XS.iloadN X3.here hx rfl (hb hby d37_12) rfl ?_
    refine XS.ifYes X3.here hx rfl (pc0 := 13) (pc' := 35) rfl (hb hby d37_13) rfl ((if0 _ _).trans (feq (fun q => absurd ((own_eq (j := 0) (by omega) (by omega)).mp q) (by omega))).2) (by decide) (by decide) ?_
    show Steps _ _ _ (T3.setTop (mkF m 35 #[.val (.ref x), .val (.ref A), .val (.int 0), .val (.int (Int32.ofNat cs.length)), .unset] [])) _
    refine st4 _ ?_
    show Steps _ _ _ (T4.setTop (mkF m 38 #[.val (.ref x), .val (.ref A), .val (.int 0), .val (.int (Int32.ofNat cs.length)), .unset] [(.int G1)])) _
    refine XS.ifNo X4.here hx rfl (hb hby d37_38) rfl ((if0 _ _).trans (feq P5).1) ?_
    refine XS.aloadN X4.here hx rfl (hb hby d37_41) rfl rfl ?_
    refine XS.iloadN X4.here hx rfl (hb hby d37_42) rfl ?_
    refine XS.iloadN X4.here hx rfl (hb hby d37_43) rfl ?_
    show Steps _ _ _ (T4.setTop (mkF m 44 #[.val (.ref x), .val (.ref A), .val (.int 0), .val (.int (Int32.ofNat cs.length)), .unset] [(.int (Int32.ofNat cs.length)), (.int 0), (.ref A)])) _
    refine st5 _ ?_
    show Steps _ _ _ (T5.setTop (mkF m 47 #[.val (.ref x), .val (.ref A), .val (.int 0), .val (.int (Int32.ofNat cs.length)), .unset] [(.ref t5)])) _
    refine XS.astore X5.here hx rfl (hb hby d37_47) rfl rfl (l' := #[.val (.ref x), .val (.ref A), .val (.int 0), .val (.int (Int32.ofNat cs.length)), .val (.ref t5)]) rfl ?_
    refine XS.aloadN X5.here hx rfl (hb hby d37_49) rfl rfl ?_
    refine XS.aload X5.here hx rfl (hb hby d37_50) rfl rfl ?_
    refine XS.iloadN X5.here hx rfl (hb hby d37_52) rfl ?_
    show Steps _ _ _ (T5.setTop (mkF m 53 #[.val (.ref x), .val (.ref A), .val (.int 0), .val (.int (Int32.ofNat cs.length)), .val (.ref t5)] [(.int (Int32.ofNat cs.length)), (.ref t5), (.ref x)])) _
    refine st6 _ ?_
    show Steps _ _ _ (T6.setTop (mkF m 56 #[.val (.ref x), .val (.ref A), .val (.int 0), .val (.int (Int32.ofNat cs.length)), .val (.ref t5)] [(.int 0), (.ref x)])) _
    refine st7 _ ?_
    show Steps _ _ _ (T7.setTop (mkF m 59 #[.val (.ref x), .val (.ref A), .val (.int 0), .val (.int (Int32.ofNat cs.length)), .val (.ref t5)] [])) _
    refine XS.aloadN X7.here hx rfl (hb hby d37_59) rfl rfl ?_
    refine XS.aload X7.here hx rfl (hb hby d37_60) rfl rfl ?_
    show Steps _ _ _ (T7.setTop (mkF m 62 #[.val (.ref x), .val (.ref A), .val (.int 0), .val (.int (Int32.ofNat cs.length)), .val (.ref t5)] [(.ref t5), (.ref x)])) _
    refine st10 _ ?_
    show Steps _ _ _ (T10.setTop (mkF m 65 #[.val (.ref x), .val (.ref A), .val (.int 0), .val (.int (Int32.ofNat cs.length)), .val (.ref t5)] [])) _
    exact X10.returnOut hx Bd.returns (hb hby d37_65) hr
  · show own_QSI Z x cs h0 n0 _ T10.heap _
    rw [e10]
    exact ⟨rfl, N10, ((((Keep.refl h0 [x]).trans Kq5 all0).wr W7 (Or.inl (tk 0 rfl))).wr W10 (Or.inl (tk 0 rfl))), t5, kt5, f13, f14, Fw10, f15, hp, hn4⟩
theorem rmSIn (l : Launch) (Z : State) (a0 : Array Value) (hw : ∀ d ∈ tables_1, d.before a0 Z = true) (ws : List Jvm.Cond) (G1 : Int32) (G3 : Value) (x : Addr) (A : Addr) (kA : ClassId) (cs : List Int32) (n : Nat) (hcn : cs.length = n) (h0 : Heap) (n0 : Nat) (Z0 : n0 ≤ h0.size) (EN : own_env Z G1 G3) (X00 : Old Z n0 h0) (E_x : Exa Z h0 x "java/lang/String") (F_coder_x : Fld Z h0 x "java/lang/String" "coder" "B" (.int 0)) (F_value_x : Fld Z h0 x "java/lang/String" "value" "[B" .null) (g_x : n0 ≤ x) (V_A : Arv Z h0 A kA .int (Int32.ofNat n) (cs.map Value.int) (.int 0)) (hn1 : 1 ≤ cs.length) (hn4 : cs.length ≤ 4) (hp : ∀ c ∈ cs, ¬ c < 0 ∧ ¬ (255 : Int32) < c) :
    MetFree l y_31 (head1 (Jvm.Cond.code y_31 jdk_42_method_6_code 5 none :: ws) ({ frames := 2, cells := 1, slots := 4, locals := 29 } : Room)) (fun a_ U_ => a_ = #[(.ref x), (.ref A), (.int 0), (.int (Int32.ofNat n))] ∧ Z.Warmed39 U_.vm ∧ U_.heap = h0) (fun _ _ _ _ _ => True) (fun _ U_ o_ U1_ => ∃ v_ L_, o_ = .returned v_ ∧ own_QSI Z x cs h0 n0 v_ U1_.heap L_ ∧ FrameEnd U_ o_ U1_ L_ ({ frames := 2, cells := 1, slots := 4, locals := 29 } : Room).cells ({ frames := 2, cells := 1, slots := 4, locals := 29 } : Room).slots) := by
  subst hcn
  exact rmSI l Z a0 hw ws G1 G3 x A kA cs h0 n0 Z0 EN X00 E_x F_coder_x F_value_x g_x V_A hn1 hn4 hp
theorem d9_0 : decode jdk_22_method_1_code 0 = .ok (.aload_n 0, 1) := by decide +kernel
theorem d9_1 : decode jdk_22_method_1_code 1 = .ok (.invokespecial 1, 3) := by decide +kernel
theorem d9_4 : decode jdk_22_method_1_code 4 = .ok (.return_, 1) := by decide +kernel
theorem pn_9 : plainName "java/util/AbstractCollection" = true := by first | (simp [plainName, overriddenIn]; done) | decide +kernel
theorem ef_9_r (m : MethodId) (x0 : Addr) : entryFrame m #[(.ref x0)] 1 = mkF m 0 #[.val (.ref x0)] [] := by first | (simp [entryFrame, mkF, argsToLocals, Value.category]; done) | rfl
theorem rmAC (l : Launch) (Z : State) (a0 : Array Value) (hw : ∀ d ∈ tables_1, d.before a0 Z = true) (ws : List Jvm.Cond) (a1 : Addr) (h0 : Heap) (n0 : Nat) (Z0 : n0 ≤ h0.size) :
    MetFree l y_32 (head1 (Jvm.Cond.code y_32 jdk_22_method_1_code 1 none :: ws) ({ frames := 1, cells := 0, slots := 0, locals := 12 } : Room)) (fun a_ U_ => a_ = #[(.ref a1)] ∧ Z.Warmed39 U_.vm ∧ U_.heap = h0) (fun _ _ _ _ _ => True) (fun _ U_ o_ U1_ => ∃ v_ L_, o_ = .returned v_ ∧ own_Q Z none h0 n0 v_ U1_.heap L_ ∧ FrameEnd U_ o_ U1_ L_ ({ frames := 1, cells := 0, slots := 0, locals := 12 } : Room).cells ({ frames := 1, cells := 0, slots := 0, locals := 12 } : Room).slots) := by
  refine MetFree.of_bodySF (plainFor_of_name pn_9) hisR ?_
  intro p e s m args below meth c s₁ Bd hml0 hP hK
  obtain ⟨rfl, hZ, hh⟩ := hP
  have hx := Bd.exec
  have hby := Bd.bytes
  have hml : c.maxLocals = 1 := hml0
  have hown : s.vm.findClass "java/util/AbstractCollection" = some m.cls := findClass_of_methodNamed Bd.named
  have hnm := (name_of_methodNamed Bd.named Bd.method).1
  have X0 : Stand p l e ({ frames := 1, cells := 0, slots := 0, locals := 12 } : Room) s m #[(.ref a1)] below meth c s₁ [] 0 0 := Stand.of_body Bd
  have e0 : s₁.heap = h0 := by rw [← hh, Bd.state]; rfl
  have N0 := Fr.nil n0
  have pre0 : ∀ tt, Steps p.tables e below (s₁.setTop (mkF m 0 #[.val (.ref a1)] [])) tt → Steps p.tables e below (s₁.setTop (entryFrame m #[(.ref a1)] 1)) tt := fun tt kk => castTop (ef_9_r m a1) kk
  obtain ⟨T1, X1, e1, st1⟩ := initO X0 hx hZ hown (hw _ (tk 71 rfl)) (hw _ (tk 8 rfl)) (hw _ (tk 9 rfl)) e0 (g := (mkF m 1 #[.val (.ref a1)] [(.ref a1)])) rfl (by rw [hml]; rfl) rfl (hb hby d9_1) (by decide) (W := 0) (by show 2 * 0 + _ ≤ _; exact Nat.le_of_eq rfl) (by decide)
  obtain ⟨fs, hr, hrun, hended, hW, hsame⟩ := X1.leave (v := none) (fun _ => rfl)
  refine ⟨_, _, pre0 _ ?_, hrun, hended, _, _, rfl, ?_, ⟨_, rfl⟩, hW, hsame.mono (by decide) (by decide)⟩
  · show Steps _ _ _ (s₁.setTop (mkF m 0 #[.val (.ref a1)] [])) _
    refine XS.aloadN X0.here hx rfl (hb hby d9_0) rfl rfl ?_
    show Steps _ _ _ (s₁.setTop (mkF m 1 #[.val (.ref a1)] [(.ref a1)])) _
    refine st1 _ ?_
    show Steps _ _ _ (T1.setTop (mkF m 4 #[.val (.ref a1)] [])) _
    exact X1.returnOut hx Bd.returns (hb hby d9_4) hr
  · show own_Q Z none h0 n0 _ T1.heap _
    rw [e1]
    exact ⟨rfl, N0, rfl⟩
def QAB (Z : State) (a1 : Addr) (h0 : Heap) (n0 : Nat) (v : Option Value) (h : Heap) (L : List Loc) : Prop := v = none ∧ Fr n0 L ∧ Keep h0 h [a1] ∧ Exa Z h a1 "java/util/ArrayList" ∧ Fld Z h a1 "java/util/AbstractList" "modCount" "I" (.int 0) ∧ Fld Z h a1 "java/util/ArrayList" "elementData" "[Ljava/lang/Object;" .null ∧ Fld Z h a1 "java/util/ArrayList" "size" "I" (.int 0)
theorem d8_0 : decode jdk_39_method_1_code 0 = .ok (.aload_n 0, 1) := by decide +kernel
theorem d8_1 : decode jdk_39_method_1_code 1 = .ok (.invokespecial 1, 3) := by decide +kernel
theorem d8_4 : decode jdk_39_method_1_code 4 = .ok (.aload_n 0, 1) := by decide +kernel
theorem d8_5 : decode jdk_39_method_1_code 5 = .ok (.iconst 0, 1) := by decide +kernel
theorem d8_6 : decode jdk_39_method_1_code 6 = .ok (.putfield 7, 3) := by decide +kernel
theorem d8_9 : decode jdk_39_method_1_code 9 = .ok (.return_, 1) := by decide +kernel
theorem pn_8 : plainName "java/util/AbstractList" = true := by first | (simp [plainName, overriddenIn]; done) | decide +kernel
theorem ef_8_r (m : MethodId) (x0 : Addr) : entryFrame m #[(.ref x0)] 1 = mkF m 0 #[.val (.ref x0)] [] := by first | (simp [entryFrame, mkF, argsToLocals, Value.category]; done) | rfl
theorem rmAB (l : Launch) (Z : State) (a0 : Array Value) (hw : ∀ d ∈ tables_1, d.before a0 Z = true) (ws : List Jvm.Cond) (a1 : Addr) (h0 : Heap) (n0 : Nat) (Z0 : n0 ≤ h0.size) (E_a1 : Exa Z h0 a1 "java/util/ArrayList") (F_modCount_a1 : Fld Z h0 a1 "java/util/AbstractList" "modCount" "I" (.int 0)) (F_elementData_a1 : Fld Z h0 a1 "java/util/ArrayList" "elementData" "[Ljava/lang/Object;" .null) (F_size_a1 : Fld Z h0 a1 "java/util/ArrayList" "size" "I" (.int 0)) (g_a1 : n0 ≤ a1) :
    MetFree l y_33 (head1 (Jvm.Cond.code y_33 jdk_39_method_1_code 1 none :: ws) ({ frames := 2, cells := 0, slots := 0, locals := 24 } : Room)) (fun a_ U_ => a_ = #[(.ref a1)] ∧ Z.Warmed39 U_.vm ∧ U_.heap = h0) (fun _ _ _ _ _ => True) (fun _ U_ o_ U1_ => ∃ v_ L_, o_ = .returned v_ ∧ QAB Z a1 h0 n0 v_ U1_.heap L_ ∧ FrameEnd U_ o_ U1_ L_ ({ frames := 2, cells := 0, slots := 0, locals := 24 } : Room).cells ({ frames := 2, cells := 0, slots := 0, locals := 24 } : Room).slots) := by
  refine MetFree.of_bodySF (plainFor_of_name pn_8) hisR ?_
  intro p e s m args below meth c s₁ Bd hml0 hP hK
  obtain ⟨rfl, hZ, hh⟩ := hP
  have hx := Bd.exec
  have hby := Bd.bytes
  have hml : c.maxLocals = 1 := hml0
  have hown : s.vm.findClass "java/util/AbstractList" = some m.cls := findClass_of_methodNamed Bd.named
  have hnm := (name_of_methodNamed Bd.named Bd.method).1
  have X0 : Stand p l e ({ frames := 2, cells := 0, slots := 0, locals := 24 } : Room) s m #[(.ref a1)] below meth c s₁ [] 0 0 := Stand.of_body Bd
  have e0 : s₁.heap = h0 := by rw [← hh, Bd.state]; rfl
  have N0 := Fr.nil n0
  have pre0 : ∀ tt, Steps p.tables e below (s₁.setTop (mkF m 0 #[.val (.ref a1)] [])) tt → Steps p.tables e below (s₁.setTop (entryFrame m #[(.ref a1)] 1)) tt := fun tt kk => castTop (ef_8_r m a1) kk
  obtain ⟨_, _, ⟨T1, L1, k1, n1⟩, -, X1, ⟨Lc1, hQ1, l1, y1, z1⟩, st1⟩ := X0.specialBack hx (y := y_32) rfl hown (mvT hZ (hw _ (tk 65 rfl))) (mvT hZ (hw _ (tk 66 rfl))) (mvT hZ (hw _ (tk 70 rfl))) (by decide) (backOf (W := 0) (rmAC l Z a0 hw [] a1 h0 n0 Z0) hZ (hw _ (tk 70 rfl)) (hw _ (tk 69 rfl)) (by decide) (by decide)) (g := (mkF m 1 #[.val (.ref a1)] [(.ref a1)])) rfl (by rw [hml]; rfl) (Steps.refl _) (a := a1) (argsL := []) (rest := []) (lenOf pd___V rfl) rfl (by show 2 * 0 + _ ≤ _; exact Nat.le_of_eq rfl) (hb hby d8_1) (fun _ _ => ⟨rfl, e0, (by decide : 0 + 0 ≤ _), (by decide : 0 + 0 ≤ _)⟩)
  dsimp only [Pt.U, Pt.locs, Pt.cells, Pt.slots] at X1 l1 y1 z1 st1 hQ1
  subst l1 y1 z1
  obtain ⟨rfl, Nq1, eq1⟩ := hQ1
  have N1 := Fr.app N0 Nq1
  obtain ⟨T2, h2, X2, e2, W2, st2⟩ := putF X1 hx hZ hown (host := "") (Or.inl (hw _ (tk 72 rfl))) Via.refl eq1 F_modCount_a1 E_a1 (Or.inl (hw _ (tk 73 rfl))) (hw _ (tk 54 rfl)) (ty := .int) (by decide) rfl rfl (g := (mkF m 6 #[.val (.ref a1)] [(.int 0), (.ref a1)])) rfl rfl (hb hby d8_6)
  have Fw2 := F_modCount_a1.same W2
  have N2 := Fr.snoc X2 N1 g_a1
  have f3 := (E_a1.wr W2)
  have f4 := (F_elementData_a1.other W2 (Or.inr (slot_ne (Or.inl (hw _ (tk 77 rfl))) (Or.inl (hw _ (tk 73 rfl))) (by decide) (t := (.array (.object "java/lang/Object"))) (t' := .int) (by decide) (by decide))))
  have f5 := (F_size_a1.other W2 (Or.inr (slot_ne (Or.inl (hw _ (tk 91 rfl))) (Or.inl (hw _ (tk 73 rfl))) (by decide) (t := .int) (t' := .int) (by decide) (by decide))))
  obtain ⟨fs, hr, hrun, hended, hW, hsame⟩ := X2.leave (v := none) (fun _ => rfl)
  refine ⟨_, _, pre0 _ ?_, hrun, hended, _, _, rfl, ?_, ⟨_, rfl⟩, hW, hsame.mono (by decide) (by decide)⟩
  · show Steps _ _ _ (s₁.setTop (mkF m 0 #[.val (.ref a1)] [])) _
    refine XS.aloadN X0.here hx rfl (hb hby d8_0) rfl rfl ?_
    show Steps _ _ _ (s₁.setTop (mkF m 1 #[.val (.ref a1)] [(.ref a1)])) _
    refine st1.trans ?_
    show Steps _ _ _ (T1.setTop (mkF m 4 #[.val (.ref a1)] [])) _
    refine XS.aloadN X1.here hx rfl (hb hby d8_4) rfl rfl ?_
    refine XS.iconst X1.here hx rfl (hb hby d8_5) ?_
    show Steps _ _ _ (T1.setTop (mkF m 6 #[.val (.ref a1)] [(.int 0), (.ref a1)])) _
    refine st2 _ ?_
    show Steps _ _ _ (T2.setTop (mkF m 9 #[.val (.ref a1)] [])) _
    exact X2.returnOut hx Bd.returns (hb hby d8_9) hr
  · show QAB Z a1 h0 n0 _ T2.heap _
    rw [e2]
    exact ⟨rfl, N2, ((Keep.refl h0 [a1]).wr W2 (Or.inl (tk 0 rfl))), f3, Fw2, f4, f5⟩
def QAL (Z : State) (a1 : Addr) (h0 : Heap) (n0 : Nat) (v : Option Value) (h : Heap) (L : List Loc) : Prop := ∃ (t : Addr) (k : ClassId), v = none ∧ Fr n0 L ∧ n0 ≤ t ∧ h0.size ≤ t ∧ Keep h0 h [a1] ∧ Exa Z h a1 "java/util/ArrayList" ∧ Fld Z h a1 "java/util/AbstractList" "modCount" "I" (.int 0) ∧ Fld Z h a1 "java/util/ArrayList" "elementData" "[Ljava/lang/Object;" (.ref t) ∧ Fld Z h a1 "java/util/ArrayList" "size" "I" (.int 0) ∧ Arv Z h t k (.object "java/lang/Object") (3 : Int32) [] .null ∧ Ovr Z k "java/lang/Object"
theorem d7_0 : decode jdk_38_method_1_code 0 = .ok (.aload_n 0, 1) := by decide +kernel
theorem d7_1 : decode jdk_38_method_1_code 1 = .ok (.invokespecial 1, 3) := by decide +kernel
theorem d7_4 : decode jdk_38_method_1_code 4 = .ok (.iload_n 1, 1) := by decide +kernel
theorem d7_5 : decode jdk_38_method_1_code 5 = .ok (.ifCond .le 14, 3) := by decide +kernel
theorem d7_8 : decode jdk_38_method_1_code 8 = .ok (.aload_n 0, 1) := by decide +kernel
theorem d7_9 : decode jdk_38_method_1_code 9 = .ok (.iload_n 1, 1) := by decide +kernel
theorem d7_10 : decode jdk_38_method_1_code 10 = .ok (.anewarray 7, 3) := by decide +kernel
theorem d7_13 : decode jdk_38_method_1_code 13 = .ok (.putfield 9, 3) := by decide +kernel
theorem d7_16 : decode jdk_38_method_1_code 16 = .ok (.goto 44, 3) := by decide +kernel
theorem d7_60 : decode jdk_38_method_1_code 60 = .ok (.return_, 1) := by decide +kernel
theorem pn_7 : plainName "java/util/ArrayList" = true := by first | (simp [plainName, overriddenIn]; done) | decide +kernel
theorem ef_7_rr (m : MethodId) (x0 : Addr) (x1 : Int32) : entryFrame m #[(.ref x0), (.int x1)] 2 = mkF m 0 #[.val (.ref x0), .val (.int x1)] [] := by first | (simp [entryFrame, mkF, argsToLocals, Value.category]; done) | rfl
theorem rmAL (l : Launch) (Z : State) (a0 : Array Value) (hw : ∀ d ∈ tables_1, d.before a0 Z = true) (ws : List Jvm.Cond) (a1 : Addr) (h0 : Heap) (n0 : Nat) (Z0 : n0 ≤ h0.size) (E_a1 : Exa Z h0 a1 "java/util/ArrayList") (F_modCount_a1 : Fld Z h0 a1 "java/util/AbstractList" "modCount" "I" (.int 0)) (F_elementData_a1 : Fld Z h0 a1 "java/util/ArrayList" "elementData" "[Ljava/lang/Object;" .null) (F_size_a1 : Fld Z h0 a1 "java/util/ArrayList" "size" "I" (.int 0)) (g_a1 : n0 ≤ a1) :
    MetFree l y_34 (head1 (Jvm.Cond.code y_34 jdk_38_method_1_code 2 none :: ws) ({ frames := 3, cells := 1, slots := 3, locals := 36 } : Room)) (fun a_ U_ => a_ = #[(.ref a1), (.int 3)] ∧ Z.Warmed39 U_.vm ∧ U_.heap = h0) (fun _ _ _ _ _ => True) (fun _ U_ o_ U1_ => ∃ v_ L_, o_ = .returned v_ ∧ QAL Z a1 h0 n0 v_ U1_.heap L_ ∧ FrameEnd U_ o_ U1_ L_ ({ frames := 3, cells := 1, slots := 3, locals := 36 } : Room).cells ({ frames := 3, cells := 1, slots := 3, locals := 36 } : Room).slots) := by
  refine MetFree.of_bodySF (plainFor_of_name pn_7) hisR ?_
  intro p e s m args below meth c s₁ Bd hml0 hP hK
  obtain ⟨rfl, hZ, hh⟩ := hP
  have hx := Bd.exec
  have hby := Bd.bytes
  have hml : c.maxLocals = 2 := hml0
  have hown : s.vm.findClass "java/util/ArrayList" = some m.cls := findClass_of_methodNamed Bd.named
  have hnm := (name_of_methodNamed Bd.named Bd.method).1
  have X0 : Stand p l e ({ frames := 3, cells := 1, slots := 3, locals := 36 } : Room) s m #[(.ref a1), (.int 3)] below meth c s₁ [] 0 0 := Stand.of_body Bd
  have e0 : s₁.heap = h0 := by rw [← hh, Bd.state]; rfl
  have N0 := Fr.nil n0
  have pre0 : ∀ tt, Steps p.tables e below (s₁.setTop (mkF m 0 #[.val (.ref a1), .val (.int 3)] [])) tt → Steps p.tables e below (s₁.setTop (entryFrame m #[(.ref a1), (.int 3)] 2)) tt := fun tt kk => castTop (ef_7_rr m a1 (3 : Int32)) kk
  obtain ⟨_, _, ⟨T1, L1, k1, n1⟩, -, X1, ⟨Lc1, hQ1, l1, y1, z1⟩, st1⟩ := X0.specialBack hx (y := y_33) rfl hown (mvT hZ (hw _ (tk 59 rfl))) (mvT hZ (hw _ (tk 60 rfl))) (mvT hZ (hw _ (tk 64 rfl))) (by decide) (backOf (W := 0) (rmAB l Z a0 hw [] a1 h0 n0 Z0 E_a1 F_modCount_a1 F_elementData_a1 F_size_a1 g_a1) hZ (hw _ (tk 64 rfl)) (hw _ (tk 63 rfl)) (by decide) (by decide)) (g := (mkF m 1 #[.val (.ref a1), .val (.int 3)] [(.ref a1)])) rfl (by rw [hml]; rfl) (Steps.refl _) (a := a1) (argsL := []) (rest := []) (lenOf pd___V rfl) rfl (by show 2 * 0 + _ ≤ _; exact Nat.le_of_eq rfl) (hb hby d7_1) (fun _ _ => ⟨rfl, e0, (by decide : 0 + 0 ≤ _), (by decide : 0 + 0 ≤ _)⟩)
  dsimp only [Pt.U, Pt.locs, Pt.cells, Pt.slots] at X1 l1 y1 z1 st1 hQ1
  subst l1 y1 z1
  obtain ⟨rfl, Nq1, Kq1, E1q, Fm1q, Fe1q, Fs1q⟩ := hQ1
  have N1 := Fr.app N0 Nq1
  obtain ⟨T2, h2, k2, X2, e2, E2, A2, O2, st2⟩ := newR X1 hx hZ hown (hw _ (tk 74 rfl)) (hw _ (tk 75 rfl)) rfl (g := (mkF m 10 #[.val (.ref a1), .val (.int 3)] [(.int 3), (.ref a1)])) rfl (hb hby d7_10) rfl (by decide) (cap := 3) (by decide) (by decide) (by decide) (by decide)
  obtain ⟨b2, g2⟩ : ∃ z, z = T1.heap.size := ⟨_, rfl⟩
  rw [← g2] at A2 st2
  have g_b2 : n0 ≤ b2 := Nat.le_trans (Nat.le_trans Z0 Kq1.1) (Nat.le_of_eq g2.symm)
  have sz_b2 : h0.size ≤ b2 := Nat.le_trans Kq1.1 (Nat.le_of_eq g2.symm)
  have V2 : Arv Z h2 b2 k2 (.object "java/lang/Object") (3 : Int32) [] .null := Arv.new A2 (by decide)
  have f4 := (E1q.ext E2)
  have f5 := (Fe1q.ext E2)
  obtain ⟨T3, h3, X3, e3, W3, st3⟩ := putF X2 hx hZ hown (host := "") (Or.inl (hw _ (tk 76 rfl))) Via.refl e2 f5 f4 (Or.inl (hw _ (tk 77 rfl))) (hw _ (tk 54 rfl)) (ty := (.array (.object "java/lang/Object"))) (by decide) rfl rfl (g := (mkF m 13 #[.val (.ref a1), .val (.int 3)] [(.ref b2), (.ref a1)])) rfl rfl (hb hby d7_13)
  have Fw3 := f5.same W3
  have N3 := Fr.snoc X3 N1 g_a1
  have f6 := (f4.wr W3)
  have f7 := ((Fm1q.ext E2).other W3 (Or.inr (slot_ne (Or.inl (hw _ (tk 73 rfl))) (Or.inl (hw _ (tk 77 rfl))) (by decide) (t := .int) (t' := (.array (.object "java/lang/Object"))) (by decide) (by decide))))
  have f8 := ((Fs1q.ext E2).other W3 (Or.inr (slot_ne (Or.inl (hw _ (tk 91 rfl))) (Or.inl (hw _ (tk 77 rfl))) (by decide) (t := .int) (t' := (.array (.object "java/lang/Object"))) (by decide) (by decide))))
  have f9 := (V2.other W3 (Ne.symm (Nat.ne_of_lt (Nat.lt_of_lt_of_le (Nat.lt_of_lt_of_le E_a1.lt Kq1.1) (Nat.le_of_eq g2.symm)))))
  obtain ⟨fs, hr, hrun, hended, hW, hsame⟩ := X3.leave (v := none) (fun _ => rfl)
  refine ⟨_, _, pre0 _ ?_, hrun, hended, _, _, rfl, ?_, ⟨_, rfl⟩, hW, hsame.mono (by decide) (by decide)⟩
  · show Steps _ _ _ (s₁.setTop (mkF m 0 #[.val (.ref a1), .val (.int 3)] [])) _
    refine XS.aloadN X0.here hx rfl (hb hby d7_0) rfl rfl ?_
    show Steps _ _ _ (s₁.setTop (mkF m 1 #[.val (.ref a1), .val (.int 3)] [(.ref a1)])) _
    refine st1.trans ?_
    show Steps _ _ _ (T1.setTop (mkF m 4 #[.val (.ref a1), .val (.int 3)] [])) _
    refine XS.iloadN X1.here hx rfl (hb hby d7_4) rfl ?_
    refine XS.ifNo X1.here hx rfl (hb hby d7_5) rfl ((if0 _ _).trans (tlt (by decide : (0 : Int32) < (3 : Int32))).2.2.2) ?_
    refine XS.aloadN X1.here hx rfl (hb hby d7_8) rfl rfl ?_
    refine XS.iloadN X1.here hx rfl (hb hby d7_9) rfl ?_
    show Steps _ _ _ (T1.setTop (mkF m 10 #[.val (.ref a1), .val (.int 3)] [(.int 3), (.ref a1)])) _
    refine st2 _ ?_
    show Steps _ _ _ (T2.setTop (mkF m 13 #[.val (.ref a1), .val (.int 3)] [(.ref b2), (.ref a1)])) _
    refine st3 _ ?_
    show Steps _ _ _ (T3.setTop (mkF m 16 #[.val (.ref a1), .val (.int 3)] [])) _
    refine XS.goto X3.here hx rfl (pc0 := 16) (pc' := 60) rfl (hb hby d7_16) (by decide) (by decide) ?_
    show Steps _ _ _ (T3.setTop (mkF m 60 #[.val (.ref a1), .val (.int 3)] [])) _
    exact X3.returnOut hx Bd.returns (hb hby d7_60) hr
  · show QAL Z a1 h0 n0 _ T3.heap _
    rw [e3]
    exact ⟨b2, k2, rfl, N3, g_b2, sz_b2, ((((Keep.refl h0 [a1]).trans Kq1 (allS (P := fun zz => zz ∈ [a1] ∨ h0.size ≤ zz) (Or.inl (tk 0 rfl)) all0)).ext E2).wr W3 (Or.inl (tk 0 rfl))), f6, f7, Fw3, f8, f9, O2⟩
def QP0 (Z : State) (a1 y t : Addr) (k : ClassId) (mc : Int32) (h0 : Heap) (n0 : Nat) (v : Option Value) (h : Heap) (L : List Loc) : Prop := v = none ∧ Fr n0 L ∧ Keep h0 h [a1, t] ∧ Exa Z h a1 "java/util/ArrayList" ∧ Fld Z h a1 "java/util/AbstractList" "modCount" "I" (.int mc) ∧ Fld Z h a1 "java/util/ArrayList" "elementData" "[Ljava/lang/Object;" (.ref t) ∧ Fld Z h a1 "java/util/ArrayList" "size" "I" (.int 1) ∧ Arv Z h t k (.object "java/lang/Object") (3 : Int32) [(.ref y)] .null
theorem d11_0 : decode jdk_38_method_24_code 0 = .ok (.iload_n 3, 1) := by decide +kernel
theorem d11_1 : decode jdk_38_method_24_code 1 = .ok (.aload_n 2, 1) := by decide +kernel
theorem d11_2 : decode jdk_38_method_24_code 2 = .ok (.arraylength, 1) := by decide +kernel
theorem d11_3 : decode jdk_38_method_24_code 3 = .ok (.if_icmp .ne 8, 3) := by decide +kernel
theorem d11_11 : decode jdk_38_method_24_code 11 = .ok (.aload_n 2, 1) := by decide +kernel
theorem d11_12 : decode jdk_38_method_24_code 12 = .ok (.iload_n 3, 1) := by decide +kernel
theorem d11_13 : decode jdk_38_method_24_code 13 = .ok (.aload_n 1, 1) := by decide +kernel
theorem d11_14 : decode jdk_38_method_24_code 14 = .ok (.aastore, 1) := by decide +kernel
theorem d11_15 : decode jdk_38_method_24_code 15 = .ok (.aload_n 0, 1) := by decide +kernel
theorem d11_16 : decode jdk_38_method_24_code 16 = .ok (.iload_n 3, 1) := by decide +kernel
theorem d11_17 : decode jdk_38_method_24_code 17 = .ok (.iconst 1, 1) := by decide +kernel
theorem d11_18 : decode jdk_38_method_24_code 18 = .ok (.iadd, 1) := by decide +kernel
theorem d11_19 : decode jdk_38_method_24_code 19 = .ok (.putfield 48, 3) := by decide +kernel
theorem d11_22 : decode jdk_38_method_24_code 22 = .ok (.return_, 1) := by decide +kernel
theorem pn_11 : plainName "java/util/ArrayList" = true := by first | (simp [plainName, overriddenIn]; done) | decide +kernel
theorem ef_11_rrrr (m : MethodId) (x0 : Addr) (x1 : Addr) (x2 : Addr) (x3 : Int32) : entryFrame m #[(.ref x0), (.ref x1), (.ref x2), (.int x3)] 4 = mkF m 0 #[.val (.ref x0), .val (.ref x1), .val (.ref x2), .val (.int x3)] [] := by first | (simp [entryFrame, mkF, argsToLocals, Value.category]; done) | rfl
theorem rmP0 (l : Launch) (Z : State) (a0 : Array Value) (hw : ∀ d ∈ tables_1, d.before a0 Z = true) (ws : List Jvm.Cond) (a1 : Addr) (y : Addr) (t : Addr) (k : ClassId) (mc : Int32) (h0 : Heap) (n0 : Nat) (Z0 : n0 ≤ h0.size) (E_a1 : Exa Z h0 a1 "java/util/ArrayList") (F_modCount_a1 : Fld Z h0 a1 "java/util/AbstractList" "modCount" "I" (.int mc)) (F_elementData_a1 : Fld Z h0 a1 "java/util/ArrayList" "elementData" "[Ljava/lang/Object;" (.ref t)) (F_size_a1 : Fld Z h0 a1 "java/util/ArrayList" "size" "I" (.int 0)) (g_a1 : n0 ≤ a1) (E_y : Exa Z h0 y "java/lang/String") (V_t : Arv Z h0 t k (.object "java/lang/Object") (3 : Int32) [] .null) (g_t : n0 ≤ t) (Ov : Ovr Z k "java/lang/Object") :
    MetFree l y_35 (head1 (Jvm.Cond.code y_35 jdk_38_method_24_code 4 none :: ws) ({ frames := 0, cells := 0, slots := 0, locals := 0 } : Room)) (fun a_ U_ => a_ = #[(.ref a1), (.ref y), (.ref t), (.int 0)] ∧ Z.Warmed39 U_.vm ∧ U_.heap = h0) (fun _ _ _ _ _ => True) (fun _ U_ o_ U1_ => ∃ v_ L_, o_ = .returned v_ ∧ QP0 Z a1 y t k mc  h0 n0 v_ U1_.heap L_ ∧ FrameEnd U_ o_ U1_ L_ ({ frames := 0, cells := 0, slots := 0, locals := 0 } : Room).cells ({ frames := 0, cells := 0, slots := 0, locals := 0 } : Room).slots) := by
  refine MetFree.of_bodySF (plainFor_of_name pn_11) hisR ?_
  intro p e s m args below meth c s₁ Bd hml0 hP hK
  obtain ⟨rfl, hZ, hh⟩ := hP
  have hx := Bd.exec
  have hby := Bd.bytes
  have hml : c.maxLocals = 4 := hml0
  have hown : s.vm.findClass "java/util/ArrayList" = some m.cls := findClass_of_methodNamed Bd.named
  have hnm := (name_of_methodNamed Bd.named Bd.method).1
  have X0 : Stand p l e ({ frames := 0, cells := 0, slots := 0, locals := 0 } : Room) s m #[(.ref a1), (.ref y), (.ref t), (.int 0)] below meth c s₁ [] 0 0 := Stand.of_body Bd
  have e0 : s₁.heap = h0 := by rw [← hh, Bd.state]; rfl
  have N0 := Fr.nil n0
  have pre0 : ∀ tt, Steps p.tables e below (s₁.setTop (mkF m 0 #[.val (.ref a1), .val (.ref y), .val (.ref t), .val (.int 0)] [])) tt → Steps p.tables e below (s₁.setTop (entryFrame m #[(.ref a1), (.ref y), (.ref t), (.int 0)] 4)) tt := fun tt kk => castTop (ef_11_rrrr m a1 y t (0 : Int32)) kk
  obtain ⟨c1, Ar1, -, S1, M1, -, -⟩ := id V_t
  obtain ⟨c2, Ar2, q2, S2, M2, H2, Gz2⟩ := id (V_t.pad (pad_rep [] .null 1))
  have hin2 := inb_of (j := (0 : Int32)) S2 ⟨by decide, by decide⟩
  obtain ⟨T2, h2, X2, e2, W2, st2⟩ := stR X0 hx hZ e0 Ar2 (j := (0 : Int32)) hin2 rfl (Sto.ofV Ar2 q2 Ov (Ins.of_exa E_y (hw _ (tk 97 rfl)))) (g := (mkF m 14 #[.val (.ref a1), .val (.ref y), .val (.ref t), .val (.int 0)] [(.ref y), (.int 0), (.ref t)])) rfl rfl (hb hby d11_14)
  have V2 : Arv Z h2 t k (.object "java/lang/Object") (3 : Int32) [(.ref y)] .null := Arv.set Ar2 q2 S2 M2 H2 Gz2 rfl W2 0 rfl (Nat.le_of_ble_eq_true rfl)
  have N2 := Fr.snoc X2 N0 g_t
  have f4 := (E_a1.wr W2)
  have f5 := (F_size_a1.other W2 (Or.inl (Exa.neArv E_a1 V_t (hw _ (tk 54 rfl)))))
  obtain ⟨T3, h3, X3, e3, W3, st3⟩ := putF X2 hx hZ hown (host := "") (Or.inl (hw _ (tk 90 rfl))) Via.refl e2 f5 f4 (Or.inl (hw _ (tk 91 rfl))) (hw _ (tk 54 rfl)) (ty := .int) (by decide) rfl rfl (g := (mkF m 19 #[.val (.ref a1), .val (.ref y), .val (.ref t), .val (.int 0)] [(.int 1), (.ref a1)])) rfl rfl (hb hby d11_19)
  have Fw3 := f5.same W3
  have N3 := Fr.snoc X3 N2 g_a1
  have f6 := (f4.wr W3)
  have f7 := ((F_modCount_a1.other W2 (Or.inl (Exa.neArv E_a1 V_t (hw _ (tk 54 rfl))))).other W3 (Or.inr (slot_ne (Or.inl (hw _ (tk 73 rfl))) (Or.inl (hw _ (tk 91 rfl))) (by decide) (t := .int) (t' := .int) (by decide) (by decide))))
  have f8 := ((F_elementData_a1.other W2 (Or.inl (Exa.neArv E_a1 V_t (hw _ (tk 54 rfl))))).other W3 (Or.inr (slot_ne (Or.inl (hw _ (tk 77 rfl))) (Or.inl (hw _ (tk 91 rfl))) (by decide) (t := (.array (.object "java/lang/Object"))) (t' := .int) (by decide) (by decide))))
  have f9 := (V2.other W3 (Ne.symm (Exa.neArv E_a1 V_t (hw _ (tk 54 rfl)))))
  obtain ⟨fs, hr, hrun, hended, hW, hsame⟩ := X3.leave (v := none) (fun _ => rfl)
  refine ⟨_, _, pre0 _ ?_, hrun, hended, _, _, rfl, ?_, ⟨_, rfl⟩, hW, hsame.mono (by decide) (by decide)⟩
  · show Steps _ _ _ (s₁.setTop (mkF m 0 #[.val (.ref a1), .val (.ref y), .val (.ref t), .val (.int 0)] [])) _
    refine XS.iloadN X0.here hx rfl (hb hby d11_0) rfl ?_
    refine XS.aloadN X0.here hx rfl (hb hby d11_1) rfl rfl ?_
    show Steps _ _ _ (s₁.setTop (mkF m 2 #[.val (.ref a1), .val (.ref y), .val (.ref t), .val (.int 0)] [(.ref t), (.int 0)])) _
    refine X0.arraylength hx (by rw [e0]; exact Ar1.1) (State.isArrayOf_alike hZ.alike Ar1.2.1) (g := (mkF m 2 #[.val (.ref a1), .val (.ref y), .val (.ref t), .val (.int 0)] [(.ref t), (.int 0)])) rfl rfl (hb hby d11_2) _ ?_
    rw [len_of S1 M1]
    show Steps _ _ _ (s₁.setTop (mkF m 3 #[.val (.ref a1), .val (.ref y), .val (.ref t), .val (.int 0)] [(.int 3), (.int 0)])) _
    refine XS.icmpYes X0.here hx rfl (pc0 := 3) (pc' := 11) rfl (hb hby d11_3) rfl (feq (by decide : ¬ ((0 : Int32) = (3 : Int32)))).2 (by decide) (by decide) ?_
    refine XS.aloadN X0.here hx rfl (hb hby d11_11) rfl rfl ?_
    refine XS.iloadN X0.here hx rfl (hb hby d11_12) rfl ?_
    refine XS.aloadN X0.here hx rfl (hb hby d11_13) rfl rfl ?_
    show Steps _ _ _ (s₁.setTop (mkF m 14 #[.val (.ref a1), .val (.ref y), .val (.ref t), .val (.int 0)] [(.ref y), (.int 0), (.ref t)])) _
    refine st2 _ ?_
    show Steps _ _ _ (T2.setTop (mkF m 15 #[.val (.ref a1), .val (.ref y), .val (.ref t), .val (.int 0)] [])) _
    refine XS.aloadN X2.here hx rfl (hb hby d11_15) rfl rfl ?_
    refine XS.iloadN X2.here hx rfl (hb hby d11_16) rfl ?_
    refine XS.iconst X2.here hx rfl (hb hby d11_17) ?_
    refine XS.iadd X2.here hx rfl (hb hby d11_18) rfl ?_
    show Steps _ _ _ (T2.setTop (mkF m 19 #[.val (.ref a1), .val (.ref y), .val (.ref t), .val (.int 0)] [(.int ((0 : Int32) + (1 : Int32))), (.ref a1)])) _
    rw [(by decide : ((0 : Int32) + (1 : Int32)) = (1 : Int32))]
    show Steps _ _ _ (T2.setTop (mkF m 19 #[.val (.ref a1), .val (.ref y), .val (.ref t), .val (.int 0)] [(.int 1), (.ref a1)])) _
    refine st3 _ ?_
    show Steps _ _ _ (T3.setTop (mkF m 22 #[.val (.ref a1), .val (.ref y), .val (.ref t), .val (.int 0)] [])) _
    exact X3.returnOut hx Bd.returns (hb hby d11_22) hr
  · show QP0 Z a1 y t k mc  h0 n0 _ T3.heap _
    rw [e3]
    exact ⟨rfl, N3, (((Keep.refl h0 [a1, t]).wr W2 (Or.inl (tk 1 rfl))).wr W3 (Or.inl (tk 0 rfl))), f6, f7, f8, Fw3, f9⟩
def QA0 (Z : State) (a1 y t : Addr) (k : ClassId) (mc : Int32) (h0 : Heap) (n0 : Nat) (v : Option Value) (h : Heap) (L : List Loc) : Prop := v = some (.int 1) ∧ Fr n0 L ∧ Keep h0 h [a1, t] ∧ Exa Z h a1 "java/util/ArrayList" ∧ Fld Z h a1 "java/util/AbstractList" "modCount" "I" (.int (mc + (1 : Int32))) ∧ Fld Z h a1 "java/util/ArrayList" "elementData" "[Ljava/lang/Object;" (.ref t) ∧ Fld Z h a1 "java/util/ArrayList" "size" "I" (.int 1) ∧ Arv Z h t k (.object "java/lang/Object") (3 : Int32) [(.ref y)] .null
theorem d10_0 : decode jdk_38_method_25_code 0 = .ok (.aload_n 0, 1) := by decide +kernel
theorem d10_1 : decode jdk_38_method_25_code 1 = .ok (.dup, 1) := by decide +kernel
theorem d10_2 : decode jdk_38_method_25_code 2 = .ok (.getfield 63, 3) := by decide +kernel
theorem d10_5 : decode jdk_38_method_25_code 5 = .ok (.iconst 1, 1) := by decide +kernel
theorem d10_6 : decode jdk_38_method_25_code 6 = .ok (.iadd, 1) := by decide +kernel
theorem d10_7 : decode jdk_38_method_25_code 7 = .ok (.putfield 63, 3) := by decide +kernel
theorem d10_10 : decode jdk_38_method_25_code 10 = .ok (.aload_n 0, 1) := by decide +kernel
theorem d10_11 : decode jdk_38_method_25_code 11 = .ok (.aload_n 1, 1) := by decide +kernel
theorem d10_12 : decode jdk_38_method_25_code 12 = .ok (.aload_n 0, 1) := by decide +kernel
theorem d10_13 : decode jdk_38_method_25_code 13 = .ok (.getfield 9, 3) := by decide +kernel
theorem d10_16 : decode jdk_38_method_25_code 16 = .ok (.aload_n 0, 1) := by decide +kernel
theorem d10_17 : decode jdk_38_method_25_code 17 = .ok (.getfield 48, 3) := by decide +kernel
theorem pd__Ljava_lang_Object__Ljava_lang_Object_I_V : parseMethodDescriptor "(Ljava/lang/Object;[Ljava/lang/Object;I)V" = some ⟨[(.object "java/lang/Object"), (.array (.object "java/lang/Object")), .int], none⟩ := by decide +kernel
theorem d10_20 : decode jdk_38_method_25_code 20 = .ok (.invokevirtual 131, 3) := by decide +kernel
theorem d10_23 : decode jdk_38_method_25_code 23 = .ok (.iconst 1, 1) := by decide +kernel
theorem d10_24 : decode jdk_38_method_25_code 24 = .ok (.ireturn, 1) := by decide +kernel
theorem pn_10 : plainName "java/util/ArrayList" = true := by first | (simp [plainName, overriddenIn]; done) | decide +kernel
theorem ef_10_rr (m : MethodId) (x0 : Addr) (x1 : Addr) : entryFrame m #[(.ref x0), (.ref x1)] 2 = mkF m 0 #[.val (.ref x0), .val (.ref x1)] [] := by first | (simp [entryFrame, mkF, argsToLocals, Value.category]; done) | rfl
theorem rmA0 (l : Launch) (Z : State) (a0 : Array Value) (hw : ∀ d ∈ tables_1, d.before a0 Z = true) (ws : List Jvm.Cond) (a1 : Addr) (y : Addr) (t : Addr) (k : ClassId) (mc : Int32) (h0 : Heap) (n0 : Nat) (Z0 : n0 ≤ h0.size) (E_a1 : Exa Z h0 a1 "java/util/ArrayList") (F_modCount_a1 : Fld Z h0 a1 "java/util/AbstractList" "modCount" "I" (.int mc)) (F_elementData_a1 : Fld Z h0 a1 "java/util/ArrayList" "elementData" "[Ljava/lang/Object;" (.ref t)) (F_size_a1 : Fld Z h0 a1 "java/util/ArrayList" "size" "I" (.int 0)) (g_a1 : n0 ≤ a1) (E_y : Exa Z h0 y "java/lang/String") (V_t : Arv Z h0 t k (.object "java/lang/Object") (3 : Int32) [] .null) (g_t : n0 ≤ t) (Ov : Ovr Z k "java/lang/Object") :
    MetFree l y_36 (head1 (Jvm.Cond.code y_36 jdk_38_method_25_code 2 (some .boolean) :: ws) ({ frames := 1, cells := 0, slots := 0, locals := 15 } : Room)) (fun a_ U_ => a_ = #[(.ref a1), (.ref y)] ∧ Z.Warmed39 U_.vm ∧ U_.heap = h0) (fun _ _ _ _ _ => True) (fun _ U_ o_ U1_ => ∃ v_ L_, o_ = .returned v_ ∧ QA0 Z a1 y t k mc  h0 n0 v_ U1_.heap L_ ∧ FrameEnd U_ o_ U1_ L_ ({ frames := 1, cells := 0, slots := 0, locals := 15 } : Room).cells ({ frames := 1, cells := 0, slots := 0, locals := 15 } : Room).slots) := by
  refine MetFree.of_bodySF (plainFor_of_name pn_10) hisR ?_
  intro p e s m args below meth c s₁ Bd hml0 hP hK
  obtain ⟨rfl, hZ, hh⟩ := hP
  have hx := Bd.exec
  have hby := Bd.bytes
  have hml : c.maxLocals = 2 := hml0
  have hown : s.vm.findClass "java/util/ArrayList" = some m.cls := findClass_of_methodNamed Bd.named
  have hnm := (name_of_methodNamed Bd.named Bd.method).1
  have X0 : Stand p l e ({ frames := 1, cells := 0, slots := 0, locals := 15 } : Room) s m #[(.ref a1), (.ref y)] below meth c s₁ [] 0 0 := Stand.of_body Bd
  have e0 : s₁.heap = h0 := by rw [← hh, Bd.state]; rfl
  have N0 := Fr.nil n0
  have pre0 : ∀ tt, Steps p.tables e below (s₁.setTop (mkF m 0 #[.val (.ref a1), .val (.ref y)] [])) tt → Steps p.tables e below (s₁.setTop (entryFrame m #[(.ref a1), (.ref y)] 2)) tt := fun tt kk => castTop (ef_10_rr m a1 y) kk
  obtain ⟨T1, X1, e1, st1⟩ := getF X0 hx hZ hown (host := "") (Or.inl (hw _ (tk 88 rfl))) (Via.of (hw _ (tk 89 rfl))) e0 F_modCount_a1 (g := (mkF m 2 #[.val (.ref a1), .val (.ref y)] [(.ref a1), (.ref a1)])) rfl rfl (hb hby d10_2)
  obtain ⟨T2, h2, X2, e2, W2, st2⟩ := putF X1 hx hZ hown (host := "") (Or.inl (hw _ (tk 88 rfl))) (Via.of (hw _ (tk 89 rfl))) e1 F_modCount_a1 E_a1 (Or.inl (hw _ (tk 73 rfl))) (hw _ (tk 54 rfl)) (ty := .int) (by decide) rfl rfl (g := (mkF m 7 #[.val (.ref a1), .val (.ref y)] [(.int (mc + (1 : Int32))), (.ref a1)])) rfl rfl (hb hby d10_7)
  have Fw2 := F_modCount_a1.same W2
  have N2 := Fr.snoc X2 N0 g_a1
  have f4 := (F_elementData_a1.other W2 (Or.inr (slot_ne (Or.inl (hw _ (tk 77 rfl))) (Or.inl (hw _ (tk 73 rfl))) (by decide) (t := (.array (.object "java/lang/Object"))) (t' := .int) (by decide) (by decide))))
  obtain ⟨T3, X3, e3, st3⟩ := getF X2 hx hZ hown (host := "") (Or.inl (hw _ (tk 76 rfl))) Via.refl e2 f4 (g := (mkF m 13 #[.val (.ref a1), .val (.ref y)] [(.ref a1), (.ref y), (.ref a1)])) rfl rfl (hb hby d10_13)
  have f6 := (F_size_a1.other W2 (Or.inr (slot_ne (Or.inl (hw _ (tk 91 rfl))) (Or.inl (hw _ (tk 73 rfl))) (by decide) (t := .int) (t' := .int) (by decide) (by decide))))
  obtain ⟨T5, X5, e5, st5⟩ := getF X3 hx hZ hown (host := "") (Or.inl (hw _ (tk 90 rfl))) Via.refl e3 f6 (g := (mkF m 17 #[.val (.ref a1), .val (.ref y)] [(.ref a1), (.ref t), (.ref y), (.ref a1)])) rfl rfl (hb hby d10_17)
  have f8 := (V_t.other W2 (Ne.symm (Exa.neArv E_a1 V_t (hw _ (tk 54 rfl)))))
  have f9 := (E_a1.wr W2)
  have f10 := (E_y.wr W2)
  obtain ⟨cq7, q7, q7'⟩ := Exa.cell f9
  obtain ⟨_, _, ⟨T7, L7, k7, n7⟩, -, X7, ⟨Lc7, hQ7, l7, y7, z7⟩, st7⟩ := X5.privateBack hx (y := y_35) hown (mvT hZ (hw _ (tk 92 rfl))) (mvT hZ (hw _ (tk 93 rfl))) (mvT hZ (hw _ (tk 95 rfl))) (Cond.privateMethod_at (mvP hZ (hw _ (tk 94 rfl)) (args := #[]))) (mvT hZ (hw _ (tk 96 rfl))) (by decide) (backOf (W := 0) (rmP0 l Z a0 hw [] a1 y t k (mc + (1 : Int32))  h2 n0 (Nat.le_trans Z0 (Keep.of_wr W2).1) f9 Fw2 f4 f6 g_a1 f10 f8 g_t Ov) hZ (hw _ (tk 96 rfl)) (hw _ (tk 55 rfl)) (by decide) (by decide)) (g := (mkF m 20 #[.val (.ref a1), .val (.ref y)] [(.int 0), (.ref t), (.ref y), (.ref a1)])) rfl (by rw [hml]; rfl) (Steps.refl _) (a := a1) (by rw [e5]; exact q7) q7' (argsL := [(.ref y), (.ref t), (.int 0)]) (rest := []) (lenOf pd__Ljava_lang_Object__Ljava_lang_Object_I_V rfl) rfl (by show 2 * 0 + _ ≤ _; exact Nat.le_of_eq rfl) (hb hby d10_20) (fun _ _ => ⟨rfl, e5, (by decide : 0 + 0 ≤ _), (by decide : 0 + 0 ≤ _)⟩)
  dsimp only [Pt.U, Pt.locs, Pt.cells, Pt.slots] at X7 l7 y7 z7 st7 hQ7
  subst l7 y7 z7
  obtain ⟨rfl, Nq7, Kq7, E7q, Fm7q, Fe7q, Fs7q, V7q⟩ := hQ7
  have N7 := Fr.app N2 Nq7
  obtain ⟨fs, hr, hrun, hended, hW, hsame⟩ := X7.leave (v := some (.int 1)) (fun h => by rw [Bd.returns] at h; cases h)
  refine ⟨_, _, pre0 _ ?_, hrun, hended, _, _, rfl, ?_, ⟨_, rfl⟩, hW, hsame.mono (by decide) (by decide)⟩
  · show Steps _ _ _ (s₁.setTop (mkF m 0 #[.val (.ref a1), .val (.ref y)] [])) _
    refine XS.aloadN X0.here hx rfl (hb hby d10_0) rfl rfl ?_
    refine XS.dup X0.here hx rfl (hb hby d10_1) rfl rfl ?_
    show Steps _ _ _ (s₁.setTop (mkF m 2 #[.val (.ref a1), .val (.ref y)] [(.ref a1), (.ref a1)])) _
    refine st1 _ ?_
    show Steps _ _ _ (T1.setTop (mkF m 5 #[.val (.ref a1), .val (.ref y)] [(.int mc), (.ref a1)])) _
    refine XS.iconst X1.here hx rfl (hb hby d10_5) ?_
    refine XS.iadd X1.here hx rfl (hb hby d10_6) rfl ?_
    show Steps _ _ _ (T1.setTop (mkF m 7 #[.val (.ref a1), .val (.ref y)] [(.int (mc + (1 : Int32))), (.ref a1)])) _
    refine st2 _ ?_
    show Steps _ _ _ (T2.setTop (mkF m 10 #[.val (.ref a1), .val (.ref y)] [])) _
    refine XS.aloadN X2.here hx rfl (hb hby d10_10) rfl rfl ?_
    refine XS.aloadN X2.here hx rfl (hb hby d10_11) rfl rfl ?_
    refine XS.aloadN X2.here hx rfl (hb hby d10_12) rfl rfl ?_
    show Steps _ _ _ (T2.setTop (mkF m 13 #[.val (.ref a1), .val (.ref y)] [(.ref a1), (.ref y), (.ref a1)])) _
    refine st3 _ ?_
    show Steps _ _ _ (T3.setTop (mkF m 16 #[.val (.ref a1), .val (.ref y)] [(.ref t), (.ref y), (.ref a1)])) _
    refine XS.aloadN X3.here hx rfl (hb hby d10_16) rfl rfl ?_
    show Steps _ _ _ (T3.setTop (mkF m 17 #[.val (.ref a1), .val (.ref y)] [(.ref a1), (.ref t), (.ref y), (.ref a1)])) _
    refine st5 _ ?_
    show Steps _ _ _ (T5.setTop (mkF m 20 #[.val (.ref a1), .val (.ref y)] [(.int 0), (.ref t), (.ref y), (.ref a1)])) _
    refine st7.trans ?_
    show Steps _ _ _ (T7.setTop (mkF m 23 #[.val (.ref a1), .val (.ref y)] [])) _
    refine XS.iconst X7.here hx rfl (hb hby d10_23) ?_
    show Steps _ _ _ (T7.setTop (mkF m 24 #[.val (.ref a1), .val (.ref y)] [(.int 1)])) _
    exact retN X7 hx (t := .boolean) Bd.returns (by simp) (hb hby d10_24) hr
  · show QA0 Z a1 y t k mc  h0 n0 _ T7.heap _
    exact ⟨rfl, N7, (((Keep.refl h0 [a1, t]).wr W2 (Or.inl (tk 0 rfl))).trans Kq7 (allS (P := fun zz => zz ∈ [a1, t] ∨ h0.size ≤ zz) (Or.inl (tk 0 rfl)) (allS (P := fun zz => zz ∈ [a1, t] ∨ h0.size ≤ zz) (Or.inl (tk 1 rfl)) all0))), E7q, Fm7q, Fe7q, Fs7q, V7q⟩
def QP1 (Z : State) (a1 y t : Addr) (k : ClassId) (mc : Int32) (x0 : Addr) (h0 : Heap) (n0 : Nat) (v : Option Value) (h : Heap) (L : List Loc) : Prop := v = none ∧ Fr n0 L ∧ Keep h0 h [a1, t] ∧ Exa Z h a1 "java/util/ArrayList" ∧ Fld Z h a1 "java/util/AbstractList" "modCount" "I" (.int mc) ∧ Fld Z h a1 "java/util/ArrayList" "elementData" "[Ljava/lang/Object;" (.ref t) ∧ Fld Z h a1 "java/util/ArrayList" "size" "I" (.int 2) ∧ Arv Z h t k (.object "java/lang/Object") (3 : Int32) [(.ref x0), (.ref y)] .null
theorem rmP1 (l : Launch) (Z : State) (a0 : Array Value) (hw : ∀ d ∈ tables_1, d.before a0 Z = true) (ws : List Jvm.Cond) (a1 : Addr) (y : Addr) (t : Addr) (k : ClassId) (mc : Int32) (x0 : Addr) (h0 : Heap) (n0 : Nat) (Z0 : n0 ≤ h0.size) (E_a1 : Exa Z h0 a1 "java/util/ArrayList") (F_modCount_a1 : Fld Z h0 a1 "java/util/AbstractList" "modCount" "I" (.int mc)) (F_elementData_a1 : Fld Z h0 a1 "java/util/ArrayList" "elementData" "[Ljava/lang/Object;" (.ref t)) (F_size_a1 : Fld Z h0 a1 "java/util/ArrayList" "size" "I" (.int 1)) (g_a1 : n0 ≤ a1) (E_y : Exa Z h0 y "java/lang/String") (V_t : Arv Z h0 t k (.object "java/lang/Object") (3 : Int32) [(.ref x0)] .null) (g_t : n0 ≤ t) (Ov : Ovr Z k "java/lang/Object") :
    MetFree l y_35 (head1 (Jvm.Cond.code y_35 jdk_38_method_24_code 4 none :: ws) ({ frames := 0, cells := 0, slots := 0, locals := 0 } : Room)) (fun a_ U_ => a_ = #[(.ref a1), (.ref y), (.ref t), (.int 1)] ∧ Z.Warmed39 U_.vm ∧ U_.heap = h0) (fun _ _ _ _ _ => True) (fun _ U_ o_ U1_ => ∃ v_ L_, o_ = .returned v_ ∧ QP1 Z a1 y t k mc x0 h0 n0 v_ U1_.heap L_ ∧ FrameEnd U_ o_ U1_ L_ ({ frames := 0, cells := 0, slots := 0, locals := 0 } : Room).cells ({ frames := 0, cells := 0, slots := 0, locals := 0 } : Room).slots) := by
  refine MetFree.of_bodySF (plainFor_of_name pn_11) hisR ?_
  intro p e s m args below meth c s₁ Bd hml0 hP hK
  obtain ⟨rfl, hZ, hh⟩ := hP
  have hx := Bd.exec
  have hby := Bd.bytes
  have hml : c.maxLocals = 4 := hml0
  have hown : s.vm.findClass "java/util/ArrayList" = some m.cls := findClass_of_methodNamed Bd.named
  have hnm := (name_of_methodNamed Bd.named Bd.method).1
  have X0 : Stand p l e ({ frames := 0, cells := 0, slots := 0, locals := 0 } : Room) s m #[(.ref a1), (.ref y), (.ref t), (.int 1)] below meth c s₁ [] 0 0 := Stand.of_body Bd
  have e0 : s₁.heap = h0 := by rw [← hh, Bd.state]; rfl
  have N0 := Fr.nil n0
  have pre0 : ∀ tt, Steps p.tables e below (s₁.setTop (mkF m 0 #[.val (.ref a1), .val (.ref y), .val (.ref t), .val (.int 1)] [])) tt → Steps p.tables e below (s₁.setTop (entryFrame m #[(.ref a1), (.ref y), (.ref t), (.int 1)] 4)) tt := fun tt kk => castTop (ef_11_rrrr m a1 y t (1 : Int32)) kk
  obtain ⟨c1, Ar1, -, S1, M1, -, -⟩ := id V_t
  obtain ⟨c2, Ar2, q2, S2, M2, H2, Gz2⟩ := id (V_t.pad (pad_rep [(.ref x0)] .null 1))
  have hin2 := inb_of (j := (1 : Int32)) S2 ⟨by decide, by decide⟩
  obtain ⟨T2, h2, X2, e2, W2, st2⟩ := stR X0 hx hZ e0 Ar2 (j := (1 : Int32)) hin2 rfl (Sto.ofV Ar2 q2 Ov (Ins.of_exa E_y (hw _ (tk 97 rfl)))) (g := (mkF m 14 #[.val (.ref a1), .val (.ref y), .val (.ref t), .val (.int 1)] [(.ref y), (.int 1), (.ref t)])) rfl rfl (hb hby d11_14)
  have V2 : Arv Z h2 t k (.object "java/lang/Object") (3 : Int32) [(.ref x0), (.ref y)] .null := Arv.set Ar2 q2 S2 M2 H2 Gz2 rfl W2 1 rfl (Nat.le_of_ble_eq_true rfl)
  have N2 := Fr.snoc X2 N0 g_t
  have f4 := (E_a1.wr W2)
  have f5 := (F_size_a1.other W2 (Or.inl (Exa.neArv E_a1 V_t (hw _ (tk 54 rfl)))))
  obtain ⟨T3, h3, X3, e3, W3, st3⟩ := putF X2 hx hZ hown (host := "") (Or.inl (hw _ (tk 90 rfl))) Via.refl e2 f5 f4 (Or.inl (hw _ (tk 91 rfl))) (hw _ (tk 54 rfl)) (ty := .int) (by decide) rfl rfl (g := (mkF m 19 #[.val (.ref a1), .val (.ref y), .val (.ref t), .val (.int 1)] [(.int 2), (.ref a1)])) rfl rfl (hb hby d11_19)
  have Fw3 := f5.same W3
  have N3 := Fr.snoc X3 N2 g_a1
  have f6 := (f4.wr W3)
  have f7 := ((F_modCount_a1.other W2 (Or.inl (Exa.neArv E_a1 V_t (hw _ (tk 54 rfl))))).other W3 (Or.inr (slot_ne (Or.inl (hw _ (tk 73 rfl))) (Or.inl (hw _ (tk 91 rfl))) (by decide) (t := .int) (t' := .int) (by decide) (by decide))))
  have f8 := ((F_elementData_a1.other W2 (Or.inl (Exa.neArv E_a1 V_t (hw _ (tk 54 rfl))))).other W3 (Or.inr (slot_ne (Or.inl (hw _ (tk 77 rfl))) (Or.inl (hw _ (tk 91 rfl))) (by decide) (t := (.array (.object "java/lang/Object"))) (t' := .int) (by decide) (by decide))))
  have f9 := (V2.other W3 (Ne.symm (Exa.neArv E_a1 V_t (hw _ (tk 54 rfl)))))
  obtain ⟨fs, hr, hrun, hended, hW, hsame⟩ := X3.leave (v := none) (fun _ => rfl)
  refine ⟨_, _, pre0 _ ?_, hrun, hended, _, _, rfl, ?_, ⟨_, rfl⟩, hW, hsame.mono (by decide) (by decide)⟩
  · show Steps _ _ _ (s₁.setTop (mkF m 0 #[.val (.ref a1), .val (.ref y), .val (.ref t), .val (.int 1)] [])) _
    refine XS.iloadN X0.here hx rfl (hb hby d11_0) rfl ?_
    refine XS.aloadN X0.here hx rfl (hb hby d11_1) rfl rfl ?_
    show Steps _ _ _ (s₁.setTop (mkF m 2 #[.val (.ref a1), .val (.ref y), .val (.ref t), .val (.int 1)] [(.ref t), (.int 1)])) _
    refine X0.arraylength hx (by rw [e0]; exact Ar1.1) (State.isArrayOf_alike hZ.alike Ar1.2.1) (g := (mkF m 2 #[.val (.ref a1), .val (.ref y), .val (.ref t), .val (.int 1)] [(.ref t), (.int 1)])) rfl rfl (hb hby d11_2) _ ?_
    rw [len_of S1 M1]
    show Steps _ _ _ (s₁.setTop (mkF m 3 #[.val (.ref a1), .val (.ref y), .val (.ref t), .val (.int 1)] [(.int 3), (.int 1)])) _
    refine XS.icmpYes X0.here hx rfl (pc0 := 3) (pc' := 11) rfl (hb hby d11_3) rfl (feq (by decide : ¬ ((1 : Int32) = (3 : Int32)))).2 (by decide) (by decide) ?_
    refine XS.aloadN X0.here hx rfl (hb hby d11_11) rfl rfl ?_
    refine XS.iloadN X0.here hx rfl (hb hby d11_12) rfl ?_
    refine XS.aloadN X0.here hx rfl (hb hby d11_13) rfl rfl ?_
    show Steps _ _ _ (s₁.setTop (mkF m 14 #[.val (.ref a1), .val (.ref y), .val (.ref t), .val (.int 1)] [(.ref y), (.int 1), (.ref t)])) _
    refine st2 _ ?_
    show Steps _ _ _ (T2.setTop (mkF m 15 #[.val (.ref a1), .val (.ref y), .val (.ref t), .val (.int 1)] [])) _
    refine XS.aloadN X2.here hx rfl (hb hby d11_15) rfl rfl ?_
    refine XS.iloadN X2.here hx rfl (hb hby d11_16) rfl ?_
    refine XS.iconst X2.here hx rfl (hb hby d11_17) ?_
    refine XS.iadd X2.here hx rfl (hb hby d11_18) rfl ?_
    show Steps _ _ _ (T2.setTop (mkF m 19 #[.val (.ref a1), .val (.ref y), .val (.ref t), .val (.int 1)] [(.int ((1 : Int32) + (1 : Int32))), (.ref a1)])) _
    rw [(by decide : ((1 : Int32) + (1 : Int32)) = (2 : Int32))]
    show Steps _ _ _ (T2.setTop (mkF m 19 #[.val (.ref a1), .val (.ref y), .val (.ref t), .val (.int 1)] [(.int 2), (.ref a1)])) _
    refine st3 _ ?_
    show Steps _ _ _ (T3.setTop (mkF m 22 #[.val (.ref a1), .val (.ref y), .val (.ref t), .val (.int 1)] [])) _
    exact X3.returnOut hx Bd.returns (hb hby d11_22) hr
  · show QP1 Z a1 y t k mc x0 h0 n0 _ T3.heap _
    rw [e3]
    exact ⟨rfl, N3, (((Keep.refl h0 [a1, t]).wr W2 (Or.inl (tk 1 rfl))).wr W3 (Or.inl (tk 0 rfl))), f6, f7, f8, Fw3, f9⟩
def QA1 (Z : State) (a1 y t : Addr) (k : ClassId) (mc : Int32) (x0 : Addr) (h0 : Heap) (n0 : Nat) (v : Option Value) (h : Heap) (L : List Loc) : Prop := v = some (.int 1) ∧ Fr n0 L ∧ Keep h0 h [a1, t] ∧ Exa Z h a1 "java/util/ArrayList" ∧ Fld Z h a1 "java/util/AbstractList" "modCount" "I" (.int (mc + (1 : Int32))) ∧ Fld Z h a1 "java/util/ArrayList" "elementData" "[Ljava/lang/Object;" (.ref t) ∧ Fld Z h a1 "java/util/ArrayList" "size" "I" (.int 2) ∧ Arv Z h t k (.object "java/lang/Object") (3 : Int32) [(.ref x0), (.ref y)] .null
theorem rmA1 (l : Launch) (Z : State) (a0 : Array Value) (hw : ∀ d ∈ tables_1, d.before a0 Z = true) (ws : List Jvm.Cond) (a1 : Addr) (y : Addr) (t : Addr) (k : ClassId) (mc : Int32) (x0 : Addr) (h0 : Heap) (n0 : Nat) (Z0 : n0 ≤ h0.size) (E_a1 : Exa Z h0 a1 "java/util/ArrayList") (F_modCount_a1 : Fld Z h0 a1 "java/util/AbstractList" "modCount" "I" (.int mc)) (F_elementData_a1 : Fld Z h0 a1 "java/util/ArrayList" "elementData" "[Ljava/lang/Object;" (.ref t)) (F_size_a1 : Fld Z h0 a1 "java/util/ArrayList" "size" "I" (.int 1)) (g_a1 : n0 ≤ a1) (E_y : Exa Z h0 y "java/lang/String") (V_t : Arv Z h0 t k (.object "java/lang/Object") (3 : Int32) [(.ref x0)] .null) (g_t : n0 ≤ t) (Ov : Ovr Z k "java/lang/Object") :
    MetFree l y_36 (head1 (Jvm.Cond.code y_36 jdk_38_method_25_code 2 (some .boolean) :: ws) ({ frames := 1, cells := 0, slots := 0, locals := 15 } : Room)) (fun a_ U_ => a_ = #[(.ref a1), (.ref y)] ∧ Z.Warmed39 U_.vm ∧ U_.heap = h0) (fun _ _ _ _ _ => True) (fun _ U_ o_ U1_ => ∃ v_ L_, o_ = .returned v_ ∧ QA1 Z a1 y t k mc x0 h0 n0 v_ U1_.heap L_ ∧ FrameEnd U_ o_ U1_ L_ ({ frames := 1, cells := 0, slots := 0, locals := 15 } : Room).cells ({ frames := 1, cells := 0, slots := 0, locals := 15 } : Room).slots) := by
  refine MetFree.of_bodySF (plainFor_of_name pn_10) hisR ?_
  intro p e s m args below meth c s₁ Bd hml0 hP hK
  obtain ⟨rfl, hZ, hh⟩ := hP
  have hx := Bd.exec
  have hby := Bd.bytes
  have hml : c.maxLocals = 2 := hml0
  have hown : s.vm.findClass "java/util/ArrayList" = some m.cls := findClass_of_methodNamed Bd.named
  have hnm := (name_of_methodNamed Bd.named Bd.method).1
  have X0 : Stand p l e ({ frames := 1, cells := 0, slots := 0, locals := 15 } : Room) s m #[(.ref a1), (.ref y)] below meth c s₁ [] 0 0 := Stand.of_body Bd
  have e0 : s₁.heap = h0 := by rw [← hh, Bd.state]; rfl
  have N0 := Fr.nil n0
  have pre0 : ∀ tt, Steps p.tables e below (s₁.setTop (mkF m 0 #[.val (.ref a1), .val (.ref y)] [])) tt → Steps p.tables e below (s₁.setTop (entryFrame m #[(.ref a1), (.ref y)] 2)) tt := fun tt kk => castTop (ef_10_rr m a1 y) kk
  obtain ⟨T1, X1, e1, st1⟩ := getF X0 hx hZ hown (host := "") (Or.inl (hw _ (tk 88 rfl))) (Via.of (hw _ (tk 89 rfl))) e0 F_modCount_a1 (g := (mkF m 2 #[.val (.ref a1), .val (.ref y)] [(.ref a1), (.ref a1)])) rfl rfl (hb hby d10_2)
  obtain ⟨T2, h2, X2, e2, W2, st2⟩ := putF X1 hx hZ hown (host := "") (Or.inl (hw _ (tk 88 rfl))) (Via.of (hw _ (tk 89 rfl))) e1 F_modCount_a1 E_a1 (Or.inl (hw _ (tk 73 rfl))) (hw _ (tk 54 rfl)) (ty := .int) (by decide) rfl rfl (g := (mkF m 7 #[.val (.ref a1), .val (.ref y)] [(.int (mc + (1 : Int32))), (.ref a1)])) rfl rfl (hb hby d10_7)
  have Fw2 := F_modCount_a1.same W2
  have N2 := Fr.snoc X2 N0 g_a1
  have f4 := (F_elementData_a1.other W2 (Or.inr (slot_ne (Or.inl (hw _ (tk 77 rfl))) (Or.inl (hw _ (tk 73 rfl))) (by decide) (t := (.array (.object "java/lang/Object"))) (t' := .int) (by decide) (by decide))))
  obtain ⟨T3, X3, e3, st3⟩ := getF X2 hx hZ hown (host := "") (Or.inl (hw _ (tk 76 rfl))) Via.refl e2 f4 (g := (mkF m 13 #[.val (.ref a1), .val (.ref y)] [(.ref a1), (.ref y), (.ref a1)])) rfl rfl (hb hby d10_13)
  have f6 := (F_size_a1.other W2 (Or.inr (slot_ne (Or.inl (hw _ (tk 91 rfl))) (Or.inl (hw _ (tk 73 rfl))) (by decide) (t := .int) (t' := .int) (by decide) (by decide))))
  obtain ⟨T5, X5, e5, st5⟩ := getF X3 hx hZ hown (host := "") (Or.inl (hw _ (tk 90 rfl))) Via.refl e3 f6 (g := (mkF m 17 #[.val (.ref a1), .val (.ref y)] [(.ref a1), (.ref t), (.ref y), (.ref a1)])) rfl rfl (hb hby d10_17)
  have f8 := (V_t.other W2 (Ne.symm (Exa.neArv E_a1 V_t (hw _ (tk 54 rfl)))))
  have f9 := (E_a1.wr W2)
  have f10 := (E_y.wr W2)
  obtain ⟨cq7, q7, q7'⟩ := Exa.cell f9
  obtain ⟨_, _, ⟨T7, L7, k7, n7⟩, -, X7, ⟨Lc7, hQ7, l7, y7, z7⟩, st7⟩ := X5.privateBack hx (y := y_35) hown (mvT hZ (hw _ (tk 92 rfl))) (mvT hZ (hw _ (tk 93 rfl))) (mvT hZ (hw _ (tk 95 rfl))) (Cond.privateMethod_at (mvP hZ (hw _ (tk 94 rfl)) (args := #[]))) (mvT hZ (hw _ (tk 96 rfl))) (by decide) (backOf (W := 0) (rmP1 l Z a0 hw [] a1 y t k (mc + (1 : Int32)) x0 h2 n0 (Nat.le_trans Z0 (Keep.of_wr W2).1) f9 Fw2 f4 f6 g_a1 f10 f8 g_t Ov) hZ (hw _ (tk 96 rfl)) (hw _ (tk 55 rfl)) (by decide) (by decide)) (g := (mkF m 20 #[.val (.ref a1), .val (.ref y)] [(.int 1), (.ref t), (.ref y), (.ref a1)])) rfl (by rw [hml]; rfl) (Steps.refl _) (a := a1) (by rw [e5]; exact q7) q7' (argsL := [(.ref y), (.ref t), (.int 1)]) (rest := []) (lenOf pd__Ljava_lang_Object__Ljava_lang_Object_I_V rfl) rfl (by show 2 * 0 + _ ≤ _; exact Nat.le_of_eq rfl) (hb hby d10_20) (fun _ _ => ⟨rfl, e5, (by decide : 0 + 0 ≤ _), (by decide : 0 + 0 ≤ _)⟩)
  dsimp only [Pt.U, Pt.locs, Pt.cells, Pt.slots] at X7 l7 y7 z7 st7 hQ7
  subst l7 y7 z7
  obtain ⟨rfl, Nq7, Kq7, E7q, Fm7q, Fe7q, Fs7q, V7q⟩ := hQ7
  have N7 := Fr.app N2 Nq7
  obtain ⟨fs, hr, hrun, hended, hW, hsame⟩ := X7.leave (v := some (.int 1)) (fun h => by rw [Bd.returns] at h; cases h)
  refine ⟨_, _, pre0 _ ?_, hrun, hended, _, _, rfl, ?_, ⟨_, rfl⟩, hW, hsame.mono (by decide) (by decide)⟩
  · show Steps _ _ _ (s₁.setTop (mkF m 0 #[.val (.ref a1), .val (.ref y)] [])) _
    refine XS.aloadN X0.here hx rfl (hb hby d10_0) rfl rfl ?_
    refine XS.dup X0.here hx rfl (hb hby d10_1) rfl rfl ?_
    show Steps _ _ _ (s₁.setTop (mkF m 2 #[.val (.ref a1), .val (.ref y)] [(.ref a1), (.ref a1)])) _
    refine st1 _ ?_
    show Steps _ _ _ (T1.setTop (mkF m 5 #[.val (.ref a1), .val (.ref y)] [(.int mc), (.ref a1)])) _
    refine XS.iconst X1.here hx rfl (hb hby d10_5) ?_
    refine XS.iadd X1.here hx rfl (hb hby d10_6) rfl ?_
    show Steps _ _ _ (T1.setTop (mkF m 7 #[.val (.ref a1), .val (.ref y)] [(.int (mc + (1 : Int32))), (.ref a1)])) _
    refine st2 _ ?_
    show Steps _ _ _ (T2.setTop (mkF m 10 #[.val (.ref a1), .val (.ref y)] [])) _
    refine XS.aloadN X2.here hx rfl (hb hby d10_10) rfl rfl ?_
    refine XS.aloadN X2.here hx rfl (hb hby d10_11) rfl rfl ?_
    refine XS.aloadN X2.here hx rfl (hb hby d10_12) rfl rfl ?_
    show Steps _ _ _ (T2.setTop (mkF m 13 #[.val (.ref a1), .val (.ref y)] [(.ref a1), (.ref y), (.ref a1)])) _
    refine st3 _ ?_
    show Steps _ _ _ (T3.setTop (mkF m 16 #[.val (.ref a1), .val (.ref y)] [(.ref t), (.ref y), (.ref a1)])) _
    refine XS.aloadN X3.here hx rfl (hb hby d10_16) rfl rfl ?_
    show Steps _ _ _ (T3.setTop (mkF m 17 #[.val (.ref a1), .val (.ref y)] [(.ref a1), (.ref t), (.ref y), (.ref a1)])) _
    refine st5 _ ?_
    show Steps _ _ _ (T5.setTop (mkF m 20 #[.val (.ref a1), .val (.ref y)] [(.int 1), (.ref t), (.ref y), (.ref a1)])) _
    refine st7.trans ?_
    show Steps _ _ _ (T7.setTop (mkF m 23 #[.val (.ref a1), .val (.ref y)] [])) _
    refine XS.iconst X7.here hx rfl (hb hby d10_23) ?_
    show Steps _ _ _ (T7.setTop (mkF m 24 #[.val (.ref a1), .val (.ref y)] [(.int 1)])) _
    exact retN X7 hx (t := .boolean) Bd.returns (by simp) (hb hby d10_24) hr
  · show QA1 Z a1 y t k mc x0 h0 n0 _ T7.heap _
    exact ⟨rfl, N7, (((Keep.refl h0 [a1, t]).wr W2 (Or.inl (tk 0 rfl))).trans Kq7 (allS (P := fun zz => zz ∈ [a1, t] ∨ h0.size ≤ zz) (Or.inl (tk 0 rfl)) (allS (P := fun zz => zz ∈ [a1, t] ∨ h0.size ≤ zz) (Or.inl (tk 1 rfl)) all0))), E7q, Fm7q, Fe7q, Fs7q, V7q⟩
def QP2 (Z : State) (a1 y t : Addr) (k : ClassId) (mc : Int32) (x0 x1 : Addr) (h0 : Heap) (n0 : Nat) (v : Option Value) (h : Heap) (L : List Loc) : Prop := v = none ∧ Fr n0 L ∧ Keep h0 h [a1, t] ∧ Exa Z h a1 "java/util/ArrayList" ∧ Fld Z h a1 "java/util/AbstractList" "modCount" "I" (.int mc) ∧ Fld Z h a1 "java/util/ArrayList" "elementData" "[Ljava/lang/Object;" (.ref t) ∧ Fld Z h a1 "java/util/ArrayList" "size" "I" (.int 3) ∧ Arv Z h t k (.object "java/lang/Object") (3 : Int32) [(.ref x0), (.ref x1), (.ref y)] .null
theorem rmP2 (l : Launch) (Z : State) (a0 : Array Value) (hw : ∀ d ∈ tables_1, d.before a0 Z = true) (ws : List Jvm.Cond) (a1 : Addr) (y : Addr) (t : Addr) (k : ClassId) (mc : Int32) (x0 : Addr) (x1 : Addr) (h0 : Heap) (n0 : Nat) (Z0 : n0 ≤ h0.size) (E_a1 : Exa Z h0 a1 "java/util/ArrayList") (F_modCount_a1 : Fld Z h0 a1 "java/util/AbstractList" "modCount" "I" (.int mc)) (F_elementData_a1 : Fld Z h0 a1 "java/util/ArrayList" "elementData" "[Ljava/lang/Object;" (.ref t)) (F_size_a1 : Fld Z h0 a1 "java/util/ArrayList" "size" "I" (.int 2)) (g_a1 : n0 ≤ a1) (E_y : Exa Z h0 y "java/lang/String") (V_t : Arv Z h0 t k (.object "java/lang/Object") (3 : Int32) [(.ref x0), (.ref x1)] .null) (g_t : n0 ≤ t) (Ov : Ovr Z k "java/lang/Object") :
    MetFree l y_35 (head1 (Jvm.Cond.code y_35 jdk_38_method_24_code 4 none :: ws) ({ frames := 0, cells := 0, slots := 0, locals := 0 } : Room)) (fun a_ U_ => a_ = #[(.ref a1), (.ref y), (.ref t), (.int 2)] ∧ Z.Warmed39 U_.vm ∧ U_.heap = h0) (fun _ _ _ _ _ => True) (fun _ U_ o_ U1_ => ∃ v_ L_, o_ = .returned v_ ∧ QP2 Z a1 y t k mc x0 x1 h0 n0 v_ U1_.heap L_ ∧ FrameEnd U_ o_ U1_ L_ ({ frames := 0, cells := 0, slots := 0, locals := 0 } : Room).cells ({ frames := 0, cells := 0, slots := 0, locals := 0 } : Room).slots) := by
  refine MetFree.of_bodySF (plainFor_of_name pn_11) hisR ?_
  intro p e s m args below meth c s₁ Bd hml0 hP hK
  obtain ⟨rfl, hZ, hh⟩ := hP
  have hx := Bd.exec
  have hby := Bd.bytes
  have hml : c.maxLocals = 4 := hml0
  have hown : s.vm.findClass "java/util/ArrayList" = some m.cls := findClass_of_methodNamed Bd.named
  have hnm := (name_of_methodNamed Bd.named Bd.method).1
  have X0 : Stand p l e ({ frames := 0, cells := 0, slots := 0, locals := 0 } : Room) s m #[(.ref a1), (.ref y), (.ref t), (.int 2)] below meth c s₁ [] 0 0 := Stand.of_body Bd
  have e0 : s₁.heap = h0 := by rw [← hh, Bd.state]; rfl
  have N0 := Fr.nil n0
  have pre0 : ∀ tt, Steps p.tables e below (s₁.setTop (mkF m 0 #[.val (.ref a1), .val (.ref y), .val (.ref t), .val (.int 2)] [])) tt → Steps p.tables e below (s₁.setTop (entryFrame m #[(.ref a1), (.ref y), (.ref t), (.int 2)] 4)) tt := fun tt kk => castTop (ef_11_rrrr m a1 y t (2 : Int32)) kk
  obtain ⟨c1, Ar1, -, S1, M1, -, -⟩ := id V_t
  obtain ⟨c2, Ar2, q2, S2, M2, H2, Gz2⟩ := id (V_t.pad (pad_rep [(.ref x0), (.ref x1)] .null 1))
  have hin2 := inb_of (j := (2 : Int32)) S2 ⟨by decide, by decide⟩
  obtain ⟨T2, h2, X2, e2, W2, st2⟩ := stR X0 hx hZ e0 Ar2 (j := (2 : Int32)) hin2 rfl (Sto.ofV Ar2 q2 Ov (Ins.of_exa E_y (hw _ (tk 97 rfl)))) (g := (mkF m 14 #[.val (.ref a1), .val (.ref y), .val (.ref t), .val (.int 2)] [(.ref y), (.int 2), (.ref t)])) rfl rfl (hb hby d11_14)
  have V2 : Arv Z h2 t k (.object "java/lang/Object") (3 : Int32) [(.ref x0), (.ref x1), (.ref y)] .null := Arv.set Ar2 q2 S2 M2 H2 Gz2 rfl W2 2 rfl (Nat.le_of_ble_eq_true rfl)
  have N2 := Fr.snoc X2 N0 g_t
  have f4 := (E_a1.wr W2)
  have f5 := (F_size_a1.other W2 (Or.inl (Exa.neArv E_a1 V_t (hw _ (tk 54 rfl)))))
  obtain ⟨T3, h3, X3, e3, W3, st3⟩ := putF X2 hx hZ hown (host := "") (Or.inl (hw _ (tk 90 rfl))) Via.refl e2 f5 f4 (Or.inl (hw _ (tk 91 rfl))) (hw _ (tk 54 rfl)) (ty := .int) (by decide) rfl rfl (g := (mkF m 19 #[.val (.ref a1), .val (.ref y), .val (.ref t), .val (.int 2)] [(.int 3), (.ref a1)])) rfl rfl (hb hby d11_19)
  have Fw3 := f5.same W3
  have N3 := Fr.snoc X3 N2 g_a1
  have f6 := (f4.wr W3)
  have f7 := ((F_modCount_a1.other W2 (Or.inl (Exa.neArv E_a1 V_t (hw _ (tk 54 rfl))))).other W3 (Or.inr (slot_ne (Or.inl (hw _ (tk 73 rfl))) (Or.inl (hw _ (tk 91 rfl))) (by decide) (t := .int) (t' := .int) (by decide) (by decide))))
  have f8 := ((F_elementData_a1.other W2 (Or.inl (Exa.neArv E_a1 V_t (hw _ (tk 54 rfl))))).other W3 (Or.inr (slot_ne (Or.inl (hw _ (tk 77 rfl))) (Or.inl (hw _ (tk 91 rfl))) (by decide) (t := (.array (.object "java/lang/Object"))) (t' := .int) (by decide) (by decide))))
  have f9 := (V2.other W3 (Ne.symm (Exa.neArv E_a1 V_t (hw _ (tk 54 rfl)))))
  obtain ⟨fs, hr, hrun, hended, hW, hsame⟩ := X3.leave (v := none) (fun _ => rfl)
  refine ⟨_, _, pre0 _ ?_, hrun, hended, _, _, rfl, ?_, ⟨_, rfl⟩, hW, hsame.mono (by decide) (by decide)⟩
  · show Steps _ _ _ (s₁.setTop (mkF m 0 #[.val (.ref a1), .val (.ref y), .val (.ref t), .val (.int 2)] [])) _
    refine XS.iloadN X0.here hx rfl (hb hby d11_0) rfl ?_
    refine XS.aloadN X0.here hx rfl (hb hby d11_1) rfl rfl ?_
    show Steps _ _ _ (s₁.setTop (mkF m 2 #[.val (.ref a1), .val (.ref y), .val (.ref t), .val (.int 2)] [(.ref t), (.int 2)])) _
    refine X0.arraylength hx (by rw [e0]; exact Ar1.1) (State.isArrayOf_alike hZ.alike Ar1.2.1) (g := (mkF m 2 #[.val (.ref a1), .val (.ref y), .val (.ref t), .val (.int 2)] [(.ref t), (.int 2)])) rfl rfl (hb hby d11_2) _ ?_
    rw [len_of S1 M1]
    show Steps _ _ _ (s₁.setTop (mkF m 3 #[.val (.ref a1), .val (.ref y), .val (.ref t), .val (.int 2)] [(.int 3), (.int 2)])) _
    refine XS.icmpYes X0.here hx rfl (pc0 := 3) (pc' := 11) rfl (hb hby d11_3) rfl (feq (by decide : ¬ ((2 : Int32) = (3 : Int32)))).2 (by decide) (by decide) ?_
    refine XS.aloadN X0.here hx rfl (hb hby d11_11) rfl rfl ?_
    refine XS.iloadN X0.here hx rfl (hb hby d11_12) rfl ?_
    refine XS.aloadN X0.here hx rfl (hb hby d11_13) rfl rfl ?_
    show Steps _ _ _ (s₁.setTop (mkF m 14 #[.val (.ref a1), .val (.ref y), .val (.ref t), .val (.int 2)] [(.ref y), (.int 2), (.ref t)])) _
    refine st2 _ ?_
    show Steps _ _ _ (T2.setTop (mkF m 15 #[.val (.ref a1), .val (.ref y), .val (.ref t), .val (.int 2)] [])) _
    refine XS.aloadN X2.here hx rfl (hb hby d11_15) rfl rfl ?_
    refine XS.iloadN X2.here hx rfl (hb hby d11_16) rfl ?_
    refine XS.iconst X2.here hx rfl (hb hby d11_17) ?_
    refine XS.iadd X2.here hx rfl (hb hby d11_18) rfl ?_
    show Steps _ _ _ (T2.setTop (mkF m 19 #[.val (.ref a1), .val (.ref y), .val (.ref t), .val (.int 2)] [(.int ((2 : Int32) + (1 : Int32))), (.ref a1)])) _
    rw [(by decide : ((2 : Int32) + (1 : Int32)) = (3 : Int32))]
    show Steps _ _ _ (T2.setTop (mkF m 19 #[.val (.ref a1), .val (.ref y), .val (.ref t), .val (.int 2)] [(.int 3), (.ref a1)])) _
    refine st3 _ ?_
    show Steps _ _ _ (T3.setTop (mkF m 22 #[.val (.ref a1), .val (.ref y), .val (.ref t), .val (.int 2)] [])) _
    exact X3.returnOut hx Bd.returns (hb hby d11_22) hr
  · show QP2 Z a1 y t k mc x0 x1 h0 n0 _ T3.heap _
    rw [e3]
    exact ⟨rfl, N3, (((Keep.refl h0 [a1, t]).wr W2 (Or.inl (tk 1 rfl))).wr W3 (Or.inl (tk 0 rfl))), f6, f7, f8, Fw3, f9⟩
def QA2 (Z : State) (a1 y t : Addr) (k : ClassId) (mc : Int32) (x0 x1 : Addr) (h0 : Heap) (n0 : Nat) (v : Option Value) (h : Heap) (L : List Loc) : Prop := v = some (.int 1) ∧ Fr n0 L ∧ Keep h0 h [a1, t] ∧ Exa Z h a1 "java/util/ArrayList" ∧ Fld Z h a1 "java/util/AbstractList" "modCount" "I" (.int (mc + (1 : Int32))) ∧ Fld Z h a1 "java/util/ArrayList" "elementData" "[Ljava/lang/Object;" (.ref t) ∧ Fld Z h a1 "java/util/ArrayList" "size" "I" (.int 3) ∧ Arv Z h t k (.object "java/lang/Object") (3 : Int32) [(.ref x0), (.ref x1), (.ref y)] .null
theorem rmA2 (l : Launch) (Z : State) (a0 : Array Value) (hw : ∀ d ∈ tables_1, d.before a0 Z = true) (ws : List Jvm.Cond) (a1 : Addr) (y : Addr) (t : Addr) (k : ClassId) (mc : Int32) (x0 : Addr) (x1 : Addr) (h0 : Heap) (n0 : Nat) (Z0 : n0 ≤ h0.size) (E_a1 : Exa Z h0 a1 "java/util/ArrayList") (F_modCount_a1 : Fld Z h0 a1 "java/util/AbstractList" "modCount" "I" (.int mc)) (F_elementData_a1 : Fld Z h0 a1 "java/util/ArrayList" "elementData" "[Ljava/lang/Object;" (.ref t)) (F_size_a1 : Fld Z h0 a1 "java/util/ArrayList" "size" "I" (.int 2)) (g_a1 : n0 ≤ a1) (E_y : Exa Z h0 y "java/lang/String") (V_t : Arv Z h0 t k (.object "java/lang/Object") (3 : Int32) [(.ref x0), (.ref x1)] .null) (g_t : n0 ≤ t) (Ov : Ovr Z k "java/lang/Object") :
    MetFree l y_36 (head1 (Jvm.Cond.code y_36 jdk_38_method_25_code 2 (some .boolean) :: ws) ({ frames := 1, cells := 0, slots := 0, locals := 15 } : Room)) (fun a_ U_ => a_ = #[(.ref a1), (.ref y)] ∧ Z.Warmed39 U_.vm ∧ U_.heap = h0) (fun _ _ _ _ _ => True) (fun _ U_ o_ U1_ => ∃ v_ L_, o_ = .returned v_ ∧ QA2 Z a1 y t k mc x0 x1 h0 n0 v_ U1_.heap L_ ∧ FrameEnd U_ o_ U1_ L_ ({ frames := 1, cells := 0, slots := 0, locals := 15 } : Room).cells ({ frames := 1, cells := 0, slots := 0, locals := 15 } : Room).slots) := by
  refine MetFree.of_bodySF (plainFor_of_name pn_10) hisR ?_
  intro p e s m args below meth c s₁ Bd hml0 hP hK
  obtain ⟨rfl, hZ, hh⟩ := hP
  have hx := Bd.exec
  have hby := Bd.bytes
  have hml : c.maxLocals = 2 := hml0
  have hown : s.vm.findClass "java/util/ArrayList" = some m.cls := findClass_of_methodNamed Bd.named
  have hnm := (name_of_methodNamed Bd.named Bd.method).1
  have X0 : Stand p l e ({ frames := 1, cells := 0, slots := 0, locals := 15 } : Room) s m #[(.ref a1), (.ref y)] below meth c s₁ [] 0 0 := Stand.of_body Bd
  have e0 : s₁.heap = h0 := by rw [← hh, Bd.state]; rfl
  have N0 := Fr.nil n0
  have pre0 : ∀ tt, Steps p.tables e below (s₁.setTop (mkF m 0 #[.val (.ref a1), .val (.ref y)] [])) tt → Steps p.tables e below (s₁.setTop (entryFrame m #[(.ref a1), (.ref y)] 2)) tt := fun tt kk => castTop (ef_10_rr m a1 y) kk
  obtain ⟨T1, X1, e1, st1⟩ := getF X0 hx hZ hown (host := "") (Or.inl (hw _ (tk 88 rfl))) (Via.of (hw _ (tk 89 rfl))) e0 F_modCount_a1 (g := (mkF m 2 #[.val (.ref a1), .val (.ref y)] [(.ref a1), (.ref a1)])) rfl rfl (hb hby d10_2)
  obtain ⟨T2, h2, X2, e2, W2, st2⟩ := putF X1 hx hZ hown (host := "") (Or.inl (hw _ (tk 88 rfl))) (Via.of (hw _ (tk 89 rfl))) e1 F_modCount_a1 E_a1 (Or.inl (hw _ (tk 73 rfl))) (hw _ (tk 54 rfl)) (ty := .int) (by decide) rfl rfl (g := (mkF m 7 #[.val (.ref a1), .val (.ref y)] [(.int (mc + (1 : Int32))), (.ref a1)])) rfl rfl (hb hby d10_7)
  have Fw2 := F_modCount_a1.same W2
  have N2 := Fr.snoc X2 N0 g_a1
  have f4 := (F_elementData_a1.other W2 (Or.inr (slot_ne (Or.inl (hw _ (tk 77 rfl))) (Or.inl (hw _ (tk 73 rfl))) (by decide) (t := (.array (.object "java/lang/Object"))) (t' := .int) (by decide) (by decide))))
  obtain ⟨T3, X3, e3, st3⟩ := getF X2 hx hZ hown (host := "") (Or.inl (hw _ (tk 76 rfl))) Via.refl e2 f4 (g := (mkF m 13 #[.val (.ref a1), .val (.ref y)] [(.ref a1), (.ref y), (.ref a1)])) rfl rfl (hb hby d10_13)
  have f6 := (F_size_a1.other W2 (Or.inr (slot_ne (Or.inl (hw _ (tk 91 rfl))) (Or.inl (hw _ (tk 73 rfl))) (by decide) (t := .int) (t' := .int) (by decide) (by decide))))
  obtain ⟨T5, X5, e5, st5⟩ := getF X3 hx hZ hown (host := "") (Or.inl (hw _ (tk 90 rfl))) Via.refl e3 f6 (g := (mkF m 17 #[.val (.ref a1), .val (.ref y)] [(.ref a1), (.ref t), (.ref y), (.ref a1)])) rfl rfl (hb hby d10_17)
  have f8 := (V_t.other W2 (Ne.symm (Exa.neArv E_a1 V_t (hw _ (tk 54 rfl)))))
  have f9 := (E_a1.wr W2)
  have f10 := (E_y.wr W2)
  obtain ⟨cq7, q7, q7'⟩ := Exa.cell f9
  obtain ⟨_, _, ⟨T7, L7, k7, n7⟩, -, X7, ⟨Lc7, hQ7, l7, y7, z7⟩, st7⟩ := X5.privateBack hx (y := y_35) hown (mvT hZ (hw _ (tk 92 rfl))) (mvT hZ (hw _ (tk 93 rfl))) (mvT hZ (hw _ (tk 95 rfl))) (Cond.privateMethod_at (mvP hZ (hw _ (tk 94 rfl)) (args := #[]))) (mvT hZ (hw _ (tk 96 rfl))) (by decide) (backOf (W := 0) (rmP2 l Z a0 hw [] a1 y t k (mc + (1 : Int32)) x0 x1 h2 n0 (Nat.le_trans Z0 (Keep.of_wr W2).1) f9 Fw2 f4 f6 g_a1 f10 f8 g_t Ov) hZ (hw _ (tk 96 rfl)) (hw _ (tk 55 rfl)) (by decide) (by decide)) (g := (mkF m 20 #[.val (.ref a1), .val (.ref y)] [(.int 2), (.ref t), (.ref y), (.ref a1)])) rfl (by rw [hml]; rfl) (Steps.refl _) (a := a1) (by rw [e5]; exact q7) q7' (argsL := [(.ref y), (.ref t), (.int 2)]) (rest := []) (lenOf pd__Ljava_lang_Object__Ljava_lang_Object_I_V rfl) rfl (by show 2 * 0 + _ ≤ _; exact Nat.le_of_eq rfl) (hb hby d10_20) (fun _ _ => ⟨rfl, e5, (by decide : 0 + 0 ≤ _), (by decide : 0 + 0 ≤ _)⟩)
  dsimp only [Pt.U, Pt.locs, Pt.cells, Pt.slots] at X7 l7 y7 z7 st7 hQ7
  subst l7 y7 z7
  obtain ⟨rfl, Nq7, Kq7, E7q, Fm7q, Fe7q, Fs7q, V7q⟩ := hQ7
  have N7 := Fr.app N2 Nq7
  obtain ⟨fs, hr, hrun, hended, hW, hsame⟩ := X7.leave (v := some (.int 1)) (fun h => by rw [Bd.returns] at h; cases h)
  refine ⟨_, _, pre0 _ ?_, hrun, hended, _, _, rfl, ?_, ⟨_, rfl⟩, hW, hsame.mono (by decide) (by decide)⟩
  · show Steps _ _ _ (s₁.setTop (mkF m 0 #[.val (.ref a1), .val (.ref y)] [])) _
    refine XS.aloadN X0.here hx rfl (hb hby d10_0) rfl rfl ?_
    refine XS.dup X0.here hx rfl (hb hby d10_1) rfl rfl ?_
    show Steps _ _ _ (s₁.setTop (mkF m 2 #[.val (.ref a1), .val (.ref y)] [(.ref a1), (.ref a1)])) _
    refine st1 _ ?_
    show Steps _ _ _ (T1.setTop (mkF m 5 #[.val (.ref a1), .val (.ref y)] [(.int mc), (.ref a1)])) _
    refine XS.iconst X1.here hx rfl (hb hby d10_5) ?_
    refine XS.iadd X1.here hx rfl (hb hby d10_6) rfl ?_
    show Steps _ _ _ (T1.setTop (mkF m 7 #[.val (.ref a1), .val (.ref y)] [(.int (mc + (1 : Int32))), (.ref a1)])) _
    refine st2 _ ?_
    show Steps _ _ _ (T2.setTop (mkF m 10 #[.val (.ref a1), .val (.ref y)] [])) _
    refine XS.aloadN X2.here hx rfl (hb hby d10_10) rfl rfl ?_
    refine XS.aloadN X2.here hx rfl (hb hby d10_11) rfl rfl ?_
    refine XS.aloadN X2.here hx rfl (hb hby d10_12) rfl rfl ?_
    show Steps _ _ _ (T2.setTop (mkF m 13 #[.val (.ref a1), .val (.ref y)] [(.ref a1), (.ref y), (.ref a1)])) _
    refine st3 _ ?_
    show Steps _ _ _ (T3.setTop (mkF m 16 #[.val (.ref a1), .val (.ref y)] [(.ref t), (.ref y), (.ref a1)])) _
    refine XS.aloadN X3.here hx rfl (hb hby d10_16) rfl rfl ?_
    show Steps _ _ _ (T3.setTop (mkF m 17 #[.val (.ref a1), .val (.ref y)] [(.ref a1), (.ref t), (.ref y), (.ref a1)])) _
    refine st5 _ ?_
    show Steps _ _ _ (T5.setTop (mkF m 20 #[.val (.ref a1), .val (.ref y)] [(.int 2), (.ref t), (.ref y), (.ref a1)])) _
    refine st7.trans ?_
    show Steps _ _ _ (T7.setTop (mkF m 23 #[.val (.ref a1), .val (.ref y)] [])) _
    refine XS.iconst X7.here hx rfl (hb hby d10_23) ?_
    show Steps _ _ _ (T7.setTop (mkF m 24 #[.val (.ref a1), .val (.ref y)] [(.int 1)])) _
    exact retN X7 hx (t := .boolean) Bd.returns (by simp) (hb hby d10_24) hr
  · show QA2 Z a1 y t k mc x0 x1 h0 n0 _ T7.heap _
    exact ⟨rfl, N7, (((Keep.refl h0 [a1, t]).wr W2 (Or.inl (tk 0 rfl))).trans Kq7 (allS (P := fun zz => zz ∈ [a1, t] ∨ h0.size ≤ zz) (Or.inl (tk 0 rfl)) (allS (P := fun zz => zz ∈ [a1, t] ∨ h0.size ≤ zz) (Or.inl (tk 1 rfl)) all0))), E7q, Fm7q, Fe7q, Fs7q, V7q⟩
theorem d12_0 : decode jdk_38_method_8_code 0 = .ok (.aload_n 0, 1) := by decide +kernel
theorem d12_1 : decode jdk_38_method_8_code 1 = .ok (.getfield 48, 3) := by decide +kernel
theorem d12_4 : decode jdk_38_method_8_code 4 = .ok (.ireturn, 1) := by decide +kernel
theorem pn_12 : plainName "java/util/ArrayList" = true := by first | (simp [plainName, overriddenIn]; done) | decide +kernel
theorem ef_12_r (m : MethodId) (x0 : Addr) : entryFrame m #[(.ref x0)] 1 = mkF m 0 #[.val (.ref x0)] [] := by first | (simp [entryFrame, mkF, argsToLocals, Value.category]; done) | rfl
theorem rmSZ (l : Launch) (Z : State) (a0 : Array Value) (hw : ∀ d ∈ tables_1, d.before a0 Z = true) (ws : List Jvm.Cond) (a1 : Addr) (h0 : Heap) (n0 : Nat) (Z0 : n0 ≤ h0.size) (F_size_a1 : Fld Z h0 a1 "java/util/ArrayList" "size" "I" (.int 3)) :
    MetFree l y_37 (head1 (Jvm.Cond.code y_37 jdk_38_method_8_code 1 (some .int) :: ws) ({ frames := 0, cells := 0, slots := 0, locals := 0 } : Room)) (fun a_ U_ => a_ = #[(.ref a1)] ∧ Z.Warmed39 U_.vm ∧ U_.heap = h0) (fun _ _ _ _ _ => True) (fun _ U_ o_ U1_ => ∃ v_ L_, o_ = .returned v_ ∧ own_Q Z (some (.int 3)) h0 n0 v_ U1_.heap L_ ∧ FrameEnd U_ o_ U1_ L_ ({ frames := 0, cells := 0, slots := 0, locals := 0 } : Room).cells ({ frames := 0, cells := 0, slots := 0, locals := 0 } : Room).slots) := by
  refine MetFree.of_bodySF (plainFor_of_name pn_12) hisR ?_
  intro p e s m args below meth c s₁ Bd hml0 hP hK
  obtain ⟨rfl, hZ, hh⟩ := hP
  have hx := Bd.exec
  have hby := Bd.bytes
  have hml : c.maxLocals = 1 := hml0
  have hown : s.vm.findClass "java/util/ArrayList" = some m.cls := findClass_of_methodNamed Bd.named
  have hnm := (name_of_methodNamed Bd.named Bd.method).1
  have X0 : Stand p l e ({ frames := 0, cells := 0, slots := 0, locals := 0 } : Room) s m #[(.ref a1)] below meth c s₁ [] 0 0 := Stand.of_body Bd
  have e0 : s₁.heap = h0 := by rw [← hh, Bd.state]; rfl
  have N0 := Fr.nil n0
  have pre0 : ∀ tt, Steps p.tables e below (s₁.setTop (mkF m 0 #[.val (.ref a1)] [])) tt → Steps p.tables e below (s₁.setTop (entryFrame m #[(.ref a1)] 1)) tt := fun tt kk => castTop (ef_12_r m a1) kk
  obtain ⟨T1, X1, e1, st1⟩ := getF X0 hx hZ hown (host := "") (Or.inl (hw _ (tk 90 rfl))) Via.refl e0 F_size_a1 (g := (mkF m 1 #[.val (.ref a1)] [(.ref a1)])) rfl rfl (hb hby d12_1)
  obtain ⟨fs, hr, hrun, hended, hW, hsame⟩ := X1.leave (v := some (.int 3)) (fun h => by rw [Bd.returns] at h; cases h)
  refine ⟨_, _, pre0 _ ?_, hrun, hended, _, _, rfl, ?_, ⟨_, rfl⟩, hW, hsame.mono (by decide) (by decide)⟩
  · show Steps _ _ _ (s₁.setTop (mkF m 0 #[.val (.ref a1)] [])) _
    refine XS.aloadN X0.here hx rfl (hb hby d12_0) rfl rfl ?_
    show Steps _ _ _ (s₁.setTop (mkF m 1 #[.val (.ref a1)] [(.ref a1)])) _
    refine st1 _ ?_
    show Steps _ _ _ (T1.setTop (mkF m 4 #[.val (.ref a1)] [(.int 3)])) _
    exact retI X1 hx Bd.returns (hb hby d12_4) hr
  · show own_Q Z (some (.int 3)) h0 n0 _ T1.heap _
    rw [e1]
    exact ⟨rfl, N0, rfl⟩
theorem d16_0 : decode jdk_38_method_18_code 0 = .ok (.aload_n 0, 1) := by decide +kernel
theorem d16_1 : decode jdk_38_method_18_code 1 = .ok (.getfield 9, 3) := by decide +kernel
theorem d16_4 : decode jdk_38_method_18_code 4 = .ok (.iload_n 1, 1) := by decide +kernel
theorem d16_5 : decode jdk_38_method_18_code 5 = .ok (.aaload, 1) := by decide +kernel
theorem d16_6 : decode jdk_38_method_18_code 6 = .ok (.areturn, 1) := by decide +kernel
theorem pn_16 : plainName "java/util/ArrayList" = true := by first | (simp [plainName, overriddenIn]; done) | decide +kernel
theorem ef_16_rr (m : MethodId) (x0 : Addr) (x1 : Int32) : entryFrame m #[(.ref x0), (.int x1)] 2 = mkF m 0 #[.val (.ref x0), .val (.int x1)] [] := by first | (simp [entryFrame, mkF, argsToLocals, Value.category]; done) | rfl
theorem rmED0 (l : Launch) (Z : State) (a0 : Array Value) (hw : ∀ d ∈ tables_1, d.before a0 Z = true) (ws : List Jvm.Cond) (a1 : Addr) (t : Addr) (k : ClassId) (s0 : Addr) (s1 : Addr) (s2 : Addr) (h0 : Heap) (n0 : Nat) (Z0 : n0 ≤ h0.size) (E_a1 : Exa Z h0 a1 "java/util/ArrayList") (F_elementData_a1 : Fld Z h0 a1 "java/util/ArrayList" "elementData" "[Ljava/lang/Object;" (.ref t)) (F_size_a1 : Fld Z h0 a1 "java/util/ArrayList" "size" "I" (.int 3)) (V_t : Arv Z h0 t k (.object "java/lang/Object") (3 : Int32) [(.ref s0), (.ref s1), (.ref s2)] .null) :
    MetFree l y_38 (head1 (Jvm.Cond.code y_38 jdk_38_method_18_code 2 (some (.object "java/lang/Object")) :: ws) ({ frames := 0, cells := 0, slots := 0, locals := 0 } : Room)) (fun a_ U_ => a_ = #[(.ref a1), (.int 0)] ∧ Z.Warmed39 U_.vm ∧ U_.heap = h0) (fun _ _ _ _ _ => True) (fun _ U_ o_ U1_ => ∃ v_ L_, o_ = .returned v_ ∧ own_Q Z (some (.ref s0)) h0 n0 v_ U1_.heap L_ ∧ FrameEnd U_ o_ U1_ L_ ({ frames := 0, cells := 0, slots := 0, locals := 0 } : Room).cells ({ frames := 0, cells := 0, slots := 0, locals := 0 } : Room).slots) := by
  refine MetFree.of_bodySF (plainFor_of_name pn_16) hisR ?_
  intro p e s m args below meth c s₁ Bd hml0 hP hK
  obtain ⟨rfl, hZ, hh⟩ := hP
  have hx := Bd.exec
  have hby := Bd.bytes
  have hml : c.maxLocals = 2 := hml0
  have hown : s.vm.findClass "java/util/ArrayList" = some m.cls := findClass_of_methodNamed Bd.named
  have hnm := (name_of_methodNamed Bd.named Bd.method).1
  have X0 : Stand p l e ({ frames := 0, cells := 0, slots := 0, locals := 0 } : Room) s m #[(.ref a1), (.int 0)] below meth c s₁ [] 0 0 := Stand.of_body Bd
  have e0 : s₁.heap = h0 := by rw [← hh, Bd.state]; rfl
  have N0 := Fr.nil n0
  have pre0 : ∀ tt, Steps p.tables e below (s₁.setTop (mkF m 0 #[.val (.ref a1), .val (.int 0)] [])) tt → Steps p.tables e below (s₁.setTop (entryFrame m #[(.ref a1), (.int 0)] 2)) tt := fun tt kk => castTop (ef_16_rr m a1 (0 : Int32)) kk
  obtain ⟨T1, X1, e1, st1⟩ := getF X0 hx hZ hown (host := "") (Or.inl (hw _ (tk 76 rfl))) Via.refl e0 F_elementData_a1 (g := (mkF m 1 #[.val (.ref a1), .val (.int 0)] [(.ref a1)])) rfl rfl (hb hby d16_1)
  obtain ⟨c2, Ar2, -, S2, M2, H2, -⟩ := id V_t
  have hin2 := inb_of (j := (0 : Int32)) S2 ⟨by decide, by decide⟩
  obtain ⟨fs, hr, hrun, hended, hW, hsame⟩ := X1.leave (v := some (.ref s0)) (fun h => by rw [Bd.returns] at h; cases h)
  refine ⟨_, _, pre0 _ ?_, hrun, hended, _, _, rfl, ?_, ⟨_, rfl⟩, hW, hsame.mono (by decide) (by decide)⟩
  · show Steps _ _ _ (s₁.setTop (mkF m 0 #[.val (.ref a1), .val (.int 0)] [])) _
    refine XS.aloadN X0.here hx rfl (hb hby d16_0) rfl rfl ?_
    show Steps _ _ _ (s₁.setTop (mkF m 1 #[.val (.ref a1), .val (.int 0)] [(.ref a1)])) _
    refine st1 _ ?_
    show Steps _ _ _ (T1.setTop (mkF m 4 #[.val (.ref a1), .val (.int 0)] [(.ref t)])) _
    refine XS.iloadN X1.here hx rfl (hb hby d16_4) rfl ?_
    show Steps _ _ _ (T1.setTop (mkF m 5 #[.val (.ref a1), .val (.int 0)] [(.int 0), (.ref t)])) _
    refine X1.aaload hx (j := (0 : Int32)) (v := (.ref s0)) (by rw [e1]; exact Ar2.1) (State.isArrayOf_alike hZ.alike Ar2.2.1) rfl Ar2.2.2 hin2 (H2.at hin2 rfl) (g := (mkF m 5 #[.val (.ref a1), .val (.int 0)] [(.int 0), (.ref t)])) rfl rfl (hb hby d16_5) _ ?_
    show Steps _ _ _ (T1.setTop (mkF m 6 #[.val (.ref a1), .val (.int 0)] [(.ref s0)])) _
    jvm_step X1.here [X1.here.top, hx, (hb hby d16_6), X1.method', Bd.returns, Value.isRef, FieldType.isReference]
    first | (intro acts; rw [hr _ acts rfl rfl rfl]) | rw [hr _ _ rfl rfl rfl]
    exact Steps.refl _
  · show own_Q Z (some (.ref s0)) h0 n0 _ T1.heap _
    rw [e1]
    exact ⟨rfl, N0, rfl⟩
theorem d13_0 : decode jdk_38_method_20_code 0 = .ok (.iload_n 1, 1) := by decide +kernel
theorem d13_1 : decode jdk_38_method_20_code 1 = .ok (.aload_n 0, 1) := by decide +kernel
theorem d13_2 : decode jdk_38_method_20_code 2 = .ok (.getfield 48, 3) := by decide +kernel
theorem d13_5 : decode jdk_38_method_20_code 5 = .ok (.invokestatic 118, 3) := by decide +kernel
theorem d13_8 : decode jdk_38_method_20_code 8 = .ok (.pop, 1) := by decide +kernel
theorem d13_9 : decode jdk_38_method_20_code 9 = .ok (.aload_n 0, 1) := by decide +kernel
theorem d13_10 : decode jdk_38_method_20_code 10 = .ok (.iload_n 1, 1) := by decide +kernel
theorem pd__I_Ljava_lang_Object_ : parseMethodDescriptor "(I)Ljava/lang/Object;" = some ⟨[.int], some (.object "java/lang/Object")⟩ := by decide +kernel
theorem d13_11 : decode jdk_38_method_20_code 11 = .ok (.invokevirtual 123, 3) := by decide +kernel
theorem d13_14 : decode jdk_38_method_20_code 14 = .ok (.areturn, 1) := by decide +kernel
theorem pn_13 : plainName "java/util/ArrayList" = true := by first | (simp [plainName, overriddenIn]; done) | decide +kernel
theorem ef_13_rr (m : MethodId) (x0 : Addr) (x1 : Int32) : entryFrame m #[(.ref x0), (.int x1)] 2 = mkF m 0 #[.val (.ref x0), .val (.int x1)] [] := by first | (simp [entryFrame, mkF, argsToLocals, Value.category]; done) | rfl
theorem rmGT0 (l : Launch) (Z : State) (a0 : Array Value) (hw : ∀ d ∈ tables_1, d.before a0 Z = true) (ws : List Jvm.Cond) (a1 : Addr) (t : Addr) (k : ClassId) (s0 : Addr) (s1 : Addr) (s2 : Addr) (h0 : Heap) (n0 : Nat) (Z0 : n0 ≤ h0.size) (E_a1 : Exa Z h0 a1 "java/util/ArrayList") (F_elementData_a1 : Fld Z h0 a1 "java/util/ArrayList" "elementData" "[Ljava/lang/Object;" (.ref t)) (F_size_a1 : Fld Z h0 a1 "java/util/ArrayList" "size" "I" (.int 3)) (V_t : Arv Z h0 t k (.object "java/lang/Object") (3 : Int32) [(.ref s0), (.ref s1), (.ref s2)] .null) :
    MetFree l y_39 (head1 (Jvm.Cond.code y_39 jdk_38_method_20_code 2 (some (.object "java/lang/Object")) :: ws) ({ frames := 2, cells := 0, slots := 0, locals := 27 } : Room)) (fun a_ U_ => a_ = #[(.ref a1), (.int 0)] ∧ Z.Warmed39 U_.vm ∧ U_.heap = h0) (fun _ _ _ _ _ => True) (fun _ U_ o_ U1_ => ∃ v_ L_, o_ = .returned v_ ∧ own_Q Z (some (.ref s0)) h0 n0 v_ U1_.heap L_ ∧ FrameEnd U_ o_ U1_ L_ ({ frames := 2, cells := 0, slots := 0, locals := 27 } : Room).cells ({ frames := 2, cells := 0, slots := 0, locals := 27 } : Room).slots) := by
  refine MetFree.of_bodySF (plainFor_of_name pn_13) hisR ?_
  intro p e s m args below meth c s₁ Bd hml0 hP hK
  obtain ⟨rfl, hZ, hh⟩ := hP
  have hx := Bd.exec
  have hby := Bd.bytes
  have hml : c.maxLocals = 2 := hml0
  have hown : s.vm.findClass "java/util/ArrayList" = some m.cls := findClass_of_methodNamed Bd.named
  have hnm := (name_of_methodNamed Bd.named Bd.method).1
  have X0 : Stand p l e ({ frames := 2, cells := 0, slots := 0, locals := 27 } : Room) s m #[(.ref a1), (.int 0)] below meth c s₁ [] 0 0 := Stand.of_body Bd
  have e0 : s₁.heap = h0 := by rw [← hh, Bd.state]; rfl
  have N0 := Fr.nil n0
  have pre0 : ∀ tt, Steps p.tables e below (s₁.setTop (mkF m 0 #[.val (.ref a1), .val (.int 0)] [])) tt → Steps p.tables e below (s₁.setTop (entryFrame m #[(.ref a1), (.int 0)] 2)) tt := fun tt kk => castTop (ef_13_rr m a1 (0 : Int32)) kk
  obtain ⟨T1, X1, e1, st1⟩ := getF X0 hx hZ hown (host := "") (Or.inl (hw _ (tk 90 rfl))) Via.refl e0 F_size_a1 (g := (mkF m 2 #[.val (.ref a1), .val (.int 0)] [(.ref a1), (.int 0)])) rfl rfl (hb hby d13_2)
  obtain ⟨_, _, ⟨T2, L2, k2, n2⟩, -, X2, ⟨Lc2, hQ2, l2, y2, z2⟩, st2⟩ := Jvm.LawKit.callS X1 hx (y := y_8) hown (mvT hZ (hw _ (tk 114 rfl))) (mvT hZ (hw _ (tk 115 rfl))) (mvT hZ (hw _ (tk 116 rfl))) (mvT hZ (hw _ (tk 117 rfl))) (by decide) (backOf (W := 0) (rmOC0 l Z a0 hw [] h0 n0 Z0) hZ (hw _ (tk 117 rfl)) (hw _ (tk 116 rfl)) (by decide) (by decide)) (g := (mkF m 5 #[.val (.ref a1), .val (.int 0)] [(.int 3), (.int 0)])) rfl (by rw [hml]; rfl) (argsL := [(.int 0), (.int 3)]) (rest := []) (lenOf pd__II_I rfl) rfl (by show 2 * 0 + _ ≤ _; exact Nat.le_of_eq rfl) (hb hby d13_5) (fun _ _ => ⟨rfl, e1, (by decide : 0 + 0 ≤ _), (by decide : 0 + 0 ≤ _)⟩)
  dsimp only [Pt.U, Pt.locs, Pt.cells, Pt.slots] at X2 l2 y2 z2 st2 hQ2
  subst l2 y2 z2
  obtain ⟨rfl, Nq2, eq2⟩ := hQ2
  have N2 := Fr.app N0 Nq2
  obtain ⟨cq3, kq3, q3a, q3b, q3c⟩ := isOf hZ eq2 E_a1
  obtain ⟨_, _, ⟨T3, L3, k3, n3⟩, -, X3, ⟨Lc3, hQ3, l3, y3, z3⟩, st3⟩ := X2.virtualBack hx (y := y_38) (z := y_38) hown (mvT hZ (hw _ (tk 122 rfl))) (mvT hZ (hw _ (tk 123 rfl))) (notFace_of_selects (args := #[]) (mvT hZ (hw _ (tk 125 rfl)))) (mvT hZ (hw _ (tk 125 rfl))) (mvT hZ (hw _ (tk 124 rfl))) (by decide) (backOf (W := 0) (rmED0 l Z a0 hw [] a1 t k s0 s1 s2 h0 n0 Z0 E_a1 F_elementData_a1 F_size_a1 V_t) hZ (hw _ (tk 126 rfl)) (hw _ (tk 55 rfl)) (by decide) (by decide)) q3a q3c (g := (mkF m 11 #[.val (.ref a1), .val (.int 0)] [(.int 0), (.ref a1)])) rfl (by rw [hml]; rfl) (Steps.refl _) (argsL := [(.int 0)]) (rest := []) (lenOf pd__I_Ljava_lang_Object_ rfl) rfl (by show 2 * 0 + _ ≤ _; exact Nat.le_of_eq rfl) (hb hby d13_11) (fun _ _ => ⟨rfl, eq2, (by decide : 0 + 0 ≤ _), (by decide : 0 + 0 ≤ _)⟩)
  dsimp only [Pt.U, Pt.locs, Pt.cells, Pt.slots] at X3 l3 y3 z3 st3 hQ3
  subst l3 y3 z3
  obtain ⟨rfl, Nq3, eq3⟩ := hQ3
  have N3 := Fr.app N2 Nq3
  obtain ⟨fs, hr, hrun, hended, hW, hsame⟩ := X3.leave (v := some (.ref s0)) (fun h => by rw [Bd.returns] at h; cases h)
  refine ⟨_, _, pre0 _ ?_, hrun, hended, _, _, rfl, ?_, ⟨_, rfl⟩, hW, hsame.mono (by decide) (by decide)⟩
  · show Steps _ _ _ (s₁.setTop (mkF m 0 #[.val (.ref a1), .val (.int 0)] [])) _
    refine XS.iloadN X0.here hx rfl (hb hby d13_0) rfl ?_
    refine XS.aloadN X0.here hx rfl (hb hby d13_1) rfl rfl ?_
    show Steps _ _ _ (s₁.setTop (mkF m 2 #[.val (.ref a1), .val (.int 0)] [(.ref a1), (.int 0)])) _
    refine st1 _ ?_
    show Steps _ _ _ (T1.setTop (mkF m 5 #[.val (.ref a1), .val (.int 0)] [(.int 3), (.int 0)])) _
    refine st2 _ ?_
    show Steps _ _ _ (T2.setTop (mkF m 8 #[.val (.ref a1), .val (.int 0)] [(.int 0)])) _
    refine XS.pop X2.here hx rfl (hb hby d13_8) rfl rfl ?_
    refine XS.aloadN X2.here hx rfl (hb hby d13_9) rfl rfl ?_
    refine XS.iloadN X2.here hx rfl (hb hby d13_10) rfl ?_
    show Steps _ _ _ (T2.setTop (mkF m 11 #[.val (.ref a1), .val (.int 0)] [(.int 0), (.ref a1)])) _
    refine st3.trans ?_
    show Steps _ _ _ (T3.setTop (mkF m 14 #[.val (.ref a1), .val (.int 0)] [(.ref s0)])) _
    jvm_step X3.here [X3.here.top, hx, (hb hby d13_14), X3.method', Bd.returns, Value.isRef, FieldType.isReference]
    first | (intro acts; rw [hr _ acts rfl rfl rfl]) | rw [hr _ _ rfl rfl rfl]
    exact Steps.refl _
  · show own_Q Z (some (.ref s0)) h0 n0 _ T3.heap _
    rw [eq3]
    exact ⟨rfl, N3, rfl⟩
theorem rmED1 (l : Launch) (Z : State) (a0 : Array Value) (hw : ∀ d ∈ tables_1, d.before a0 Z = true) (ws : List Jvm.Cond) (a1 : Addr) (t : Addr) (k : ClassId) (s0 : Addr) (s1 : Addr) (s2 : Addr) (h0 : Heap) (n0 : Nat) (Z0 : n0 ≤ h0.size) (E_a1 : Exa Z h0 a1 "java/util/ArrayList") (F_elementData_a1 : Fld Z h0 a1 "java/util/ArrayList" "elementData" "[Ljava/lang/Object;" (.ref t)) (F_size_a1 : Fld Z h0 a1 "java/util/ArrayList" "size" "I" (.int 3)) (V_t : Arv Z h0 t k (.object "java/lang/Object") (3 : Int32) [(.ref s0), (.ref s1), (.ref s2)] .null) :
    MetFree l y_38 (head1 (Jvm.Cond.code y_38 jdk_38_method_18_code 2 (some (.object "java/lang/Object")) :: ws) ({ frames := 0, cells := 0, slots := 0, locals := 0 } : Room)) (fun a_ U_ => a_ = #[(.ref a1), (.int 1)] ∧ Z.Warmed39 U_.vm ∧ U_.heap = h0) (fun _ _ _ _ _ => True) (fun _ U_ o_ U1_ => ∃ v_ L_, o_ = .returned v_ ∧ own_Q Z (some (.ref s1)) h0 n0 v_ U1_.heap L_ ∧ FrameEnd U_ o_ U1_ L_ ({ frames := 0, cells := 0, slots := 0, locals := 0 } : Room).cells ({ frames := 0, cells := 0, slots := 0, locals := 0 } : Room).slots) := by
  refine MetFree.of_bodySF (plainFor_of_name pn_16) hisR ?_
  intro p e s m args below meth c s₁ Bd hml0 hP hK
  obtain ⟨rfl, hZ, hh⟩ := hP
  have hx := Bd.exec
  have hby := Bd.bytes
  have hml : c.maxLocals = 2 := hml0
  have hown : s.vm.findClass "java/util/ArrayList" = some m.cls := findClass_of_methodNamed Bd.named
  have hnm := (name_of_methodNamed Bd.named Bd.method).1
  have X0 : Stand p l e ({ frames := 0, cells := 0, slots := 0, locals := 0 } : Room) s m #[(.ref a1), (.int 1)] below meth c s₁ [] 0 0 := Stand.of_body Bd
  have e0 : s₁.heap = h0 := by rw [← hh, Bd.state]; rfl
  have N0 := Fr.nil n0
  have pre0 : ∀ tt, Steps p.tables e below (s₁.setTop (mkF m 0 #[.val (.ref a1), .val (.int 1)] [])) tt → Steps p.tables e below (s₁.setTop (entryFrame m #[(.ref a1), (.int 1)] 2)) tt := fun tt kk => castTop (ef_16_rr m a1 (1 : Int32)) kk
  obtain ⟨T1, X1, e1, st1⟩ := getF X0 hx hZ hown (host := "") (Or.inl (hw _ (tk 76 rfl))) Via.refl e0 F_elementData_a1 (g := (mkF m 1 #[.val (.ref a1), .val (.int 1)] [(.ref a1)])) rfl rfl (hb hby d16_1)
  obtain ⟨c2, Ar2, -, S2, M2, H2, -⟩ := id V_t
  have hin2 := inb_of (j := (1 : Int32)) S2 ⟨by decide, by decide⟩
  obtain ⟨fs, hr, hrun, hended, hW, hsame⟩ := X1.leave (v := some (.ref s1)) (fun h => by rw [Bd.returns] at h; cases h)
  refine ⟨_, _, pre0 _ ?_, hrun, hended, _, _, rfl, ?_, ⟨_, rfl⟩, hW, hsame.mono (by decide) (by decide)⟩
  · show Steps _ _ _ (s₁.setTop (mkF m 0 #[.val (.ref a1), .val (.int 1)] [])) _
    refine XS.aloadN X0.here hx rfl (hb hby d16_0) rfl rfl ?_
    show Steps _ _ _ (s₁.setTop (mkF m 1 #[.val (.ref a1), .val (.int 1)] [(.ref a1)])) _
    refine st1 _ ?_
    show Steps _ _ _ (T1.setTop (mkF m 4 #[.val (.ref a1), .val (.int 1)] [(.ref t)])) _
    refine XS.iloadN X1.here hx rfl (hb hby d16_4) rfl ?_
    show Steps _ _ _ (T1.setTop (mkF m 5 #[.val (.ref a1), .val (.int 1)] [(.int 1), (.ref t)])) _
    refine X1.aaload hx (j := (1 : Int32)) (v := (.ref s1)) (by rw [e1]; exact Ar2.1) (State.isArrayOf_alike hZ.alike Ar2.2.1) rfl Ar2.2.2 hin2 (H2.at hin2 rfl) (g := (mkF m 5 #[.val (.ref a1), .val (.int 1)] [(.int 1), (.ref t)])) rfl rfl (hb hby d16_5) _ ?_
    show Steps _ _ _ (T1.setTop (mkF m 6 #[.val (.ref a1), .val (.int 1)] [(.ref s1)])) _
    jvm_step X1.here [X1.here.top, hx, (hb hby d16_6), X1.method', Bd.returns, Value.isRef, FieldType.isReference]
    first | (intro acts; rw [hr _ acts rfl rfl rfl]) | rw [hr _ _ rfl rfl rfl]
    exact Steps.refl _
  · show own_Q Z (some (.ref s1)) h0 n0 _ T1.heap _
    rw [e1]
    exact ⟨rfl, N0, rfl⟩
theorem rmGT1 (l : Launch) (Z : State) (a0 : Array Value) (hw : ∀ d ∈ tables_1, d.before a0 Z = true) (ws : List Jvm.Cond) (a1 : Addr) (t : Addr) (k : ClassId) (s0 : Addr) (s1 : Addr) (s2 : Addr) (h0 : Heap) (n0 : Nat) (Z0 : n0 ≤ h0.size) (E_a1 : Exa Z h0 a1 "java/util/ArrayList") (F_elementData_a1 : Fld Z h0 a1 "java/util/ArrayList" "elementData" "[Ljava/lang/Object;" (.ref t)) (F_size_a1 : Fld Z h0 a1 "java/util/ArrayList" "size" "I" (.int 3)) (V_t : Arv Z h0 t k (.object "java/lang/Object") (3 : Int32) [(.ref s0), (.ref s1), (.ref s2)] .null) :
    MetFree l y_39 (head1 (Jvm.Cond.code y_39 jdk_38_method_20_code 2 (some (.object "java/lang/Object")) :: ws) ({ frames := 2, cells := 0, slots := 0, locals := 27 } : Room)) (fun a_ U_ => a_ = #[(.ref a1), (.int 1)] ∧ Z.Warmed39 U_.vm ∧ U_.heap = h0) (fun _ _ _ _ _ => True) (fun _ U_ o_ U1_ => ∃ v_ L_, o_ = .returned v_ ∧ own_Q Z (some (.ref s1)) h0 n0 v_ U1_.heap L_ ∧ FrameEnd U_ o_ U1_ L_ ({ frames := 2, cells := 0, slots := 0, locals := 27 } : Room).cells ({ frames := 2, cells := 0, slots := 0, locals := 27 } : Room).slots) := by
  refine MetFree.of_bodySF (plainFor_of_name pn_13) hisR ?_
  intro p e s m args below meth c s₁ Bd hml0 hP hK
  obtain ⟨rfl, hZ, hh⟩ := hP
  have hx := Bd.exec
  have hby := Bd.bytes
  have hml : c.maxLocals = 2 := hml0
  have hown : s.vm.findClass "java/util/ArrayList" = some m.cls := findClass_of_methodNamed Bd.named
  have hnm := (name_of_methodNamed Bd.named Bd.method).1
  have X0 : Stand p l e ({ frames := 2, cells := 0, slots := 0, locals := 27 } : Room) s m #[(.ref a1), (.int 1)] below meth c s₁ [] 0 0 := Stand.of_body Bd
  have e0 : s₁.heap = h0 := by rw [← hh, Bd.state]; rfl
  have N0 := Fr.nil n0
  have pre0 : ∀ tt, Steps p.tables e below (s₁.setTop (mkF m 0 #[.val (.ref a1), .val (.int 1)] [])) tt → Steps p.tables e below (s₁.setTop (entryFrame m #[(.ref a1), (.int 1)] 2)) tt := fun tt kk => castTop (ef_13_rr m a1 (1 : Int32)) kk
  obtain ⟨T1, X1, e1, st1⟩ := getF X0 hx hZ hown (host := "") (Or.inl (hw _ (tk 90 rfl))) Via.refl e0 F_size_a1 (g := (mkF m 2 #[.val (.ref a1), .val (.int 1)] [(.ref a1), (.int 1)])) rfl rfl (hb hby d13_2)
  obtain ⟨_, _, ⟨T2, L2, k2, n2⟩, -, X2, ⟨Lc2, hQ2, l2, y2, z2⟩, st2⟩ := Jvm.LawKit.callS X1 hx (y := y_8) hown (mvT hZ (hw _ (tk 114 rfl))) (mvT hZ (hw _ (tk 115 rfl))) (mvT hZ (hw _ (tk 116 rfl))) (mvT hZ (hw _ (tk 117 rfl))) (by decide) (backOf (W := 0) (rmOC1 l Z a0 hw [] h0 n0 Z0) hZ (hw _ (tk 117 rfl)) (hw _ (tk 116 rfl)) (by decide) (by decide)) (g := (mkF m 5 #[.val (.ref a1), .val (.int 1)] [(.int 3), (.int 1)])) rfl (by rw [hml]; rfl) (argsL := [(.int 1), (.int 3)]) (rest := []) (lenOf pd__II_I rfl) rfl (by show 2 * 0 + _ ≤ _; exact Nat.le_of_eq rfl) (hb hby d13_5) (fun _ _ => ⟨rfl, e1, (by decide : 0 + 0 ≤ _), (by decide : 0 + 0 ≤ _)⟩)
  dsimp only [Pt.U, Pt.locs, Pt.cells, Pt.slots] at X2 l2 y2 z2 st2 hQ2
  subst l2 y2 z2
  obtain ⟨rfl, Nq2, eq2⟩ := hQ2
  have N2 := Fr.app N0 Nq2
  obtain ⟨cq3, kq3, q3a, q3b, q3c⟩ := isOf hZ eq2 E_a1
  obtain ⟨_, _, ⟨T3, L3, k3, n3⟩, -, X3, ⟨Lc3, hQ3, l3, y3, z3⟩, st3⟩ := X2.virtualBack hx (y := y_38) (z := y_38) hown (mvT hZ (hw _ (tk 122 rfl))) (mvT hZ (hw _ (tk 123 rfl))) (notFace_of_selects (args := #[]) (mvT hZ (hw _ (tk 125 rfl)))) (mvT hZ (hw _ (tk 125 rfl))) (mvT hZ (hw _ (tk 124 rfl))) (by decide) (backOf (W := 0) (rmED1 l Z a0 hw [] a1 t k s0 s1 s2 h0 n0 Z0 E_a1 F_elementData_a1 F_size_a1 V_t) hZ (hw _ (tk 126 rfl)) (hw _ (tk 55 rfl)) (by decide) (by decide)) q3a q3c (g := (mkF m 11 #[.val (.ref a1), .val (.int 1)] [(.int 1), (.ref a1)])) rfl (by rw [hml]; rfl) (Steps.refl _) (argsL := [(.int 1)]) (rest := []) (lenOf pd__I_Ljava_lang_Object_ rfl) rfl (by show 2 * 0 + _ ≤ _; exact Nat.le_of_eq rfl) (hb hby d13_11) (fun _ _ => ⟨rfl, eq2, (by decide : 0 + 0 ≤ _), (by decide : 0 + 0 ≤ _)⟩)
  dsimp only [Pt.U, Pt.locs, Pt.cells, Pt.slots] at X3 l3 y3 z3 st3 hQ3
  subst l3 y3 z3
  obtain ⟨rfl, Nq3, eq3⟩ := hQ3
  have N3 := Fr.app N2 Nq3
  obtain ⟨fs, hr, hrun, hended, hW, hsame⟩ := X3.leave (v := some (.ref s1)) (fun h => by rw [Bd.returns] at h; cases h)
  refine ⟨_, _, pre0 _ ?_, hrun, hended, _, _, rfl, ?_, ⟨_, rfl⟩, hW, hsame.mono (by decide) (by decide)⟩
  · show Steps _ _ _ (s₁.setTop (mkF m 0 #[.val (.ref a1), .val (.int 1)] [])) _
    refine XS.iloadN X0.here hx rfl (hb hby d13_0) rfl ?_
    refine XS.aloadN X0.here hx rfl (hb hby d13_1) rfl rfl ?_
    show Steps _ _ _ (s₁.setTop (mkF m 2 #[.val (.ref a1), .val (.int 1)] [(.ref a1), (.int 1)])) _
    refine st1 _ ?_
    show Steps _ _ _ (T1.setTop (mkF m 5 #[.val (.ref a1), .val (.int 1)] [(.int 3), (.int 1)])) _
    refine st2 _ ?_
    show Steps _ _ _ (T2.setTop (mkF m 8 #[.val (.ref a1), .val (.int 1)] [(.int 1)])) _
    refine XS.pop X2.here hx rfl (hb hby d13_8) rfl rfl ?_
    refine XS.aloadN X2.here hx rfl (hb hby d13_9) rfl rfl ?_
    refine XS.iloadN X2.here hx rfl (hb hby d13_10) rfl ?_
    show Steps _ _ _ (T2.setTop (mkF m 11 #[.val (.ref a1), .val (.int 1)] [(.int 1), (.ref a1)])) _
    refine st3.trans ?_
    show Steps _ _ _ (T3.setTop (mkF m 14 #[.val (.ref a1), .val (.int 1)] [(.ref s1)])) _
    jvm_step X3.here [X3.here.top, hx, (hb hby d13_14), X3.method', Bd.returns, Value.isRef, FieldType.isReference]
    first | (intro acts; rw [hr _ acts rfl rfl rfl]) | rw [hr _ _ rfl rfl rfl]
    exact Steps.refl _
  · show own_Q Z (some (.ref s1)) h0 n0 _ T3.heap _
    rw [eq3]
    exact ⟨rfl, N3, rfl⟩
theorem rmED2 (l : Launch) (Z : State) (a0 : Array Value) (hw : ∀ d ∈ tables_1, d.before a0 Z = true) (ws : List Jvm.Cond) (a1 : Addr) (t : Addr) (k : ClassId) (s0 : Addr) (s1 : Addr) (s2 : Addr) (h0 : Heap) (n0 : Nat) (Z0 : n0 ≤ h0.size) (E_a1 : Exa Z h0 a1 "java/util/ArrayList") (F_elementData_a1 : Fld Z h0 a1 "java/util/ArrayList" "elementData" "[Ljava/lang/Object;" (.ref t)) (F_size_a1 : Fld Z h0 a1 "java/util/ArrayList" "size" "I" (.int 3)) (V_t : Arv Z h0 t k (.object "java/lang/Object") (3 : Int32) [(.ref s0), (.ref s1), (.ref s2)] .null) :
    MetFree l y_38 (head1 (Jvm.Cond.code y_38 jdk_38_method_18_code 2 (some (.object "java/lang/Object")) :: ws) ({ frames := 0, cells := 0, slots := 0, locals := 0 } : Room)) (fun a_ U_ => a_ = #[(.ref a1), (.int 2)] ∧ Z.Warmed39 U_.vm ∧ U_.heap = h0) (fun _ _ _ _ _ => True) (fun _ U_ o_ U1_ => ∃ v_ L_, o_ = .returned v_ ∧ own_Q Z (some (.ref s2)) h0 n0 v_ U1_.heap L_ ∧ FrameEnd U_ o_ U1_ L_ ({ frames := 0, cells := 0, slots := 0, locals := 0 } : Room).cells ({ frames := 0, cells := 0, slots := 0, locals := 0 } : Room).slots) := by
  refine MetFree.of_bodySF (plainFor_of_name pn_16) hisR ?_
  intro p e s m args below meth c s₁ Bd hml0 hP hK
  obtain ⟨rfl, hZ, hh⟩ := hP
  have hx := Bd.exec
  have hby := Bd.bytes
  have hml : c.maxLocals = 2 := hml0
  have hown : s.vm.findClass "java/util/ArrayList" = some m.cls := findClass_of_methodNamed Bd.named
  have hnm := (name_of_methodNamed Bd.named Bd.method).1
  have X0 : Stand p l e ({ frames := 0, cells := 0, slots := 0, locals := 0 } : Room) s m #[(.ref a1), (.int 2)] below meth c s₁ [] 0 0 := Stand.of_body Bd
  have e0 : s₁.heap = h0 := by rw [← hh, Bd.state]; rfl
  have N0 := Fr.nil n0
  have pre0 : ∀ tt, Steps p.tables e below (s₁.setTop (mkF m 0 #[.val (.ref a1), .val (.int 2)] [])) tt → Steps p.tables e below (s₁.setTop (entryFrame m #[(.ref a1), (.int 2)] 2)) tt := fun tt kk => castTop (ef_16_rr m a1 (2 : Int32)) kk
  obtain ⟨T1, X1, e1, st1⟩ := getF X0 hx hZ hown (host := "") (Or.inl (hw _ (tk 76 rfl))) Via.refl e0 F_elementData_a1 (g := (mkF m 1 #[.val (.ref a1), .val (.int 2)] [(.ref a1)])) rfl rfl (hb hby d16_1)
  obtain ⟨c2, Ar2, -, S2, M2, H2, -⟩ := id V_t
  have hin2 := inb_of (j := (2 : Int32)) S2 ⟨by decide, by decide⟩
  obtain ⟨fs, hr, hrun, hended, hW, hsame⟩ := X1.leave (v := some (.ref s2)) (fun h => by rw [Bd.returns] at h; cases h)
  refine ⟨_, _, pre0 _ ?_, hrun, hended, _, _, rfl, ?_, ⟨_, rfl⟩, hW, hsame.mono (by decide) (by decide)⟩
  · show Steps _ _ _ (s₁.setTop (mkF m 0 #[.val (.ref a1), .val (.int 2)] [])) _
    refine XS.aloadN X0.here hx rfl (hb hby d16_0) rfl rfl ?_
    show Steps _ _ _ (s₁.setTop (mkF m 1 #[.val (.ref a1), .val (.int 2)] [(.ref a1)])) _
    refine st1 _ ?_
    show Steps _ _ _ (T1.setTop (mkF m 4 #[.val (.ref a1), .val (.int 2)] [(.ref t)])) _
    refine XS.iloadN X1.here hx rfl (hb hby d16_4) rfl ?_
    show Steps _ _ _ (T1.setTop (mkF m 5 #[.val (.ref a1), .val (.int 2)] [(.int 2), (.ref t)])) _
    refine X1.aaload hx (j := (2 : Int32)) (v := (.ref s2)) (by rw [e1]; exact Ar2.1) (State.isArrayOf_alike hZ.alike Ar2.2.1) rfl Ar2.2.2 hin2 (H2.at hin2 rfl) (g := (mkF m 5 #[.val (.ref a1), .val (.int 2)] [(.int 2), (.ref t)])) rfl rfl (hb hby d16_5) _ ?_
    show Steps _ _ _ (T1.setTop (mkF m 6 #[.val (.ref a1), .val (.int 2)] [(.ref s2)])) _
    jvm_step X1.here [X1.here.top, hx, (hb hby d16_6), X1.method', Bd.returns, Value.isRef, FieldType.isReference]
    first | (intro acts; rw [hr _ acts rfl rfl rfl]) | rw [hr _ _ rfl rfl rfl]
    exact Steps.refl _
  · show own_Q Z (some (.ref s2)) h0 n0 _ T1.heap _
    rw [e1]
    exact ⟨rfl, N0, rfl⟩
theorem rmGT2 (l : Launch) (Z : State) (a0 : Array Value) (hw : ∀ d ∈ tables_1, d.before a0 Z = true) (ws : List Jvm.Cond) (a1 : Addr) (t : Addr) (k : ClassId) (s0 : Addr) (s1 : Addr) (s2 : Addr) (h0 : Heap) (n0 : Nat) (Z0 : n0 ≤ h0.size) (E_a1 : Exa Z h0 a1 "java/util/ArrayList") (F_elementData_a1 : Fld Z h0 a1 "java/util/ArrayList" "elementData" "[Ljava/lang/Object;" (.ref t)) (F_size_a1 : Fld Z h0 a1 "java/util/ArrayList" "size" "I" (.int 3)) (V_t : Arv Z h0 t k (.object "java/lang/Object") (3 : Int32) [(.ref s0), (.ref s1), (.ref s2)] .null) :
    MetFree l y_39 (head1 (Jvm.Cond.code y_39 jdk_38_method_20_code 2 (some (.object "java/lang/Object")) :: ws) ({ frames := 2, cells := 0, slots := 0, locals := 27 } : Room)) (fun a_ U_ => a_ = #[(.ref a1), (.int 2)] ∧ Z.Warmed39 U_.vm ∧ U_.heap = h0) (fun _ _ _ _ _ => True) (fun _ U_ o_ U1_ => ∃ v_ L_, o_ = .returned v_ ∧ own_Q Z (some (.ref s2)) h0 n0 v_ U1_.heap L_ ∧ FrameEnd U_ o_ U1_ L_ ({ frames := 2, cells := 0, slots := 0, locals := 27 } : Room).cells ({ frames := 2, cells := 0, slots := 0, locals := 27 } : Room).slots) := by
  refine MetFree.of_bodySF (plainFor_of_name pn_13) hisR ?_
  intro p e s m args below meth c s₁ Bd hml0 hP hK
  obtain ⟨rfl, hZ, hh⟩ := hP
  have hx := Bd.exec
  have hby := Bd.bytes
  have hml : c.maxLocals = 2 := hml0
  have hown : s.vm.findClass "java/util/ArrayList" = some m.cls := findClass_of_methodNamed Bd.named
  have hnm := (name_of_methodNamed Bd.named Bd.method).1
  have X0 : Stand p l e ({ frames := 2, cells := 0, slots := 0, locals := 27 } : Room) s m #[(.ref a1), (.int 2)] below meth c s₁ [] 0 0 := Stand.of_body Bd
  have e0 : s₁.heap = h0 := by rw [← hh, Bd.state]; rfl
  have N0 := Fr.nil n0
  have pre0 : ∀ tt, Steps p.tables e below (s₁.setTop (mkF m 0 #[.val (.ref a1), .val (.int 2)] [])) tt → Steps p.tables e below (s₁.setTop (entryFrame m #[(.ref a1), (.int 2)] 2)) tt := fun tt kk => castTop (ef_13_rr m a1 (2 : Int32)) kk
  obtain ⟨T1, X1, e1, st1⟩ := getF X0 hx hZ hown (host := "") (Or.inl (hw _ (tk 90 rfl))) Via.refl e0 F_size_a1 (g := (mkF m 2 #[.val (.ref a1), .val (.int 2)] [(.ref a1), (.int 2)])) rfl rfl (hb hby d13_2)
  obtain ⟨_, _, ⟨T2, L2, k2, n2⟩, -, X2, ⟨Lc2, hQ2, l2, y2, z2⟩, st2⟩ := Jvm.LawKit.callS X1 hx (y := y_8) hown (mvT hZ (hw _ (tk 114 rfl))) (mvT hZ (hw _ (tk 115 rfl))) (mvT hZ (hw _ (tk 116 rfl))) (mvT hZ (hw _ (tk 117 rfl))) (by decide) (backOf (W := 0) (rmOC2 l Z a0 hw [] h0 n0 Z0) hZ (hw _ (tk 117 rfl)) (hw _ (tk 116 rfl)) (by decide) (by decide)) (g := (mkF m 5 #[.val (.ref a1), .val (.int 2)] [(.int 3), (.int 2)])) rfl (by rw [hml]; rfl) (argsL := [(.int 2), (.int 3)]) (rest := []) (lenOf pd__II_I rfl) rfl (by show 2 * 0 + _ ≤ _; exact Nat.le_of_eq rfl) (hb hby d13_5) (fun _ _ => ⟨rfl, e1, (by decide : 0 + 0 ≤ _), (by decide : 0 + 0 ≤ _)⟩)
  dsimp only [Pt.U, Pt.locs, Pt.cells, Pt.slots] at X2 l2 y2 z2 st2 hQ2
  subst l2 y2 z2
  obtain ⟨rfl, Nq2, eq2⟩ := hQ2
  have N2 := Fr.app N0 Nq2
  obtain ⟨cq3, kq3, q3a, q3b, q3c⟩ := isOf hZ eq2 E_a1
  obtain ⟨_, _, ⟨T3, L3, k3, n3⟩, -, X3, ⟨Lc3, hQ3, l3, y3, z3⟩, st3⟩ := X2.virtualBack hx (y := y_38) (z := y_38) hown (mvT hZ (hw _ (tk 122 rfl))) (mvT hZ (hw _ (tk 123 rfl))) (notFace_of_selects (args := #[]) (mvT hZ (hw _ (tk 125 rfl)))) (mvT hZ (hw _ (tk 125 rfl))) (mvT hZ (hw _ (tk 124 rfl))) (by decide) (backOf (W := 0) (rmED2 l Z a0 hw [] a1 t k s0 s1 s2 h0 n0 Z0 E_a1 F_elementData_a1 F_size_a1 V_t) hZ (hw _ (tk 126 rfl)) (hw _ (tk 55 rfl)) (by decide) (by decide)) q3a q3c (g := (mkF m 11 #[.val (.ref a1), .val (.int 2)] [(.int 2), (.ref a1)])) rfl (by rw [hml]; rfl) (Steps.refl _) (argsL := [(.int 2)]) (rest := []) (lenOf pd__I_Ljava_lang_Object_ rfl) rfl (by show 2 * 0 + _ ≤ _; exact Nat.le_of_eq rfl) (hb hby d13_11) (fun _ _ => ⟨rfl, eq2, (by decide : 0 + 0 ≤ _), (by decide : 0 + 0 ≤ _)⟩)
  dsimp only [Pt.U, Pt.locs, Pt.cells, Pt.slots] at X3 l3 y3 z3 st3 hQ3
  subst l3 y3 z3
  obtain ⟨rfl, Nq3, eq3⟩ := hQ3
  have N3 := Fr.app N2 Nq3
  obtain ⟨fs, hr, hrun, hended, hW, hsame⟩ := X3.leave (v := some (.ref s2)) (fun h => by rw [Bd.returns] at h; cases h)
  refine ⟨_, _, pre0 _ ?_, hrun, hended, _, _, rfl, ?_, ⟨_, rfl⟩, hW, hsame.mono (by decide) (by decide)⟩
  · show Steps _ _ _ (s₁.setTop (mkF m 0 #[.val (.ref a1), .val (.int 2)] [])) _
    refine XS.iloadN X0.here hx rfl (hb hby d13_0) rfl ?_
    refine XS.aloadN X0.here hx rfl (hb hby d13_1) rfl rfl ?_
    show Steps _ _ _ (s₁.setTop (mkF m 2 #[.val (.ref a1), .val (.int 2)] [(.ref a1), (.int 2)])) _
    refine st1 _ ?_
    show Steps _ _ _ (T1.setTop (mkF m 5 #[.val (.ref a1), .val (.int 2)] [(.int 3), (.int 2)])) _
    refine st2 _ ?_
    show Steps _ _ _ (T2.setTop (mkF m 8 #[.val (.ref a1), .val (.int 2)] [(.int 2)])) _
    refine XS.pop X2.here hx rfl (hb hby d13_8) rfl rfl ?_
    refine XS.aloadN X2.here hx rfl (hb hby d13_9) rfl rfl ?_
    refine XS.iloadN X2.here hx rfl (hb hby d13_10) rfl ?_
    show Steps _ _ _ (T2.setTop (mkF m 11 #[.val (.ref a1), .val (.int 2)] [(.int 2), (.ref a1)])) _
    refine st3.trans ?_
    show Steps _ _ _ (T3.setTop (mkF m 14 #[.val (.ref a1), .val (.int 2)] [(.ref s2)])) _
    jvm_step X3.here [X3.here.top, hx, (hb hby d13_14), X3.method', Bd.returns, Value.isRef, FieldType.isReference]
    first | (intro acts; rw [hr _ acts rfl rfl rfl]) | rw [hr _ _ rfl rfl rfl]
    exact Steps.refl _
  · show own_Q Z (some (.ref s2)) h0 n0 _ T3.heap _
    rw [eq3]
    exact ⟨rfl, N3, rfl⟩
theorem own_safeV {Z : State} {EL : List (String × Nat)} {vm : Vm} {h : Heap} {x : Addr} {k : ClassId} {ty : FieldType} {n : Int32} {vs : List Value} {d : Value} (hZ : Z.Warmed39 vm) (F : Arv Z h x k ty n vs d) (ht : ty ≠ .byte) : Safe Z EL vm h x := by
  obtain ⟨c, A, -⟩ := F
  exact Safe.arr hZ.alike A ht
theorem own_backSN {p : Program} {l : Launch} {e : Env} {R : Room} {s : State} {args : Array Value} {below : List Frame} {Z : State} {a0 : Array Value} {EL : List (String × Nat)} {h : Heap} {vm0 : Vm} {y : MethodName} {bytes : ByteArray} {maxL : Nat} {ret : Option FieldType} {rm : Room} {len W : Nat} {as' : Array Value} {Q : Option Value → Heap → List Loc → Prop}
    (hM : MetFree l y (head1 [Cond.code y bytes maxL ret] rm) (fun a U => a = as' ∧ Z.Warmed39 U.vm ∧ U.heap = h ∧ CHv Z EL U.vm h) (fun _ _ _ _ _ => True) (fun _ U o U' => ∃ v L, o = .returned v ∧ Q v U'.heap L ∧ ReturnedEndW U o U' L rm.cells rm.slots))
    (hZ : Z.Warmed39 vm0) (wc : (Cond.code y bytes maxL ret).before a0 Z = true) (wz : (Cond.initialized y.cls).before a0 Z = true) (hf : rm.frames + 1 ≤ R.frames) (hl : W + (maxL + 11) + rm.locals ≤ R.locals) (hEL : EW Z a0 EL) (H : CHv Z EL vm0 h) :
    BackS l R p e below (s.setVm vm0) args y len W (fun A a => a = as' ∧ A.U.heap = h ∧ A.cells + rm.cells ≤ R.cells ∧ A.slots + rm.slots ≤ R.slots)
      (fun A _ v B => ∃ L, Q v B.U.heap L ∧ B.locs = A.locs ++ L ∧ B.cells = A.cells + rm.cells ∧ B.slots = A.slots + rm.slots) := by
  refine BackS.of_freeW (bytes := bytes) (maxL := maxL) (ret := ret) (E := fun _ first o t L k n => k = rm.cells ∧ n = rm.slots ∧ (∃ v, o = .returned v ∧ Q v t.heap L)) hM hf hl ?_ ?_ (fun _ _ _ _ _ _ _ _ _ => trivial) ?_ ?_
  · intro m meth c A a Y hp
    have hU : Z.Warmed39 A.U.vm := wtrans (s := s.setVm vm0) hZ Y.warmed
    exact ⟨by show (Cond.and _ .tt).before a A.U = true; rw [Cond.before_and, mv hU wc]; rfl, mv hU wc, mv hU wz, hp.2.2.1, hp.2.2.2⟩
  · intro m meth c A a g mk Y hp
    exact ⟨hp.1, wtrans (s := s.setVm vm0) hZ Y.warmed, hp.2.1, (CHv.at Y hZ hEL H).1⟩
  · intro _ _ _ _ ⟨v, L, h1, h2, h3⟩
    exact ⟨L, _, _, h3, rfl, rfl, ⟨v, h1, h2⟩⟩
  · intro m meth c A a g mk v t L k n Y hp _ _ ⟨e1, e2, ⟨v', e3, e4⟩⟩
    cases e3
    subst e1 e2
    exact ⟨L, e4, rfl, rfl, rfl⟩
def own_LN (Z : State) (cs0 cs1 cs2 : List Int32) (h0 : Heap) (n0 : Nat) (v : Option Value) (h : Heap) (L : List Loc) : Prop := ∃ (a t : Addr) (k : ClassId) (s0 s1 s2 : Addr), v = some (.ref a) ∧ Fr n0 L ∧ Keep h0 h [] ∧ Exa Z h a "java/util/ArrayList" ∧ Fld Z h a "java/util/ArrayList" "elementData" "[Ljava/lang/Object;" (.ref t) ∧ Fld Z h a "java/util/ArrayList" "size" "I" (.int 3) ∧ Arv Z h t k (.object "java/lang/Object") (3 : Int32) [(.ref s0), (.ref s1), (.ref s2)] .null ∧ own_s Z h s0 cs0 ∧ own_s Z h s1 cs1 ∧ own_s Z h s2 cs2
theorem own_sub1 (x : Nat) : Int32.ofNat (x + 1) - (1 : Int32) = Int32.ofNat x := by rw [← own_succ]; simp
theorem d6_0 : decode prog_104_method_3_code 0 = .ok (.new 82, 3) := by decide +kernel
theorem d6_3 : decode prog_104_method_3_code 3 = .ok (.dup, 1) := by decide +kernel
theorem d6_4 : decode prog_104_method_3_code 4 = .ok (.aload_n 0, 1) := by decide +kernel
theorem d6_5 : decode prog_104_method_3_code 5 = .ok (.getfield 24, 3) := by decide +kernel
theorem d6_8 : decode prog_104_method_3_code 8 = .ok (.arraylength, 1) := by decide +kernel
theorem pd__I_V : parseMethodDescriptor "(I)V" = some ⟨[.int], none⟩ := by decide +kernel
theorem d6_9 : decode prog_104_method_3_code 9 = .ok (.invokespecial 84, 3) := by decide +kernel
theorem d6_12 : decode prog_104_method_3_code 12 = .ok (.astore_n 1, 1) := by decide +kernel
theorem d6_13 : decode prog_104_method_3_code 13 = .ok (.aload_n 0, 1) := by decide +kernel
theorem d6_14 : decode prog_104_method_3_code 14 = .ok (.getfield 24, 3) := by decide +kernel
theorem d6_17 : decode prog_104_method_3_code 17 = .ok (.astore_n 2, 1) := by decide +kernel
theorem d6_18 : decode prog_104_method_3_code 18 = .ok (.aload_n 2, 1) := by decide +kernel
theorem d6_19 : decode prog_104_method_3_code 19 = .ok (.arraylength, 1) := by decide +kernel
theorem d6_20 : decode prog_104_method_3_code 20 = .ok (.istore_n 3, 1) := by decide +kernel
theorem d6_21 : decode prog_104_method_3_code 21 = .ok (.iconst 0, 1) := by decide +kernel
theorem d6_22 : decode prog_104_method_3_code 22 = .ok (.istore 4, 2) := by decide +kernel
theorem d6_24 : decode prog_104_method_3_code 24 = .ok (.iload 4, 2) := by decide +kernel
theorem d6_26 : decode prog_104_method_3_code 26 = .ok (.iload_n 3, 1) := by decide +kernel
theorem d6_27 : decode prog_104_method_3_code 27 = .ok (.if_icmp .ge 81, 3) := by decide +kernel
theorem d6_30 : decode prog_104_method_3_code 30 = .ok (.aload_n 2, 1) := by decide +kernel
theorem d6_31 : decode prog_104_method_3_code 31 = .ok (.iload 4, 2) := by decide +kernel
theorem d6_33 : decode prog_104_method_3_code 33 = .ok (.aaload, 1) := by decide +kernel
theorem d6_34 : decode prog_104_method_3_code 34 = .ok (.astore 5, 2) := by decide +kernel
theorem d6_36 : decode prog_104_method_3_code 36 = .ok (.aload 5, 2) := by decide +kernel
theorem d6_38 : decode prog_104_method_3_code 38 = .ok (.ifnonnull 7, 3) := by decide +kernel
theorem d6_41 : decode prog_104_method_3_code 41 = .ok (.iconst 0, 1) := by decide +kernel
theorem d6_42 : decode prog_104_method_3_code 42 = .ok (.goto 6, 3) := by decide +kernel
theorem d6_48 : decode prog_104_method_3_code 48 = .ok (.istore 6, 2) := by decide +kernel
theorem d6_50 : decode prog_104_method_3_code 50 = .ok (.iload 6, 2) := by decide +kernel
theorem d6_52 : decode prog_104_method_3_code 52 = .ok (.ifCond .le 21, 3) := by decide +kernel
theorem d6_73 : decode prog_104_method_3_code 73 = .ok (.aload_n 1, 1) := by decide +kernel
theorem d6_74 : decode prog_104_method_3_code 74 = .ok (.iload 6, 2) := by decide +kernel
theorem d6_76 : decode prog_104_method_3_code 76 = .ok (.ifCond .ne 8, 3) := by decide +kernel
theorem own_wS : ∀ d ∈ Bundle.stringAtoms, d ∈ tables_1 := by decide +kernel
theorem own_mem87 : ("dev/treefold/text/Canvas", (87 : Nat)) ∈ consts_1 := by simp [consts_1]
theorem d6_79 : decode prog_104_method_3_code 79 = .ok (.ldc 87, 2) := by decide +kernel
theorem d6_81 : decode prog_104_method_3_code 81 = .ok (.goto 15, 3) := by decide +kernel
theorem pd__Ljava_lang_Object__Z : parseMethodDescriptor "(Ljava/lang/Object;)Z" = some ⟨[(.object "java/lang/Object")], some .boolean⟩ := by decide +kernel
theorem d6_96 : decode prog_104_method_3_code 96 = .ok (.invokeinterface 92 2, 5) := by decide +kernel
theorem d6_101 : decode prog_104_method_3_code 101 = .ok (.pop, 1) := by decide +kernel
theorem d6_102 : decode prog_104_method_3_code 102 = .ok (.iinc 4 1, 3) := by decide +kernel
theorem d6_105 : decode prog_104_method_3_code 105 = .ok (.goto (-81), 3) := by decide +kernel
theorem d6_108 : decode prog_104_method_3_code 108 = .ok (.aload_n 1, 1) := by decide +kernel
theorem d6_109 : decode prog_104_method_3_code 109 = .ok (.areturn, 1) := by decide +kernel
theorem pn_6 : plainName "dev/treefold/text/Canvas" = true := by first | (simp [plainName, overriddenIn]; done) | decide +kernel
theorem ef_6_r (m : MethodId) (x0 : Addr) : entryFrame m #[(.ref x0)] 7 = mkF m 0 #[.val (.ref x0), .unset, .unset, .unset, .unset, .unset, .unset] [] := by first | (simp [entryFrame, mkF, argsToLocals, Value.category]; done) | rfl
theorem rmLSn (l : Launch) (Z : State) (a0 : Array Value) (hw : ∀ d ∈ tables_1, d.before a0 Z = true) (ws : List Jvm.Cond) (G1 : Int32) (G3 : Value) (cv : Addr) (R : Addr) (kR : ClassId) (q1 : Int32) (q2 : Int32) (q3 : Int32) (q4 : Int32) (h0 : Heap) (n0 : Nat) (Z0 : n0 ≤ h0.size) (EN : own_env Z G1 G3) (X00 : Old Z n0 h0) (E_cv : Exa Z h0 cv "dev/treefold/text/Canvas") (F_width_cv : Fld Z h0 cv "dev/treefold/text/Canvas" "width" "I" (.int 4)) (F_rows_cv : Fld Z h0 cv "dev/treefold/text/Canvas" "rows" "[[I" (.ref R)) (F_clipLeft_cv : Fld Z h0 cv "dev/treefold/text/Canvas" "clipLeft" "I" (.int q1)) (F_clipTop_cv : Fld Z h0 cv "dev/treefold/text/Canvas" "clipTop" "I" (.int q2)) (F_clipRight_cv : Fld Z h0 cv "dev/treefold/text/Canvas" "clipRight" "I" (.int q3)) (F_clipBottom_cv : Fld Z h0 cv "dev/treefold/text/Canvas" "clipBottom" "I" (.int q4)) (V_R : Arv Z h0 R kR (.array .int) (3 : Int32) [.null, .null, .null] .null) :
    MetFree l y_40 (head1 (Jvm.Cond.code y_40 prog_104_method_3_code 7 (some (.object "java/util/List")) :: ws) ({ frames := 4, cells := 8, slots := 18, locals := 50 } : Room)) (fun a_ U_ => a_ = #[(.ref cv)] ∧ Z.Warmed39 U_.vm ∧ U_.heap = h0 ∧ CHv Z consts_1 U_.vm h0) (fun _ _ _ _ _ => True) (fun _ U_ o_ U1_ => ∃ v_ L_, o_ = .returned v_ ∧ own_LN Z [] [] [] h0 n0 v_ U1_.heap L_ ∧ ReturnedEndW U_ o_ U1_ L_ ({ frames := 4, cells := 8, slots := 18, locals := 50 } : Room).cells ({ frames := 4, cells := 8, slots := 18, locals := 50 } : Room).slots) := by
  refine MetFree.of_bodySF (plainFor_of_name pn_6) hisR ?_
  intro p e s m args below meth c s₁ Bd hml0 hP hK
  obtain ⟨rfl, hZ, hh, H0⟩ := hP
  have hx := Bd.exec
  have hby := Bd.bytes
  have hml : c.maxLocals = 7 := hml0
  have hown : s.vm.findClass "dev/treefold/text/Canvas" = some m.cls := findClass_of_methodNamed Bd.named
  have hnm := (name_of_methodNamed Bd.named Bd.method).1
  have X0 : Stand p l e ({ frames := 4, cells := 8, slots := 18, locals := 50 } : Room) s m #[(.ref cv)] below meth c s₁ [] 0 0 := Stand.of_body Bd
  have e0 : s₁.heap = h0 := by rw [← hh, Bd.state]; rfl
  have N0 := Fr.nil n0
  have pre0 : ∀ tt, Steps p.tables e below (s₁.setTop (mkF m 0 #[.val (.ref cv), .unset, .unset, .unset, .unset, .unset, .unset] [])) tt → Steps p.tables e below (s₁.setTop (entryFrame m #[(.ref cv)] 7)) tt := fun tt kk => castTop (ef_6_r m cv) kk
  have hS0 : s.Since s.vm 0 := (State.WarmedH.refl s).since 0
  have hk0 : 0 ≤ h0.size := Nat.zero_le _
  have EN0 := EN
  obtain ⟨O2, P5, O4, rG3⟩ := EN
  obtain ⟨T1, h1, X1, e1, E1, A1, D1, -, st1⟩ := newO X0 hx hZ hown (hw _ (tk 53 rfl)) (hw _ (tk 54 rfl)) (hw _ (tk 55 rfl)) e0 (g := (mkF m 0 #[.val (.ref cv), .unset, .unset, .unset, .unset, .unset, .unset] [])) rfl (hb hby d6_0) (by decide) (by decide)
  obtain ⟨b1, g1⟩ : ∃ z, z = h0.size := ⟨_, rfl⟩
  rw [← g1] at A1 D1 st1
  have g_b1 : n0 ≤ b1 := Nat.le_trans Z0 (Nat.le_of_eq g1.symm)
  have sz_b1 : h0.size ≤ b1 := Nat.le_trans (Nat.le_refl _) (Nat.le_of_eq g1.symm)
  have F1_modCount : Fld Z h1 b1 "java/util/AbstractList" "modCount" "I" (.int 0) := D1 (Or.inl (hw _ (tk 73 rfl))) (ty := .int) (by decide)
  have F1_elementData : Fld Z h1 b1 "java/util/ArrayList" "elementData" "[Ljava/lang/Object;" .null := D1 (Or.inl (hw _ (tk 77 rfl))) (ty := (.array (.object "java/lang/Object"))) (by decide)
  have F1_size : Fld Z h1 b1 "java/util/ArrayList" "size" "I" (.int 0) := D1 (Or.inl (hw _ (tk 91 rfl))) (ty := .int) (by decide)
  have f3 := (F_rows_cv.ext E1)
  obtain ⟨T2, X2, e2, st2⟩ := getF X1 hx hZ hown (host := "") (Or.inl (hw _ (tk 14 rfl))) Via.refl e1 f3 (g := (mkF m 5 #[.val (.ref cv), .unset, .unset, .unset, .unset, .unset, .unset] [(.ref cv), (.ref b1), (.ref b1)])) rfl rfl (hb hby d6_5)
  have f5 := (V_R.ext E1)
  obtain ⟨c4, Ar4, -, S4, M4, -, -⟩ := id f5
  obtain ⟨_, _, ⟨T6, L6, k6, n6⟩, -, X6, ⟨Lc6, hQ6, l6, y6, z6⟩, st6⟩ := X2.specialBack hx (y := y_34) rfl hown (mvT hZ (hw _ (tk 56 rfl))) (mvT hZ (hw _ (tk 57 rfl))) (mvT hZ (hw _ (tk 58 rfl))) (by decide) (backOf (W := 1) (rmAL l Z a0 hw [] b1 h1 n0 (Nat.le_trans Z0 E1.1) A1 F1_modCount F1_elementData F1_size g_b1) hZ (hw _ (tk 58 rfl)) (hw _ (tk 55 rfl)) (by decide) (by decide)) (g := (mkF m 9 #[.val (.ref cv), .unset, .unset, .unset, .unset, .unset, .unset] [(.int 3), (.ref b1), (.ref b1)])) rfl (by rw [hml]; rfl) (Steps.refl _) (a := b1) (argsL := [(.int 3)]) (rest := [(.ref b1)]) (lenOf pd__I_V rfl) rfl (by show 2 * 0 + _ ≤ _; exact Nat.le_of_eq rfl) (hb hby d6_9) (fun _ _ => ⟨rfl, e2, (by decide : 1 + 1 ≤ _), (by decide : 3 + 3 ≤ _)⟩)
  dsimp only [Pt.U, Pt.locs, Pt.cells, Pt.slots] at X6 l6 y6 z6 st6 hQ6
  subst l6 y6 z6
  obtain ⟨t6, k6q, rfl, Nq6, gt6, st_6, Kq6, E6q, Fm6q, Fe6q, Fs6q, Vt6, O6q⟩ := hQ6
  have N6 := Fr.app N0 Nq6
  have szt6 : h0.size ≤ t6 := Nat.le_trans E1.1 st_6
  have f8 := (f3.keep Kq6 (ninS (Nat.ne_of_lt (Nat.lt_of_lt_of_le E_cv.lt (Nat.le_of_eq g1.symm))) nin0))
  obtain ⟨T7, X7, e7, st7⟩ := getF X6 hx hZ hown (host := "") (Or.inl (hw _ (tk 14 rfl))) Via.refl rfl f8 (g := (mkF m 14 #[.val (.ref cv), .val (.ref b1), .unset, .unset, .unset, .unset, .unset] [(.ref cv)])) rfl rfl (hb hby d6_14)
  have f10 := (f5.keep Kq6 (ninS (Nat.ne_of_lt (Nat.lt_of_lt_of_le V_R.lt (Nat.le_of_eq g1.symm))) nin0))
  obtain ⟨c9, Ar9, -, S9, M9, -, -⟩ := id f10
  obtain ⟨c11, Ar11, -, S11, M11, H11, -⟩ := id f10
  have hin11 := inb_of (j := (0 : Int32)) S11 ⟨by decide, by decide⟩
  have C13 := CHr.keep (((Keep.refl h0 []).ext E1).trans Kq6 (allS (P := fun zz => zz ∈ ([] : List Addr) ∨ h0.size ≤ zz) (Or.inr sz_b1) all0)) sf0 H0
  obtain ⟨b12, T12, h12, k12, d12, kb12, X12, e12, E12, hS12, hk12, hZ12, hown12, Ea12, Ca12, Va12, Ka12, la12, lb12, Cx12, -, ne12, st12⟩ := ldcCH (s := s) (vm0 := s.vm) X7 hx hZ hown (hw _ (tk 78 rfl)) (fun d hd => hw d (own_wS d hd)) e7 hS0 (Nat.le_trans hk0 (Nat.le_trans E1.1 Kq6.1)) (own_EW hw) own_mem87 C13.1 (vs := []) (z := 0) ⟨by decide, rfl⟩ (by decide) rfl (g := (mkF m 79 #[.val (.ref cv), .val (.ref b1), .val (.ref R), .val (.int 3), .val (.int 0), .val .null, .val (.int 0)] [(.ref b1)])) rfl (hb hby d6_79) (n := 0) (by decide) (by decide) (by decide) (by decide)
  have C12 := CHr.trans C13 Cx12
  have f15 := (E6q.ext E12)
  have f16 := (Vt6.ext E12)
  have na14 := Exa.ne Ea12 f15 (by decide)
  have nb14 := Exa.neArv Ea12 f16 (hw _ (tk 37 rfl))
  have nc14 := Exa.neArv f15 Ka12 (hw _ (tk 54 rfl))
  have nd14 := own_neA Ka12 f16 nofun
  have f18 := (Fm6q.ext E12)
  have f19 := (Fe6q.ext E12)
  have f20 := (Fs6q.ext E12)
  obtain ⟨cq17, kq17, q17a, q17b, q17c⟩ := isOf hZ12 e12 f15
  obtain ⟨_, _, ⟨T17, L17, k17, n17⟩, -, X17, ⟨Lc17, hQ17, l17, y17, z17⟩, st17⟩ := X12.interfaceBack hx (xi := y_41) (y := y_36) hown12 (mvT hZ12 (hw _ (tk 79 rfl))) (mvT hZ12 (hw _ (tk 80 rfl))) (mvT hZ12 (hw _ (tk 81 rfl))) (mvT hZ12 (hw _ (tk 82 rfl))) (mvT hZ12 (hw _ (tk 83 rfl))) (mvT hZ12 (hw _ (tk 84 rfl))) (mvT hZ12 (hw _ (tk 85 rfl))) (mvT hZ12 (hw _ (tk 86 rfl))) (by decide) (backOf (W := 0) (rmA0 l Z a0 hw [] b1 b12 t6 k6q (0 : Int32)  h12 n0 (Nat.le_trans Z0 (Nat.le_trans (Nat.le_trans E1.1 Kq6.1) E12.1)) f15 f18 f19 f20 g_b1 Ea12 f16 gt6 O6q) hZ12 (hw _ (tk 87 rfl)) (hw _ (tk 55 rfl)) (by decide) (by decide)) q17a q17b q17c (g := (mkF m 96 #[.val (.ref cv), .val (.ref b1), .val (.ref R), .val (.int 3), .val (.int 0), .val .null, .val (.int 0)] [(.ref b12), (.ref b1)])) rfl (by rw [hml]; rfl) (Steps.refl _) (argsL := [(.ref b12)]) (rest := []) (lenOf pd__Ljava_lang_Object__Z rfl) rfl (by show 2 * 0 + _ ≤ _; exact Nat.le_of_eq rfl) (hb hby d6_96) (fun _ _ => ⟨rfl, e12, (by decide : 4 + 0 ≤ _), (by decide : 10 + 0 ≤ _)⟩)
  dsimp only [Pt.U, Pt.locs, Pt.cells, Pt.slots] at X17 l17 y17 z17 st17 hQ17
  subst l17 y17 z17
  obtain ⟨rfl, Nq17, Kq17, E17q, Fm17q, Fe17q, Fs17q, V17q⟩ := hQ17
  have N17 := Fr.app N6 Nq17
  have f22 := ((f10.ext E12).keep Kq17 (ninS (Nat.ne_of_lt (Nat.lt_of_lt_of_le V_R.lt (Nat.le_of_eq g1.symm))) (ninS (Nat.ne_of_lt (Nat.lt_of_lt_of_le (Nat.lt_of_lt_of_le V_R.lt E1.1) st_6)) nin0)))
  obtain ⟨c21, Ar21, -, S21, M21, H21, -⟩ := id f22
  have hin21 := inb_of (j := (1 : Int32)) S21 ⟨by decide, by decide⟩
  have C24 := CHr.trans C12 (CHr.keep Kq17 (sfS (Safe.exa hZ12.alike f15 (by decide) (by decide)) (sfS (own_safeV hZ12 f16 nofun) sf0)) C12.1)
  obtain ⟨b23, T23, h23, k23, d23, kb23, X23, e23, E23, hS23, hk23, hZ23, hown23, Ea23, Ca23, Va23, Ka23, la23, lb23, Cx23, -, ne23, st23⟩ := ldcCH (s := s) (vm0 := T12.vm) X17 hx hZ12 hown12 (hw _ (tk 78 rfl)) (fun d hd => hw d (own_wS d hd)) rfl hS12 (Nat.le_trans hk12 Kq17.1) (own_EW hw) own_mem87 C24.1 (vs := []) (z := 0) ⟨by decide, rfl⟩ (by decide) rfl (g := (mkF m 79 #[.val (.ref cv), .val (.ref b1), .val (.ref R), .val (.int 3), .val (.int 1), .val .null, .val (.int 0)] [(.ref b1)])) rfl (hb hby d6_79) (n := 0) (by decide) (by decide) (by decide) (by decide)
  have C23 := CHr.trans C24 Cx23
  have f26 := (E17q.ext E23)
  have f27 := (V17q.ext E23)
  have na25 := Exa.ne Ea23 f26 (by decide)
  have nb25 := Exa.neArv Ea23 f27 (hw _ (tk 37 rfl))
  have nc25 := Exa.neArv f26 Ka23 (hw _ (tk 54 rfl))
  have nd25 := own_neA Ka23 f27 nofun
  have f29 := (Fm17q.ext E23)
  have f30 := (Fe17q.ext E23)
  have f31 := (Fs17q.ext E23)
  obtain ⟨cq28, kq28, q28a, q28b, q28c⟩ := isOf hZ23 e23 f26
  obtain ⟨_, _, ⟨T28, L28, k28, n28⟩, -, X28, ⟨Lc28, hQ28, l28, y28, z28⟩, st28⟩ := X23.interfaceBack hx (xi := y_41) (y := y_36) hown23 (mvT hZ23 (hw _ (tk 79 rfl))) (mvT hZ23 (hw _ (tk 80 rfl))) (mvT hZ23 (hw _ (tk 81 rfl))) (mvT hZ23 (hw _ (tk 82 rfl))) (mvT hZ23 (hw _ (tk 83 rfl))) (mvT hZ23 (hw _ (tk 84 rfl))) (mvT hZ23 (hw _ (tk 85 rfl))) (mvT hZ23 (hw _ (tk 86 rfl))) (by decide) (backOf (W := 0) (rmA1 l Z a0 hw [] b1 b23 t6 k6q ((0 : Int32) + (1 : Int32)) b12 h23 n0 (Nat.le_trans Z0 (Nat.le_trans (Nat.le_trans (Nat.le_trans (Nat.le_trans E1.1 Kq6.1) E12.1) Kq17.1) E23.1)) f26 f29 f30 f31 g_b1 Ea23 f27 gt6 O6q) hZ23 (hw _ (tk 87 rfl)) (hw _ (tk 55 rfl)) (by decide) (by decide)) q28a q28b q28c (g := (mkF m 96 #[.val (.ref cv), .val (.ref b1), .val (.ref R), .val (.int 3), .val (.int 1), .val .null, .val (.int 0)] [(.ref b23), (.ref b1)])) rfl (by rw [hml]; rfl) (Steps.refl _) (argsL := [(.ref b23)]) (rest := []) (lenOf pd__Ljava_lang_Object__Z rfl) rfl (by show 2 * 0 + _ ≤ _; exact Nat.le_of_eq rfl) (hb hby d6_96) (fun _ _ => ⟨rfl, e23, (by decide : 6 + 0 ≤ _), (by decide : 14 + 0 ≤ _)⟩)
  dsimp only [Pt.U, Pt.locs, Pt.cells, Pt.slots] at X28 l28 y28 z28 st28 hQ28
  subst l28 y28 z28
  obtain ⟨rfl, Nq28, Kq28, E28q, Fm28q, Fe28q, Fs28q, V28q⟩ := hQ28
  have N28 := Fr.app N17 Nq28
  have f33 := ((f22.ext E23).keep Kq28 (ninS (Nat.ne_of_lt (Nat.lt_of_lt_of_le V_R.lt (Nat.le_of_eq g1.symm))) (ninS (Nat.ne_of_lt (Nat.lt_of_lt_of_le (Nat.lt_of_lt_of_le V_R.lt E1.1) st_6)) nin0)))
  obtain ⟨c32, Ar32, -, S32, M32, H32, -⟩ := id f33
  have hin32 := inb_of (j := (2 : Int32)) S32 ⟨by decide, by decide⟩
  have C35 := CHr.trans C23 (CHr.keep Kq28 (sfS (Safe.exa hZ23.alike f26 (by decide) (by decide)) (sfS (own_safeV hZ23 f27 nofun) sf0)) C23.1)
  obtain ⟨b34, T34, h34, k34, d34, kb34, X34, e34, E34, hS34, hk34, hZ34, hown34, Ea34, Ca34, Va34, Ka34, la34, lb34, Cx34, -, ne34, st34⟩ := ldcCH (s := s) (vm0 := T23.vm) X28 hx hZ23 hown23 (hw _ (tk 78 rfl)) (fun d hd => hw d (own_wS d hd)) rfl hS23 (Nat.le_trans hk23 Kq28.1) (own_EW hw) own_mem87 C35.1 (vs := []) (z := 0) ⟨by decide, rfl⟩ (by decide) rfl (g := (mkF m 79 #[.val (.ref cv), .val (.ref b1), .val (.ref R), .val (.int 3), .val (.int 2), .val .null, .val (.int 0)] [(.ref b1)])) rfl (hb hby d6_79) (n := 0) (by decide) (by decide) (by decide) (by decide)
  have C34 := CHr.trans C35 Cx34
  have f37 := (E28q.ext E34)
  have f38 := (V28q.ext E34)
  have na36 := Exa.ne Ea34 f37 (by decide)
  have nb36 := Exa.neArv Ea34 f38 (hw _ (tk 37 rfl))
  have nc36 := Exa.neArv f37 Ka34 (hw _ (tk 54 rfl))
  have nd36 := own_neA Ka34 f38 nofun
  have f40 := (Fm28q.ext E34)
  have f41 := (Fe28q.ext E34)
  have f42 := (Fs28q.ext E34)
  obtain ⟨cq39, kq39, q39a, q39b, q39c⟩ := isOf hZ34 e34 f37
  obtain ⟨_, _, ⟨T39, L39, k39, n39⟩, -, X39, ⟨Lc39, hQ39, l39, y39, z39⟩, st39⟩ := X34.interfaceBack hx (xi := y_41) (y := y_36) hown34 (mvT hZ34 (hw _ (tk 79 rfl))) (mvT hZ34 (hw _ (tk 80 rfl))) (mvT hZ34 (hw _ (tk 81 rfl))) (mvT hZ34 (hw _ (tk 82 rfl))) (mvT hZ34 (hw _ (tk 83 rfl))) (mvT hZ34 (hw _ (tk 84 rfl))) (mvT hZ34 (hw _ (tk 85 rfl))) (mvT hZ34 (hw _ (tk 86 rfl))) (by decide) (backOf (W := 0) (rmA2 l Z a0 hw [] b1 b34 t6 k6q (((0 : Int32) + (1 : Int32)) + (1 : Int32)) b12 b23 h34 n0 (Nat.le_trans Z0 (Nat.le_trans (Nat.le_trans (Nat.le_trans (Nat.le_trans (Nat.le_trans (Nat.le_trans E1.1 Kq6.1) E12.1) Kq17.1) E23.1) Kq28.1) E34.1)) f37 f40 f41 f42 g_b1 Ea34 f38 gt6 O6q) hZ34 (hw _ (tk 87 rfl)) (hw _ (tk 55 rfl)) (by decide) (by decide)) q39a q39b q39c (g := (mkF m 96 #[.val (.ref cv), .val (.ref b1), .val (.ref R), .val (.int 3), .val (.int 2), .val .null, .val (.int 0)] [(.ref b34), (.ref b1)])) rfl (by rw [hml]; rfl) (Steps.refl _) (argsL := [(.ref b34)]) (rest := []) (lenOf pd__Ljava_lang_Object__Z rfl) rfl (by show 2 * 0 + _ ≤ _; exact Nat.le_of_eq rfl) (hb hby d6_96) (fun _ _ => ⟨rfl, e34, (by decide : 8 + 0 ≤ _), (by decide : 18 + 0 ≤ _)⟩)
  dsimp only [Pt.U, Pt.locs, Pt.cells, Pt.slots] at X39 l39 y39 z39 st39 hQ39
  subst l39 y39 z39
  obtain ⟨rfl, Nq39, Kq39, E39q, Fm39q, Fe39q, Fs39q, V39q⟩ := hQ39
  have N39 := Fr.app N28 Nq39
  have f43 := (((((Ea12.keep Kq17).ext E23).keep Kq28).ext E34).keep Kq39)
  have f44 := (((((Ca12.keep Kq17 (ninS na14 (ninS nb14 nin0))).ext E23).keep Kq28 (ninS na14 (ninS nb14 nin0))).ext E34).keep Kq39 (ninS na14 (ninS nb14 nin0)))
  have f45 := (((((Va12.keep Kq17 (ninS na14 (ninS nb14 nin0))).ext E23).keep Kq28 (ninS na14 (ninS nb14 nin0))).ext E34).keep Kq39 (ninS na14 (ninS nb14 nin0)))
  have f46 := (((((Ka12.keep Kq17 (ninS (Ne.symm nc14) (ninS nd14 nin0))).ext E23).keep Kq28 (ninS (Ne.symm nc14) (ninS nd14 nin0))).ext E34).keep Kq39 (ninS (Ne.symm nc14) (ninS nd14 nin0)))
  have f47 := (((Ea23.keep Kq28).ext E34).keep Kq39)
  have f48 := (((Ca23.keep Kq28 (ninS na25 (ninS nb25 nin0))).ext E34).keep Kq39 (ninS na25 (ninS nb25 nin0)))
  have f49 := (((Va23.keep Kq28 (ninS na25 (ninS nb25 nin0))).ext E34).keep Kq39 (ninS na25 (ninS nb25 nin0)))
  have f50 := (((Ka23.keep Kq28 (ninS (Ne.symm nc25) (ninS nd25 nin0))).ext E34).keep Kq39 (ninS (Ne.symm nc25) (ninS nd25 nin0)))
  have f51 := (Ea34.keep Kq39)
  have f52 := (Ca34.keep Kq39 (ninS na36 (ninS nb36 nin0)))
  have f53 := (Va34.keep Kq39 (ninS na36 (ninS nb36 nin0)))
  have f54 := (Ka34.keep Kq39 (ninS (Ne.symm nc36) (ninS nd36 nin0)))
  obtain ⟨fs, hr, hrun, hended, hfin⟩ := X39.leaveW hS34 ((Nat.le_trans hk34 Kq39.1)) (v := some (.ref b1)) (fun h => by rw [Bd.returns] at h; cases h)
  refine ⟨_, _, pre0 _ ?_, hrun, hended, _, _, rfl, ?_, hfin.1, hfin.2.1, hfin.2.2.1, hfin.2.2.2.mono (by decide) (by decide)⟩
  · show Steps _ _ _ (s₁.setTop (mkF m 0 #[.val (.ref cv), .unset, .unset, .unset, .unset, .unset, .unset] [])) _
    refine st1 _ ?_
    show Steps _ _ _ (T1.setTop (mkF m 3 #[.val (.ref cv), .unset, .unset, .unset, .unset, .unset, .unset] [(.ref b1)])) _
    refine XS.dup X1.here hx rfl (hb hby d6_3) rfl rfl ?_
    refine XS.aloadN X1.here hx rfl (hb hby d6_4) rfl rfl ?_
    show Steps _ _ _ (T1.setTop (mkF m 5 #[.val (.ref cv), .unset, .unset, .unset, .unset, .unset, .unset] [(.ref cv), (.ref b1), (.ref b1)])) _
    refine st2 _ ?_
    show Steps _ _ _ (T2.setTop (mkF m 8 #[.val (.ref cv), .unset, .unset, .unset, .unset, .unset, .unset] [(.ref R), (.ref b1), (.ref b1)])) _
    refine X2.arraylength hx (by rw [e2]; exact Ar4.1) (State.isArrayOf_alike hZ.alike Ar4.2.1) (g := (mkF m 8 #[.val (.ref cv), .unset, .unset, .unset, .unset, .unset, .unset] [(.ref R), (.ref b1), (.ref b1)])) rfl rfl (hb hby d6_8) _ ?_
    rw [len_of S4 M4]
    show Steps _ _ _ (T2.setTop (mkF m 9 #[.val (.ref cv), .unset, .unset, .unset, .unset, .unset, .unset] [(.int 3), (.ref b1), (.ref b1)])) _
    refine st6.trans ?_
    show Steps _ _ _ (T6.setTop (mkF m 12 #[.val (.ref cv), .unset, .unset, .unset, .unset, .unset, .unset] [(.ref b1)])) _
    refine XS.astoreN X6.here hx rfl (hb hby d6_12) rfl rfl (l' := #[.val (.ref cv), .val (.ref b1), .unset, .unset, .unset, .unset, .unset]) rfl ?_
    refine XS.aloadN X6.here hx rfl (hb hby d6_13) rfl rfl ?_
    show Steps _ _ _ (T6.setTop (mkF m 14 #[.val (.ref cv), .val (.ref b1), .unset, .unset, .unset, .unset, .unset] [(.ref cv)])) _
    refine st7 _ ?_
    show Steps _ _ _ (T7.setTop (mkF m 17 #[.val (.ref cv), .val (.ref b1), .unset, .unset, .unset, .unset, .unset] [(.ref R)])) _
    refine XS.astoreN X7.here hx rfl (hb hby d6_17) rfl rfl (l' := #[.val (.ref cv), .val (.ref b1), .val (.ref R), .unset, .unset, .unset, .unset]) rfl ?_
    refine XS.aloadN X7.here hx rfl (hb hby d6_18) rfl rfl ?_
    show Steps _ _ _ (T7.setTop (mkF m 19 #[.val (.ref cv), .val (.ref b1), .val (.ref R), .unset, .unset, .unset, .unset] [(.ref R)])) _
    refine X7.arraylength hx (by rw [e7]; exact Ar9.1) (State.isArrayOf_alike hZ.alike Ar9.2.1) (g := (mkF m 19 #[.val (.ref cv), .val (.ref b1), .val (.ref R), .unset, .unset, .unset, .unset] [(.ref R)])) rfl rfl (hb hby d6_19) _ ?_
    rw [len_of S9 M9]
    show Steps _ _ _ (T7.setTop (mkF m 20 #[.val (.ref cv), .val (.ref b1), .val (.ref R), .unset, .unset, .unset, .unset] [(.int 3)])) _
    refine XS.istoreN X7.here hx rfl (hb hby d6_20) rfl (l' := #[.val (.ref cv), .val (.ref b1), .val (.ref R), .val (.int 3), .unset, .unset, .unset]) rfl ?_
    refine XS.iconst X7.here hx rfl (hb hby d6_21) ?_
    refine XS.istore X7.here hx rfl (hb hby d6_22) rfl (l' := #[.val (.ref cv), .val (.ref b1), .val (.ref R), .val (.int 3), .val (.int 0), .unset, .unset]) rfl ?_
    refine XS.iload X7.here hx rfl (hb hby d6_24) rfl ?_
    refine XS.iloadN X7.here hx rfl (hb hby d6_26) rfl ?_
    refine XS.icmpNo X7.here hx rfl (hb hby d6_27) rfl (tlt (by decide : (0 : Int32) < (3 : Int32))).2.1 ?_
    refine XS.aloadN X7.here hx rfl (hb hby d6_30) rfl rfl ?_
    refine XS.iload X7.here hx rfl (hb hby d6_31) rfl ?_
    show Steps _ _ _ (T7.setTop (mkF m 33 #[.val (.ref cv), .val (.ref b1), .val (.ref R), .val (.int 3), .val (.int 0), .unset, .unset] [(.int 0), (.ref R)])) _
    refine X7.aaload hx (j := (0 : Int32)) (v := .null) (by rw [e7]; exact Ar11.1) (State.isArrayOf_alike hZ.alike Ar11.2.1) rfl Ar11.2.2 hin11 (H11.at hin11 rfl) (g := (mkF m 33 #[.val (.ref cv), .val (.ref b1), .val (.ref R), .val (.int 3), .val (.int 0), .unset, .unset] [(.int 0), (.ref R)])) rfl rfl (hb hby d6_33) _ ?_
    show Steps _ _ _ (T7.setTop (mkF m 34 #[.val (.ref cv), .val (.ref b1), .val (.ref R), .val (.int 3), .val (.int 0), .unset, .unset] [.null])) _
    refine XS.astore X7.here hx rfl (hb hby d6_34) rfl rfl (l' := #[.val (.ref cv), .val (.ref b1), .val (.ref R), .val (.int 3), .val (.int 0), .val .null, .unset]) rfl ?_
    refine XS.aload X7.here hx rfl (hb hby d6_36) rfl rfl ?_
    refine XS.ifnonnullNo X7.here hx rfl (hb hby d6_38) rfl ?_
    refine XS.iconst X7.here hx rfl (hb hby d6_41) ?_
    refine XS.goto X7.here hx rfl (pc0 := 42) (pc' := 48) rfl (hb hby d6_42) (by decide) (by decide) ?_
    refine XS.istore X7.here hx rfl (hb hby d6_48) rfl (l' := #[.val (.ref cv), .val (.ref b1), .val (.ref R), .val (.int 3), .val (.int 0), .val .null, .val (.int 0)]) rfl ?_
    refine XS.iload X7.here hx rfl (hb hby d6_50) rfl ?_
    refine XS.ifYes X7.here hx rfl (pc0 := 52) (pc' := 73) rfl (hb hby d6_52) rfl ((if0 _ _).trans (flt (by decide : ¬ ((0 : Int32) < (0 : Int32)))).2.2.2) (by decide) (by decide) ?_
    refine XS.aloadN X7.here hx rfl (hb hby d6_73) rfl rfl ?_
    refine XS.iload X7.here hx rfl (hb hby d6_74) rfl ?_
    refine XS.ifNo X7.here hx rfl (hb hby d6_76) rfl ((if0 _ _).trans (teq (by decide : (0 : Int32) = (0 : Int32))).2) ?_
    show Steps _ _ _ (T7.setTop (mkF m 79 #[.val (.ref cv), .val (.ref b1), .val (.ref R), .val (.int 3), .val (.int 0), .val .null, .val (.int 0)] [(.ref b1)])) _
    refine st12 _ ?_
    show Steps _ _ _ (T12.setTop (mkF m 81 #[.val (.ref cv), .val (.ref b1), .val (.ref R), .val (.int 3), .val (.int 0), .val .null, .val (.int 0)] [(.ref b12), (.ref b1)])) _
    refine XS.goto X12.here hx rfl (pc0 := 81) (pc' := 96) rfl (hb hby d6_81) (by decide) (by decide) ?_
    show Steps _ _ _ (T12.setTop (mkF m 96 #[.val (.ref cv), .val (.ref b1), .val (.ref R), .val (.int 3), .val (.int 0), .val .null, .val (.int 0)] [(.ref b12), (.ref b1)])) _
    refine st17.trans ?_
    show Steps _ _ _ (T17.setTop (mkF m 101 #[.val (.ref cv), .val (.ref b1), .val (.ref R), .val (.int 3), .val (.int 0), .val .null, .val (.int 0)] [(.int 1)])) _
    refine XS.pop X17.here hx rfl (hb hby d6_101) rfl rfl ?_
    refine XS.iinc X17.here hx rfl (hb hby d6_102) rfl (l' := #[.val (.ref cv), .val (.ref b1), .val (.ref R), .val (.int 3), .val (.int ((0 : Int32) + (1 : Int32))), .val .null, .val (.int 0)]) rfl ?_
    show Steps _ _ _ (T17.setTop (mkF m 105 #[.val (.ref cv), .val (.ref b1), .val (.ref R), .val (.int 3), .val (.int ((0 : Int32) + (1 : Int32))), .val .null, .val (.int 0)] [])) _
    rw [(by decide : ((0 : Int32) + (1 : Int32)) = (1 : Int32))]
    show Steps _ _ _ (T17.setTop (mkF m 105 #[.val (.ref cv), .val (.ref b1), .val (.ref R), .val (.int 3), .val (.int 1), .val .null, .val (.int 0)] [])) _
    refine XS.goto X17.here hx rfl (pc0 := 105) (pc' := 24) rfl (hb hby d6_105) (by decide) (by decide) ?_
    refine XS.iload X17.here hx rfl (hb hby d6_24) rfl ?_
    refine XS.iloadN X17.here hx rfl (hb hby d6_26) rfl ?_
    refine XS.icmpNo X17.here hx rfl (hb hby d6_27) rfl (tlt (by decide : (1 : Int32) < (3 : Int32))).2.1 ?_
    refine XS.aloadN X17.here hx rfl (hb hby d6_30) rfl rfl ?_
    refine XS.iload X17.here hx rfl (hb hby d6_31) rfl ?_
    show Steps _ _ _ (T17.setTop (mkF m 33 #[.val (.ref cv), .val (.ref b1), .val (.ref R), .val (.int 3), .val (.int 1), .val .null, .val (.int 0)] [(.int 1), (.ref R)])) _
    refine X17.aaload hx (j := (1 : Int32)) (v := .null) Ar21.1 (State.isArrayOf_alike hZ12.alike Ar21.2.1) rfl Ar21.2.2 hin21 (H21.at hin21 rfl) (g := (mkF m 33 #[.val (.ref cv), .val (.ref b1), .val (.ref R), .val (.int 3), .val (.int 1), .val .null, .val (.int 0)] [(.int 1), (.ref R)])) rfl rfl (hb hby d6_33) _ ?_
    show Steps _ _ _ (T17.setTop (mkF m 34 #[.val (.ref cv), .val (.ref b1), .val (.ref R), .val (.int 3), .val (.int 1), .val .null, .val (.int 0)] [.null])) _
    refine XS.astore X17.here hx rfl (hb hby d6_34) rfl rfl (l' := #[.val (.ref cv), .val (.ref b1), .val (.ref R), .val (.int 3), .val (.int 1), .val .null, .val (.int 0)]) rfl ?_
    refine XS.aload X17.here hx rfl (hb hby d6_36) rfl rfl ?_
    refine XS.ifnonnullNo X17.here hx rfl (hb hby d6_38) rfl ?_
    refine XS.iconst X17.here hx rfl (hb hby d6_41) ?_
    refine XS.goto X17.here hx rfl (pc0 := 42) (pc' := 48) rfl (hb hby d6_42) (by decide) (by decide) ?_
    refine XS.istore X17.here hx rfl (hb hby d6_48) rfl (l' := #[.val (.ref cv), .val (.ref b1), .val (.ref R), .val (.int 3), .val (.int 1), .val .null, .val (.int 0)]) rfl ?_
    refine XS.iload X17.here hx rfl (hb hby d6_50) rfl ?_
    refine XS.ifYes X17.here hx rfl (pc0 := 52) (pc' := 73) rfl (hb hby d6_52) rfl ((if0 _ _).trans (flt (by decide : ¬ ((0 : Int32) < (0 : Int32)))).2.2.2) (by decide) (by decide) ?_
    refine XS.aloadN X17.here hx rfl (hb hby d6_73) rfl rfl ?_
    refine XS.iload X17.here hx rfl (hb hby d6_74) rfl ?_
    refine XS.ifNo X17.here hx rfl (hb hby d6_76) rfl ((if0 _ _).trans (teq (by decide : (0 : Int32) = (0 : Int32))).2) ?_
    show Steps _ _ _ (T17.setTop (mkF m 79 #[.val (.ref cv), .val (.ref b1), .val (.ref R), .val (.int 3), .val (.int 1), .val .null, .val (.int 0)] [(.ref b1)])) _
    refine st23 _ ?_
    show Steps _ _ _ (T23.setTop (mkF m 81 #[.val (.ref cv), .val (.ref b1), .val (.ref R), .val (.int 3), .val (.int 1), .val .null, .val (.int 0)] [(.ref b23), (.ref b1)])) _
    refine XS.goto X23.here hx rfl (pc0 := 81) (pc' := 96) rfl (hb hby d6_81) (by decide) (by decide) ?_
    show Steps _ _ _ (T23.setTop (mkF m 96 #[.val (.ref cv), .val (.ref b1), .val (.ref R), .val (.int 3), .val (.int 1), .val .null, .val (.int 0)] [(.ref b23), (.ref b1)])) _
    refine st28.trans ?_
    show Steps _ _ _ (T28.setTop (mkF m 101 #[.val (.ref cv), .val (.ref b1), .val (.ref R), .val (.int 3), .val (.int 1), .val .null, .val (.int 0)] [(.int 1)])) _
    refine XS.pop X28.here hx rfl (hb hby d6_101) rfl rfl ?_
    refine XS.iinc X28.here hx rfl (hb hby d6_102) rfl (l' := #[.val (.ref cv), .val (.ref b1), .val (.ref R), .val (.int 3), .val (.int ((1 : Int32) + (1 : Int32))), .val .null, .val (.int 0)]) rfl ?_
    show Steps _ _ _ (T28.setTop (mkF m 105 #[.val (.ref cv), .val (.ref b1), .val (.ref R), .val (.int 3), .val (.int ((1 : Int32) + (1 : Int32))), .val .null, .val (.int 0)] [])) _
    rw [(by decide : ((1 : Int32) + (1 : Int32)) = (2 : Int32))]
    show Steps _ _ _ (T28.setTop (mkF m 105 #[.val (.ref cv), .val (.ref b1), .val (.ref R), .val (.int 3), .val (.int 2), .val .null, .val (.int 0)] [])) _
    refine XS.goto X28.here hx rfl (pc0 := 105) (pc' := 24) rfl (hb hby d6_105) (by decide) (by decide) ?_
    refine XS.iload X28.here hx rfl (hb hby d6_24) rfl ?_
    refine XS.iloadN X28.here hx rfl (hb hby d6_26) rfl ?_
    refine XS.icmpNo X28.here hx rfl (hb hby d6_27) rfl (tlt (by decide : (2 : Int32) < (3 : Int32))).2.1 ?_
    refine XS.aloadN X28.here hx rfl (hb hby d6_30) rfl rfl ?_
    refine XS.iload X28.here hx rfl (hb hby d6_31) rfl ?_
    show Steps _ _ _ (T28.setTop (mkF m 33 #[.val (.ref cv), .val (.ref b1), .val (.ref R), .val (.int 3), .val (.int 2), .val .null, .val (.int 0)] [(.int 2), (.ref R)])) _
    refine X28.aaload hx (j := (2 : Int32)) (v := .null) Ar32.1 (State.isArrayOf_alike hZ23.alike Ar32.2.1) rfl Ar32.2.2 hin32 (H32.at hin32 rfl) (g := (mkF m 33 #[.val (.ref cv), .val (.ref b1), .val (.ref R), .val (.int 3), .val (.int 2), .val .null, .val (.int 0)] [(.int 2), (.ref R)])) rfl rfl (hb hby d6_33) _ ?_
    show Steps _ _ _ (T28.setTop (mkF m 34 #[.val (.ref cv), .val (.ref b1), .val (.ref R), .val (.int 3), .val (.int 2), .val .null, .val (.int 0)] [.null])) _
    refine XS.astore X28.here hx rfl (hb hby d6_34) rfl rfl (l' := #[.val (.ref cv), .val (.ref b1), .val (.ref R), .val (.int 3), .val (.int 2), .val .null, .val (.int 0)]) rfl ?_
    refine XS.aload X28.here hx rfl (hb hby d6_36) rfl rfl ?_
    refine XS.ifnonnullNo X28.here hx rfl (hb hby d6_38) rfl ?_
    refine XS.iconst X28.here hx rfl (hb hby d6_41) ?_
    refine XS.goto X28.here hx rfl (pc0 := 42) (pc' := 48) rfl (hb hby d6_42) (by decide) (by decide) ?_
    refine XS.istore X28.here hx rfl (hb hby d6_48) rfl (l' := #[.val (.ref cv), .val (.ref b1), .val (.ref R), .val (.int 3), .val (.int 2), .val .null, .val (.int 0)]) rfl ?_
    refine XS.iload X28.here hx rfl (hb hby d6_50) rfl ?_
    refine XS.ifYes X28.here hx rfl (pc0 := 52) (pc' := 73) rfl (hb hby d6_52) rfl ((if0 _ _).trans (flt (by decide : ¬ ((0 : Int32) < (0 : Int32)))).2.2.2) (by decide) (by decide) ?_
    refine XS.aloadN X28.here hx rfl (hb hby d6_73) rfl rfl ?_
    refine XS.iload X28.here hx rfl (hb hby d6_74) rfl ?_
    refine XS.ifNo X28.here hx rfl (hb hby d6_76) rfl ((if0 _ _).trans (teq (by decide : (0 : Int32) = (0 : Int32))).2) ?_
    show Steps _ _ _ (T28.setTop (mkF m 79 #[.val (.ref cv), .val (.ref b1), .val (.ref R), .val (.int 3), .val (.int 2), .val .null, .val (.int 0)] [(.ref b1)])) _
    refine st34 _ ?_
    show Steps _ _ _ (T34.setTop (mkF m 81 #[.val (.ref cv), .val (.ref b1), .val (.ref R), .val (.int 3), .val (.int 2), .val .null, .val (.int 0)] [(.ref b34), (.ref b1)])) _
    refine XS.goto X34.here hx rfl (pc0 := 81) (pc' := 96) rfl (hb hby d6_81) (by decide) (by decide) ?_
    show Steps _ _ _ (T34.setTop (mkF m 96 #[.val (.ref cv), .val (.ref b1), .val (.ref R), .val (.int 3), .val (.int 2), .val .null, .val (.int 0)] [(.ref b34), (.ref b1)])) _
    refine st39.trans ?_
    show Steps _ _ _ (T39.setTop (mkF m 101 #[.val (.ref cv), .val (.ref b1), .val (.ref R), .val (.int 3), .val (.int 2), .val .null, .val (.int 0)] [(.int 1)])) _
    refine XS.pop X39.here hx rfl (hb hby d6_101) rfl rfl ?_
    refine XS.iinc X39.here hx rfl (hb hby d6_102) rfl (l' := #[.val (.ref cv), .val (.ref b1), .val (.ref R), .val (.int 3), .val (.int ((2 : Int32) + (1 : Int32))), .val .null, .val (.int 0)]) rfl ?_
    show Steps _ _ _ (T39.setTop (mkF m 105 #[.val (.ref cv), .val (.ref b1), .val (.ref R), .val (.int 3), .val (.int ((2 : Int32) + (1 : Int32))), .val .null, .val (.int 0)] [])) _
    rw [(by decide : ((2 : Int32) + (1 : Int32)) = (3 : Int32))]
    show Steps _ _ _ (T39.setTop (mkF m 105 #[.val (.ref cv), .val (.ref b1), .val (.ref R), .val (.int 3), .val (.int 3), .val .null, .val (.int 0)] [])) _
    refine XS.goto X39.here hx rfl (pc0 := 105) (pc' := 24) rfl (hb hby d6_105) (by decide) (by decide) ?_
    refine XS.iload X39.here hx rfl (hb hby d6_24) rfl ?_
    refine XS.iloadN X39.here hx rfl (hb hby d6_26) rfl ?_
    refine XS.icmpYes X39.here hx rfl (pc0 := 27) (pc' := 108) rfl (hb hby d6_27) rfl (flt (by decide : ¬ ((3 : Int32) < (3 : Int32)))).2.1 (by decide) (by decide) ?_
    refine XS.aloadN X39.here hx rfl (hb hby d6_108) rfl rfl ?_
    show Steps _ _ _ (T39.setTop (mkF m 109 #[.val (.ref cv), .val (.ref b1), .val (.ref R), .val (.int 3), .val (.int 3), .val .null, .val (.int 0)] [(.ref b1)])) _
    jvm_step X39.here [X39.here.top, hx, (hb hby d6_109), X39.method', Bd.returns, Value.isRef, FieldType.isReference]
    first | (intro acts; rw [hr _ acts rfl rfl rfl]) | rw [hr _ _ rfl rfl rfl]
    exact Steps.refl _
  · show own_LN Z [] [] [] h0 n0 _ T39.heap _
    exact ⟨b1, t6, k6q, b12, b23, b34, rfl, N39, (((((((((Keep.refl h0 []).ext E1).trans Kq6 (allS (P := fun zz => zz ∈ ([] : List Addr) ∨ h0.size ≤ zz) (Or.inr sz_b1) all0)).ext E12).trans Kq17 (allS (P := fun zz => zz ∈ ([] : List Addr) ∨ h0.size ≤ zz) (Or.inr sz_b1) (allS (P := fun zz => zz ∈ ([] : List Addr) ∨ h0.size ≤ zz) (Or.inr szt6) all0))).ext E23).trans Kq28 (allS (P := fun zz => zz ∈ ([] : List Addr) ∨ h0.size ≤ zz) (Or.inr sz_b1) (allS (P := fun zz => zz ∈ ([] : List Addr) ∨ h0.size ≤ zz) (Or.inr szt6) all0))).ext E34).trans Kq39 (allS (P := fun zz => zz ∈ ([] : List Addr) ∨ h0.size ≤ zz) (Or.inr sz_b1) (allS (P := fun zz => zz ∈ ([] : List Addr) ∨ h0.size ≤ zz) (Or.inr szt6) all0))), E39q, Fe39q, Fs39q, V39q, ⟨d12, kb12, f43, f44, f45, f46, (fun _ q => nomatch q), (Nat.zero_le _)⟩, ⟨d23, kb23, f47, f48, f49, f50, (fun _ q => nomatch q), (Nat.zero_le _)⟩, ⟨d34, kb34, f51, f52, f53, f54, (fun _ q => nomatch q), (Nat.zero_le _)⟩⟩
theorem d6_45 : decode prog_104_method_3_code 45 = .ok (.aload 5, 2) := by decide +kernel
theorem d6_47 : decode prog_104_method_3_code 47 = .ok (.arraylength, 1) := by decide +kernel
theorem d6_55 : decode prog_104_method_3_code 55 = .ok (.aload 5, 2) := by decide +kernel
theorem d6_57 : decode prog_104_method_3_code 57 = .ok (.iload 6, 2) := by decide +kernel
theorem d6_59 : decode prog_104_method_3_code 59 = .ok (.iconst 1, 1) := by decide +kernel
theorem d6_60 : decode prog_104_method_3_code 60 = .ok (.isub, 1) := by decide +kernel
theorem d6_61 : decode prog_104_method_3_code 61 = .ok (.iaload, 1) := by decide +kernel
theorem d6_62 : decode prog_104_method_3_code 62 = .ok (.bipush 32, 2) := by decide +kernel
theorem d6_64 : decode prog_104_method_3_code 64 = .ok (.if_icmp .ne 9, 3) := by decide +kernel
theorem d6_84 : decode prog_104_method_3_code 84 = .ok (.new 47, 3) := by decide +kernel
theorem d6_87 : decode prog_104_method_3_code 87 = .ok (.dup, 1) := by decide +kernel
theorem d6_88 : decode prog_104_method_3_code 88 = .ok (.aload 5, 2) := by decide +kernel
theorem d6_90 : decode prog_104_method_3_code 90 = .ok (.iconst 0, 1) := by decide +kernel
theorem d6_91 : decode prog_104_method_3_code 91 = .ok (.iload 6, 2) := by decide +kernel
theorem pd___III_V : parseMethodDescriptor "([III)V" = some ⟨[(.array .int), .int, .int], none⟩ := by decide +kernel
theorem d6_93 : decode prog_104_method_3_code 93 = .ok (.invokespecial 89, 3) := by decide +kernel
theorem rmLS0 (l : Launch) (Z : State) (a0 : Array Value) (hw : ∀ d ∈ tables_1, d.before a0 Z = true) (ws : List Jvm.Cond) (G1 : Int32) (G3 : Value) (cv : Addr) (R : Addr) (kR : ClassId) (q1 : Int32) (q2 : Int32) (q3 : Int32) (q4 : Int32) (A : Addr) (kA : ClassId) (xn : Nat) (h0 : Heap) (n0 : Nat) (Z0 : n0 ≤ h0.size) (EN : own_env Z G1 G3) (X00 : Old Z n0 h0) (E_cv : Exa Z h0 cv "dev/treefold/text/Canvas") (F_width_cv : Fld Z h0 cv "dev/treefold/text/Canvas" "width" "I" (.int 4)) (F_rows_cv : Fld Z h0 cv "dev/treefold/text/Canvas" "rows" "[[I" (.ref R)) (F_clipLeft_cv : Fld Z h0 cv "dev/treefold/text/Canvas" "clipLeft" "I" (.int q1)) (F_clipTop_cv : Fld Z h0 cv "dev/treefold/text/Canvas" "clipTop" "I" (.int q2)) (F_clipRight_cv : Fld Z h0 cv "dev/treefold/text/Canvas" "clipRight" "I" (.int q3)) (F_clipBottom_cv : Fld Z h0 cv "dev/treefold/text/Canvas" "clipBottom" "I" (.int q4)) (V_R : Arv Z h0 R kR (.array .int) (3 : Int32) [(.ref A), .null, .null] .null) (V_A : Arv Z h0 A kA .int (Int32.ofNat (xn + 1)) (own_row xn) (.int 0)) (hxn : xn < 4) :
    MetFree l y_40 (head1 (Jvm.Cond.code y_40 prog_104_method_3_code 7 (some (.object "java/util/List")) :: ws) ({ frames := 4, cells := 8, slots := 22, locals := 50 } : Room)) (fun a_ U_ => a_ = #[(.ref cv)] ∧ Z.Warmed39 U_.vm ∧ U_.heap = h0 ∧ CHv Z consts_1 U_.vm h0) (fun _ _ _ _ _ => True) (fun _ U_ o_ U1_ => ∃ v_ L_, o_ = .returned v_ ∧ own_LN Z (own_q xn) [] [] h0 n0 v_ U1_.heap L_ ∧ ReturnedEndW U_ o_ U1_ L_ ({ frames := 4, cells := 8, slots := 22, locals := 50 } : Room).cells ({ frames := 4, cells := 8, slots := 22, locals := 50 } : Room).slots) := by
  refine MetFree.of_bodySF (plainFor_of_name pn_6) hisR ?_
  intro p e s m args below meth c s₁ Bd hml0 hP hK
  obtain ⟨rfl, hZ, hh, H0⟩ := hP
  have hx := Bd.exec
  have hby := Bd.bytes
  have hml : c.maxLocals = 7 := hml0
  have hown : s.vm.findClass "dev/treefold/text/Canvas" = some m.cls := findClass_of_methodNamed Bd.named
  have hnm := (name_of_methodNamed Bd.named Bd.method).1
  have X0 : Stand p l e ({ frames := 4, cells := 8, slots := 22, locals := 50 } : Room) s m #[(.ref cv)] below meth c s₁ [] 0 0 := Stand.of_body Bd
  have e0 : s₁.heap = h0 := by rw [← hh, Bd.state]; rfl
  have N0 := Fr.nil n0
  have pre0 : ∀ tt, Steps p.tables e below (s₁.setTop (mkF m 0 #[.val (.ref cv), .unset, .unset, .unset, .unset, .unset, .unset] [])) tt → Steps p.tables e below (s₁.setTop (entryFrame m #[(.ref cv)] 7)) tt := fun tt kk => castTop (ef_6_r m cv) kk
  have hS0 : s.Since s.vm 0 := (State.WarmedH.refl s).since 0
  have hk0 : 0 ≤ h0.size := Nat.zero_le _
  have EN0 := EN
  obtain ⟨O2, P5, O4, rG3⟩ := EN
  obtain ⟨T1, h1, X1, e1, E1, A1, D1, -, st1⟩ := newO X0 hx hZ hown (hw _ (tk 53 rfl)) (hw _ (tk 54 rfl)) (hw _ (tk 55 rfl)) e0 (g := (mkF m 0 #[.val (.ref cv), .unset, .unset, .unset, .unset, .unset, .unset] [])) rfl (hb hby d6_0) (by decide) (by decide)
  obtain ⟨b1, g1⟩ : ∃ z, z = h0.size := ⟨_, rfl⟩
  rw [← g1] at A1 D1 st1
  have g_b1 : n0 ≤ b1 := Nat.le_trans Z0 (Nat.le_of_eq g1.symm)
  have sz_b1 : h0.size ≤ b1 := Nat.le_trans (Nat.le_refl _) (Nat.le_of_eq g1.symm)
  have F1_modCount : Fld Z h1 b1 "java/util/AbstractList" "modCount" "I" (.int 0) := D1 (Or.inl (hw _ (tk 73 rfl))) (ty := .int) (by decide)
  have F1_elementData : Fld Z h1 b1 "java/util/ArrayList" "elementData" "[Ljava/lang/Object;" .null := D1 (Or.inl (hw _ (tk 77 rfl))) (ty := (.array (.object "java/lang/Object"))) (by decide)
  have F1_size : Fld Z h1 b1 "java/util/ArrayList" "size" "I" (.int 0) := D1 (Or.inl (hw _ (tk 91 rfl))) (ty := .int) (by decide)
  have f3 := (F_rows_cv.ext E1)
  obtain ⟨T2, X2, e2, st2⟩ := getF X1 hx hZ hown (host := "") (Or.inl (hw _ (tk 14 rfl))) Via.refl e1 f3 (g := (mkF m 5 #[.val (.ref cv), .unset, .unset, .unset, .unset, .unset, .unset] [(.ref cv), (.ref b1), (.ref b1)])) rfl rfl (hb hby d6_5)
  have f5 := (V_R.ext E1)
  obtain ⟨c4, Ar4, -, S4, M4, -, -⟩ := id f5
  obtain ⟨_, _, ⟨T6, L6, k6, n6⟩, -, X6, ⟨Lc6, hQ6, l6, y6, z6⟩, st6⟩ := X2.specialBack hx (y := y_34) rfl hown (mvT hZ (hw _ (tk 56 rfl))) (mvT hZ (hw _ (tk 57 rfl))) (mvT hZ (hw _ (tk 58 rfl))) (by decide) (backOf (W := 1) (rmAL l Z a0 hw [] b1 h1 n0 (Nat.le_trans Z0 E1.1) A1 F1_modCount F1_elementData F1_size g_b1) hZ (hw _ (tk 58 rfl)) (hw _ (tk 55 rfl)) (by decide) (by decide)) (g := (mkF m 9 #[.val (.ref cv), .unset, .unset, .unset, .unset, .unset, .unset] [(.int 3), (.ref b1), (.ref b1)])) rfl (by rw [hml]; rfl) (Steps.refl _) (a := b1) (argsL := [(.int 3)]) (rest := [(.ref b1)]) (lenOf pd__I_V rfl) rfl (by show 2 * 0 + _ ≤ _; exact Nat.le_of_eq rfl) (hb hby d6_9) (fun _ _ => ⟨rfl, e2, (by decide : 1 + 1 ≤ _), (by decide : 3 + 3 ≤ _)⟩)
  dsimp only [Pt.U, Pt.locs, Pt.cells, Pt.slots] at X6 l6 y6 z6 st6 hQ6
  subst l6 y6 z6
  obtain ⟨t6, k6q, rfl, Nq6, gt6, st_6, Kq6, E6q, Fm6q, Fe6q, Fs6q, Vt6, O6q⟩ := hQ6
  have N6 := Fr.app N0 Nq6
  have szt6 : h0.size ≤ t6 := Nat.le_trans E1.1 st_6
  have f8 := (f3.keep Kq6 (ninS (Nat.ne_of_lt (Nat.lt_of_lt_of_le E_cv.lt (Nat.le_of_eq g1.symm))) nin0))
  obtain ⟨T7, X7, e7, st7⟩ := getF X6 hx hZ hown (host := "") (Or.inl (hw _ (tk 14 rfl))) Via.refl rfl f8 (g := (mkF m 14 #[.val (.ref cv), .val (.ref b1), .unset, .unset, .unset, .unset, .unset] [(.ref cv)])) rfl rfl (hb hby d6_14)
  have f10 := (f5.keep Kq6 (ninS (Nat.ne_of_lt (Nat.lt_of_lt_of_le V_R.lt (Nat.le_of_eq g1.symm))) nin0))
  obtain ⟨c9, Ar9, -, S9, M9, -, -⟩ := id f10
  obtain ⟨c11, Ar11, -, S11, M11, H11, -⟩ := id f10
  have hin11 := inb_of (j := (0 : Int32)) S11 ⟨by decide, by decide⟩
  have f13 := ((V_A.ext E1).keep Kq6 (ninS (Nat.ne_of_lt (Nat.lt_of_lt_of_le V_A.lt (Nat.le_of_eq g1.symm))) nin0))
  obtain ⟨c12, Ar12, -, S12, M12, -, -⟩ := id f13
  obtain ⟨c14, Ar14, -, S14, M14, H14, -⟩ := id f13
  have hin14 := inb_of (j := (Int32.ofNat xn)) S14 (own_in (j := xn) (n := xn + 1) (by omega) (by omega))
  have C15 := CHr.keep (((Keep.refl h0 []).ext E1).trans Kq6 (allS (P := fun zz => zz ∈ ([] : List Addr) ∨ h0.size ≤ zz) (Or.inr sz_b1) all0)) sf0 H0
  obtain ⟨T16, h16, X16, e16, E16, A16, D16, -, st16⟩ := newO X7 hx hZ hown (hw _ (tk 224 rfl)) (hw _ (tk 37 rfl)) (hw _ (tk 36 rfl)) e7 (g := (mkF m 84 #[.val (.ref cv), .val (.ref b1), .val (.ref R), .val (.int 3), .val (.int 0), .val (.ref A), .val (.int (Int32.ofNat (xn + 1)))] [(.ref b1)])) rfl (hb hby d6_84) (by decide) (by decide)
  obtain ⟨b16, g16⟩ : ∃ z, z = T6.heap.size := ⟨_, rfl⟩
  rw [← g16] at A16 D16 st16
  have g_b16 : n0 ≤ b16 := Nat.le_trans (Nat.le_trans Z0 (Nat.le_trans E1.1 Kq6.1)) (Nat.le_of_eq g16.symm)
  have sz_b16 : h0.size ≤ b16 := Nat.le_trans (Nat.le_trans E1.1 Kq6.1) (Nat.le_of_eq g16.symm)
  have F16_value : Fld Z h16 b16 "java/lang/String" "value" "[B" .null := D16 (Or.inr (hw _ (tk 39 rfl))) (ty := (.array .byte)) (by decide)
  have F16_coder : Fld Z h16 b16 "java/lang/String" "coder" "B" (.int 0) := D16 (Or.inr (hw _ (tk 40 rfl))) (ty := .byte) (by decide)
  have C18 := CHr.keep ((((Keep.refl h0 []).ext E1).trans Kq6 (allS (P := fun zz => zz ∈ ([] : List Addr) ∨ h0.size ≤ zz) (Or.inr sz_b1) all0)).ext E16) sf0 H0
  have f19 := (((X00.ext E1).keep Kq6 (allS g_b1 all0)).ext E16)
  have f20 := (f13.ext E16)
  obtain ⟨_, _, ⟨T17, L17, k17, n17⟩, -, X17, ⟨Lc17, hQ17, l17, y17, z17⟩, st17⟩ := X16.specialBack hx (y := y_31) rfl hown (mvT hZ (hw _ (tk 225 rfl))) (mvT hZ (hw _ (tk 226 rfl))) (mvT hZ (hw _ (tk 227 rfl))) (by decide) (backOf (W := 2) (rmSIn l Z a0 hw [] G1 G3 b16 A kA (own_q xn) (xn + 1) (own_ql xn) h16 n0 (Nat.le_trans Z0 (Nat.le_trans (Nat.le_trans E1.1 Kq6.1) E16.1)) EN0 f19 A16 F16_coder F16_value g_b16 f20 (by rw [own_ql]; omega) (by rw [own_ql]; omega) (own_hqx xn)) hZ (hw _ (tk 227 rfl)) (hw _ (tk 36 rfl)) (by decide) (by decide)) (g := (mkF m 93 #[.val (.ref cv), .val (.ref b1), .val (.ref R), .val (.int 3), .val (.int 0), .val (.ref A), .val (.int (Int32.ofNat (xn + 1)))] [(.int (Int32.ofNat (xn + 1))), (.int 0), (.ref A), (.ref b16), (.ref b16), (.ref b1)])) rfl (by rw [hml]; rfl) (Steps.refl _) (a := b16) (argsL := [(.ref A), (.int 0), (.int (Int32.ofNat (xn + 1)))]) (rest := [(.ref b16), (.ref b1)]) (lenOf pd___III_V rfl) rfl (by show 2 * 0 + _ ≤ _; exact Nat.le_of_eq rfl) (hb hby d6_93) (fun _ _ => ⟨rfl, e16, (by decide : 3 + 1 ≤ _), (by decide : 10 + 4 ≤ _)⟩)
  dsimp only [Pt.U, Pt.locs, Pt.cells, Pt.slots] at X17 l17 y17 z17 st17 hQ17
  subst l17 y17 z17
  obtain ⟨rfl, Nq17, Kq17, sq17⟩ := hQ17
  have N17 := Fr.app N6 Nq17
  obtain ⟨bs17, ks17, Es17, Cs17, Vs17, Ks17, hps17, hls17⟩ := sq17
  have f22 := ((E6q.ext E16).keep Kq17)
  have f23 := ((Vt6.ext E16).keep Kq17 (ninS (Nat.ne_of_lt (Nat.lt_of_lt_of_le Vt6.lt (Nat.le_of_eq g16.symm))) nin0))
  have na21 := Exa.ne Es17 f22 (by decide)
  have nb21 := Exa.neArv Es17 f23 (hw _ (tk 37 rfl))
  have nc21 := Exa.neArv f22 Ks17 (hw _ (tk 54 rfl))
  have nd21 := own_neA Ks17 f23 nofun
  have f25 := ((Fm6q.ext E16).keep Kq17 (ninS (Ne.symm na21) nin0))
  have f26 := ((Fe6q.ext E16).keep Kq17 (ninS (Ne.symm na21) nin0))
  have f27 := ((Fs6q.ext E16).keep Kq17 (ninS (Ne.symm na21) nin0))
  obtain ⟨cq24, kq24, q24a, q24b, q24c⟩ := isOf hZ rfl f22
  obtain ⟨_, _, ⟨T24, L24, k24, n24⟩, -, X24, ⟨Lc24, hQ24, l24, y24, z24⟩, st24⟩ := X17.interfaceBack hx (xi := y_41) (y := y_36) hown (mvT hZ (hw _ (tk 79 rfl))) (mvT hZ (hw _ (tk 80 rfl))) (mvT hZ (hw _ (tk 81 rfl))) (mvT hZ (hw _ (tk 82 rfl))) (mvT hZ (hw _ (tk 83 rfl))) (mvT hZ (hw _ (tk 84 rfl))) (mvT hZ (hw _ (tk 85 rfl))) (mvT hZ (hw _ (tk 86 rfl))) (by decide) (backOf (W := 0) (rmA0 l Z a0 hw [] b1 b16 t6 k6q (0 : Int32)  T17.heap n0 (Nat.le_trans Z0 (Nat.le_trans (Nat.le_trans (Nat.le_trans E1.1 Kq6.1) E16.1) Kq17.1)) f22 f25 f26 f27 g_b1 Es17 f23 gt6 O6q) hZ (hw _ (tk 87 rfl)) (hw _ (tk 55 rfl)) (by decide) (by decide)) q24a q24b q24c (g := (mkF m 96 #[.val (.ref cv), .val (.ref b1), .val (.ref R), .val (.int 3), .val (.int 0), .val (.ref A), .val (.int (Int32.ofNat (xn + 1)))] [(.ref b16), (.ref b1)])) rfl (by rw [hml]; rfl) (Steps.refl _) (argsL := [(.ref b16)]) (rest := []) (lenOf pd__Ljava_lang_Object__Z rfl) rfl (by show 2 * 0 + _ ≤ _; exact Nat.le_of_eq rfl) (hb hby d6_96) (fun _ _ => ⟨rfl, rfl, (by decide : 4 + 0 ≤ _), (by decide : 14 + 0 ≤ _)⟩)
  dsimp only [Pt.U, Pt.locs, Pt.cells, Pt.slots] at X24 l24 y24 z24 st24 hQ24
  subst l24 y24 z24
  obtain ⟨rfl, Nq24, Kq24, E24q, Fm24q, Fe24q, Fs24q, V24q⟩ := hQ24
  have N24 := Fr.app N17 Nq24
  have f29 := (((f10.ext E16).keep Kq17 (ninS (Nat.ne_of_lt (Nat.lt_of_lt_of_le (Nat.lt_of_lt_of_le V_R.lt (Nat.le_trans E1.1 Kq6.1)) (Nat.le_of_eq g16.symm))) nin0)).keep Kq24 (ninS (Nat.ne_of_lt (Nat.lt_of_lt_of_le V_R.lt (Nat.le_of_eq g1.symm))) (ninS (Nat.ne_of_lt (Nat.lt_of_lt_of_le (Nat.lt_of_lt_of_le V_R.lt E1.1) st_6)) nin0)))
  obtain ⟨c28, Ar28, -, S28, M28, H28, -⟩ := id f29
  have hin28 := inb_of (j := (1 : Int32)) S28 ⟨by decide, by decide⟩
  have C31 := CHr.keep ((((((Keep.refl h0 []).ext E1).trans Kq6 (allS (P := fun zz => zz ∈ ([] : List Addr) ∨ h0.size ≤ zz) (Or.inr sz_b1) all0)).ext E16).trans Kq17 (allS (P := fun zz => zz ∈ ([] : List Addr) ∨ h0.size ≤ zz) (Or.inr sz_b16) all0)).trans Kq24 (allS (P := fun zz => zz ∈ ([] : List Addr) ∨ h0.size ≤ zz) (Or.inr sz_b1) (allS (P := fun zz => zz ∈ ([] : List Addr) ∨ h0.size ≤ zz) (Or.inr szt6) all0))) sf0 H0
  obtain ⟨b30, T30, h30, k30, d30, kb30, X30, e30, E30, hS30, hk30, hZ30, hown30, Ea30, Ca30, Va30, Ka30, la30, lb30, Cx30, -, ne30, st30⟩ := ldcCH (s := s) (vm0 := s.vm) X24 hx hZ hown (hw _ (tk 78 rfl)) (fun d hd => hw d (own_wS d hd)) rfl hS0 (Nat.le_trans hk0 (Nat.le_trans (Nat.le_trans (Nat.le_trans (Nat.le_trans E1.1 Kq6.1) E16.1) Kq17.1) Kq24.1)) (own_EW hw) own_mem87 C31.1 (vs := []) (z := 0) ⟨by decide, rfl⟩ (by decide) rfl (g := (mkF m 79 #[.val (.ref cv), .val (.ref b1), .val (.ref R), .val (.int 3), .val (.int 1), .val .null, .val (.int 0)] [(.ref b1)])) rfl (hb hby d6_79) (n := 0) (by decide) (by decide) (by decide) (by decide)
  have C30 := CHr.trans C31 Cx30
  have f33 := (E24q.ext E30)
  have f34 := (V24q.ext E30)
  have na32 := Exa.ne Ea30 f33 (by decide)
  have nb32 := Exa.neArv Ea30 f34 (hw _ (tk 37 rfl))
  have nc32 := Exa.neArv f33 Ka30 (hw _ (tk 54 rfl))
  have nd32 := own_neA Ka30 f34 nofun
  have f36 := (Fm24q.ext E30)
  have f37 := (Fe24q.ext E30)
  have f38 := (Fs24q.ext E30)
  obtain ⟨cq35, kq35, q35a, q35b, q35c⟩ := isOf hZ30 e30 f33
  obtain ⟨_, _, ⟨T35, L35, k35, n35⟩, -, X35, ⟨Lc35, hQ35, l35, y35, z35⟩, st35⟩ := X30.interfaceBack hx (xi := y_41) (y := y_36) hown30 (mvT hZ30 (hw _ (tk 79 rfl))) (mvT hZ30 (hw _ (tk 80 rfl))) (mvT hZ30 (hw _ (tk 81 rfl))) (mvT hZ30 (hw _ (tk 82 rfl))) (mvT hZ30 (hw _ (tk 83 rfl))) (mvT hZ30 (hw _ (tk 84 rfl))) (mvT hZ30 (hw _ (tk 85 rfl))) (mvT hZ30 (hw _ (tk 86 rfl))) (by decide) (backOf (W := 0) (rmA1 l Z a0 hw [] b1 b30 t6 k6q ((0 : Int32) + (1 : Int32)) b16 h30 n0 (Nat.le_trans Z0 (Nat.le_trans (Nat.le_trans (Nat.le_trans (Nat.le_trans (Nat.le_trans E1.1 Kq6.1) E16.1) Kq17.1) Kq24.1) E30.1)) f33 f36 f37 f38 g_b1 Ea30 f34 gt6 O6q) hZ30 (hw _ (tk 87 rfl)) (hw _ (tk 55 rfl)) (by decide) (by decide)) q35a q35b q35c (g := (mkF m 96 #[.val (.ref cv), .val (.ref b1), .val (.ref R), .val (.int 3), .val (.int 1), .val .null, .val (.int 0)] [(.ref b30), (.ref b1)])) rfl (by rw [hml]; rfl) (Steps.refl _) (argsL := [(.ref b30)]) (rest := []) (lenOf pd__Ljava_lang_Object__Z rfl) rfl (by show 2 * 0 + _ ≤ _; exact Nat.le_of_eq rfl) (hb hby d6_96) (fun _ _ => ⟨rfl, e30, (by decide : 6 + 0 ≤ _), (by decide : 18 + 0 ≤ _)⟩)
  dsimp only [Pt.U, Pt.locs, Pt.cells, Pt.slots] at X35 l35 y35 z35 st35 hQ35
  subst l35 y35 z35
  obtain ⟨rfl, Nq35, Kq35, E35q, Fm35q, Fe35q, Fs35q, V35q⟩ := hQ35
  have N35 := Fr.app N24 Nq35
  have f40 := ((f29.ext E30).keep Kq35 (ninS (Nat.ne_of_lt (Nat.lt_of_lt_of_le V_R.lt (Nat.le_of_eq g1.symm))) (ninS (Nat.ne_of_lt (Nat.lt_of_lt_of_le (Nat.lt_of_lt_of_le V_R.lt E1.1) st_6)) nin0)))
  obtain ⟨c39, Ar39, -, S39, M39, H39, -⟩ := id f40
  have hin39 := inb_of (j := (2 : Int32)) S39 ⟨by decide, by decide⟩
  have C42 := CHr.trans C30 (CHr.keep Kq35 (sfS (Safe.exa hZ30.alike f33 (by decide) (by decide)) (sfS (own_safeV hZ30 f34 nofun) sf0)) C30.1)
  obtain ⟨b41, T41, h41, k41, d41, kb41, X41, e41, E41, hS41, hk41, hZ41, hown41, Ea41, Ca41, Va41, Ka41, la41, lb41, Cx41, -, ne41, st41⟩ := ldcCH (s := s) (vm0 := T30.vm) X35 hx hZ30 hown30 (hw _ (tk 78 rfl)) (fun d hd => hw d (own_wS d hd)) rfl hS30 (Nat.le_trans hk30 Kq35.1) (own_EW hw) own_mem87 C42.1 (vs := []) (z := 0) ⟨by decide, rfl⟩ (by decide) rfl (g := (mkF m 79 #[.val (.ref cv), .val (.ref b1), .val (.ref R), .val (.int 3), .val (.int 2), .val .null, .val (.int 0)] [(.ref b1)])) rfl (hb hby d6_79) (n := 0) (by decide) (by decide) (by decide) (by decide)
  have C41 := CHr.trans C42 Cx41
  have f44 := (E35q.ext E41)
  have f45 := (V35q.ext E41)
  have na43 := Exa.ne Ea41 f44 (by decide)
  have nb43 := Exa.neArv Ea41 f45 (hw _ (tk 37 rfl))
  have nc43 := Exa.neArv f44 Ka41 (hw _ (tk 54 rfl))
  have nd43 := own_neA Ka41 f45 nofun
  have f47 := (Fm35q.ext E41)
  have f48 := (Fe35q.ext E41)
  have f49 := (Fs35q.ext E41)
  obtain ⟨cq46, kq46, q46a, q46b, q46c⟩ := isOf hZ41 e41 f44
  obtain ⟨_, _, ⟨T46, L46, k46, n46⟩, -, X46, ⟨Lc46, hQ46, l46, y46, z46⟩, st46⟩ := X41.interfaceBack hx (xi := y_41) (y := y_36) hown41 (mvT hZ41 (hw _ (tk 79 rfl))) (mvT hZ41 (hw _ (tk 80 rfl))) (mvT hZ41 (hw _ (tk 81 rfl))) (mvT hZ41 (hw _ (tk 82 rfl))) (mvT hZ41 (hw _ (tk 83 rfl))) (mvT hZ41 (hw _ (tk 84 rfl))) (mvT hZ41 (hw _ (tk 85 rfl))) (mvT hZ41 (hw _ (tk 86 rfl))) (by decide) (backOf (W := 0) (rmA2 l Z a0 hw [] b1 b41 t6 k6q (((0 : Int32) + (1 : Int32)) + (1 : Int32)) b16 b30 h41 n0 (Nat.le_trans Z0 (Nat.le_trans (Nat.le_trans (Nat.le_trans (Nat.le_trans (Nat.le_trans (Nat.le_trans (Nat.le_trans E1.1 Kq6.1) E16.1) Kq17.1) Kq24.1) E30.1) Kq35.1) E41.1)) f44 f47 f48 f49 g_b1 Ea41 f45 gt6 O6q) hZ41 (hw _ (tk 87 rfl)) (hw _ (tk 55 rfl)) (by decide) (by decide)) q46a q46b q46c (g := (mkF m 96 #[.val (.ref cv), .val (.ref b1), .val (.ref R), .val (.int 3), .val (.int 2), .val .null, .val (.int 0)] [(.ref b41), (.ref b1)])) rfl (by rw [hml]; rfl) (Steps.refl _) (argsL := [(.ref b41)]) (rest := []) (lenOf pd__Ljava_lang_Object__Z rfl) rfl (by show 2 * 0 + _ ≤ _; exact Nat.le_of_eq rfl) (hb hby d6_96) (fun _ _ => ⟨rfl, e41, (by decide : 8 + 0 ≤ _), (by decide : 22 + 0 ≤ _)⟩)
  dsimp only [Pt.U, Pt.locs, Pt.cells, Pt.slots] at X46 l46 y46 z46 st46 hQ46
  subst l46 y46 z46
  obtain ⟨rfl, Nq46, Kq46, E46q, Fm46q, Fe46q, Fs46q, V46q⟩ := hQ46
  have N46 := Fr.app N35 Nq46
  have f50 := (((((Es17.keep Kq24).ext E30).keep Kq35).ext E41).keep Kq46)
  have f51 := (((((Cs17.keep Kq24 (ninS na21 (ninS nb21 nin0))).ext E30).keep Kq35 (ninS na21 (ninS nb21 nin0))).ext E41).keep Kq46 (ninS na21 (ninS nb21 nin0)))
  have f52 := (((((Vs17.keep Kq24 (ninS na21 (ninS nb21 nin0))).ext E30).keep Kq35 (ninS na21 (ninS nb21 nin0))).ext E41).keep Kq46 (ninS na21 (ninS nb21 nin0)))
  have f53 := (((((Ks17.keep Kq24 (ninS (Ne.symm nc21) (ninS nd21 nin0))).ext E30).keep Kq35 (ninS (Ne.symm nc21) (ninS nd21 nin0))).ext E41).keep Kq46 (ninS (Ne.symm nc21) (ninS nd21 nin0)))
  have f54 := (((Ea30.keep Kq35).ext E41).keep Kq46)
  have f55 := (((Ca30.keep Kq35 (ninS na32 (ninS nb32 nin0))).ext E41).keep Kq46 (ninS na32 (ninS nb32 nin0)))
  have f56 := (((Va30.keep Kq35 (ninS na32 (ninS nb32 nin0))).ext E41).keep Kq46 (ninS na32 (ninS nb32 nin0)))
  have f57 := (((Ka30.keep Kq35 (ninS (Ne.symm nc32) (ninS nd32 nin0))).ext E41).keep Kq46 (ninS (Ne.symm nc32) (ninS nd32 nin0)))
  have f58 := (Ea41.keep Kq46)
  have f59 := (Ca41.keep Kq46 (ninS na43 (ninS nb43 nin0)))
  have f60 := (Va41.keep Kq46 (ninS na43 (ninS nb43 nin0)))
  have f61 := (Ka41.keep Kq46 (ninS (Ne.symm nc43) (ninS nd43 nin0)))
  obtain ⟨fs, hr, hrun, hended, hfin⟩ := X46.leaveW hS41 ((Nat.le_trans hk41 Kq46.1)) (v := some (.ref b1)) (fun h => by rw [Bd.returns] at h; cases h)
  refine ⟨_, _, pre0 _ ?_, hrun, hended, _, _, rfl, ?_, hfin.1, hfin.2.1, hfin.2.2.1, hfin.2.2.2.mono (by decide) (by decide)⟩
  · show Steps _ _ _ (s₁.setTop (mkF m 0 #[.val (.ref cv), .unset, .unset, .unset, .unset, .unset, .unset] [])) _
    refine st1 _ ?_
    show Steps _ _ _ (T1.setTop (mkF m 3 #[.val (.ref cv), .unset, .unset, .unset, .unset, .unset, .unset] [(.ref b1)])) _
    refine XS.dup X1.here hx rfl (hb hby d6_3) rfl rfl ?_
    refine XS.aloadN X1.here hx rfl (hb hby d6_4) rfl rfl ?_
    show Steps _ _ _ (T1.setTop (mkF m 5 #[.val (.ref cv), .unset, .unset, .unset, .unset, .unset, .unset] [(.ref cv), (.ref b1), (.ref b1)])) _
    refine st2 _ ?_
    show Steps _ _ _ (T2.setTop (mkF m 8 #[.val (.ref cv), .unset, .unset, .unset, .unset, .unset, .unset] [(.ref R), (.ref b1), (.ref b1)])) _
    refine X2.arraylength hx (by rw [e2]; exact Ar4.1) (State.isArrayOf_alike hZ.alike Ar4.2.1) (g := (mkF m 8 #[.val (.ref cv), .unset, .unset, .unset, .unset, .unset, .unset] [(.ref R), (.ref b1), (.ref b1)])) rfl rfl (hb hby d6_8) _ ?_
    rw [len_of S4 M4]
    show Steps _ _ _ (T2.setTop (mkF m 9 #[.val (.ref cv), .unset, .unset, .unset, .unset, .unset, .unset] [(.int 3), (.ref b1), (.ref b1)])) _
    refine st6.trans ?_
    show Steps _ _ _ (T6.setTop (mkF m 12 #[.val (.ref cv), .unset, .unset, .unset, .unset, .unset, .unset] [(.ref b1)])) _
    refine XS.astoreN X6.here hx rfl (hb hby d6_12) rfl rfl (l' := #[.val (.ref cv), .val (.ref b1), .unset, .unset, .unset, .unset, .unset]) rfl ?_
    refine XS.aloadN X6.here hx rfl (hb hby d6_13) rfl rfl ?_
    show Steps _ _ _ (T6.setTop (mkF m 14 #[.val (.ref cv), .val (.ref b1), .unset, .unset, .unset, .unset, .unset] [(.ref cv)])) _
    refine st7 _ ?_
    show Steps _ _ _ (T7.setTop (mkF m 17 #[.val (.ref cv), .val (.ref b1), .unset, .unset, .unset, .unset, .unset] [(.ref R)])) _
    refine XS.astoreN X7.here hx rfl (hb hby d6_17) rfl rfl (l' := #[.val (.ref cv), .val (.ref b1), .val (.ref R), .unset, .unset, .unset, .unset]) rfl ?_
    refine XS.aloadN X7.here hx rfl (hb hby d6_18) rfl rfl ?_
    show Steps _ _ _ (T7.setTop (mkF m 19 #[.val (.ref cv), .val (.ref b1), .val (.ref R), .unset, .unset, .unset, .unset] [(.ref R)])) _
    refine X7.arraylength hx (by rw [e7]; exact Ar9.1) (State.isArrayOf_alike hZ.alike Ar9.2.1) (g := (mkF m 19 #[.val (.ref cv), .val (.ref b1), .val (.ref R), .unset, .unset, .unset, .unset] [(.ref R)])) rfl rfl (hb hby d6_19) _ ?_
    rw [len_of S9 M9]
    show Steps _ _ _ (T7.setTop (mkF m 20 #[.val (.ref cv), .val (.ref b1), .val (.ref R), .unset, .unset, .unset, .unset] [(.int 3)])) _
    refine XS.istoreN X7.here hx rfl (hb hby d6_20) rfl (l' := #[.val (.ref cv), .val (.ref b1), .val (.ref R), .val (.int 3), .unset, .unset, .unset]) rfl ?_
    refine XS.iconst X7.here hx rfl (hb hby d6_21) ?_
    refine XS.istore X7.here hx rfl (hb hby d6_22) rfl (l' := #[.val (.ref cv), .val (.ref b1), .val (.ref R), .val (.int 3), .val (.int 0), .unset, .unset]) rfl ?_
    refine XS.iload X7.here hx rfl (hb hby d6_24) rfl ?_
    refine XS.iloadN X7.here hx rfl (hb hby d6_26) rfl ?_
    refine XS.icmpNo X7.here hx rfl (hb hby d6_27) rfl (tlt (by decide : (0 : Int32) < (3 : Int32))).2.1 ?_
    refine XS.aloadN X7.here hx rfl (hb hby d6_30) rfl rfl ?_
    refine XS.iload X7.here hx rfl (hb hby d6_31) rfl ?_
    show Steps _ _ _ (T7.setTop (mkF m 33 #[.val (.ref cv), .val (.ref b1), .val (.ref R), .val (.int 3), .val (.int 0), .unset, .unset] [(.int 0), (.ref R)])) _
    refine X7.aaload hx (j := (0 : Int32)) (v := (.ref A)) (by rw [e7]; exact Ar11.1) (State.isArrayOf_alike hZ.alike Ar11.2.1) rfl Ar11.2.2 hin11 (H11.at hin11 rfl) (g := (mkF m 33 #[.val (.ref cv), .val (.ref b1), .val (.ref R), .val (.int 3), .val (.int 0), .unset, .unset] [(.int 0), (.ref R)])) rfl rfl (hb hby d6_33) _ ?_
    show Steps _ _ _ (T7.setTop (mkF m 34 #[.val (.ref cv), .val (.ref b1), .val (.ref R), .val (.int 3), .val (.int 0), .unset, .unset] [(.ref A)])) _
    refine XS.astore X7.here hx rfl (hb hby d6_34) rfl rfl (l' := #[.val (.ref cv), .val (.ref b1), .val (.ref R), .val (.int 3), .val (.int 0), .val (.ref A), .unset]) rfl ?_
    refine XS.aload X7.here hx rfl (hb hby d6_36) rfl rfl ?_
    refine XS.ifnonnullYes X7.here hx rfl (pc0 := 38) (pc' := 45) rfl (hb hby d6_38) rfl (by decide) (by decide) ?_
    refine XS.aload X7.here hx rfl (hb hby d6_45) rfl rfl ?_
    show Steps _ _ _ (T7.setTop (mkF m 47 #[.val (.ref cv), .val (.ref b1), .val (.ref R), .val (.int 3), .val (.int 0), .val (.ref A), .unset] [(.ref A)])) _
    refine X7.arraylength hx (by rw [e7]; exact Ar12.1) (State.isArrayOf_alike hZ.alike Ar12.2.1) (g := (mkF m 47 #[.val (.ref cv), .val (.ref b1), .val (.ref R), .val (.int 3), .val (.int 0), .val (.ref A), .unset] [(.ref A)])) rfl rfl (hb hby d6_47) _ ?_
    rw [len_of S12 M12]
    show Steps _ _ _ (T7.setTop (mkF m 48 #[.val (.ref cv), .val (.ref b1), .val (.ref R), .val (.int 3), .val (.int 0), .val (.ref A), .unset] [(.int (Int32.ofNat (xn + 1)))])) _
    refine XS.istore X7.here hx rfl (hb hby d6_48) rfl (l' := #[.val (.ref cv), .val (.ref b1), .val (.ref R), .val (.int 3), .val (.int 0), .val (.ref A), .val (.int (Int32.ofNat (xn + 1)))]) rfl ?_
    refine XS.iload X7.here hx rfl (hb hby d6_50) rfl ?_
    refine XS.ifNo X7.here hx rfl (hb hby d6_52) rfl ((if0 _ _).trans (tlt ((own_lt (i := 0) (by omega) (by omega)).mpr (by omega))).2.2.2) ?_
    refine XS.aload X7.here hx rfl (hb hby d6_55) rfl rfl ?_
    refine XS.iload X7.here hx rfl (hb hby d6_57) rfl ?_
    refine XS.iconst X7.here hx rfl (hb hby d6_59) ?_
    refine XS.isub X7.here hx rfl (hb hby d6_60) rfl ?_
    show Steps _ _ _ (T7.setTop (mkF m 61 #[.val (.ref cv), .val (.ref b1), .val (.ref R), .val (.int 3), .val (.int 0), .val (.ref A), .val (.int (Int32.ofNat (xn + 1)))] [(.int ((Int32.ofNat (xn + 1)) - (1 : Int32))), (.ref A)])) _
    rw [(own_sub1 xn)]
    show Steps _ _ _ (T7.setTop (mkF m 61 #[.val (.ref cv), .val (.ref b1), .val (.ref R), .val (.int 3), .val (.int 0), .val (.ref A), .val (.int (Int32.ofNat (xn + 1)))] [(.int (Int32.ofNat xn)), (.ref A)])) _
    refine X7.iaload hx (j := (Int32.ofNat xn)) (v := (.int 81)) (by rw [e7]; exact Ar14.1) (State.isArrayOf_alike hZ.alike Ar14.2.1) Ar14.2.2 hin14 (H14.at hin14 (own_rx xn (by omega))) (g := (mkF m 61 #[.val (.ref cv), .val (.ref b1), .val (.ref R), .val (.int 3), .val (.int 0), .val (.ref A), .val (.int (Int32.ofNat (xn + 1)))] [(.int (Int32.ofNat xn)), (.ref A)])) rfl rfl (hb hby d6_61) _ ?_
    show Steps _ _ _ (T7.setTop (mkF m 62 #[.val (.ref cv), .val (.ref b1), .val (.ref R), .val (.int 3), .val (.int 0), .val (.ref A), .val (.int (Int32.ofNat (xn + 1)))] [(.int 81)])) _
    refine XS.bipush X7.here hx rfl (hb hby d6_62) ?_
    refine XS.icmpYes X7.here hx rfl (pc0 := 64) (pc' := 73) rfl (hb hby d6_64) rfl (feq (by decide : ¬ ((81 : Int32) = (32 : Int32)))).2 (by decide) (by decide) ?_
    refine XS.aloadN X7.here hx rfl (hb hby d6_73) rfl rfl ?_
    refine XS.iload X7.here hx rfl (hb hby d6_74) rfl ?_
    refine XS.ifYes X7.here hx rfl (pc0 := 76) (pc' := 84) rfl (hb hby d6_76) rfl ((if0 _ _).trans (feq (fun q => absurd ((own_eq (j := 0) (by omega) (by omega)).mp q) (by omega))).2) (by decide) (by decide) ?_
    show Steps _ _ _ (T7.setTop (mkF m 84 #[.val (.ref cv), .val (.ref b1), .val (.ref R), .val (.int 3), .val (.int 0), .val (.ref A), .val (.int (Int32.ofNat (xn + 1)))] [(.ref b1)])) _
    refine st16 _ ?_
    show Steps _ _ _ (T16.setTop (mkF m 87 #[.val (.ref cv), .val (.ref b1), .val (.ref R), .val (.int 3), .val (.int 0), .val (.ref A), .val (.int (Int32.ofNat (xn + 1)))] [(.ref b16), (.ref b1)])) _
    refine XS.dup X16.here hx rfl (hb hby d6_87) rfl rfl ?_
    refine XS.aload X16.here hx rfl (hb hby d6_88) rfl rfl ?_
    refine XS.iconst X16.here hx rfl (hb hby d6_90) ?_
    refine XS.iload X16.here hx rfl (hb hby d6_91) rfl ?_
    show Steps _ _ _ (T16.setTop (mkF m 93 #[.val (.ref cv), .val (.ref b1), .val (.ref R), .val (.int 3), .val (.int 0), .val (.ref A), .val (.int (Int32.ofNat (xn + 1)))] [(.int (Int32.ofNat (xn + 1))), (.int 0), (.ref A), (.ref b16), (.ref b16), (.ref b1)])) _
    refine st17.trans ?_
    show Steps _ _ _ (T17.setTop (mkF m 96 #[.val (.ref cv), .val (.ref b1), .val (.ref R), .val (.int 3), .val (.int 0), .val (.ref A), .val (.int (Int32.ofNat (xn + 1)))] [(.ref b16), (.ref b1)])) _
    refine st24.trans ?_
    show Steps _ _ _ (T24.setTop (mkF m 101 #[.val (.ref cv), .val (.ref b1), .val (.ref R), .val (.int 3), .val (.int 0), .val (.ref A), .val (.int (Int32.ofNat (xn + 1)))] [(.int 1)])) _
    refine XS.pop X24.here hx rfl (hb hby d6_101) rfl rfl ?_
    refine XS.iinc X24.here hx rfl (hb hby d6_102) rfl (l' := #[.val (.ref cv), .val (.ref b1), .val (.ref R), .val (.int 3), .val (.int ((0 : Int32) + (1 : Int32))), .val (.ref A), .val (.int (Int32.ofNat (xn + 1)))]) rfl ?_
    show Steps _ _ _ (T24.setTop (mkF m 105 #[.val (.ref cv), .val (.ref b1), .val (.ref R), .val (.int 3), .val (.int ((0 : Int32) + (1 : Int32))), .val (.ref A), .val (.int (Int32.ofNat (xn + 1)))] [])) _
    rw [(by decide : ((0 : Int32) + (1 : Int32)) = (1 : Int32))]
    show Steps _ _ _ (T24.setTop (mkF m 105 #[.val (.ref cv), .val (.ref b1), .val (.ref R), .val (.int 3), .val (.int 1), .val (.ref A), .val (.int (Int32.ofNat (xn + 1)))] [])) _
    refine XS.goto X24.here hx rfl (pc0 := 105) (pc' := 24) rfl (hb hby d6_105) (by decide) (by decide) ?_
    refine XS.iload X24.here hx rfl (hb hby d6_24) rfl ?_
    refine XS.iloadN X24.here hx rfl (hb hby d6_26) rfl ?_
    refine XS.icmpNo X24.here hx rfl (hb hby d6_27) rfl (tlt (by decide : (1 : Int32) < (3 : Int32))).2.1 ?_
    refine XS.aloadN X24.here hx rfl (hb hby d6_30) rfl rfl ?_
    refine XS.iload X24.here hx rfl (hb hby d6_31) rfl ?_
    show Steps _ _ _ (T24.setTop (mkF m 33 #[.val (.ref cv), .val (.ref b1), .val (.ref R), .val (.int 3), .val (.int 1), .val (.ref A), .val (.int (Int32.ofNat (xn + 1)))] [(.int 1), (.ref R)])) _
    refine X24.aaload hx (j := (1 : Int32)) (v := .null) Ar28.1 (State.isArrayOf_alike hZ.alike Ar28.2.1) rfl Ar28.2.2 hin28 (H28.at hin28 rfl) (g := (mkF m 33 #[.val (.ref cv), .val (.ref b1), .val (.ref R), .val (.int 3), .val (.int 1), .val (.ref A), .val (.int (Int32.ofNat (xn + 1)))] [(.int 1), (.ref R)])) rfl rfl (hb hby d6_33) _ ?_
    show Steps _ _ _ (T24.setTop (mkF m 34 #[.val (.ref cv), .val (.ref b1), .val (.ref R), .val (.int 3), .val (.int 1), .val (.ref A), .val (.int (Int32.ofNat (xn + 1)))] [.null])) _
    refine XS.astore X24.here hx rfl (hb hby d6_34) rfl rfl (l' := #[.val (.ref cv), .val (.ref b1), .val (.ref R), .val (.int 3), .val (.int 1), .val .null, .val (.int (Int32.ofNat (xn + 1)))]) rfl ?_
    refine XS.aload X24.here hx rfl (hb hby d6_36) rfl rfl ?_
    refine XS.ifnonnullNo X24.here hx rfl (hb hby d6_38) rfl ?_
    refine XS.iconst X24.here hx rfl (hb hby d6_41) ?_
    refine XS.goto X24.here hx rfl (pc0 := 42) (pc' := 48) rfl (hb hby d6_42) (by decide) (by decide) ?_
    refine XS.istore X24.here hx rfl (hb hby d6_48) rfl (l' := #[.val (.ref cv), .val (.ref b1), .val (.ref R), .val (.int 3), .val (.int 1), .val .null, .val (.int 0)]) rfl ?_
    refine XS.iload X24.here hx rfl (hb hby d6_50) rfl ?_
    refine XS.ifYes X24.here hx rfl (pc0 := 52) (pc' := 73) rfl (hb hby d6_52) rfl ((if0 _ _).trans (flt (by decide : ¬ ((0 : Int32) < (0 : Int32)))).2.2.2) (by decide) (by decide) ?_
    refine XS.aloadN X24.here hx rfl (hb hby d6_73) rfl rfl ?_
    refine XS.iload X24.here hx rfl (hb hby d6_74) rfl ?_
    refine XS.ifNo X24.here hx rfl (hb hby d6_76) rfl ((if0 _ _).trans (teq (by decide : (0 : Int32) = (0 : Int32))).2) ?_
    show Steps _ _ _ (T24.setTop (mkF m 79 #[.val (.ref cv), .val (.ref b1), .val (.ref R), .val (.int 3), .val (.int 1), .val .null, .val (.int 0)] [(.ref b1)])) _
    refine st30 _ ?_
    show Steps _ _ _ (T30.setTop (mkF m 81 #[.val (.ref cv), .val (.ref b1), .val (.ref R), .val (.int 3), .val (.int 1), .val .null, .val (.int 0)] [(.ref b30), (.ref b1)])) _
    refine XS.goto X30.here hx rfl (pc0 := 81) (pc' := 96) rfl (hb hby d6_81) (by decide) (by decide) ?_
    show Steps _ _ _ (T30.setTop (mkF m 96 #[.val (.ref cv), .val (.ref b1), .val (.ref R), .val (.int 3), .val (.int 1), .val .null, .val (.int 0)] [(.ref b30), (.ref b1)])) _
    refine st35.trans ?_
    show Steps _ _ _ (T35.setTop (mkF m 101 #[.val (.ref cv), .val (.ref b1), .val (.ref R), .val (.int 3), .val (.int 1), .val .null, .val (.int 0)] [(.int 1)])) _
    refine XS.pop X35.here hx rfl (hb hby d6_101) rfl rfl ?_
    refine XS.iinc X35.here hx rfl (hb hby d6_102) rfl (l' := #[.val (.ref cv), .val (.ref b1), .val (.ref R), .val (.int 3), .val (.int ((1 : Int32) + (1 : Int32))), .val .null, .val (.int 0)]) rfl ?_
    show Steps _ _ _ (T35.setTop (mkF m 105 #[.val (.ref cv), .val (.ref b1), .val (.ref R), .val (.int 3), .val (.int ((1 : Int32) + (1 : Int32))), .val .null, .val (.int 0)] [])) _
    rw [(by decide : ((1 : Int32) + (1 : Int32)) = (2 : Int32))]
    show Steps _ _ _ (T35.setTop (mkF m 105 #[.val (.ref cv), .val (.ref b1), .val (.ref R), .val (.int 3), .val (.int 2), .val .null, .val (.int 0)] [])) _
    refine XS.goto X35.here hx rfl (pc0 := 105) (pc' := 24) rfl (hb hby d6_105) (by decide) (by decide) ?_
    refine XS.iload X35.here hx rfl (hb hby d6_24) rfl ?_
    refine XS.iloadN X35.here hx rfl (hb hby d6_26) rfl ?_
    refine XS.icmpNo X35.here hx rfl (hb hby d6_27) rfl (tlt (by decide : (2 : Int32) < (3 : Int32))).2.1 ?_
    refine XS.aloadN X35.here hx rfl (hb hby d6_30) rfl rfl ?_
    refine XS.iload X35.here hx rfl (hb hby d6_31) rfl ?_
    show Steps _ _ _ (T35.setTop (mkF m 33 #[.val (.ref cv), .val (.ref b1), .val (.ref R), .val (.int 3), .val (.int 2), .val .null, .val (.int 0)] [(.int 2), (.ref R)])) _
    refine X35.aaload hx (j := (2 : Int32)) (v := .null) Ar39.1 (State.isArrayOf_alike hZ30.alike Ar39.2.1) rfl Ar39.2.2 hin39 (H39.at hin39 rfl) (g := (mkF m 33 #[.val (.ref cv), .val (.ref b1), .val (.ref R), .val (.int 3), .val (.int 2), .val .null, .val (.int 0)] [(.int 2), (.ref R)])) rfl rfl (hb hby d6_33) _ ?_
    show Steps _ _ _ (T35.setTop (mkF m 34 #[.val (.ref cv), .val (.ref b1), .val (.ref R), .val (.int 3), .val (.int 2), .val .null, .val (.int 0)] [.null])) _
    refine XS.astore X35.here hx rfl (hb hby d6_34) rfl rfl (l' := #[.val (.ref cv), .val (.ref b1), .val (.ref R), .val (.int 3), .val (.int 2), .val .null, .val (.int 0)]) rfl ?_
    refine XS.aload X35.here hx rfl (hb hby d6_36) rfl rfl ?_
    refine XS.ifnonnullNo X35.here hx rfl (hb hby d6_38) rfl ?_
    refine XS.iconst X35.here hx rfl (hb hby d6_41) ?_
    refine XS.goto X35.here hx rfl (pc0 := 42) (pc' := 48) rfl (hb hby d6_42) (by decide) (by decide) ?_
    refine XS.istore X35.here hx rfl (hb hby d6_48) rfl (l' := #[.val (.ref cv), .val (.ref b1), .val (.ref R), .val (.int 3), .val (.int 2), .val .null, .val (.int 0)]) rfl ?_
    refine XS.iload X35.here hx rfl (hb hby d6_50) rfl ?_
    refine XS.ifYes X35.here hx rfl (pc0 := 52) (pc' := 73) rfl (hb hby d6_52) rfl ((if0 _ _).trans (flt (by decide : ¬ ((0 : Int32) < (0 : Int32)))).2.2.2) (by decide) (by decide) ?_
    refine XS.aloadN X35.here hx rfl (hb hby d6_73) rfl rfl ?_
    refine XS.iload X35.here hx rfl (hb hby d6_74) rfl ?_
    refine XS.ifNo X35.here hx rfl (hb hby d6_76) rfl ((if0 _ _).trans (teq (by decide : (0 : Int32) = (0 : Int32))).2) ?_
    show Steps _ _ _ (T35.setTop (mkF m 79 #[.val (.ref cv), .val (.ref b1), .val (.ref R), .val (.int 3), .val (.int 2), .val .null, .val (.int 0)] [(.ref b1)])) _
    refine st41 _ ?_
    show Steps _ _ _ (T41.setTop (mkF m 81 #[.val (.ref cv), .val (.ref b1), .val (.ref R), .val (.int 3), .val (.int 2), .val .null, .val (.int 0)] [(.ref b41), (.ref b1)])) _
    refine XS.goto X41.here hx rfl (pc0 := 81) (pc' := 96) rfl (hb hby d6_81) (by decide) (by decide) ?_
    show Steps _ _ _ (T41.setTop (mkF m 96 #[.val (.ref cv), .val (.ref b1), .val (.ref R), .val (.int 3), .val (.int 2), .val .null, .val (.int 0)] [(.ref b41), (.ref b1)])) _
    refine st46.trans ?_
    show Steps _ _ _ (T46.setTop (mkF m 101 #[.val (.ref cv), .val (.ref b1), .val (.ref R), .val (.int 3), .val (.int 2), .val .null, .val (.int 0)] [(.int 1)])) _
    refine XS.pop X46.here hx rfl (hb hby d6_101) rfl rfl ?_
    refine XS.iinc X46.here hx rfl (hb hby d6_102) rfl (l' := #[.val (.ref cv), .val (.ref b1), .val (.ref R), .val (.int 3), .val (.int ((2 : Int32) + (1 : Int32))), .val .null, .val (.int 0)]) rfl ?_
    show Steps _ _ _ (T46.setTop (mkF m 105 #[.val (.ref cv), .val (.ref b1), .val (.ref R), .val (.int 3), .val (.int ((2 : Int32) + (1 : Int32))), .val .null, .val (.int 0)] [])) _
    rw [(by decide : ((2 : Int32) + (1 : Int32)) = (3 : Int32))]
    show Steps _ _ _ (T46.setTop (mkF m 105 #[.val (.ref cv), .val (.ref b1), .val (.ref R), .val (.int 3), .val (.int 3), .val .null, .val (.int 0)] [])) _
    refine XS.goto X46.here hx rfl (pc0 := 105) (pc' := 24) rfl (hb hby d6_105) (by decide) (by decide) ?_
    refine XS.iload X46.here hx rfl (hb hby d6_24) rfl ?_
    refine XS.iloadN X46.here hx rfl (hb hby d6_26) rfl ?_
    refine XS.icmpYes X46.here hx rfl (pc0 := 27) (pc' := 108) rfl (hb hby d6_27) rfl (flt (by decide : ¬ ((3 : Int32) < (3 : Int32)))).2.1 (by decide) (by decide) ?_
    refine XS.aloadN X46.here hx rfl (hb hby d6_108) rfl rfl ?_
    show Steps _ _ _ (T46.setTop (mkF m 109 #[.val (.ref cv), .val (.ref b1), .val (.ref R), .val (.int 3), .val (.int 3), .val .null, .val (.int 0)] [(.ref b1)])) _
    jvm_step X46.here [X46.here.top, hx, (hb hby d6_109), X46.method', Bd.returns, Value.isRef, FieldType.isReference]
    first | (intro acts; rw [hr _ acts rfl rfl rfl]) | rw [hr _ _ rfl rfl rfl]
    exact Steps.refl _
  · show own_LN Z (own_q xn) [] [] h0 n0 _ T46.heap _
    exact ⟨b1, t6, k6q, b16, b30, b41, rfl, N46, ((((((((((Keep.refl h0 []).ext E1).trans Kq6 (allS (P := fun zz => zz ∈ ([] : List Addr) ∨ h0.size ≤ zz) (Or.inr sz_b1) all0)).ext E16).trans Kq17 (allS (P := fun zz => zz ∈ ([] : List Addr) ∨ h0.size ≤ zz) (Or.inr sz_b16) all0)).trans Kq24 (allS (P := fun zz => zz ∈ ([] : List Addr) ∨ h0.size ≤ zz) (Or.inr sz_b1) (allS (P := fun zz => zz ∈ ([] : List Addr) ∨ h0.size ≤ zz) (Or.inr szt6) all0))).ext E30).trans Kq35 (allS (P := fun zz => zz ∈ ([] : List Addr) ∨ h0.size ≤ zz) (Or.inr sz_b1) (allS (P := fun zz => zz ∈ ([] : List Addr) ∨ h0.size ≤ zz) (Or.inr szt6) all0))).ext E41).trans Kq46 (allS (P := fun zz => zz ∈ ([] : List Addr) ∨ h0.size ≤ zz) (Or.inr sz_b1) (allS (P := fun zz => zz ∈ ([] : List Addr) ∨ h0.size ≤ zz) (Or.inr szt6) all0))), E46q, Fe46q, Fs46q, V46q, ⟨bs17, ks17, f50, f51, f52, f53, hps17, hls17⟩, ⟨d30, kb30, f54, f55, f56, f57, (fun _ q => nomatch q), (Nat.zero_le _)⟩, ⟨d41, kb41, f58, f59, f60, f61, (fun _ q => nomatch q), (Nat.zero_le _)⟩⟩
theorem rmLS1 (l : Launch) (Z : State) (a0 : Array Value) (hw : ∀ d ∈ tables_1, d.before a0 Z = true) (ws : List Jvm.Cond) (G1 : Int32) (G3 : Value) (cv : Addr) (R : Addr) (kR : ClassId) (q1 : Int32) (q2 : Int32) (q3 : Int32) (q4 : Int32) (A : Addr) (kA : ClassId) (xn : Nat) (h0 : Heap) (n0 : Nat) (Z0 : n0 ≤ h0.size) (EN : own_env Z G1 G3) (X00 : Old Z n0 h0) (E_cv : Exa Z h0 cv "dev/treefold/text/Canvas") (F_width_cv : Fld Z h0 cv "dev/treefold/text/Canvas" "width" "I" (.int 4)) (F_rows_cv : Fld Z h0 cv "dev/treefold/text/Canvas" "rows" "[[I" (.ref R)) (F_clipLeft_cv : Fld Z h0 cv "dev/treefold/text/Canvas" "clipLeft" "I" (.int q1)) (F_clipTop_cv : Fld Z h0 cv "dev/treefold/text/Canvas" "clipTop" "I" (.int q2)) (F_clipRight_cv : Fld Z h0 cv "dev/treefold/text/Canvas" "clipRight" "I" (.int q3)) (F_clipBottom_cv : Fld Z h0 cv "dev/treefold/text/Canvas" "clipBottom" "I" (.int q4)) (V_R : Arv Z h0 R kR (.array .int) (3 : Int32) [.null, (.ref A), .null] .null) (V_A : Arv Z h0 A kA .int (Int32.ofNat (xn + 1)) (own_row xn) (.int 0)) (hxn : xn < 4) :
    MetFree l y_40 (head1 (Jvm.Cond.code y_40 prog_104_method_3_code 7 (some (.object "java/util/List")) :: ws) ({ frames := 4, cells := 8, slots := 22, locals := 50 } : Room)) (fun a_ U_ => a_ = #[(.ref cv)] ∧ Z.Warmed39 U_.vm ∧ U_.heap = h0 ∧ CHv Z consts_1 U_.vm h0) (fun _ _ _ _ _ => True) (fun _ U_ o_ U1_ => ∃ v_ L_, o_ = .returned v_ ∧ own_LN Z [] (own_q xn) [] h0 n0 v_ U1_.heap L_ ∧ ReturnedEndW U_ o_ U1_ L_ ({ frames := 4, cells := 8, slots := 22, locals := 50 } : Room).cells ({ frames := 4, cells := 8, slots := 22, locals := 50 } : Room).slots) := by
  refine MetFree.of_bodySF (plainFor_of_name pn_6) hisR ?_
  intro p e s m args below meth c s₁ Bd hml0 hP hK
  obtain ⟨rfl, hZ, hh, H0⟩ := hP
  have hx := Bd.exec
  have hby := Bd.bytes
  have hml : c.maxLocals = 7 := hml0
  have hown : s.vm.findClass "dev/treefold/text/Canvas" = some m.cls := findClass_of_methodNamed Bd.named
  have hnm := (name_of_methodNamed Bd.named Bd.method).1
  have X0 : Stand p l e ({ frames := 4, cells := 8, slots := 22, locals := 50 } : Room) s m #[(.ref cv)] below meth c s₁ [] 0 0 := Stand.of_body Bd
  have e0 : s₁.heap = h0 := by rw [← hh, Bd.state]; rfl
  have N0 := Fr.nil n0
  have pre0 : ∀ tt, Steps p.tables e below (s₁.setTop (mkF m 0 #[.val (.ref cv), .unset, .unset, .unset, .unset, .unset, .unset] [])) tt → Steps p.tables e below (s₁.setTop (entryFrame m #[(.ref cv)] 7)) tt := fun tt kk => castTop (ef_6_r m cv) kk
  have hS0 : s.Since s.vm 0 := (State.WarmedH.refl s).since 0
  have hk0 : 0 ≤ h0.size := Nat.zero_le _
  have EN0 := EN
  obtain ⟨O2, P5, O4, rG3⟩ := EN
  obtain ⟨T1, h1, X1, e1, E1, A1, D1, -, st1⟩ := newO X0 hx hZ hown (hw _ (tk 53 rfl)) (hw _ (tk 54 rfl)) (hw _ (tk 55 rfl)) e0 (g := (mkF m 0 #[.val (.ref cv), .unset, .unset, .unset, .unset, .unset, .unset] [])) rfl (hb hby d6_0) (by decide) (by decide)
  obtain ⟨b1, g1⟩ : ∃ z, z = h0.size := ⟨_, rfl⟩
  rw [← g1] at A1 D1 st1
  have g_b1 : n0 ≤ b1 := Nat.le_trans Z0 (Nat.le_of_eq g1.symm)
  have sz_b1 : h0.size ≤ b1 := Nat.le_trans (Nat.le_refl _) (Nat.le_of_eq g1.symm)
  have F1_modCount : Fld Z h1 b1 "java/util/AbstractList" "modCount" "I" (.int 0) := D1 (Or.inl (hw _ (tk 73 rfl))) (ty := .int) (by decide)
  have F1_elementData : Fld Z h1 b1 "java/util/ArrayList" "elementData" "[Ljava/lang/Object;" .null := D1 (Or.inl (hw _ (tk 77 rfl))) (ty := (.array (.object "java/lang/Object"))) (by decide)
  have F1_size : Fld Z h1 b1 "java/util/ArrayList" "size" "I" (.int 0) := D1 (Or.inl (hw _ (tk 91 rfl))) (ty := .int) (by decide)
  have f3 := (F_rows_cv.ext E1)
  obtain ⟨T2, X2, e2, st2⟩ := getF X1 hx hZ hown (host := "") (Or.inl (hw _ (tk 14 rfl))) Via.refl e1 f3 (g := (mkF m 5 #[.val (.ref cv), .unset, .unset, .unset, .unset, .unset, .unset] [(.ref cv), (.ref b1), (.ref b1)])) rfl rfl (hb hby d6_5)
  have f5 := (V_R.ext E1)
  obtain ⟨c4, Ar4, -, S4, M4, -, -⟩ := id f5
  obtain ⟨_, _, ⟨T6, L6, k6, n6⟩, -, X6, ⟨Lc6, hQ6, l6, y6, z6⟩, st6⟩ := X2.specialBack hx (y := y_34) rfl hown (mvT hZ (hw _ (tk 56 rfl))) (mvT hZ (hw _ (tk 57 rfl))) (mvT hZ (hw _ (tk 58 rfl))) (by decide) (backOf (W := 1) (rmAL l Z a0 hw [] b1 h1 n0 (Nat.le_trans Z0 E1.1) A1 F1_modCount F1_elementData F1_size g_b1) hZ (hw _ (tk 58 rfl)) (hw _ (tk 55 rfl)) (by decide) (by decide)) (g := (mkF m 9 #[.val (.ref cv), .unset, .unset, .unset, .unset, .unset, .unset] [(.int 3), (.ref b1), (.ref b1)])) rfl (by rw [hml]; rfl) (Steps.refl _) (a := b1) (argsL := [(.int 3)]) (rest := [(.ref b1)]) (lenOf pd__I_V rfl) rfl (by show 2 * 0 + _ ≤ _; exact Nat.le_of_eq rfl) (hb hby d6_9) (fun _ _ => ⟨rfl, e2, (by decide : 1 + 1 ≤ _), (by decide : 3 + 3 ≤ _)⟩)
  dsimp only [Pt.U, Pt.locs, Pt.cells, Pt.slots] at X6 l6 y6 z6 st6 hQ6
  subst l6 y6 z6
  obtain ⟨t6, k6q, rfl, Nq6, gt6, st_6, Kq6, E6q, Fm6q, Fe6q, Fs6q, Vt6, O6q⟩ := hQ6
  have N6 := Fr.app N0 Nq6
  have szt6 : h0.size ≤ t6 := Nat.le_trans E1.1 st_6
  have f8 := (f3.keep Kq6 (ninS (Nat.ne_of_lt (Nat.lt_of_lt_of_le E_cv.lt (Nat.le_of_eq g1.symm))) nin0))
  obtain ⟨T7, X7, e7, st7⟩ := getF X6 hx hZ hown (host := "") (Or.inl (hw _ (tk 14 rfl))) Via.refl rfl f8 (g := (mkF m 14 #[.val (.ref cv), .val (.ref b1), .unset, .unset, .unset, .unset, .unset] [(.ref cv)])) rfl rfl (hb hby d6_14)
  have f10 := (f5.keep Kq6 (ninS (Nat.ne_of_lt (Nat.lt_of_lt_of_le V_R.lt (Nat.le_of_eq g1.symm))) nin0))
  obtain ⟨c9, Ar9, -, S9, M9, -, -⟩ := id f10
  obtain ⟨c11, Ar11, -, S11, M11, H11, -⟩ := id f10
  have hin11 := inb_of (j := (0 : Int32)) S11 ⟨by decide, by decide⟩
  have C13 := CHr.keep (((Keep.refl h0 []).ext E1).trans Kq6 (allS (P := fun zz => zz ∈ ([] : List Addr) ∨ h0.size ≤ zz) (Or.inr sz_b1) all0)) sf0 H0
  obtain ⟨b12, T12, h12, k12, d12, kb12, X12, e12, E12, hS12, hk12, hZ12, hown12, Ea12, Ca12, Va12, Ka12, la12, lb12, Cx12, -, ne12, st12⟩ := ldcCH (s := s) (vm0 := s.vm) X7 hx hZ hown (hw _ (tk 78 rfl)) (fun d hd => hw d (own_wS d hd)) e7 hS0 (Nat.le_trans hk0 (Nat.le_trans E1.1 Kq6.1)) (own_EW hw) own_mem87 C13.1 (vs := []) (z := 0) ⟨by decide, rfl⟩ (by decide) rfl (g := (mkF m 79 #[.val (.ref cv), .val (.ref b1), .val (.ref R), .val (.int 3), .val (.int 0), .val .null, .val (.int 0)] [(.ref b1)])) rfl (hb hby d6_79) (n := 0) (by decide) (by decide) (by decide) (by decide)
  have C12 := CHr.trans C13 Cx12
  have f15 := (E6q.ext E12)
  have f16 := (Vt6.ext E12)
  have na14 := Exa.ne Ea12 f15 (by decide)
  have nb14 := Exa.neArv Ea12 f16 (hw _ (tk 37 rfl))
  have nc14 := Exa.neArv f15 Ka12 (hw _ (tk 54 rfl))
  have nd14 := own_neA Ka12 f16 nofun
  have f18 := (Fm6q.ext E12)
  have f19 := (Fe6q.ext E12)
  have f20 := (Fs6q.ext E12)
  obtain ⟨cq17, kq17, q17a, q17b, q17c⟩ := isOf hZ12 e12 f15
  obtain ⟨_, _, ⟨T17, L17, k17, n17⟩, -, X17, ⟨Lc17, hQ17, l17, y17, z17⟩, st17⟩ := X12.interfaceBack hx (xi := y_41) (y := y_36) hown12 (mvT hZ12 (hw _ (tk 79 rfl))) (mvT hZ12 (hw _ (tk 80 rfl))) (mvT hZ12 (hw _ (tk 81 rfl))) (mvT hZ12 (hw _ (tk 82 rfl))) (mvT hZ12 (hw _ (tk 83 rfl))) (mvT hZ12 (hw _ (tk 84 rfl))) (mvT hZ12 (hw _ (tk 85 rfl))) (mvT hZ12 (hw _ (tk 86 rfl))) (by decide) (backOf (W := 0) (rmA0 l Z a0 hw [] b1 b12 t6 k6q (0 : Int32)  h12 n0 (Nat.le_trans Z0 (Nat.le_trans (Nat.le_trans E1.1 Kq6.1) E12.1)) f15 f18 f19 f20 g_b1 Ea12 f16 gt6 O6q) hZ12 (hw _ (tk 87 rfl)) (hw _ (tk 55 rfl)) (by decide) (by decide)) q17a q17b q17c (g := (mkF m 96 #[.val (.ref cv), .val (.ref b1), .val (.ref R), .val (.int 3), .val (.int 0), .val .null, .val (.int 0)] [(.ref b12), (.ref b1)])) rfl (by rw [hml]; rfl) (Steps.refl _) (argsL := [(.ref b12)]) (rest := []) (lenOf pd__Ljava_lang_Object__Z rfl) rfl (by show 2 * 0 + _ ≤ _; exact Nat.le_of_eq rfl) (hb hby d6_96) (fun _ _ => ⟨rfl, e12, (by decide : 4 + 0 ≤ _), (by decide : 10 + 0 ≤ _)⟩)
  dsimp only [Pt.U, Pt.locs, Pt.cells, Pt.slots] at X17 l17 y17 z17 st17 hQ17
  subst l17 y17 z17
  obtain ⟨rfl, Nq17, Kq17, E17q, Fm17q, Fe17q, Fs17q, V17q⟩ := hQ17
  have N17 := Fr.app N6 Nq17
  have f22 := ((f10.ext E12).keep Kq17 (ninS (Nat.ne_of_lt (Nat.lt_of_lt_of_le V_R.lt (Nat.le_of_eq g1.symm))) (ninS (Nat.ne_of_lt (Nat.lt_of_lt_of_le (Nat.lt_of_lt_of_le V_R.lt E1.1) st_6)) nin0)))
  obtain ⟨c21, Ar21, -, S21, M21, H21, -⟩ := id f22
  have hin21 := inb_of (j := (1 : Int32)) S21 ⟨by decide, by decide⟩
  have f24 := ((((V_A.ext E1).keep Kq6 (ninS (Nat.ne_of_lt (Nat.lt_of_lt_of_le V_A.lt (Nat.le_of_eq g1.symm))) nin0)).ext E12).keep Kq17 (ninS (Nat.ne_of_lt (Nat.lt_of_lt_of_le V_A.lt (Nat.le_of_eq g1.symm))) (ninS (Nat.ne_of_lt (Nat.lt_of_lt_of_le (Nat.lt_of_lt_of_le V_A.lt E1.1) st_6)) nin0)))
  obtain ⟨c23, Ar23, -, S23, M23, -, -⟩ := id f24
  obtain ⟨c25, Ar25, -, S25, M25, H25, -⟩ := id f24
  have hin25 := inb_of (j := (Int32.ofNat xn)) S25 (own_in (j := xn) (n := xn + 1) (by omega) (by omega))
  have C26 := CHr.trans C12 (CHr.keep Kq17 (sfS (Safe.exa hZ12.alike f15 (by decide) (by decide)) (sfS (own_safeV hZ12 f16 nofun) sf0)) C12.1)
  obtain ⟨T27, h27, X27, e27, E27, A27, D27, -, st27⟩ := newO X17 hx hZ12 hown12 (hw _ (tk 224 rfl)) (hw _ (tk 37 rfl)) (hw _ (tk 36 rfl)) rfl (g := (mkF m 84 #[.val (.ref cv), .val (.ref b1), .val (.ref R), .val (.int 3), .val (.int 1), .val (.ref A), .val (.int (Int32.ofNat (xn + 1)))] [(.ref b1)])) rfl (hb hby d6_84) (by decide) (by decide)
  obtain ⟨b27, g27⟩ : ∃ z, z = T17.heap.size := ⟨_, rfl⟩
  rw [← g27] at A27 D27 st27
  have g_b27 : n0 ≤ b27 := Nat.le_trans (Nat.le_trans Z0 (Nat.le_trans (Nat.le_trans (Nat.le_trans E1.1 Kq6.1) E12.1) Kq17.1)) (Nat.le_of_eq g27.symm)
  have sz_b27 : h0.size ≤ b27 := Nat.le_trans (Nat.le_trans (Nat.le_trans (Nat.le_trans E1.1 Kq6.1) E12.1) Kq17.1) (Nat.le_of_eq g27.symm)
  have F27_value : Fld Z h27 b27 "java/lang/String" "value" "[B" .null := D27 (Or.inr (hw _ (tk 39 rfl))) (ty := (.array .byte)) (by decide)
  have F27_coder : Fld Z h27 b27 "java/lang/String" "coder" "B" (.int 0) := D27 (Or.inr (hw _ (tk 40 rfl))) (ty := .byte) (by decide)
  have C29 := CHr.trans C26 (CHr.ext E27 C26.1)
  have f30 := (((((X00.ext E1).keep Kq6 (allS g_b1 all0)).ext E12).keep Kq17 (allS g_b1 (allS gt6 all0))).ext E27)
  have f31 := (f24.ext E27)
  obtain ⟨_, _, ⟨T28, L28, k28, n28⟩, -, X28, ⟨Lc28, hQ28, l28, y28, z28⟩, st28⟩ := X27.specialBack hx (y := y_31) rfl hown12 (mvT hZ12 (hw _ (tk 225 rfl))) (mvT hZ12 (hw _ (tk 226 rfl))) (mvT hZ12 (hw _ (tk 227 rfl))) (by decide) (backOf (W := 2) (rmSIn l Z a0 hw [] G1 G3 b27 A kA (own_q xn) (xn + 1) (own_ql xn) h27 n0 (Nat.le_trans Z0 (Nat.le_trans (Nat.le_trans (Nat.le_trans (Nat.le_trans E1.1 Kq6.1) E12.1) Kq17.1) E27.1)) EN0 f30 A27 F27_coder F27_value g_b27 f31 (by rw [own_ql]; omega) (by rw [own_ql]; omega) (own_hqx xn)) hZ12 (hw _ (tk 227 rfl)) (hw _ (tk 36 rfl)) (by decide) (by decide)) (g := (mkF m 93 #[.val (.ref cv), .val (.ref b1), .val (.ref R), .val (.int 3), .val (.int 1), .val (.ref A), .val (.int (Int32.ofNat (xn + 1)))] [(.int (Int32.ofNat (xn + 1))), (.int 0), (.ref A), (.ref b27), (.ref b27), (.ref b1)])) rfl (by rw [hml]; rfl) (Steps.refl _) (a := b27) (argsL := [(.ref A), (.int 0), (.int (Int32.ofNat (xn + 1)))]) (rest := [(.ref b27), (.ref b1)]) (lenOf pd___III_V rfl) rfl (by show 2 * 0 + _ ≤ _; exact Nat.le_of_eq rfl) (hb hby d6_93) (fun _ _ => ⟨rfl, e27, (by decide : 5 + 1 ≤ _), (by decide : 14 + 4 ≤ _)⟩)
  dsimp only [Pt.U, Pt.locs, Pt.cells, Pt.slots] at X28 l28 y28 z28 st28 hQ28
  subst l28 y28 z28
  obtain ⟨rfl, Nq28, Kq28, sq28⟩ := hQ28
  have N28 := Fr.app N17 Nq28
  obtain ⟨bs28, ks28, Es28, Cs28, Vs28, Ks28, hps28, hls28⟩ := sq28
  have f33 := ((E17q.ext E27).keep Kq28)
  have f34 := ((V17q.ext E27).keep Kq28 (ninS (Nat.ne_of_lt (Nat.lt_of_lt_of_le (Nat.lt_of_lt_of_le Vt6.lt (Nat.le_trans E12.1 Kq17.1)) (Nat.le_of_eq g27.symm))) nin0))
  have na32 := Exa.ne Es28 f33 (by decide)
  have nb32 := Exa.neArv Es28 f34 (hw _ (tk 37 rfl))
  have nc32 := Exa.neArv f33 Ks28 (hw _ (tk 54 rfl))
  have nd32 := own_neA Ks28 f34 nofun
  have f36 := ((Fm17q.ext E27).keep Kq28 (ninS (Ne.symm na32) nin0))
  have f37 := ((Fe17q.ext E27).keep Kq28 (ninS (Ne.symm na32) nin0))
  have f38 := ((Fs17q.ext E27).keep Kq28 (ninS (Ne.symm na32) nin0))
  obtain ⟨cq35, kq35, q35a, q35b, q35c⟩ := isOf hZ12 rfl f33
  obtain ⟨_, _, ⟨T35, L35, k35, n35⟩, -, X35, ⟨Lc35, hQ35, l35, y35, z35⟩, st35⟩ := X28.interfaceBack hx (xi := y_41) (y := y_36) hown12 (mvT hZ12 (hw _ (tk 79 rfl))) (mvT hZ12 (hw _ (tk 80 rfl))) (mvT hZ12 (hw _ (tk 81 rfl))) (mvT hZ12 (hw _ (tk 82 rfl))) (mvT hZ12 (hw _ (tk 83 rfl))) (mvT hZ12 (hw _ (tk 84 rfl))) (mvT hZ12 (hw _ (tk 85 rfl))) (mvT hZ12 (hw _ (tk 86 rfl))) (by decide) (backOf (W := 0) (rmA1 l Z a0 hw [] b1 b27 t6 k6q ((0 : Int32) + (1 : Int32)) b12 T28.heap n0 (Nat.le_trans Z0 (Nat.le_trans (Nat.le_trans (Nat.le_trans (Nat.le_trans (Nat.le_trans E1.1 Kq6.1) E12.1) Kq17.1) E27.1) Kq28.1)) f33 f36 f37 f38 g_b1 Es28 f34 gt6 O6q) hZ12 (hw _ (tk 87 rfl)) (hw _ (tk 55 rfl)) (by decide) (by decide)) q35a q35b q35c (g := (mkF m 96 #[.val (.ref cv), .val (.ref b1), .val (.ref R), .val (.int 3), .val (.int 1), .val (.ref A), .val (.int (Int32.ofNat (xn + 1)))] [(.ref b27), (.ref b1)])) rfl (by rw [hml]; rfl) (Steps.refl _) (argsL := [(.ref b27)]) (rest := []) (lenOf pd__Ljava_lang_Object__Z rfl) rfl (by show 2 * 0 + _ ≤ _; exact Nat.le_of_eq rfl) (hb hby d6_96) (fun _ _ => ⟨rfl, rfl, (by decide : 6 + 0 ≤ _), (by decide : 18 + 0 ≤ _)⟩)
  dsimp only [Pt.U, Pt.locs, Pt.cells, Pt.slots] at X35 l35 y35 z35 st35 hQ35
  subst l35 y35 z35
  obtain ⟨rfl, Nq35, Kq35, E35q, Fm35q, Fe35q, Fs35q, V35q⟩ := hQ35
  have N35 := Fr.app N28 Nq35
  have f40 := (((f22.ext E27).keep Kq28 (ninS (Nat.ne_of_lt (Nat.lt_of_lt_of_le (Nat.lt_of_lt_of_le V_R.lt (Nat.le_trans (Nat.le_trans (Nat.le_trans E1.1 Kq6.1) E12.1) Kq17.1)) (Nat.le_of_eq g27.symm))) nin0)).keep Kq35 (ninS (Nat.ne_of_lt (Nat.lt_of_lt_of_le V_R.lt (Nat.le_of_eq g1.symm))) (ninS (Nat.ne_of_lt (Nat.lt_of_lt_of_le (Nat.lt_of_lt_of_le V_R.lt E1.1) st_6)) nin0)))
  obtain ⟨c39, Ar39, -, S39, M39, H39, -⟩ := id f40
  have hin39 := inb_of (j := (2 : Int32)) S39 ⟨by decide, by decide⟩
  have C42 := CHr.trans C29 (CHr.keep Kq28 (sfS (Safe.ext E27 C26.1 (Safe.new (Nat.le_of_eq g27.symm))) sf0) C29.1)
  have C43 := CHr.trans C42 (CHr.keep Kq35 (sfS (Safe.exa hZ12.alike f33 (by decide) (by decide)) (sfS (own_safeV hZ12 f34 nofun) sf0)) C42.1)
  obtain ⟨b41, T41, h41, k41, d41, kb41, X41, e41, E41, hS41, hk41, hZ41, hown41, Ea41, Ca41, Va41, Ka41, la41, lb41, Cx41, -, ne41, st41⟩ := ldcCH (s := s) (vm0 := T12.vm) X35 hx hZ12 hown12 (hw _ (tk 78 rfl)) (fun d hd => hw d (own_wS d hd)) rfl hS12 (Nat.le_trans hk12 (Nat.le_trans (Nat.le_trans (Nat.le_trans Kq17.1 E27.1) Kq28.1) Kq35.1)) (own_EW hw) own_mem87 C43.1 (vs := []) (z := 0) ⟨by decide, rfl⟩ (by decide) rfl (g := (mkF m 79 #[.val (.ref cv), .val (.ref b1), .val (.ref R), .val (.int 3), .val (.int 2), .val .null, .val (.int 0)] [(.ref b1)])) rfl (hb hby d6_79) (n := 0) (by decide) (by decide) (by decide) (by decide)
  have C41 := CHr.trans C43 Cx41
  have f45 := (E35q.ext E41)
  have f46 := (V35q.ext E41)
  have na44 := Exa.ne Ea41 f45 (by decide)
  have nb44 := Exa.neArv Ea41 f46 (hw _ (tk 37 rfl))
  have nc44 := Exa.neArv f45 Ka41 (hw _ (tk 54 rfl))
  have nd44 := own_neA Ka41 f46 nofun
  have f48 := (Fm35q.ext E41)
  have f49 := (Fe35q.ext E41)
  have f50 := (Fs35q.ext E41)
  obtain ⟨cq47, kq47, q47a, q47b, q47c⟩ := isOf hZ41 e41 f45
  obtain ⟨_, _, ⟨T47, L47, k47, n47⟩, -, X47, ⟨Lc47, hQ47, l47, y47, z47⟩, st47⟩ := X41.interfaceBack hx (xi := y_41) (y := y_36) hown41 (mvT hZ41 (hw _ (tk 79 rfl))) (mvT hZ41 (hw _ (tk 80 rfl))) (mvT hZ41 (hw _ (tk 81 rfl))) (mvT hZ41 (hw _ (tk 82 rfl))) (mvT hZ41 (hw _ (tk 83 rfl))) (mvT hZ41 (hw _ (tk 84 rfl))) (mvT hZ41 (hw _ (tk 85 rfl))) (mvT hZ41 (hw _ (tk 86 rfl))) (by decide) (backOf (W := 0) (rmA2 l Z a0 hw [] b1 b41 t6 k6q (((0 : Int32) + (1 : Int32)) + (1 : Int32)) b12 b27 h41 n0 (Nat.le_trans Z0 (Nat.le_trans (Nat.le_trans (Nat.le_trans (Nat.le_trans (Nat.le_trans (Nat.le_trans (Nat.le_trans E1.1 Kq6.1) E12.1) Kq17.1) E27.1) Kq28.1) Kq35.1) E41.1)) f45 f48 f49 f50 g_b1 Ea41 f46 gt6 O6q) hZ41 (hw _ (tk 87 rfl)) (hw _ (tk 55 rfl)) (by decide) (by decide)) q47a q47b q47c (g := (mkF m 96 #[.val (.ref cv), .val (.ref b1), .val (.ref R), .val (.int 3), .val (.int 2), .val .null, .val (.int 0)] [(.ref b41), (.ref b1)])) rfl (by rw [hml]; rfl) (Steps.refl _) (argsL := [(.ref b41)]) (rest := []) (lenOf pd__Ljava_lang_Object__Z rfl) rfl (by show 2 * 0 + _ ≤ _; exact Nat.le_of_eq rfl) (hb hby d6_96) (fun _ _ => ⟨rfl, e41, (by decide : 8 + 0 ≤ _), (by decide : 22 + 0 ≤ _)⟩)
  dsimp only [Pt.U, Pt.locs, Pt.cells, Pt.slots] at X47 l47 y47 z47 st47 hQ47
  subst l47 y47 z47
  obtain ⟨rfl, Nq47, Kq47, E47q, Fm47q, Fe47q, Fs47q, V47q⟩ := hQ47
  have N47 := Fr.app N35 Nq47
  have f51 := ((((((Ea12.keep Kq17).ext E27).keep Kq28).keep Kq35).ext E41).keep Kq47)
  have f52 := ((((((Ca12.keep Kq17 (ninS na14 (ninS nb14 nin0))).ext E27).keep Kq28 (ninS (Nat.ne_of_lt (Nat.lt_of_lt_of_le (Nat.lt_of_lt_of_le la12 Kq17.1) (Nat.le_of_eq g27.symm))) nin0)).keep Kq35 (ninS na14 (ninS nb14 nin0))).ext E41).keep Kq47 (ninS na14 (ninS nb14 nin0)))
  have f53 := ((((((Va12.keep Kq17 (ninS na14 (ninS nb14 nin0))).ext E27).keep Kq28 (ninS (Nat.ne_of_lt (Nat.lt_of_lt_of_le (Nat.lt_of_lt_of_le la12 Kq17.1) (Nat.le_of_eq g27.symm))) nin0)).keep Kq35 (ninS na14 (ninS nb14 nin0))).ext E41).keep Kq47 (ninS na14 (ninS nb14 nin0)))
  have f54 := ((((((Ka12.keep Kq17 (ninS (Ne.symm nc14) (ninS nd14 nin0))).ext E27).keep Kq28 (ninS (Nat.ne_of_lt (Nat.lt_of_lt_of_le (Nat.lt_of_lt_of_le lb12 Kq17.1) (Nat.le_of_eq g27.symm))) nin0)).keep Kq35 (ninS (Ne.symm nc14) (ninS nd14 nin0))).ext E41).keep Kq47 (ninS (Ne.symm nc14) (ninS nd14 nin0)))
  have f55 := (((Es28.keep Kq35).ext E41).keep Kq47)
  have f56 := (((Cs28.keep Kq35 (ninS na32 (ninS nb32 nin0))).ext E41).keep Kq47 (ninS na32 (ninS nb32 nin0)))
  have f57 := (((Vs28.keep Kq35 (ninS na32 (ninS nb32 nin0))).ext E41).keep Kq47 (ninS na32 (ninS nb32 nin0)))
  have f58 := (((Ks28.keep Kq35 (ninS (Ne.symm nc32) (ninS nd32 nin0))).ext E41).keep Kq47 (ninS (Ne.symm nc32) (ninS nd32 nin0)))
  have f59 := (Ea41.keep Kq47)
  have f60 := (Ca41.keep Kq47 (ninS na44 (ninS nb44 nin0)))
  have f61 := (Va41.keep Kq47 (ninS na44 (ninS nb44 nin0)))
  have f62 := (Ka41.keep Kq47 (ninS (Ne.symm nc44) (ninS nd44 nin0)))
  obtain ⟨fs, hr, hrun, hended, hfin⟩ := X47.leaveW hS41 ((Nat.le_trans hk41 Kq47.1)) (v := some (.ref b1)) (fun h => by rw [Bd.returns] at h; cases h)
  refine ⟨_, _, pre0 _ ?_, hrun, hended, _, _, rfl, ?_, hfin.1, hfin.2.1, hfin.2.2.1, hfin.2.2.2.mono (by decide) (by decide)⟩
  · show Steps _ _ _ (s₁.setTop (mkF m 0 #[.val (.ref cv), .unset, .unset, .unset, .unset, .unset, .unset] [])) _
    refine st1 _ ?_
    show Steps _ _ _ (T1.setTop (mkF m 3 #[.val (.ref cv), .unset, .unset, .unset, .unset, .unset, .unset] [(.ref b1)])) _
    refine XS.dup X1.here hx rfl (hb hby d6_3) rfl rfl ?_
    refine XS.aloadN X1.here hx rfl (hb hby d6_4) rfl rfl ?_
    show Steps _ _ _ (T1.setTop (mkF m 5 #[.val (.ref cv), .unset, .unset, .unset, .unset, .unset, .unset] [(.ref cv), (.ref b1), (.ref b1)])) _
    refine st2 _ ?_
    show Steps _ _ _ (T2.setTop (mkF m 8 #[.val (.ref cv), .unset, .unset, .unset, .unset, .unset, .unset] [(.ref R), (.ref b1), (.ref b1)])) _
    refine X2.arraylength hx (by rw [e2]; exact Ar4.1) (State.isArrayOf_alike hZ.alike Ar4.2.1) (g := (mkF m 8 #[.val (.ref cv), .unset, .unset, .unset, .unset, .unset, .unset] [(.ref R), (.ref b1), (.ref b1)])) rfl rfl (hb hby d6_8) _ ?_
    rw [len_of S4 M4]
    show Steps _ _ _ (T2.setTop (mkF m 9 #[.val (.ref cv), .unset, .unset, .unset, .unset, .unset, .unset] [(.int 3), (.ref b1), (.ref b1)])) _
    refine st6.trans ?_
    show Steps _ _ _ (T6.setTop (mkF m 12 #[.val (.ref cv), .unset, .unset, .unset, .unset, .unset, .unset] [(.ref b1)])) _
    refine XS.astoreN X6.here hx rfl (hb hby d6_12) rfl rfl (l' := #[.val (.ref cv), .val (.ref b1), .unset, .unset, .unset, .unset, .unset]) rfl ?_
    refine XS.aloadN X6.here hx rfl (hb hby d6_13) rfl rfl ?_
    show Steps _ _ _ (T6.setTop (mkF m 14 #[.val (.ref cv), .val (.ref b1), .unset, .unset, .unset, .unset, .unset] [(.ref cv)])) _
    refine st7 _ ?_
    show Steps _ _ _ (T7.setTop (mkF m 17 #[.val (.ref cv), .val (.ref b1), .unset, .unset, .unset, .unset, .unset] [(.ref R)])) _
    refine XS.astoreN X7.here hx rfl (hb hby d6_17) rfl rfl (l' := #[.val (.ref cv), .val (.ref b1), .val (.ref R), .unset, .unset, .unset, .unset]) rfl ?_
    refine XS.aloadN X7.here hx rfl (hb hby d6_18) rfl rfl ?_
    show Steps _ _ _ (T7.setTop (mkF m 19 #[.val (.ref cv), .val (.ref b1), .val (.ref R), .unset, .unset, .unset, .unset] [(.ref R)])) _
    refine X7.arraylength hx (by rw [e7]; exact Ar9.1) (State.isArrayOf_alike hZ.alike Ar9.2.1) (g := (mkF m 19 #[.val (.ref cv), .val (.ref b1), .val (.ref R), .unset, .unset, .unset, .unset] [(.ref R)])) rfl rfl (hb hby d6_19) _ ?_
    rw [len_of S9 M9]
    show Steps _ _ _ (T7.setTop (mkF m 20 #[.val (.ref cv), .val (.ref b1), .val (.ref R), .unset, .unset, .unset, .unset] [(.int 3)])) _
    refine XS.istoreN X7.here hx rfl (hb hby d6_20) rfl (l' := #[.val (.ref cv), .val (.ref b1), .val (.ref R), .val (.int 3), .unset, .unset, .unset]) rfl ?_
    refine XS.iconst X7.here hx rfl (hb hby d6_21) ?_
    refine XS.istore X7.here hx rfl (hb hby d6_22) rfl (l' := #[.val (.ref cv), .val (.ref b1), .val (.ref R), .val (.int 3), .val (.int 0), .unset, .unset]) rfl ?_
    refine XS.iload X7.here hx rfl (hb hby d6_24) rfl ?_
    refine XS.iloadN X7.here hx rfl (hb hby d6_26) rfl ?_
    refine XS.icmpNo X7.here hx rfl (hb hby d6_27) rfl (tlt (by decide : (0 : Int32) < (3 : Int32))).2.1 ?_
    refine XS.aloadN X7.here hx rfl (hb hby d6_30) rfl rfl ?_
    refine XS.iload X7.here hx rfl (hb hby d6_31) rfl ?_
    show Steps _ _ _ (T7.setTop (mkF m 33 #[.val (.ref cv), .val (.ref b1), .val (.ref R), .val (.int 3), .val (.int 0), .unset, .unset] [(.int 0), (.ref R)])) _
    refine X7.aaload hx (j := (0 : Int32)) (v := .null) (by rw [e7]; exact Ar11.1) (State.isArrayOf_alike hZ.alike Ar11.2.1) rfl Ar11.2.2 hin11 (H11.at hin11 rfl) (g := (mkF m 33 #[.val (.ref cv), .val (.ref b1), .val (.ref R), .val (.int 3), .val (.int 0), .unset, .unset] [(.int 0), (.ref R)])) rfl rfl (hb hby d6_33) _ ?_
    show Steps _ _ _ (T7.setTop (mkF m 34 #[.val (.ref cv), .val (.ref b1), .val (.ref R), .val (.int 3), .val (.int 0), .unset, .unset] [.null])) _
    refine XS.astore X7.here hx rfl (hb hby d6_34) rfl rfl (l' := #[.val (.ref cv), .val (.ref b1), .val (.ref R), .val (.int 3), .val (.int 0), .val .null, .unset]) rfl ?_
    refine XS.aload X7.here hx rfl (hb hby d6_36) rfl rfl ?_
    refine XS.ifnonnullNo X7.here hx rfl (hb hby d6_38) rfl ?_
    refine XS.iconst X7.here hx rfl (hb hby d6_41) ?_
    refine XS.goto X7.here hx rfl (pc0 := 42) (pc' := 48) rfl (hb hby d6_42) (by decide) (by decide) ?_
    refine XS.istore X7.here hx rfl (hb hby d6_48) rfl (l' := #[.val (.ref cv), .val (.ref b1), .val (.ref R), .val (.int 3), .val (.int 0), .val .null, .val (.int 0)]) rfl ?_
    refine XS.iload X7.here hx rfl (hb hby d6_50) rfl ?_
    refine XS.ifYes X7.here hx rfl (pc0 := 52) (pc' := 73) rfl (hb hby d6_52) rfl ((if0 _ _).trans (flt (by decide : ¬ ((0 : Int32) < (0 : Int32)))).2.2.2) (by decide) (by decide) ?_
    refine XS.aloadN X7.here hx rfl (hb hby d6_73) rfl rfl ?_
    refine XS.iload X7.here hx rfl (hb hby d6_74) rfl ?_
    refine XS.ifNo X7.here hx rfl (hb hby d6_76) rfl ((if0 _ _).trans (teq (by decide : (0 : Int32) = (0 : Int32))).2) ?_
    show Steps _ _ _ (T7.setTop (mkF m 79 #[.val (.ref cv), .val (.ref b1), .val (.ref R), .val (.int 3), .val (.int 0), .val .null, .val (.int 0)] [(.ref b1)])) _
    refine st12 _ ?_
    show Steps _ _ _ (T12.setTop (mkF m 81 #[.val (.ref cv), .val (.ref b1), .val (.ref R), .val (.int 3), .val (.int 0), .val .null, .val (.int 0)] [(.ref b12), (.ref b1)])) _
    refine XS.goto X12.here hx rfl (pc0 := 81) (pc' := 96) rfl (hb hby d6_81) (by decide) (by decide) ?_
    show Steps _ _ _ (T12.setTop (mkF m 96 #[.val (.ref cv), .val (.ref b1), .val (.ref R), .val (.int 3), .val (.int 0), .val .null, .val (.int 0)] [(.ref b12), (.ref b1)])) _
    refine st17.trans ?_
    show Steps _ _ _ (T17.setTop (mkF m 101 #[.val (.ref cv), .val (.ref b1), .val (.ref R), .val (.int 3), .val (.int 0), .val .null, .val (.int 0)] [(.int 1)])) _
    refine XS.pop X17.here hx rfl (hb hby d6_101) rfl rfl ?_
    refine XS.iinc X17.here hx rfl (hb hby d6_102) rfl (l' := #[.val (.ref cv), .val (.ref b1), .val (.ref R), .val (.int 3), .val (.int ((0 : Int32) + (1 : Int32))), .val .null, .val (.int 0)]) rfl ?_
    show Steps _ _ _ (T17.setTop (mkF m 105 #[.val (.ref cv), .val (.ref b1), .val (.ref R), .val (.int 3), .val (.int ((0 : Int32) + (1 : Int32))), .val .null, .val (.int 0)] [])) _
    rw [(by decide : ((0 : Int32) + (1 : Int32)) = (1 : Int32))]
    show Steps _ _ _ (T17.setTop (mkF m 105 #[.val (.ref cv), .val (.ref b1), .val (.ref R), .val (.int 3), .val (.int 1), .val .null, .val (.int 0)] [])) _
    refine XS.goto X17.here hx rfl (pc0 := 105) (pc' := 24) rfl (hb hby d6_105) (by decide) (by decide) ?_
    refine XS.iload X17.here hx rfl (hb hby d6_24) rfl ?_
    refine XS.iloadN X17.here hx rfl (hb hby d6_26) rfl ?_
    refine XS.icmpNo X17.here hx rfl (hb hby d6_27) rfl (tlt (by decide : (1 : Int32) < (3 : Int32))).2.1 ?_
    refine XS.aloadN X17.here hx rfl (hb hby d6_30) rfl rfl ?_
    refine XS.iload X17.here hx rfl (hb hby d6_31) rfl ?_
    show Steps _ _ _ (T17.setTop (mkF m 33 #[.val (.ref cv), .val (.ref b1), .val (.ref R), .val (.int 3), .val (.int 1), .val .null, .val (.int 0)] [(.int 1), (.ref R)])) _
    refine X17.aaload hx (j := (1 : Int32)) (v := (.ref A)) Ar21.1 (State.isArrayOf_alike hZ12.alike Ar21.2.1) rfl Ar21.2.2 hin21 (H21.at hin21 rfl) (g := (mkF m 33 #[.val (.ref cv), .val (.ref b1), .val (.ref R), .val (.int 3), .val (.int 1), .val .null, .val (.int 0)] [(.int 1), (.ref R)])) rfl rfl (hb hby d6_33) _ ?_
    show Steps _ _ _ (T17.setTop (mkF m 34 #[.val (.ref cv), .val (.ref b1), .val (.ref R), .val (.int 3), .val (.int 1), .val .null, .val (.int 0)] [(.ref A)])) _
    refine XS.astore X17.here hx rfl (hb hby d6_34) rfl rfl (l' := #[.val (.ref cv), .val (.ref b1), .val (.ref R), .val (.int 3), .val (.int 1), .val (.ref A), .val (.int 0)]) rfl ?_
    refine XS.aload X17.here hx rfl (hb hby d6_36) rfl rfl ?_
    refine XS.ifnonnullYes X17.here hx rfl (pc0 := 38) (pc' := 45) rfl (hb hby d6_38) rfl (by decide) (by decide) ?_
    refine XS.aload X17.here hx rfl (hb hby d6_45) rfl rfl ?_
    show Steps _ _ _ (T17.setTop (mkF m 47 #[.val (.ref cv), .val (.ref b1), .val (.ref R), .val (.int 3), .val (.int 1), .val (.ref A), .val (.int 0)] [(.ref A)])) _
    refine X17.arraylength hx Ar23.1 (State.isArrayOf_alike hZ12.alike Ar23.2.1) (g := (mkF m 47 #[.val (.ref cv), .val (.ref b1), .val (.ref R), .val (.int 3), .val (.int 1), .val (.ref A), .val (.int 0)] [(.ref A)])) rfl rfl (hb hby d6_47) _ ?_
    rw [len_of S23 M23]
    show Steps _ _ _ (T17.setTop (mkF m 48 #[.val (.ref cv), .val (.ref b1), .val (.ref R), .val (.int 3), .val (.int 1), .val (.ref A), .val (.int 0)] [(.int (Int32.ofNat (xn + 1)))])) _
    refine XS.istore X17.here hx rfl (hb hby d6_48) rfl (l' := #[.val (.ref cv), .val (.ref b1), .val (.ref R), .val (.int 3), .val (.int 1), .val (.ref A), .val (.int (Int32.ofNat (xn + 1)))]) rfl ?_
    refine XS.iload X17.here hx rfl (hb hby d6_50) rfl ?_
    refine XS.ifNo X17.here hx rfl (hb hby d6_52) rfl ((if0 _ _).trans (tlt ((own_lt (i := 0) (by omega) (by omega)).mpr (by omega))).2.2.2) ?_
    refine XS.aload X17.here hx rfl (hb hby d6_55) rfl rfl ?_
    refine XS.iload X17.here hx rfl (hb hby d6_57) rfl ?_
    refine XS.iconst X17.here hx rfl (hb hby d6_59) ?_
    refine XS.isub X17.here hx rfl (hb hby d6_60) rfl ?_
    show Steps _ _ _ (T17.setTop (mkF m 61 #[.val (.ref cv), .val (.ref b1), .val (.ref R), .val (.int 3), .val (.int 1), .val (.ref A), .val (.int (Int32.ofNat (xn + 1)))] [(.int ((Int32.ofNat (xn + 1)) - (1 : Int32))), (.ref A)])) _
    rw [(own_sub1 xn)]
    show Steps _ _ _ (T17.setTop (mkF m 61 #[.val (.ref cv), .val (.ref b1), .val (.ref R), .val (.int 3), .val (.int 1), .val (.ref A), .val (.int (Int32.ofNat (xn + 1)))] [(.int (Int32.ofNat xn)), (.ref A)])) _
    refine X17.iaload hx (j := (Int32.ofNat xn)) (v := (.int 81)) Ar25.1 (State.isArrayOf_alike hZ12.alike Ar25.2.1) Ar25.2.2 hin25 (H25.at hin25 (own_rx xn (by omega))) (g := (mkF m 61 #[.val (.ref cv), .val (.ref b1), .val (.ref R), .val (.int 3), .val (.int 1), .val (.ref A), .val (.int (Int32.ofNat (xn + 1)))] [(.int (Int32.ofNat xn)), (.ref A)])) rfl rfl (hb hby d6_61) _ ?_
    show Steps _ _ _ (T17.setTop (mkF m 62 #[.val (.ref cv), .val (.ref b1), .val (.ref R), .val (.int 3), .val (.int 1), .val (.ref A), .val (.int (Int32.ofNat (xn + 1)))] [(.int 81)])) _
    refine XS.bipush X17.here hx rfl (hb hby d6_62) ?_
    refine XS.icmpYes X17.here hx rfl (pc0 := 64) (pc' := 73) rfl (hb hby d6_64) rfl (feq (by decide : ¬ ((81 : Int32) = (32 : Int32)))).2 (by decide) (by decide) ?_
    refine XS.aloadN X17.here hx rfl (hb hby d6_73) rfl rfl ?_
    refine XS.iload X17.here hx rfl (hb hby d6_74) rfl ?_
    refine XS.ifYes X17.here hx rfl (pc0 := 76) (pc' := 84) rfl (hb hby d6_76) rfl ((if0 _ _).trans (feq (fun q => absurd ((own_eq (j := 0) (by omega) (by omega)).mp q) (by omega))).2) (by decide) (by decide) ?_
    show Steps _ _ _ (T17.setTop (mkF m 84 #[.val (.ref cv), .val (.ref b1), .val (.ref R), .val (.int 3), .val (.int 1), .val (.ref A), .val (.int (Int32.ofNat (xn + 1)))] [(.ref b1)])) _
    refine st27 _ ?_
    show Steps _ _ _ (T27.setTop (mkF m 87 #[.val (.ref cv), .val (.ref b1), .val (.ref R), .val (.int 3), .val (.int 1), .val (.ref A), .val (.int (Int32.ofNat (xn + 1)))] [(.ref b27), (.ref b1)])) _
    refine XS.dup X27.here hx rfl (hb hby d6_87) rfl rfl ?_
    refine XS.aload X27.here hx rfl (hb hby d6_88) rfl rfl ?_
    refine XS.iconst X27.here hx rfl (hb hby d6_90) ?_
    refine XS.iload X27.here hx rfl (hb hby d6_91) rfl ?_
    show Steps _ _ _ (T27.setTop (mkF m 93 #[.val (.ref cv), .val (.ref b1), .val (.ref R), .val (.int 3), .val (.int 1), .val (.ref A), .val (.int (Int32.ofNat (xn + 1)))] [(.int (Int32.ofNat (xn + 1))), (.int 0), (.ref A), (.ref b27), (.ref b27), (.ref b1)])) _
    refine st28.trans ?_
    show Steps _ _ _ (T28.setTop (mkF m 96 #[.val (.ref cv), .val (.ref b1), .val (.ref R), .val (.int 3), .val (.int 1), .val (.ref A), .val (.int (Int32.ofNat (xn + 1)))] [(.ref b27), (.ref b1)])) _
    refine st35.trans ?_
    show Steps _ _ _ (T35.setTop (mkF m 101 #[.val (.ref cv), .val (.ref b1), .val (.ref R), .val (.int 3), .val (.int 1), .val (.ref A), .val (.int (Int32.ofNat (xn + 1)))] [(.int 1)])) _
    refine XS.pop X35.here hx rfl (hb hby d6_101) rfl rfl ?_
    refine XS.iinc X35.here hx rfl (hb hby d6_102) rfl (l' := #[.val (.ref cv), .val (.ref b1), .val (.ref R), .val (.int 3), .val (.int ((1 : Int32) + (1 : Int32))), .val (.ref A), .val (.int (Int32.ofNat (xn + 1)))]) rfl ?_
    show Steps _ _ _ (T35.setTop (mkF m 105 #[.val (.ref cv), .val (.ref b1), .val (.ref R), .val (.int 3), .val (.int ((1 : Int32) + (1 : Int32))), .val (.ref A), .val (.int (Int32.ofNat (xn + 1)))] [])) _
    rw [(by decide : ((1 : Int32) + (1 : Int32)) = (2 : Int32))]
    show Steps _ _ _ (T35.setTop (mkF m 105 #[.val (.ref cv), .val (.ref b1), .val (.ref R), .val (.int 3), .val (.int 2), .val (.ref A), .val (.int (Int32.ofNat (xn + 1)))] [])) _
    refine XS.goto X35.here hx rfl (pc0 := 105) (pc' := 24) rfl (hb hby d6_105) (by decide) (by decide) ?_
    refine XS.iload X35.here hx rfl (hb hby d6_24) rfl ?_
    refine XS.iloadN X35.here hx rfl (hb hby d6_26) rfl ?_
    refine XS.icmpNo X35.here hx rfl (hb hby d6_27) rfl (tlt (by decide : (2 : Int32) < (3 : Int32))).2.1 ?_
    refine XS.aloadN X35.here hx rfl (hb hby d6_30) rfl rfl ?_
    refine XS.iload X35.here hx rfl (hb hby d6_31) rfl ?_
    show Steps _ _ _ (T35.setTop (mkF m 33 #[.val (.ref cv), .val (.ref b1), .val (.ref R), .val (.int 3), .val (.int 2), .val (.ref A), .val (.int (Int32.ofNat (xn + 1)))] [(.int 2), (.ref R)])) _
    refine X35.aaload hx (j := (2 : Int32)) (v := .null) Ar39.1 (State.isArrayOf_alike hZ12.alike Ar39.2.1) rfl Ar39.2.2 hin39 (H39.at hin39 rfl) (g := (mkF m 33 #[.val (.ref cv), .val (.ref b1), .val (.ref R), .val (.int 3), .val (.int 2), .val (.ref A), .val (.int (Int32.ofNat (xn + 1)))] [(.int 2), (.ref R)])) rfl rfl (hb hby d6_33) _ ?_
    show Steps _ _ _ (T35.setTop (mkF m 34 #[.val (.ref cv), .val (.ref b1), .val (.ref R), .val (.int 3), .val (.int 2), .val (.ref A), .val (.int (Int32.ofNat (xn + 1)))] [.null])) _
    refine XS.astore X35.here hx rfl (hb hby d6_34) rfl rfl (l' := #[.val (.ref cv), .val (.ref b1), .val (.ref R), .val (.int 3), .val (.int 2), .val .null, .val (.int (Int32.ofNat (xn + 1)))]) rfl ?_
    refine XS.aload X35.here hx rfl (hb hby d6_36) rfl rfl ?_
    refine XS.ifnonnullNo X35.here hx rfl (hb hby d6_38) rfl ?_
    refine XS.iconst X35.here hx rfl (hb hby d6_41) ?_
    refine XS.goto X35.here hx rfl (pc0 := 42) (pc' := 48) rfl (hb hby d6_42) (by decide) (by decide) ?_
    refine XS.istore X35.here hx rfl (hb hby d6_48) rfl (l' := #[.val (.ref cv), .val (.ref b1), .val (.ref R), .val (.int 3), .val (.int 2), .val .null, .val (.int 0)]) rfl ?_
    refine XS.iload X35.here hx rfl (hb hby d6_50) rfl ?_
    refine XS.ifYes X35.here hx rfl (pc0 := 52) (pc' := 73) rfl (hb hby d6_52) rfl ((if0 _ _).trans (flt (by decide : ¬ ((0 : Int32) < (0 : Int32)))).2.2.2) (by decide) (by decide) ?_
    refine XS.aloadN X35.here hx rfl (hb hby d6_73) rfl rfl ?_
    refine XS.iload X35.here hx rfl (hb hby d6_74) rfl ?_
    refine XS.ifNo X35.here hx rfl (hb hby d6_76) rfl ((if0 _ _).trans (teq (by decide : (0 : Int32) = (0 : Int32))).2) ?_
    show Steps _ _ _ (T35.setTop (mkF m 79 #[.val (.ref cv), .val (.ref b1), .val (.ref R), .val (.int 3), .val (.int 2), .val .null, .val (.int 0)] [(.ref b1)])) _
    refine st41 _ ?_
    show Steps _ _ _ (T41.setTop (mkF m 81 #[.val (.ref cv), .val (.ref b1), .val (.ref R), .val (.int 3), .val (.int 2), .val .null, .val (.int 0)] [(.ref b41), (.ref b1)])) _
    refine XS.goto X41.here hx rfl (pc0 := 81) (pc' := 96) rfl (hb hby d6_81) (by decide) (by decide) ?_
    show Steps _ _ _ (T41.setTop (mkF m 96 #[.val (.ref cv), .val (.ref b1), .val (.ref R), .val (.int 3), .val (.int 2), .val .null, .val (.int 0)] [(.ref b41), (.ref b1)])) _
    refine st47.trans ?_
    show Steps _ _ _ (T47.setTop (mkF m 101 #[.val (.ref cv), .val (.ref b1), .val (.ref R), .val (.int 3), .val (.int 2), .val .null, .val (.int 0)] [(.int 1)])) _
    refine XS.pop X47.here hx rfl (hb hby d6_101) rfl rfl ?_
    refine XS.iinc X47.here hx rfl (hb hby d6_102) rfl (l' := #[.val (.ref cv), .val (.ref b1), .val (.ref R), .val (.int 3), .val (.int ((2 : Int32) + (1 : Int32))), .val .null, .val (.int 0)]) rfl ?_
    show Steps _ _ _ (T47.setTop (mkF m 105 #[.val (.ref cv), .val (.ref b1), .val (.ref R), .val (.int 3), .val (.int ((2 : Int32) + (1 : Int32))), .val .null, .val (.int 0)] [])) _
    rw [(by decide : ((2 : Int32) + (1 : Int32)) = (3 : Int32))]
    show Steps _ _ _ (T47.setTop (mkF m 105 #[.val (.ref cv), .val (.ref b1), .val (.ref R), .val (.int 3), .val (.int 3), .val .null, .val (.int 0)] [])) _
    refine XS.goto X47.here hx rfl (pc0 := 105) (pc' := 24) rfl (hb hby d6_105) (by decide) (by decide) ?_
    refine XS.iload X47.here hx rfl (hb hby d6_24) rfl ?_
    refine XS.iloadN X47.here hx rfl (hb hby d6_26) rfl ?_
    refine XS.icmpYes X47.here hx rfl (pc0 := 27) (pc' := 108) rfl (hb hby d6_27) rfl (flt (by decide : ¬ ((3 : Int32) < (3 : Int32)))).2.1 (by decide) (by decide) ?_
    refine XS.aloadN X47.here hx rfl (hb hby d6_108) rfl rfl ?_
    show Steps _ _ _ (T47.setTop (mkF m 109 #[.val (.ref cv), .val (.ref b1), .val (.ref R), .val (.int 3), .val (.int 3), .val .null, .val (.int 0)] [(.ref b1)])) _
    jvm_step X47.here [X47.here.top, hx, (hb hby d6_109), X47.method', Bd.returns, Value.isRef, FieldType.isReference]
    first | (intro acts; rw [hr _ acts rfl rfl rfl]) | rw [hr _ _ rfl rfl rfl]
    exact Steps.refl _
  · show own_LN Z [] (own_q xn) [] h0 n0 _ T47.heap _
    exact ⟨b1, t6, k6q, b12, b27, b41, rfl, N47, ((((((((((Keep.refl h0 []).ext E1).trans Kq6 (allS (P := fun zz => zz ∈ ([] : List Addr) ∨ h0.size ≤ zz) (Or.inr sz_b1) all0)).ext E12).trans Kq17 (allS (P := fun zz => zz ∈ ([] : List Addr) ∨ h0.size ≤ zz) (Or.inr sz_b1) (allS (P := fun zz => zz ∈ ([] : List Addr) ∨ h0.size ≤ zz) (Or.inr szt6) all0))).ext E27).trans Kq28 (allS (P := fun zz => zz ∈ ([] : List Addr) ∨ h0.size ≤ zz) (Or.inr sz_b27) all0)).trans Kq35 (allS (P := fun zz => zz ∈ ([] : List Addr) ∨ h0.size ≤ zz) (Or.inr sz_b1) (allS (P := fun zz => zz ∈ ([] : List Addr) ∨ h0.size ≤ zz) (Or.inr szt6) all0))).ext E41).trans Kq47 (allS (P := fun zz => zz ∈ ([] : List Addr) ∨ h0.size ≤ zz) (Or.inr sz_b1) (allS (P := fun zz => zz ∈ ([] : List Addr) ∨ h0.size ≤ zz) (Or.inr szt6) all0))), E47q, Fe47q, Fs47q, V47q, ⟨d12, kb12, f51, f52, f53, f54, (fun _ q => nomatch q), (Nat.zero_le _)⟩, ⟨bs28, ks28, f55, f56, f57, f58, hps28, hls28⟩, ⟨d41, kb41, f59, f60, f61, f62, (fun _ q => nomatch q), (Nat.zero_le _)⟩⟩
theorem rmLS2 (l : Launch) (Z : State) (a0 : Array Value) (hw : ∀ d ∈ tables_1, d.before a0 Z = true) (ws : List Jvm.Cond) (G1 : Int32) (G3 : Value) (cv : Addr) (R : Addr) (kR : ClassId) (q1 : Int32) (q2 : Int32) (q3 : Int32) (q4 : Int32) (A : Addr) (kA : ClassId) (xn : Nat) (h0 : Heap) (n0 : Nat) (Z0 : n0 ≤ h0.size) (EN : own_env Z G1 G3) (X00 : Old Z n0 h0) (E_cv : Exa Z h0 cv "dev/treefold/text/Canvas") (F_width_cv : Fld Z h0 cv "dev/treefold/text/Canvas" "width" "I" (.int 4)) (F_rows_cv : Fld Z h0 cv "dev/treefold/text/Canvas" "rows" "[[I" (.ref R)) (F_clipLeft_cv : Fld Z h0 cv "dev/treefold/text/Canvas" "clipLeft" "I" (.int q1)) (F_clipTop_cv : Fld Z h0 cv "dev/treefold/text/Canvas" "clipTop" "I" (.int q2)) (F_clipRight_cv : Fld Z h0 cv "dev/treefold/text/Canvas" "clipRight" "I" (.int q3)) (F_clipBottom_cv : Fld Z h0 cv "dev/treefold/text/Canvas" "clipBottom" "I" (.int q4)) (V_R : Arv Z h0 R kR (.array .int) (3 : Int32) [.null, .null, (.ref A)] .null) (V_A : Arv Z h0 A kA .int (Int32.ofNat (xn + 1)) (own_row xn) (.int 0)) (hxn : xn < 4) :
    MetFree l y_40 (head1 (Jvm.Cond.code y_40 prog_104_method_3_code 7 (some (.object "java/util/List")) :: ws) ({ frames := 4, cells := 8, slots := 22, locals := 50 } : Room)) (fun a_ U_ => a_ = #[(.ref cv)] ∧ Z.Warmed39 U_.vm ∧ U_.heap = h0 ∧ CHv Z consts_1 U_.vm h0) (fun _ _ _ _ _ => True) (fun _ U_ o_ U1_ => ∃ v_ L_, o_ = .returned v_ ∧ own_LN Z [] [] (own_q xn) h0 n0 v_ U1_.heap L_ ∧ ReturnedEndW U_ o_ U1_ L_ ({ frames := 4, cells := 8, slots := 22, locals := 50 } : Room).cells ({ frames := 4, cells := 8, slots := 22, locals := 50 } : Room).slots) := by
  refine MetFree.of_bodySF (plainFor_of_name pn_6) hisR ?_
  intro p e s m args below meth c s₁ Bd hml0 hP hK
  obtain ⟨rfl, hZ, hh, H0⟩ := hP
  have hx := Bd.exec
  have hby := Bd.bytes
  have hml : c.maxLocals = 7 := hml0
  have hown : s.vm.findClass "dev/treefold/text/Canvas" = some m.cls := findClass_of_methodNamed Bd.named
  have hnm := (name_of_methodNamed Bd.named Bd.method).1
  have X0 : Stand p l e ({ frames := 4, cells := 8, slots := 22, locals := 50 } : Room) s m #[(.ref cv)] below meth c s₁ [] 0 0 := Stand.of_body Bd
  have e0 : s₁.heap = h0 := by rw [← hh, Bd.state]; rfl
  have N0 := Fr.nil n0
  have pre0 : ∀ tt, Steps p.tables e below (s₁.setTop (mkF m 0 #[.val (.ref cv), .unset, .unset, .unset, .unset, .unset, .unset] [])) tt → Steps p.tables e below (s₁.setTop (entryFrame m #[(.ref cv)] 7)) tt := fun tt kk => castTop (ef_6_r m cv) kk
  have hS0 : s.Since s.vm 0 := (State.WarmedH.refl s).since 0
  have hk0 : 0 ≤ h0.size := Nat.zero_le _
  have EN0 := EN
  obtain ⟨O2, P5, O4, rG3⟩ := EN
  obtain ⟨T1, h1, X1, e1, E1, A1, D1, -, st1⟩ := newO X0 hx hZ hown (hw _ (tk 53 rfl)) (hw _ (tk 54 rfl)) (hw _ (tk 55 rfl)) e0 (g := (mkF m 0 #[.val (.ref cv), .unset, .unset, .unset, .unset, .unset, .unset] [])) rfl (hb hby d6_0) (by decide) (by decide)
  obtain ⟨b1, g1⟩ : ∃ z, z = h0.size := ⟨_, rfl⟩
  rw [← g1] at A1 D1 st1
  have g_b1 : n0 ≤ b1 := Nat.le_trans Z0 (Nat.le_of_eq g1.symm)
  have sz_b1 : h0.size ≤ b1 := Nat.le_trans (Nat.le_refl _) (Nat.le_of_eq g1.symm)
  have F1_modCount : Fld Z h1 b1 "java/util/AbstractList" "modCount" "I" (.int 0) := D1 (Or.inl (hw _ (tk 73 rfl))) (ty := .int) (by decide)
  have F1_elementData : Fld Z h1 b1 "java/util/ArrayList" "elementData" "[Ljava/lang/Object;" .null := D1 (Or.inl (hw _ (tk 77 rfl))) (ty := (.array (.object "java/lang/Object"))) (by decide)
  have F1_size : Fld Z h1 b1 "java/util/ArrayList" "size" "I" (.int 0) := D1 (Or.inl (hw _ (tk 91 rfl))) (ty := .int) (by decide)
  have f3 := (F_rows_cv.ext E1)
  obtain ⟨T2, X2, e2, st2⟩ := getF X1 hx hZ hown (host := "") (Or.inl (hw _ (tk 14 rfl))) Via.refl e1 f3 (g := (mkF m 5 #[.val (.ref cv), .unset, .unset, .unset, .unset, .unset, .unset] [(.ref cv), (.ref b1), (.ref b1)])) rfl rfl (hb hby d6_5)
  have f5 := (V_R.ext E1)
  obtain ⟨c4, Ar4, -, S4, M4, -, -⟩ := id f5
  obtain ⟨_, _, ⟨T6, L6, k6, n6⟩, -, X6, ⟨Lc6, hQ6, l6, y6, z6⟩, st6⟩ := X2.specialBack hx (y := y_34) rfl hown (mvT hZ (hw _ (tk 56 rfl))) (mvT hZ (hw _ (tk 57 rfl))) (mvT hZ (hw _ (tk 58 rfl))) (by decide) (backOf (W := 1) (rmAL l Z a0 hw [] b1 h1 n0 (Nat.le_trans Z0 E1.1) A1 F1_modCount F1_elementData F1_size g_b1) hZ (hw _ (tk 58 rfl)) (hw _ (tk 55 rfl)) (by decide) (by decide)) (g := (mkF m 9 #[.val (.ref cv), .unset, .unset, .unset, .unset, .unset, .unset] [(.int 3), (.ref b1), (.ref b1)])) rfl (by rw [hml]; rfl) (Steps.refl _) (a := b1) (argsL := [(.int 3)]) (rest := [(.ref b1)]) (lenOf pd__I_V rfl) rfl (by show 2 * 0 + _ ≤ _; exact Nat.le_of_eq rfl) (hb hby d6_9) (fun _ _ => ⟨rfl, e2, (by decide : 1 + 1 ≤ _), (by decide : 3 + 3 ≤ _)⟩)
  dsimp only [Pt.U, Pt.locs, Pt.cells, Pt.slots] at X6 l6 y6 z6 st6 hQ6
  subst l6 y6 z6
  obtain ⟨t6, k6q, rfl, Nq6, gt6, st_6, Kq6, E6q, Fm6q, Fe6q, Fs6q, Vt6, O6q⟩ := hQ6
  have N6 := Fr.app N0 Nq6
  have szt6 : h0.size ≤ t6 := Nat.le_trans E1.1 st_6
  have f8 := (f3.keep Kq6 (ninS (Nat.ne_of_lt (Nat.lt_of_lt_of_le E_cv.lt (Nat.le_of_eq g1.symm))) nin0))
  obtain ⟨T7, X7, e7, st7⟩ := getF X6 hx hZ hown (host := "") (Or.inl (hw _ (tk 14 rfl))) Via.refl rfl f8 (g := (mkF m 14 #[.val (.ref cv), .val (.ref b1), .unset, .unset, .unset, .unset, .unset] [(.ref cv)])) rfl rfl (hb hby d6_14)
  have f10 := (f5.keep Kq6 (ninS (Nat.ne_of_lt (Nat.lt_of_lt_of_le V_R.lt (Nat.le_of_eq g1.symm))) nin0))
  obtain ⟨c9, Ar9, -, S9, M9, -, -⟩ := id f10
  obtain ⟨c11, Ar11, -, S11, M11, H11, -⟩ := id f10
  have hin11 := inb_of (j := (0 : Int32)) S11 ⟨by decide, by decide⟩
  have C13 := CHr.keep (((Keep.refl h0 []).ext E1).trans Kq6 (allS (P := fun zz => zz ∈ ([] : List Addr) ∨ h0.size ≤ zz) (Or.inr sz_b1) all0)) sf0 H0
  obtain ⟨b12, T12, h12, k12, d12, kb12, X12, e12, E12, hS12, hk12, hZ12, hown12, Ea12, Ca12, Va12, Ka12, la12, lb12, Cx12, -, ne12, st12⟩ := ldcCH (s := s) (vm0 := s.vm) X7 hx hZ hown (hw _ (tk 78 rfl)) (fun d hd => hw d (own_wS d hd)) e7 hS0 (Nat.le_trans hk0 (Nat.le_trans E1.1 Kq6.1)) (own_EW hw) own_mem87 C13.1 (vs := []) (z := 0) ⟨by decide, rfl⟩ (by decide) rfl (g := (mkF m 79 #[.val (.ref cv), .val (.ref b1), .val (.ref R), .val (.int 3), .val (.int 0), .val .null, .val (.int 0)] [(.ref b1)])) rfl (hb hby d6_79) (n := 0) (by decide) (by decide) (by decide) (by decide)
  have C12 := CHr.trans C13 Cx12
  have f15 := (E6q.ext E12)
  have f16 := (Vt6.ext E12)
  have na14 := Exa.ne Ea12 f15 (by decide)
  have nb14 := Exa.neArv Ea12 f16 (hw _ (tk 37 rfl))
  have nc14 := Exa.neArv f15 Ka12 (hw _ (tk 54 rfl))
  have nd14 := own_neA Ka12 f16 nofun
  have f18 := (Fm6q.ext E12)
  have f19 := (Fe6q.ext E12)
  have f20 := (Fs6q.ext E12)
  obtain ⟨cq17, kq17, q17a, q17b, q17c⟩ := isOf hZ12 e12 f15
  obtain ⟨_, _, ⟨T17, L17, k17, n17⟩, -, X17, ⟨Lc17, hQ17, l17, y17, z17⟩, st17⟩ := X12.interfaceBack hx (xi := y_41) (y := y_36) hown12 (mvT hZ12 (hw _ (tk 79 rfl))) (mvT hZ12 (hw _ (tk 80 rfl))) (mvT hZ12 (hw _ (tk 81 rfl))) (mvT hZ12 (hw _ (tk 82 rfl))) (mvT hZ12 (hw _ (tk 83 rfl))) (mvT hZ12 (hw _ (tk 84 rfl))) (mvT hZ12 (hw _ (tk 85 rfl))) (mvT hZ12 (hw _ (tk 86 rfl))) (by decide) (backOf (W := 0) (rmA0 l Z a0 hw [] b1 b12 t6 k6q (0 : Int32)  h12 n0 (Nat.le_trans Z0 (Nat.le_trans (Nat.le_trans E1.1 Kq6.1) E12.1)) f15 f18 f19 f20 g_b1 Ea12 f16 gt6 O6q) hZ12 (hw _ (tk 87 rfl)) (hw _ (tk 55 rfl)) (by decide) (by decide)) q17a q17b q17c (g := (mkF m 96 #[.val (.ref cv), .val (.ref b1), .val (.ref R), .val (.int 3), .val (.int 0), .val .null, .val (.int 0)] [(.ref b12), (.ref b1)])) rfl (by rw [hml]; rfl) (Steps.refl _) (argsL := [(.ref b12)]) (rest := []) (lenOf pd__Ljava_lang_Object__Z rfl) rfl (by show 2 * 0 + _ ≤ _; exact Nat.le_of_eq rfl) (hb hby d6_96) (fun _ _ => ⟨rfl, e12, (by decide : 4 + 0 ≤ _), (by decide : 10 + 0 ≤ _)⟩)
  dsimp only [Pt.U, Pt.locs, Pt.cells, Pt.slots] at X17 l17 y17 z17 st17 hQ17
  subst l17 y17 z17
  obtain ⟨rfl, Nq17, Kq17, E17q, Fm17q, Fe17q, Fs17q, V17q⟩ := hQ17
  have N17 := Fr.app N6 Nq17
  have f22 := ((f10.ext E12).keep Kq17 (ninS (Nat.ne_of_lt (Nat.lt_of_lt_of_le V_R.lt (Nat.le_of_eq g1.symm))) (ninS (Nat.ne_of_lt (Nat.lt_of_lt_of_le (Nat.lt_of_lt_of_le V_R.lt E1.1) st_6)) nin0)))
  obtain ⟨c21, Ar21, -, S21, M21, H21, -⟩ := id f22
  have hin21 := inb_of (j := (1 : Int32)) S21 ⟨by decide, by decide⟩
  have C24 := CHr.trans C12 (CHr.keep Kq17 (sfS (Safe.exa hZ12.alike f15 (by decide) (by decide)) (sfS (own_safeV hZ12 f16 nofun) sf0)) C12.1)
  obtain ⟨b23, T23, h23, k23, d23, kb23, X23, e23, E23, hS23, hk23, hZ23, hown23, Ea23, Ca23, Va23, Ka23, la23, lb23, Cx23, -, ne23, st23⟩ := ldcCH (s := s) (vm0 := T12.vm) X17 hx hZ12 hown12 (hw _ (tk 78 rfl)) (fun d hd => hw d (own_wS d hd)) rfl hS12 (Nat.le_trans hk12 Kq17.1) (own_EW hw) own_mem87 C24.1 (vs := []) (z := 0) ⟨by decide, rfl⟩ (by decide) rfl (g := (mkF m 79 #[.val (.ref cv), .val (.ref b1), .val (.ref R), .val (.int 3), .val (.int 1), .val .null, .val (.int 0)] [(.ref b1)])) rfl (hb hby d6_79) (n := 0) (by decide) (by decide) (by decide) (by decide)
  have C23 := CHr.trans C24 Cx23
  have f26 := (E17q.ext E23)
  have f27 := (V17q.ext E23)
  have na25 := Exa.ne Ea23 f26 (by decide)
  have nb25 := Exa.neArv Ea23 f27 (hw _ (tk 37 rfl))
  have nc25 := Exa.neArv f26 Ka23 (hw _ (tk 54 rfl))
  have nd25 := own_neA Ka23 f27 nofun
  have f29 := (Fm17q.ext E23)
  have f30 := (Fe17q.ext E23)
  have f31 := (Fs17q.ext E23)
  obtain ⟨cq28, kq28, q28a, q28b, q28c⟩ := isOf hZ23 e23 f26
  obtain ⟨_, _, ⟨T28, L28, k28, n28⟩, -, X28, ⟨Lc28, hQ28, l28, y28, z28⟩, st28⟩ := X23.interfaceBack hx (xi := y_41) (y := y_36) hown23 (mvT hZ23 (hw _ (tk 79 rfl))) (mvT hZ23 (hw _ (tk 80 rfl))) (mvT hZ23 (hw _ (tk 81 rfl))) (mvT hZ23 (hw _ (tk 82 rfl))) (mvT hZ23 (hw _ (tk 83 rfl))) (mvT hZ23 (hw _ (tk 84 rfl))) (mvT hZ23 (hw _ (tk 85 rfl))) (mvT hZ23 (hw _ (tk 86 rfl))) (by decide) (backOf (W := 0) (rmA1 l Z a0 hw [] b1 b23 t6 k6q ((0 : Int32) + (1 : Int32)) b12 h23 n0 (Nat.le_trans Z0 (Nat.le_trans (Nat.le_trans (Nat.le_trans (Nat.le_trans E1.1 Kq6.1) E12.1) Kq17.1) E23.1)) f26 f29 f30 f31 g_b1 Ea23 f27 gt6 O6q) hZ23 (hw _ (tk 87 rfl)) (hw _ (tk 55 rfl)) (by decide) (by decide)) q28a q28b q28c (g := (mkF m 96 #[.val (.ref cv), .val (.ref b1), .val (.ref R), .val (.int 3), .val (.int 1), .val .null, .val (.int 0)] [(.ref b23), (.ref b1)])) rfl (by rw [hml]; rfl) (Steps.refl _) (argsL := [(.ref b23)]) (rest := []) (lenOf pd__Ljava_lang_Object__Z rfl) rfl (by show 2 * 0 + _ ≤ _; exact Nat.le_of_eq rfl) (hb hby d6_96) (fun _ _ => ⟨rfl, e23, (by decide : 6 + 0 ≤ _), (by decide : 14 + 0 ≤ _)⟩)
  dsimp only [Pt.U, Pt.locs, Pt.cells, Pt.slots] at X28 l28 y28 z28 st28 hQ28
  subst l28 y28 z28
  obtain ⟨rfl, Nq28, Kq28, E28q, Fm28q, Fe28q, Fs28q, V28q⟩ := hQ28
  have N28 := Fr.app N17 Nq28
  have f33 := ((f22.ext E23).keep Kq28 (ninS (Nat.ne_of_lt (Nat.lt_of_lt_of_le V_R.lt (Nat.le_of_eq g1.symm))) (ninS (Nat.ne_of_lt (Nat.lt_of_lt_of_le (Nat.lt_of_lt_of_le V_R.lt E1.1) st_6)) nin0)))
  obtain ⟨c32, Ar32, -, S32, M32, H32, -⟩ := id f33
  have hin32 := inb_of (j := (2 : Int32)) S32 ⟨by decide, by decide⟩
  have f35 := ((((((V_A.ext E1).keep Kq6 (ninS (Nat.ne_of_lt (Nat.lt_of_lt_of_le V_A.lt (Nat.le_of_eq g1.symm))) nin0)).ext E12).keep Kq17 (ninS (Nat.ne_of_lt (Nat.lt_of_lt_of_le V_A.lt (Nat.le_of_eq g1.symm))) (ninS (Nat.ne_of_lt (Nat.lt_of_lt_of_le (Nat.lt_of_lt_of_le V_A.lt E1.1) st_6)) nin0))).ext E23).keep Kq28 (ninS (Nat.ne_of_lt (Nat.lt_of_lt_of_le V_A.lt (Nat.le_of_eq g1.symm))) (ninS (Nat.ne_of_lt (Nat.lt_of_lt_of_le (Nat.lt_of_lt_of_le V_A.lt E1.1) st_6)) nin0)))
  obtain ⟨c34, Ar34, -, S34, M34, -, -⟩ := id f35
  obtain ⟨c36, Ar36, -, S36, M36, H36, -⟩ := id f35
  have hin36 := inb_of (j := (Int32.ofNat xn)) S36 (own_in (j := xn) (n := xn + 1) (by omega) (by omega))
  have C37 := CHr.trans C23 (CHr.keep Kq28 (sfS (Safe.exa hZ23.alike f26 (by decide) (by decide)) (sfS (own_safeV hZ23 f27 nofun) sf0)) C23.1)
  obtain ⟨T38, h38, X38, e38, E38, A38, D38, -, st38⟩ := newO X28 hx hZ23 hown23 (hw _ (tk 224 rfl)) (hw _ (tk 37 rfl)) (hw _ (tk 36 rfl)) rfl (g := (mkF m 84 #[.val (.ref cv), .val (.ref b1), .val (.ref R), .val (.int 3), .val (.int 2), .val (.ref A), .val (.int (Int32.ofNat (xn + 1)))] [(.ref b1)])) rfl (hb hby d6_84) (by decide) (by decide)
  obtain ⟨b38, g38⟩ : ∃ z, z = T28.heap.size := ⟨_, rfl⟩
  rw [← g38] at A38 D38 st38
  have g_b38 : n0 ≤ b38 := Nat.le_trans (Nat.le_trans Z0 (Nat.le_trans (Nat.le_trans (Nat.le_trans (Nat.le_trans (Nat.le_trans E1.1 Kq6.1) E12.1) Kq17.1) E23.1) Kq28.1)) (Nat.le_of_eq g38.symm)
  have sz_b38 : h0.size ≤ b38 := Nat.le_trans (Nat.le_trans (Nat.le_trans (Nat.le_trans (Nat.le_trans (Nat.le_trans E1.1 Kq6.1) E12.1) Kq17.1) E23.1) Kq28.1) (Nat.le_of_eq g38.symm)
  have F38_value : Fld Z h38 b38 "java/lang/String" "value" "[B" .null := D38 (Or.inr (hw _ (tk 39 rfl))) (ty := (.array .byte)) (by decide)
  have F38_coder : Fld Z h38 b38 "java/lang/String" "coder" "B" (.int 0) := D38 (Or.inr (hw _ (tk 40 rfl))) (ty := .byte) (by decide)
  have C40 := CHr.trans C37 (CHr.ext E38 C37.1)
  have f41 := (((((((X00.ext E1).keep Kq6 (allS g_b1 all0)).ext E12).keep Kq17 (allS g_b1 (allS gt6 all0))).ext E23).keep Kq28 (allS g_b1 (allS gt6 all0))).ext E38)
  have f42 := (f35.ext E38)
  obtain ⟨_, _, ⟨T39, L39, k39, n39⟩, -, X39, ⟨Lc39, hQ39, l39, y39, z39⟩, st39⟩ := X38.specialBack hx (y := y_31) rfl hown23 (mvT hZ23 (hw _ (tk 225 rfl))) (mvT hZ23 (hw _ (tk 226 rfl))) (mvT hZ23 (hw _ (tk 227 rfl))) (by decide) (backOf (W := 2) (rmSIn l Z a0 hw [] G1 G3 b38 A kA (own_q xn) (xn + 1) (own_ql xn) h38 n0 (Nat.le_trans Z0 (Nat.le_trans (Nat.le_trans (Nat.le_trans (Nat.le_trans (Nat.le_trans (Nat.le_trans E1.1 Kq6.1) E12.1) Kq17.1) E23.1) Kq28.1) E38.1)) EN0 f41 A38 F38_coder F38_value g_b38 f42 (by rw [own_ql]; omega) (by rw [own_ql]; omega) (own_hqx xn)) hZ23 (hw _ (tk 227 rfl)) (hw _ (tk 36 rfl)) (by decide) (by decide)) (g := (mkF m 93 #[.val (.ref cv), .val (.ref b1), .val (.ref R), .val (.int 3), .val (.int 2), .val (.ref A), .val (.int (Int32.ofNat (xn + 1)))] [(.int (Int32.ofNat (xn + 1))), (.int 0), (.ref A), (.ref b38), (.ref b38), (.ref b1)])) rfl (by rw [hml]; rfl) (Steps.refl _) (a := b38) (argsL := [(.ref A), (.int 0), (.int (Int32.ofNat (xn + 1)))]) (rest := [(.ref b38), (.ref b1)]) (lenOf pd___III_V rfl) rfl (by show 2 * 0 + _ ≤ _; exact Nat.le_of_eq rfl) (hb hby d6_93) (fun _ _ => ⟨rfl, e38, (by decide : 7 + 1 ≤ _), (by decide : 18 + 4 ≤ _)⟩)
  dsimp only [Pt.U, Pt.locs, Pt.cells, Pt.slots] at X39 l39 y39 z39 st39 hQ39
  subst l39 y39 z39
  obtain ⟨rfl, Nq39, Kq39, sq39⟩ := hQ39
  have N39 := Fr.app N28 Nq39
  obtain ⟨bs39, ks39, Es39, Cs39, Vs39, Ks39, hps39, hls39⟩ := sq39
  have f44 := ((E28q.ext E38).keep Kq39)
  have f45 := ((V28q.ext E38).keep Kq39 (ninS (Nat.ne_of_lt (Nat.lt_of_lt_of_le (Nat.lt_of_lt_of_le Vt6.lt (Nat.le_trans (Nat.le_trans (Nat.le_trans E12.1 Kq17.1) E23.1) Kq28.1)) (Nat.le_of_eq g38.symm))) nin0))
  have na43 := Exa.ne Es39 f44 (by decide)
  have nb43 := Exa.neArv Es39 f45 (hw _ (tk 37 rfl))
  have nc43 := Exa.neArv f44 Ks39 (hw _ (tk 54 rfl))
  have nd43 := own_neA Ks39 f45 nofun
  have f47 := ((Fm28q.ext E38).keep Kq39 (ninS (Ne.symm na43) nin0))
  have f48 := ((Fe28q.ext E38).keep Kq39 (ninS (Ne.symm na43) nin0))
  have f49 := ((Fs28q.ext E38).keep Kq39 (ninS (Ne.symm na43) nin0))
  obtain ⟨cq46, kq46, q46a, q46b, q46c⟩ := isOf hZ23 rfl f44
  obtain ⟨_, _, ⟨T46, L46, k46, n46⟩, -, X46, ⟨Lc46, hQ46, l46, y46, z46⟩, st46⟩ := X39.interfaceBack hx (xi := y_41) (y := y_36) hown23 (mvT hZ23 (hw _ (tk 79 rfl))) (mvT hZ23 (hw _ (tk 80 rfl))) (mvT hZ23 (hw _ (tk 81 rfl))) (mvT hZ23 (hw _ (tk 82 rfl))) (mvT hZ23 (hw _ (tk 83 rfl))) (mvT hZ23 (hw _ (tk 84 rfl))) (mvT hZ23 (hw _ (tk 85 rfl))) (mvT hZ23 (hw _ (tk 86 rfl))) (by decide) (backOf (W := 0) (rmA2 l Z a0 hw [] b1 b38 t6 k6q (((0 : Int32) + (1 : Int32)) + (1 : Int32)) b12 b23 T39.heap n0 (Nat.le_trans Z0 (Nat.le_trans (Nat.le_trans (Nat.le_trans (Nat.le_trans (Nat.le_trans (Nat.le_trans (Nat.le_trans E1.1 Kq6.1) E12.1) Kq17.1) E23.1) Kq28.1) E38.1) Kq39.1)) f44 f47 f48 f49 g_b1 Es39 f45 gt6 O6q) hZ23 (hw _ (tk 87 rfl)) (hw _ (tk 55 rfl)) (by decide) (by decide)) q46a q46b q46c (g := (mkF m 96 #[.val (.ref cv), .val (.ref b1), .val (.ref R), .val (.int 3), .val (.int 2), .val (.ref A), .val (.int (Int32.ofNat (xn + 1)))] [(.ref b38), (.ref b1)])) rfl (by rw [hml]; rfl) (Steps.refl _) (argsL := [(.ref b38)]) (rest := []) (lenOf pd__Ljava_lang_Object__Z rfl) rfl (by show 2 * 0 + _ ≤ _; exact Nat.le_of_eq rfl) (hb hby d6_96) (fun _ _ => ⟨rfl, rfl, (by decide : 8 + 0 ≤ _), (by decide : 22 + 0 ≤ _)⟩)
  dsimp only [Pt.U, Pt.locs, Pt.cells, Pt.slots] at X46 l46 y46 z46 st46 hQ46
  subst l46 y46 z46
  obtain ⟨rfl, Nq46, Kq46, E46q, Fm46q, Fe46q, Fs46q, V46q⟩ := hQ46
  have N46 := Fr.app N39 Nq46
  have f50 := ((((((Ea12.keep Kq17).ext E23).keep Kq28).ext E38).keep Kq39).keep Kq46)
  have f51 := ((((((Ca12.keep Kq17 (ninS na14 (ninS nb14 nin0))).ext E23).keep Kq28 (ninS na14 (ninS nb14 nin0))).ext E38).keep Kq39 (ninS (Nat.ne_of_lt (Nat.lt_of_lt_of_le (Nat.lt_of_lt_of_le la12 (Nat.le_trans (Nat.le_trans Kq17.1 E23.1) Kq28.1)) (Nat.le_of_eq g38.symm))) nin0)).keep Kq46 (ninS na14 (ninS nb14 nin0)))
  have f52 := ((((((Va12.keep Kq17 (ninS na14 (ninS nb14 nin0))).ext E23).keep Kq28 (ninS na14 (ninS nb14 nin0))).ext E38).keep Kq39 (ninS (Nat.ne_of_lt (Nat.lt_of_lt_of_le (Nat.lt_of_lt_of_le la12 (Nat.le_trans (Nat.le_trans Kq17.1 E23.1) Kq28.1)) (Nat.le_of_eq g38.symm))) nin0)).keep Kq46 (ninS na14 (ninS nb14 nin0)))
  have f53 := ((((((Ka12.keep Kq17 (ninS (Ne.symm nc14) (ninS nd14 nin0))).ext E23).keep Kq28 (ninS (Ne.symm nc14) (ninS nd14 nin0))).ext E38).keep Kq39 (ninS (Nat.ne_of_lt (Nat.lt_of_lt_of_le (Nat.lt_of_lt_of_le lb12 (Nat.le_trans (Nat.le_trans Kq17.1 E23.1) Kq28.1)) (Nat.le_of_eq g38.symm))) nin0)).keep Kq46 (ninS (Ne.symm nc14) (ninS nd14 nin0)))
  have f54 := ((((Ea23.keep Kq28).ext E38).keep Kq39).keep Kq46)
  have f55 := ((((Ca23.keep Kq28 (ninS na25 (ninS nb25 nin0))).ext E38).keep Kq39 (ninS (Nat.ne_of_lt (Nat.lt_of_lt_of_le (Nat.lt_of_lt_of_le la23 Kq28.1) (Nat.le_of_eq g38.symm))) nin0)).keep Kq46 (ninS na25 (ninS nb25 nin0)))
  have f56 := ((((Va23.keep Kq28 (ninS na25 (ninS nb25 nin0))).ext E38).keep Kq39 (ninS (Nat.ne_of_lt (Nat.lt_of_lt_of_le (Nat.lt_of_lt_of_le la23 Kq28.1) (Nat.le_of_eq g38.symm))) nin0)).keep Kq46 (ninS na25 (ninS nb25 nin0)))
  have f57 := ((((Ka23.keep Kq28 (ninS (Ne.symm nc25) (ninS nd25 nin0))).ext E38).keep Kq39 (ninS (Nat.ne_of_lt (Nat.lt_of_lt_of_le (Nat.lt_of_lt_of_le lb23 Kq28.1) (Nat.le_of_eq g38.symm))) nin0)).keep Kq46 (ninS (Ne.symm nc25) (ninS nd25 nin0)))
  have f58 := (Es39.keep Kq46)
  have f59 := (Cs39.keep Kq46 (ninS na43 (ninS nb43 nin0)))
  have f60 := (Vs39.keep Kq46 (ninS na43 (ninS nb43 nin0)))
  have f61 := (Ks39.keep Kq46 (ninS (Ne.symm nc43) (ninS nd43 nin0)))
  obtain ⟨fs, hr, hrun, hended, hfin⟩ := X46.leaveW hS23 ((Nat.le_trans hk23 (Nat.le_trans (Nat.le_trans (Nat.le_trans Kq28.1 E38.1) Kq39.1) Kq46.1))) (v := some (.ref b1)) (fun h => by rw [Bd.returns] at h; cases h)
  refine ⟨_, _, pre0 _ ?_, hrun, hended, _, _, rfl, ?_, hfin.1, hfin.2.1, hfin.2.2.1, hfin.2.2.2.mono (by decide) (by decide)⟩
  · show Steps _ _ _ (s₁.setTop (mkF m 0 #[.val (.ref cv), .unset, .unset, .unset, .unset, .unset, .unset] [])) _
    refine st1 _ ?_
    show Steps _ _ _ (T1.setTop (mkF m 3 #[.val (.ref cv), .unset, .unset, .unset, .unset, .unset, .unset] [(.ref b1)])) _
    refine XS.dup X1.here hx rfl (hb hby d6_3) rfl rfl ?_
    refine XS.aloadN X1.here hx rfl (hb hby d6_4) rfl rfl ?_
    show Steps _ _ _ (T1.setTop (mkF m 5 #[.val (.ref cv), .unset, .unset, .unset, .unset, .unset, .unset] [(.ref cv), (.ref b1), (.ref b1)])) _
    refine st2 _ ?_
    show Steps _ _ _ (T2.setTop (mkF m 8 #[.val (.ref cv), .unset, .unset, .unset, .unset, .unset, .unset] [(.ref R), (.ref b1), (.ref b1)])) _
    refine X2.arraylength hx (by rw [e2]; exact Ar4.1) (State.isArrayOf_alike hZ.alike Ar4.2.1) (g := (mkF m 8 #[.val (.ref cv), .unset, .unset, .unset, .unset, .unset, .unset] [(.ref R), (.ref b1), (.ref b1)])) rfl rfl (hb hby d6_8) _ ?_
    rw [len_of S4 M4]
    show Steps _ _ _ (T2.setTop (mkF m 9 #[.val (.ref cv), .unset, .unset, .unset, .unset, .unset, .unset] [(.int 3), (.ref b1), (.ref b1)])) _
    refine st6.trans ?_
    show Steps _ _ _ (T6.setTop (mkF m 12 #[.val (.ref cv), .unset, .unset, .unset, .unset, .unset, .unset] [(.ref b1)])) _
    refine XS.astoreN X6.here hx rfl (hb hby d6_12) rfl rfl (l' := #[.val (.ref cv), .val (.ref b1), .unset, .unset, .unset, .unset, .unset]) rfl ?_
    refine XS.aloadN X6.here hx rfl (hb hby d6_13) rfl rfl ?_
    show Steps _ _ _ (T6.setTop (mkF m 14 #[.val (.ref cv), .val (.ref b1), .unset, .unset, .unset, .unset, .unset] [(.ref cv)])) _
    refine st7 _ ?_
    show Steps _ _ _ (T7.setTop (mkF m 17 #[.val (.ref cv), .val (.ref b1), .unset, .unset, .unset, .unset, .unset] [(.ref R)])) _
    refine XS.astoreN X7.here hx rfl (hb hby d6_17) rfl rfl (l' := #[.val (.ref cv), .val (.ref b1), .val (.ref R), .unset, .unset, .unset, .unset]) rfl ?_
    refine XS.aloadN X7.here hx rfl (hb hby d6_18) rfl rfl ?_
    show Steps _ _ _ (T7.setTop (mkF m 19 #[.val (.ref cv), .val (.ref b1), .val (.ref R), .unset, .unset, .unset, .unset] [(.ref R)])) _
    refine X7.arraylength hx (by rw [e7]; exact Ar9.1) (State.isArrayOf_alike hZ.alike Ar9.2.1) (g := (mkF m 19 #[.val (.ref cv), .val (.ref b1), .val (.ref R), .unset, .unset, .unset, .unset] [(.ref R)])) rfl rfl (hb hby d6_19) _ ?_
    rw [len_of S9 M9]
    show Steps _ _ _ (T7.setTop (mkF m 20 #[.val (.ref cv), .val (.ref b1), .val (.ref R), .unset, .unset, .unset, .unset] [(.int 3)])) _
    refine XS.istoreN X7.here hx rfl (hb hby d6_20) rfl (l' := #[.val (.ref cv), .val (.ref b1), .val (.ref R), .val (.int 3), .unset, .unset, .unset]) rfl ?_
    refine XS.iconst X7.here hx rfl (hb hby d6_21) ?_
    refine XS.istore X7.here hx rfl (hb hby d6_22) rfl (l' := #[.val (.ref cv), .val (.ref b1), .val (.ref R), .val (.int 3), .val (.int 0), .unset, .unset]) rfl ?_
    refine XS.iload X7.here hx rfl (hb hby d6_24) rfl ?_
    refine XS.iloadN X7.here hx rfl (hb hby d6_26) rfl ?_
    refine XS.icmpNo X7.here hx rfl (hb hby d6_27) rfl (tlt (by decide : (0 : Int32) < (3 : Int32))).2.1 ?_
    refine XS.aloadN X7.here hx rfl (hb hby d6_30) rfl rfl ?_
    refine XS.iload X7.here hx rfl (hb hby d6_31) rfl ?_
    show Steps _ _ _ (T7.setTop (mkF m 33 #[.val (.ref cv), .val (.ref b1), .val (.ref R), .val (.int 3), .val (.int 0), .unset, .unset] [(.int 0), (.ref R)])) _
    refine X7.aaload hx (j := (0 : Int32)) (v := .null) (by rw [e7]; exact Ar11.1) (State.isArrayOf_alike hZ.alike Ar11.2.1) rfl Ar11.2.2 hin11 (H11.at hin11 rfl) (g := (mkF m 33 #[.val (.ref cv), .val (.ref b1), .val (.ref R), .val (.int 3), .val (.int 0), .unset, .unset] [(.int 0), (.ref R)])) rfl rfl (hb hby d6_33) _ ?_
    show Steps _ _ _ (T7.setTop (mkF m 34 #[.val (.ref cv), .val (.ref b1), .val (.ref R), .val (.int 3), .val (.int 0), .unset, .unset] [.null])) _
    refine XS.astore X7.here hx rfl (hb hby d6_34) rfl rfl (l' := #[.val (.ref cv), .val (.ref b1), .val (.ref R), .val (.int 3), .val (.int 0), .val .null, .unset]) rfl ?_
    refine XS.aload X7.here hx rfl (hb hby d6_36) rfl rfl ?_
    refine XS.ifnonnullNo X7.here hx rfl (hb hby d6_38) rfl ?_
    refine XS.iconst X7.here hx rfl (hb hby d6_41) ?_
    refine XS.goto X7.here hx rfl (pc0 := 42) (pc' := 48) rfl (hb hby d6_42) (by decide) (by decide) ?_
    refine XS.istore X7.here hx rfl (hb hby d6_48) rfl (l' := #[.val (.ref cv), .val (.ref b1), .val (.ref R), .val (.int 3), .val (.int 0), .val .null, .val (.int 0)]) rfl ?_
    refine XS.iload X7.here hx rfl (hb hby d6_50) rfl ?_
    refine XS.ifYes X7.here hx rfl (pc0 := 52) (pc' := 73) rfl (hb hby d6_52) rfl ((if0 _ _).trans (flt (by decide : ¬ ((0 : Int32) < (0 : Int32)))).2.2.2) (by decide) (by decide) ?_
    refine XS.aloadN X7.here hx rfl (hb hby d6_73) rfl rfl ?_
    refine XS.iload X7.here hx rfl (hb hby d6_74) rfl ?_
    refine XS.ifNo X7.here hx rfl (hb hby d6_76) rfl ((if0 _ _).trans (teq (by decide : (0 : Int32) = (0 : Int32))).2) ?_
    show Steps _ _ _ (T7.setTop (mkF m 79 #[.val (.ref cv), .val (.ref b1), .val (.ref R), .val (.int 3), .val (.int 0), .val .null, .val (.int 0)] [(.ref b1)])) _
    refine st12 _ ?_
    show Steps _ _ _ (T12.setTop (mkF m 81 #[.val (.ref cv), .val (.ref b1), .val (.ref R), .val (.int 3), .val (.int 0), .val .null, .val (.int 0)] [(.ref b12), (.ref b1)])) _
    refine XS.goto X12.here hx rfl (pc0 := 81) (pc' := 96) rfl (hb hby d6_81) (by decide) (by decide) ?_
    show Steps _ _ _ (T12.setTop (mkF m 96 #[.val (.ref cv), .val (.ref b1), .val (.ref R), .val (.int 3), .val (.int 0), .val .null, .val (.int 0)] [(.ref b12), (.ref b1)])) _
    refine st17.trans ?_
    show Steps _ _ _ (T17.setTop (mkF m 101 #[.val (.ref cv), .val (.ref b1), .val (.ref R), .val (.int 3), .val (.int 0), .val .null, .val (.int 0)] [(.int 1)])) _
    refine XS.pop X17.here hx rfl (hb hby d6_101) rfl rfl ?_
    refine XS.iinc X17.here hx rfl (hb hby d6_102) rfl (l' := #[.val (.ref cv), .val (.ref b1), .val (.ref R), .val (.int 3), .val (.int ((0 : Int32) + (1 : Int32))), .val .null, .val (.int 0)]) rfl ?_
    show Steps _ _ _ (T17.setTop (mkF m 105 #[.val (.ref cv), .val (.ref b1), .val (.ref R), .val (.int 3), .val (.int ((0 : Int32) + (1 : Int32))), .val .null, .val (.int 0)] [])) _
    rw [(by decide : ((0 : Int32) + (1 : Int32)) = (1 : Int32))]
    show Steps _ _ _ (T17.setTop (mkF m 105 #[.val (.ref cv), .val (.ref b1), .val (.ref R), .val (.int 3), .val (.int 1), .val .null, .val (.int 0)] [])) _
    refine XS.goto X17.here hx rfl (pc0 := 105) (pc' := 24) rfl (hb hby d6_105) (by decide) (by decide) ?_
    refine XS.iload X17.here hx rfl (hb hby d6_24) rfl ?_
    refine XS.iloadN X17.here hx rfl (hb hby d6_26) rfl ?_
    refine XS.icmpNo X17.here hx rfl (hb hby d6_27) rfl (tlt (by decide : (1 : Int32) < (3 : Int32))).2.1 ?_
    refine XS.aloadN X17.here hx rfl (hb hby d6_30) rfl rfl ?_
    refine XS.iload X17.here hx rfl (hb hby d6_31) rfl ?_
    show Steps _ _ _ (T17.setTop (mkF m 33 #[.val (.ref cv), .val (.ref b1), .val (.ref R), .val (.int 3), .val (.int 1), .val .null, .val (.int 0)] [(.int 1), (.ref R)])) _
    refine X17.aaload hx (j := (1 : Int32)) (v := .null) Ar21.1 (State.isArrayOf_alike hZ12.alike Ar21.2.1) rfl Ar21.2.2 hin21 (H21.at hin21 rfl) (g := (mkF m 33 #[.val (.ref cv), .val (.ref b1), .val (.ref R), .val (.int 3), .val (.int 1), .val .null, .val (.int 0)] [(.int 1), (.ref R)])) rfl rfl (hb hby d6_33) _ ?_
    show Steps _ _ _ (T17.setTop (mkF m 34 #[.val (.ref cv), .val (.ref b1), .val (.ref R), .val (.int 3), .val (.int 1), .val .null, .val (.int 0)] [.null])) _
    refine XS.astore X17.here hx rfl (hb hby d6_34) rfl rfl (l' := #[.val (.ref cv), .val (.ref b1), .val (.ref R), .val (.int 3), .val (.int 1), .val .null, .val (.int 0)]) rfl ?_
    refine XS.aload X17.here hx rfl (hb hby d6_36) rfl rfl ?_
    refine XS.ifnonnullNo X17.here hx rfl (hb hby d6_38) rfl ?_
    refine XS.iconst X17.here hx rfl (hb hby d6_41) ?_
    refine XS.goto X17.here hx rfl (pc0 := 42) (pc' := 48) rfl (hb hby d6_42) (by decide) (by decide) ?_
    refine XS.istore X17.here hx rfl (hb hby d6_48) rfl (l' := #[.val (.ref cv), .val (.ref b1), .val (.ref R), .val (.int 3), .val (.int 1), .val .null, .val (.int 0)]) rfl ?_
    refine XS.iload X17.here hx rfl (hb hby d6_50) rfl ?_
    refine XS.ifYes X17.here hx rfl (pc0 := 52) (pc' := 73) rfl (hb hby d6_52) rfl ((if0 _ _).trans (flt (by decide : ¬ ((0 : Int32) < (0 : Int32)))).2.2.2) (by decide) (by decide) ?_
    refine XS.aloadN X17.here hx rfl (hb hby d6_73) rfl rfl ?_
    refine XS.iload X17.here hx rfl (hb hby d6_74) rfl ?_
    refine XS.ifNo X17.here hx rfl (hb hby d6_76) rfl ((if0 _ _).trans (teq (by decide : (0 : Int32) = (0 : Int32))).2) ?_
    show Steps _ _ _ (T17.setTop (mkF m 79 #[.val (.ref cv), .val (.ref b1), .val (.ref R), .val (.int 3), .val (.int 1), .val .null, .val (.int 0)] [(.ref b1)])) _
    refine st23 _ ?_
    show Steps _ _ _ (T23.setTop (mkF m 81 #[.val (.ref cv), .val (.ref b1), .val (.ref R), .val (.int 3), .val (.int 1), .val .null, .val (.int 0)] [(.ref b23), (.ref b1)])) _
    refine XS.goto X23.here hx rfl (pc0 := 81) (pc' := 96) rfl (hb hby d6_81) (by decide) (by decide) ?_
    show Steps _ _ _ (T23.setTop (mkF m 96 #[.val (.ref cv), .val (.ref b1), .val (.ref R), .val (.int 3), .val (.int 1), .val .null, .val (.int 0)] [(.ref b23), (.ref b1)])) _
    refine st28.trans ?_
    show Steps _ _ _ (T28.setTop (mkF m 101 #[.val (.ref cv), .val (.ref b1), .val (.ref R), .val (.int 3), .val (.int 1), .val .null, .val (.int 0)] [(.int 1)])) _
    refine XS.pop X28.here hx rfl (hb hby d6_101) rfl rfl ?_
    refine XS.iinc X28.here hx rfl (hb hby d6_102) rfl (l' := #[.val (.ref cv), .val (.ref b1), .val (.ref R), .val (.int 3), .val (.int ((1 : Int32) + (1 : Int32))), .val .null, .val (.int 0)]) rfl ?_
    show Steps _ _ _ (T28.setTop (mkF m 105 #[.val (.ref cv), .val (.ref b1), .val (.ref R), .val (.int 3), .val (.int ((1 : Int32) + (1 : Int32))), .val .null, .val (.int 0)] [])) _
    rw [(by decide : ((1 : Int32) + (1 : Int32)) = (2 : Int32))]
    show Steps _ _ _ (T28.setTop (mkF m 105 #[.val (.ref cv), .val (.ref b1), .val (.ref R), .val (.int 3), .val (.int 2), .val .null, .val (.int 0)] [])) _
    refine XS.goto X28.here hx rfl (pc0 := 105) (pc' := 24) rfl (hb hby d6_105) (by decide) (by decide) ?_
    refine XS.iload X28.here hx rfl (hb hby d6_24) rfl ?_
    refine XS.iloadN X28.here hx rfl (hb hby d6_26) rfl ?_
    refine XS.icmpNo X28.here hx rfl (hb hby d6_27) rfl (tlt (by decide : (2 : Int32) < (3 : Int32))).2.1 ?_
    refine XS.aloadN X28.here hx rfl (hb hby d6_30) rfl rfl ?_
    refine XS.iload X28.here hx rfl (hb hby d6_31) rfl ?_
    show Steps _ _ _ (T28.setTop (mkF m 33 #[.val (.ref cv), .val (.ref b1), .val (.ref R), .val (.int 3), .val (.int 2), .val .null, .val (.int 0)] [(.int 2), (.ref R)])) _
    refine X28.aaload hx (j := (2 : Int32)) (v := (.ref A)) Ar32.1 (State.isArrayOf_alike hZ23.alike Ar32.2.1) rfl Ar32.2.2 hin32 (H32.at hin32 rfl) (g := (mkF m 33 #[.val (.ref cv), .val (.ref b1), .val (.ref R), .val (.int 3), .val (.int 2), .val .null, .val (.int 0)] [(.int 2), (.ref R)])) rfl rfl (hb hby d6_33) _ ?_
    show Steps _ _ _ (T28.setTop (mkF m 34 #[.val (.ref cv), .val (.ref b1), .val (.ref R), .val (.int 3), .val (.int 2), .val .null, .val (.int 0)] [(.ref A)])) _
    refine XS.astore X28.here hx rfl (hb hby d6_34) rfl rfl (l' := #[.val (.ref cv), .val (.ref b1), .val (.ref R), .val (.int 3), .val (.int 2), .val (.ref A), .val (.int 0)]) rfl ?_
    refine XS.aload X28.here hx rfl (hb hby d6_36) rfl rfl ?_
    refine XS.ifnonnullYes X28.here hx rfl (pc0 := 38) (pc' := 45) rfl (hb hby d6_38) rfl (by decide) (by decide) ?_
    refine XS.aload X28.here hx rfl (hb hby d6_45) rfl rfl ?_
    show Steps _ _ _ (T28.setTop (mkF m 47 #[.val (.ref cv), .val (.ref b1), .val (.ref R), .val (.int 3), .val (.int 2), .val (.ref A), .val (.int 0)] [(.ref A)])) _
    refine X28.arraylength hx Ar34.1 (State.isArrayOf_alike hZ23.alike Ar34.2.1) (g := (mkF m 47 #[.val (.ref cv), .val (.ref b1), .val (.ref R), .val (.int 3), .val (.int 2), .val (.ref A), .val (.int 0)] [(.ref A)])) rfl rfl (hb hby d6_47) _ ?_
    rw [len_of S34 M34]
    show Steps _ _ _ (T28.setTop (mkF m 48 #[.val (.ref cv), .val (.ref b1), .val (.ref R), .val (.int 3), .val (.int 2), .val (.ref A), .val (.int 0)] [(.int (Int32.ofNat (xn + 1)))])) _
    refine XS.istore X28.here hx rfl (hb hby d6_48) rfl (l' := #[.val (.ref cv), .val (.ref b1), .val (.ref R), .val (.int 3), .val (.int 2), .val (.ref A), .val (.int (Int32.ofNat (xn + 1)))]) rfl ?_
    refine XS.iload X28.here hx rfl (hb hby d6_50) rfl ?_
    refine XS.ifNo X28.here hx rfl (hb hby d6_52) rfl ((if0 _ _).trans (tlt ((own_lt (i := 0) (by omega) (by omega)).mpr (by omega))).2.2.2) ?_
    refine XS.aload X28.here hx rfl (hb hby d6_55) rfl rfl ?_
    refine XS.iload X28.here hx rfl (hb hby d6_57) rfl ?_
    refine XS.iconst X28.here hx rfl (hb hby d6_59) ?_
    refine XS.isub X28.here hx rfl (hb hby d6_60) rfl ?_
    show Steps _ _ _ (T28.setTop (mkF m 61 #[.val (.ref cv), .val (.ref b1), .val (.ref R), .val (.int 3), .val (.int 2), .val (.ref A), .val (.int (Int32.ofNat (xn + 1)))] [(.int ((Int32.ofNat (xn + 1)) - (1 : Int32))), (.ref A)])) _
    rw [(own_sub1 xn)]
    show Steps _ _ _ (T28.setTop (mkF m 61 #[.val (.ref cv), .val (.ref b1), .val (.ref R), .val (.int 3), .val (.int 2), .val (.ref A), .val (.int (Int32.ofNat (xn + 1)))] [(.int (Int32.ofNat xn)), (.ref A)])) _
    refine X28.iaload hx (j := (Int32.ofNat xn)) (v := (.int 81)) Ar36.1 (State.isArrayOf_alike hZ23.alike Ar36.2.1) Ar36.2.2 hin36 (H36.at hin36 (own_rx xn (by omega))) (g := (mkF m 61 #[.val (.ref cv), .val (.ref b1), .val (.ref R), .val (.int 3), .val (.int 2), .val (.ref A), .val (.int (Int32.ofNat (xn + 1)))] [(.int (Int32.ofNat xn)), (.ref A)])) rfl rfl (hb hby d6_61) _ ?_
    show Steps _ _ _ (T28.setTop (mkF m 62 #[.val (.ref cv), .val (.ref b1), .val (.ref R), .val (.int 3), .val (.int 2), .val (.ref A), .val (.int (Int32.ofNat (xn + 1)))] [(.int 81)])) _
    refine XS.bipush X28.here hx rfl (hb hby d6_62) ?_
    refine XS.icmpYes X28.here hx rfl (pc0 := 64) (pc' := 73) rfl (hb hby d6_64) rfl (feq (by decide : ¬ ((81 : Int32) = (32 : Int32)))).2 (by decide) (by decide) ?_
    refine XS.aloadN X28.here hx rfl (hb hby d6_73) rfl rfl ?_
    refine XS.iload X28.here hx rfl (hb hby d6_74) rfl ?_
    refine XS.ifYes X28.here hx rfl (pc0 := 76) (pc' := 84) rfl (hb hby d6_76) rfl ((if0 _ _).trans (feq (fun q => absurd ((own_eq (j := 0) (by omega) (by omega)).mp q) (by omega))).2) (by decide) (by decide) ?_
    show Steps _ _ _ (T28.setTop (mkF m 84 #[.val (.ref cv), .val (.ref b1), .val (.ref R), .val (.int 3), .val (.int 2), .val (.ref A), .val (.int (Int32.ofNat (xn + 1)))] [(.ref b1)])) _
    refine st38 _ ?_
    show Steps _ _ _ (T38.setTop (mkF m 87 #[.val (.ref cv), .val (.ref b1), .val (.ref R), .val (.int 3), .val (.int 2), .val (.ref A), .val (.int (Int32.ofNat (xn + 1)))] [(.ref b38), (.ref b1)])) _
    refine XS.dup X38.here hx rfl (hb hby d6_87) rfl rfl ?_
    refine XS.aload X38.here hx rfl (hb hby d6_88) rfl rfl ?_
    refine XS.iconst X38.here hx rfl (hb hby d6_90) ?_
    refine XS.iload X38.here hx rfl (hb hby d6_91) rfl ?_
    show Steps _ _ _ (T38.setTop (mkF m 93 #[.val (.ref cv), .val (.ref b1), .val (.ref R), .val (.int 3), .val (.int 2), .val (.ref A), .val (.int (Int32.ofNat (xn + 1)))] [(.int (Int32.ofNat (xn + 1))), (.int 0), (.ref A), (.ref b38), (.ref b38), (.ref b1)])) _
    refine st39.trans ?_
    show Steps _ _ _ (T39.setTop (mkF m 96 #[.val (.ref cv), .val (.ref b1), .val (.ref R), .val (.int 3), .val (.int 2), .val (.ref A), .val (.int (Int32.ofNat (xn + 1)))] [(.ref b38), (.ref b1)])) _
    refine st46.trans ?_
    show Steps _ _ _ (T46.setTop (mkF m 101 #[.val (.ref cv), .val (.ref b1), .val (.ref R), .val (.int 3), .val (.int 2), .val (.ref A), .val (.int (Int32.ofNat (xn + 1)))] [(.int 1)])) _
    refine XS.pop X46.here hx rfl (hb hby d6_101) rfl rfl ?_
    refine XS.iinc X46.here hx rfl (hb hby d6_102) rfl (l' := #[.val (.ref cv), .val (.ref b1), .val (.ref R), .val (.int 3), .val (.int ((2 : Int32) + (1 : Int32))), .val (.ref A), .val (.int (Int32.ofNat (xn + 1)))]) rfl ?_
    show Steps _ _ _ (T46.setTop (mkF m 105 #[.val (.ref cv), .val (.ref b1), .val (.ref R), .val (.int 3), .val (.int ((2 : Int32) + (1 : Int32))), .val (.ref A), .val (.int (Int32.ofNat (xn + 1)))] [])) _
    rw [(by decide : ((2 : Int32) + (1 : Int32)) = (3 : Int32))]
    show Steps _ _ _ (T46.setTop (mkF m 105 #[.val (.ref cv), .val (.ref b1), .val (.ref R), .val (.int 3), .val (.int 3), .val (.ref A), .val (.int (Int32.ofNat (xn + 1)))] [])) _
    refine XS.goto X46.here hx rfl (pc0 := 105) (pc' := 24) rfl (hb hby d6_105) (by decide) (by decide) ?_
    refine XS.iload X46.here hx rfl (hb hby d6_24) rfl ?_
    refine XS.iloadN X46.here hx rfl (hb hby d6_26) rfl ?_
    refine XS.icmpYes X46.here hx rfl (pc0 := 27) (pc' := 108) rfl (hb hby d6_27) rfl (flt (by decide : ¬ ((3 : Int32) < (3 : Int32)))).2.1 (by decide) (by decide) ?_
    refine XS.aloadN X46.here hx rfl (hb hby d6_108) rfl rfl ?_
    show Steps _ _ _ (T46.setTop (mkF m 109 #[.val (.ref cv), .val (.ref b1), .val (.ref R), .val (.int 3), .val (.int 3), .val (.ref A), .val (.int (Int32.ofNat (xn + 1)))] [(.ref b1)])) _
    jvm_step X46.here [X46.here.top, hx, (hb hby d6_109), X46.method', Bd.returns, Value.isRef, FieldType.isReference]
    first | (intro acts; rw [hr _ acts rfl rfl rfl]) | rw [hr _ _ rfl rfl rfl]
    exact Steps.refl _
  · show own_LN Z [] [] (own_q xn) h0 n0 _ T46.heap _
    exact ⟨b1, t6, k6q, b12, b23, b38, rfl, N46, ((((((((((Keep.refl h0 []).ext E1).trans Kq6 (allS (P := fun zz => zz ∈ ([] : List Addr) ∨ h0.size ≤ zz) (Or.inr sz_b1) all0)).ext E12).trans Kq17 (allS (P := fun zz => zz ∈ ([] : List Addr) ∨ h0.size ≤ zz) (Or.inr sz_b1) (allS (P := fun zz => zz ∈ ([] : List Addr) ∨ h0.size ≤ zz) (Or.inr szt6) all0))).ext E23).trans Kq28 (allS (P := fun zz => zz ∈ ([] : List Addr) ∨ h0.size ≤ zz) (Or.inr sz_b1) (allS (P := fun zz => zz ∈ ([] : List Addr) ∨ h0.size ≤ zz) (Or.inr szt6) all0))).ext E38).trans Kq39 (allS (P := fun zz => zz ∈ ([] : List Addr) ∨ h0.size ≤ zz) (Or.inr sz_b38) all0)).trans Kq46 (allS (P := fun zz => zz ∈ ([] : List Addr) ∨ h0.size ≤ zz) (Or.inr sz_b1) (allS (P := fun zz => zz ∈ ([] : List Addr) ∨ h0.size ≤ zz) (Or.inr szt6) all0))), E46q, Fe46q, Fs46q, V46q, ⟨d12, kb12, f50, f51, f52, f53, (fun _ q => nomatch q), (Nat.zero_le _)⟩, ⟨d23, kb23, f54, f55, f56, f57, (fun _ q => nomatch q), (Nat.zero_le _)⟩, ⟨bs39, ks39, f58, f59, f60, f61, hps39, hls39⟩⟩
theorem d17_0 : decode method_2_code 0 = .ok (.iload_n 1, 1) := by decide +kernel
theorem d17_1 : decode method_2_code 1 = .ok (.iload_n 3, 1) := by decide +kernel
theorem d17_2 : decode method_2_code 2 = .ok (.if_icmp .ne 34, 3) := by decide +kernel
theorem d17_5 : decode method_2_code 5 = .ok (.iload 4, 2) := by decide +kernel
theorem d17_7 : decode method_2_code 7 = .ok (.ifCond .eq 29, 3) := by decide +kernel
theorem d17_10 : decode method_2_code 10 = .ok (.aload_n 0, 1) := by decide +kernel
theorem d17_11 : decode method_2_code 11 = .ok (.invokevirtual 7, 3) := by decide +kernel
theorem d17_14 : decode method_2_code 14 = .ok (.iload_n 2, 1) := by decide +kernel
theorem d17_15 : decode method_2_code 15 = .ok (.iconst 1, 1) := by decide +kernel
theorem d17_16 : decode method_2_code 16 = .ok (.iadd, 1) := by decide +kernel
theorem d17_17 : decode method_2_code 17 = .ok (.if_icmp .ne 17, 3) := by decide +kernel
theorem d17_20 : decode method_2_code 20 = .ok (.aload_n 0, 1) := by decide +kernel
theorem d17_21 : decode method_2_code 21 = .ok (.iload_n 2, 1) := by decide +kernel
theorem pd__I_C : parseMethodDescriptor "(I)C" = some ⟨[.int], some .char⟩ := by decide +kernel
theorem d17_22 : decode method_2_code 22 = .ok (.invokevirtual 13, 3) := by decide +kernel
theorem d17_25 : decode method_2_code 25 = .ok (.bipush 81, 2) := by decide +kernel
theorem d17_27 : decode method_2_code 27 = .ok (.if_icmp .ne 7, 3) := by decide +kernel
theorem d17_30 : decode method_2_code 30 = .ok (.iconst 1, 1) := by decide +kernel
theorem d17_31 : decode method_2_code 31 = .ok (.goto 4, 3) := by decide +kernel
theorem d17_35 : decode method_2_code 35 = .ok (.ireturn, 1) := by decide +kernel
theorem d17_36 : decode method_2_code 36 = .ok (.aload_n 0, 1) := by decide +kernel
theorem d17_37 : decode method_2_code 37 = .ok (.invokevirtual 7, 3) := by decide +kernel
theorem d17_40 : decode method_2_code 40 = .ok (.ifCond .ne 7, 3) := by decide +kernel
theorem d17_43 : decode method_2_code 43 = .ok (.iconst 1, 1) := by decide +kernel
theorem d17_44 : decode method_2_code 44 = .ok (.goto 4, 3) := by decide +kernel
theorem d17_48 : decode method_2_code 48 = .ok (.ireturn, 1) := by decide +kernel
theorem pn_17 : plainName "dev/treefold/text/CanvasClipPinLaw" = true := by first | (simp [plainName, overriddenIn]; done) | decide +kernel
theorem ef_17_rrrrr (m : MethodId) (x0 : Addr) (x1 : Int32) (x2 : Int32) (x3 : Int32) (x4 : Int32) : entryFrame m #[(.ref x0), (.int x1), (.int x2), (.int x3), (.int x4)] 5 = mkF m 0 #[.val (.ref x0), .val (.int x1), .val (.int x2), .val (.int x3), .val (.int x4)] [] := by first | (simp [entryFrame, mkF, argsToLocals, Value.category]; done) | rfl
theorem rmRKI (l : Launch) (Z : State) (a0 : Array Value) (hw : ∀ d ∈ tables_1, d.before a0 Z = true) (ws : List Jvm.Cond) (G1 : Int32) (G3 : Value) (x : Addr) (k1 : Int32) (xn : Nat) (k3 : Int32) (i4 : Int32) (h0 : Heap) (n0 : Nat) (Z0 : n0 ≤ h0.size) (EN : own_env Z G1 G3) (X00 : Old Z n0 h0) (hxn : xn < 4) (S_x : own_s Z h0 x (own_q xn)) (h1 : k1 = k3) (h2 : ¬ (i4 = (0 : Int32))) :
    MetFree l y_42 (head1 (Jvm.Cond.code y_42 method_2_code 5 (some .boolean) :: ws) ({ frames := 4, cells := 0, slots := 0, locals := 53 } : Room)) (fun a_ U_ => a_ = #[(.ref x), (.int k1), (.int (Int32.ofNat xn)), (.int k3), (.int i4)] ∧ Z.Warmed39 U_.vm ∧ U_.heap = h0) (fun _ _ _ _ _ => True) (fun _ U_ o_ U1_ => ∃ v_ L_, o_ = .returned v_ ∧ own_Q Z (some (.int 1)) h0 n0 v_ U1_.heap L_ ∧ FrameEnd U_ o_ U1_ L_ ({ frames := 4, cells := 0, slots := 0, locals := 53 } : Room).cells ({ frames := 4, cells := 0, slots := 0, locals := 53 } : Room).slots) := by
  refine MetFree.of_bodySF (plainFor_of_name pn_17) hisR ?_
  intro p e s m args below meth c s₁ Bd hml0 hP hK
  obtain ⟨rfl, hZ, hh⟩ := hP
  have hx := Bd.exec
  have hby := Bd.bytes
  have hml : c.maxLocals = 5 := hml0
  have hown : s.vm.findClass "dev/treefold/text/CanvasClipPinLaw" = some m.cls := findClass_of_methodNamed Bd.named
  have hnm := (name_of_methodNamed Bd.named Bd.method).1
  have X0 : Stand p l e ({ frames := 4, cells := 0, slots := 0, locals := 53 } : Room) s m #[(.ref x), (.int k1), (.int (Int32.ofNat xn)), (.int k3), (.int i4)] below meth c s₁ [] 0 0 := Stand.of_body Bd
  have e0 : s₁.heap = h0 := by rw [← hh, Bd.state]; rfl
  have N0 := Fr.nil n0
  have pre0 : ∀ tt, Steps p.tables e below (s₁.setTop (mkF m 0 #[.val (.ref x), .val (.int k1), .val (.int (Int32.ofNat xn)), .val (.int k3), .val (.int i4)] [])) tt → Steps p.tables e below (s₁.setTop (entryFrame m #[(.ref x), (.int k1), (.int (Int32.ofNat xn)), (.int k3), (.int i4)] 5)) tt := fun tt kk => castTop (ef_17_rrrrr m x k1 (Int32.ofNat xn) k3 i4) kk
  have EN0 := EN
  obtain ⟨O2, P5, O4, rG3⟩ := EN
  obtain ⟨b_x, k_x, E_x, C_x, V_x, K_x, hp_x, hl_x⟩ := id S_x
  obtain ⟨cq1, kq1, q1a, q1b, q1c⟩ := isOf hZ e0 E_x
  obtain ⟨_, _, ⟨T1, L1, k1, n1⟩, -, X1, ⟨Lc1, hQ1, l1, y1, z1⟩, st1⟩ := X0.virtualBack hx (y := y_2) (z := y_2) hown (mvT hZ (hw _ (tk 133 rfl))) (mvT hZ (hw _ (tk 134 rfl))) (notFace_of_selects (args := #[]) (mvT hZ (hw _ (tk 136 rfl)))) (mvT hZ (hw _ (tk 136 rfl))) (mvT hZ (hw _ (tk 135 rfl))) (by decide) (backOf (W := 0) (rmLN l Z a0 hw [] G1 G3 x (own_q xn) h0 n0 Z0 EN0 X00 ⟨b_x, k_x, E_x, C_x, V_x, K_x, hp_x, hl_x⟩) hZ (hw _ (tk 137 rfl)) (hw _ (tk 36 rfl)) (by decide) (by decide)) q1a q1c (g := (mkF m 11 #[.val (.ref x), .val (.int k1), .val (.int (Int32.ofNat xn)), .val (.int k3), .val (.int i4)] [(.ref x)])) rfl (by rw [hml]; rfl) (Steps.refl _) (argsL := []) (rest := []) (lenOf pd___I rfl) rfl (by show 2 * 0 + _ ≤ _; exact Nat.le_of_eq rfl) (hb hby d17_11) (fun _ _ => ⟨rfl, e0, (by decide : 0 + 0 ≤ _), (by decide : 0 + 0 ≤ _)⟩)
  dsimp only [Pt.U, Pt.locs, Pt.cells, Pt.slots] at X1 l1 y1 z1 st1 hQ1
  subst l1 y1 z1
  obtain ⟨rfl, Nq1, eq1⟩ := hQ1
  have N1 := Fr.app N0 Nq1
  obtain ⟨cq2, kq2, q2a, q2b, q2c⟩ := isOf hZ eq1 E_x
  obtain ⟨_, _, ⟨T2, L2, k2, n2⟩, -, X2, ⟨Lc2, hQ2, l2, y2, z2⟩, st2⟩ := X1.virtualBack hx (y := y_19) (z := y_19) hown (mvT hZ (hw _ (tk 242 rfl))) (mvT hZ (hw _ (tk 243 rfl))) (notFace_of_selects (args := #[]) (mvT hZ (hw _ (tk 245 rfl)))) (mvT hZ (hw _ (tk 245 rfl))) (mvT hZ (hw _ (tk 244 rfl))) (by decide) (backOf (W := 0) (rmCHA l Z a0 hw [] G1 G3 x (own_q xn) xn h0 n0 Z0 EN0 X00 ⟨b_x, k_x, E_x, C_x, V_x, K_x, hp_x, hl_x⟩ (by rw [own_ql]; omega)) hZ (hw _ (tk 246 rfl)) (hw _ (tk 36 rfl)) (by decide) (by decide)) q2a q2c (g := (mkF m 22 #[.val (.ref x), .val (.int k1), .val (.int (Int32.ofNat xn)), .val (.int k3), .val (.int i4)] [(.int (Int32.ofNat xn)), (.ref x)])) rfl (by rw [hml]; rfl) (Steps.refl _) (argsL := [(.int (Int32.ofNat xn))]) (rest := []) (lenOf pd__I_C rfl) rfl (by show 2 * 0 + _ ≤ _; exact Nat.le_of_eq rfl) (hb hby d17_22) (fun _ _ => ⟨rfl, eq1, (by decide : 0 + 0 ≤ _), (by decide : 0 + 0 ≤ _)⟩)
  dsimp only [Pt.U, Pt.locs, Pt.cells, Pt.slots] at X2 l2 y2 z2 st2 hQ2
  subst l2 y2 z2
  obtain ⟨rfl, Nq2, eq2⟩ := hQ2
  have N2 := Fr.app N1 Nq2
  obtain ⟨fs, hr, hrun, hended, hW, hsame⟩ := X2.leave (v := some (.int 1)) (fun h => by rw [Bd.returns] at h; cases h)
  refine ⟨_, _, pre0 _ ?_, hrun, hended, _, _, rfl, ?_, ⟨_, rfl⟩, hW, hsame.mono (by decide) (by decide)⟩
  · show Steps _ _ _ (s₁.setTop (mkF m 0 #[.val (.ref x), .val (.int k1), .val (.int (Int32.ofNat xn)), .val (.int k3), .val (.int i4)] [])) _
    refine XS.iloadN X0.here hx rfl (hb hby d17_0) rfl ?_
    refine XS.iloadN X0.here hx rfl (hb hby d17_1) rfl ?_
    refine XS.icmpNo X0.here hx rfl (hb hby d17_2) rfl (teq h1).2 ?_
    refine XS.iload X0.here hx rfl (hb hby d17_5) rfl ?_
    refine XS.ifNo X0.here hx rfl (hb hby d17_7) rfl ((if0 _ _).trans (feq h2).1) ?_
    refine XS.aloadN X0.here hx rfl (hb hby d17_10) rfl rfl ?_
    show Steps _ _ _ (s₁.setTop (mkF m 11 #[.val (.ref x), .val (.int k1), .val (.int (Int32.ofNat xn)), .val (.int k3), .val (.int i4)] [(.ref x)])) _
    refine st1.trans ?_
    show Steps _ _ _ (T1.setTop (mkF m 14 #[.val (.ref x), .val (.int k1), .val (.int (Int32.ofNat xn)), .val (.int k3), .val (.int i4)] [(.int (Int32.ofNat (own_q xn).length))])) _
    rw [(congrArg Int32.ofNat (own_ql xn))]
    show Steps _ _ _ (T1.setTop (mkF m 14 #[.val (.ref x), .val (.int k1), .val (.int (Int32.ofNat xn)), .val (.int k3), .val (.int i4)] [(.int (Int32.ofNat (xn + 1)))])) _
    refine XS.iloadN X1.here hx rfl (hb hby d17_14) rfl ?_
    refine XS.iconst X1.here hx rfl (hb hby d17_15) ?_
    refine XS.iadd X1.here hx rfl (hb hby d17_16) rfl ?_
    show Steps _ _ _ (T1.setTop (mkF m 17 #[.val (.ref x), .val (.int k1), .val (.int (Int32.ofNat xn)), .val (.int k3), .val (.int i4)] [(.int ((Int32.ofNat xn) + (1 : Int32))), (.int (Int32.ofNat (xn + 1)))])) _
    rw [(own_succ xn)]
    show Steps _ _ _ (T1.setTop (mkF m 17 #[.val (.ref x), .val (.int k1), .val (.int (Int32.ofNat xn)), .val (.int k3), .val (.int i4)] [(.int (Int32.ofNat (xn + 1))), (.int (Int32.ofNat (xn + 1)))])) _
    refine XS.icmpNo X1.here hx rfl (hb hby d17_17) rfl (teq (rfl : (Int32.ofNat (xn + 1)) = (Int32.ofNat (xn + 1)))).2 ?_
    refine XS.aloadN X1.here hx rfl (hb hby d17_20) rfl rfl ?_
    refine XS.iloadN X1.here hx rfl (hb hby d17_21) rfl ?_
    show Steps _ _ _ (T1.setTop (mkF m 22 #[.val (.ref x), .val (.int k1), .val (.int (Int32.ofNat xn)), .val (.int k3), .val (.int i4)] [(.int (Int32.ofNat xn)), (.ref x)])) _
    refine st2.trans ?_
    show Steps _ _ _ (T2.setTop (mkF m 25 #[.val (.ref x), .val (.int k1), .val (.int (Int32.ofNat xn)), .val (.int k3), .val (.int i4)] [(.int ((own_q xn).getD xn 0))])) _
    rw [(own_qx xn)]
    show Steps _ _ _ (T2.setTop (mkF m 25 #[.val (.ref x), .val (.int k1), .val (.int (Int32.ofNat xn)), .val (.int k3), .val (.int i4)] [(.int 81)])) _
    refine XS.bipush X2.here hx rfl (hb hby d17_25) ?_
    refine XS.icmpNo X2.here hx rfl (hb hby d17_27) rfl (teq (by decide : (81 : Int32) = (81 : Int32))).2 ?_
    refine XS.iconst X2.here hx rfl (hb hby d17_30) ?_
    refine XS.goto X2.here hx rfl (pc0 := 31) (pc' := 35) rfl (hb hby d17_31) (by decide) (by decide) ?_
    show Steps _ _ _ (T2.setTop (mkF m 35 #[.val (.ref x), .val (.int k1), .val (.int (Int32.ofNat xn)), .val (.int k3), .val (.int i4)] [(.int 1)])) _
    exact retN X2 hx (t := .boolean) Bd.returns (by simp) (hb hby d17_35) hr
  · show own_Q Z (some (.int 1)) h0 n0 _ T2.heap _
    rw [eq2]
    exact ⟨rfl, N2, rfl⟩
theorem rmRKA (l : Launch) (Z : State) (a0 : Array Value) (hw : ∀ d ∈ tables_1, d.before a0 Z = true) (ws : List Jvm.Cond) (G1 : Int32) (G3 : Value) (x : Addr) (k1 : Int32) (xn : Nat) (k3 : Int32) (i4 : Int32) (h0 : Heap) (n0 : Nat) (Z0 : n0 ≤ h0.size) (EN : own_env Z G1 G3) (X00 : Old Z n0 h0) (hxn : xn < 4) (S_x : own_s Z h0 x ([] : List Int32)) (h1 : ¬ (k1 = k3)) :
    MetFree l y_42 (head1 (Jvm.Cond.code y_42 method_2_code 5 (some .boolean) :: ws) ({ frames := 4, cells := 0, slots := 0, locals := 53 } : Room)) (fun a_ U_ => a_ = #[(.ref x), (.int k1), (.int (Int32.ofNat xn)), (.int k3), (.int i4)] ∧ Z.Warmed39 U_.vm ∧ U_.heap = h0) (fun _ _ _ _ _ => True) (fun _ U_ o_ U1_ => ∃ v_ L_, o_ = .returned v_ ∧ own_Q Z (some (.int 1)) h0 n0 v_ U1_.heap L_ ∧ FrameEnd U_ o_ U1_ L_ ({ frames := 4, cells := 0, slots := 0, locals := 53 } : Room).cells ({ frames := 4, cells := 0, slots := 0, locals := 53 } : Room).slots) := by
  refine MetFree.of_bodySF (plainFor_of_name pn_17) hisR ?_
  intro p e s m args below meth c s₁ Bd hml0 hP hK
  obtain ⟨rfl, hZ, hh⟩ := hP
  have hx := Bd.exec
  have hby := Bd.bytes
  have hml : c.maxLocals = 5 := hml0
  have hown : s.vm.findClass "dev/treefold/text/CanvasClipPinLaw" = some m.cls := findClass_of_methodNamed Bd.named
  have hnm := (name_of_methodNamed Bd.named Bd.method).1
  have X0 : Stand p l e ({ frames := 4, cells := 0, slots := 0, locals := 53 } : Room) s m #[(.ref x), (.int k1), (.int (Int32.ofNat xn)), (.int k3), (.int i4)] below meth c s₁ [] 0 0 := Stand.of_body Bd
  have e0 : s₁.heap = h0 := by rw [← hh, Bd.state]; rfl
  have N0 := Fr.nil n0
  have pre0 : ∀ tt, Steps p.tables e below (s₁.setTop (mkF m 0 #[.val (.ref x), .val (.int k1), .val (.int (Int32.ofNat xn)), .val (.int k3), .val (.int i4)] [])) tt → Steps p.tables e below (s₁.setTop (entryFrame m #[(.ref x), (.int k1), (.int (Int32.ofNat xn)), (.int k3), (.int i4)] 5)) tt := fun tt kk => castTop (ef_17_rrrrr m x k1 (Int32.ofNat xn) k3 i4) kk
  have EN0 := EN
  obtain ⟨O2, P5, O4, rG3⟩ := EN
  obtain ⟨b_x, k_x, E_x, C_x, V_x, K_x, hp_x, hl_x⟩ := id S_x
  obtain ⟨cq1, kq1, q1a, q1b, q1c⟩ := isOf hZ e0 E_x
  obtain ⟨_, _, ⟨T1, L1, k1, n1⟩, -, X1, ⟨Lc1, hQ1, l1, y1, z1⟩, st1⟩ := X0.virtualBack hx (y := y_2) (z := y_2) hown (mvT hZ (hw _ (tk 133 rfl))) (mvT hZ (hw _ (tk 134 rfl))) (notFace_of_selects (args := #[]) (mvT hZ (hw _ (tk 136 rfl)))) (mvT hZ (hw _ (tk 136 rfl))) (mvT hZ (hw _ (tk 135 rfl))) (by decide) (backOf (W := 0) (rmLN l Z a0 hw [] G1 G3 x ([] : List Int32) h0 n0 Z0 EN0 X00 ⟨b_x, k_x, E_x, C_x, V_x, K_x, hp_x, hl_x⟩) hZ (hw _ (tk 137 rfl)) (hw _ (tk 36 rfl)) (by decide) (by decide)) q1a q1c (g := (mkF m 37 #[.val (.ref x), .val (.int k1), .val (.int (Int32.ofNat xn)), .val (.int k3), .val (.int i4)] [(.ref x)])) rfl (by rw [hml]; rfl) (Steps.refl _) (argsL := []) (rest := []) (lenOf pd___I rfl) rfl (by show 2 * 0 + _ ≤ _; exact Nat.le_of_eq rfl) (hb hby d17_37) (fun _ _ => ⟨rfl, e0, (by decide : 0 + 0 ≤ _), (by decide : 0 + 0 ≤ _)⟩)
  dsimp only [Pt.U, Pt.locs, Pt.cells, Pt.slots] at X1 l1 y1 z1 st1 hQ1
  subst l1 y1 z1
  obtain ⟨rfl, Nq1, eq1⟩ := hQ1
  have N1 := Fr.app N0 Nq1
  obtain ⟨fs, hr, hrun, hended, hW, hsame⟩ := X1.leave (v := some (.int 1)) (fun h => by rw [Bd.returns] at h; cases h)
  refine ⟨_, _, pre0 _ ?_, hrun, hended, _, _, rfl, ?_, ⟨_, rfl⟩, hW, hsame.mono (by decide) (by decide)⟩
  · show Steps _ _ _ (s₁.setTop (mkF m 0 #[.val (.ref x), .val (.int k1), .val (.int (Int32.ofNat xn)), .val (.int k3), .val (.int i4)] [])) _
    refine XS.iloadN X0.here hx rfl (hb hby d17_0) rfl ?_
    refine XS.iloadN X0.here hx rfl (hb hby d17_1) rfl ?_
    refine XS.icmpYes X0.here hx rfl (pc0 := 2) (pc' := 36) rfl (hb hby d17_2) rfl (feq h1).2 (by decide) (by decide) ?_
    refine XS.aloadN X0.here hx rfl (hb hby d17_36) rfl rfl ?_
    show Steps _ _ _ (s₁.setTop (mkF m 37 #[.val (.ref x), .val (.int k1), .val (.int (Int32.ofNat xn)), .val (.int k3), .val (.int i4)] [(.ref x)])) _
    refine st1.trans ?_
    show Steps _ _ _ (T1.setTop (mkF m 40 #[.val (.ref x), .val (.int k1), .val (.int (Int32.ofNat xn)), .val (.int k3), .val (.int i4)] [(.int (Int32.ofNat ([] : List Int32).length))])) _
    rw [(rfl : Int32.ofNat ([] : List Int32).length = (0 : Int32))]
    show Steps _ _ _ (T1.setTop (mkF m 40 #[.val (.ref x), .val (.int k1), .val (.int (Int32.ofNat xn)), .val (.int k3), .val (.int i4)] [(.int 0)])) _
    refine XS.ifNo X1.here hx rfl (hb hby d17_40) rfl ((if0 _ _).trans (teq (by decide : (0 : Int32) = (0 : Int32))).2) ?_
    refine XS.iconst X1.here hx rfl (hb hby d17_43) ?_
    refine XS.goto X1.here hx rfl (pc0 := 44) (pc' := 48) rfl (hb hby d17_44) (by decide) (by decide) ?_
    show Steps _ _ _ (T1.setTop (mkF m 48 #[.val (.ref x), .val (.int k1), .val (.int (Int32.ofNat xn)), .val (.int k3), .val (.int i4)] [(.int 1)])) _
    exact retN X1 hx (t := .boolean) Bd.returns (by simp) (hb hby d17_48) hr
  · show own_Q Z (some (.int 1)) h0 n0 _ T1.heap _
    rw [eq1]
    exact ⟨rfl, N1, rfl⟩
theorem rmRKB (l : Launch) (Z : State) (a0 : Array Value) (hw : ∀ d ∈ tables_1, d.before a0 Z = true) (ws : List Jvm.Cond) (G1 : Int32) (G3 : Value) (x : Addr) (k1 : Int32) (xn : Nat) (k3 : Int32) (i4 : Int32) (h0 : Heap) (n0 : Nat) (Z0 : n0 ≤ h0.size) (EN : own_env Z G1 G3) (X00 : Old Z n0 h0) (hxn : xn < 4) (S_x : own_s Z h0 x ([] : List Int32)) (h1 : k1 = k3) (h2 : i4 = (0 : Int32)) :
    MetFree l y_42 (head1 (Jvm.Cond.code y_42 method_2_code 5 (some .boolean) :: ws) ({ frames := 4, cells := 0, slots := 0, locals := 53 } : Room)) (fun a_ U_ => a_ = #[(.ref x), (.int k1), (.int (Int32.ofNat xn)), (.int k3), (.int i4)] ∧ Z.Warmed39 U_.vm ∧ U_.heap = h0) (fun _ _ _ _ _ => True) (fun _ U_ o_ U1_ => ∃ v_ L_, o_ = .returned v_ ∧ own_Q Z (some (.int 1)) h0 n0 v_ U1_.heap L_ ∧ FrameEnd U_ o_ U1_ L_ ({ frames := 4, cells := 0, slots := 0, locals := 53 } : Room).cells ({ frames := 4, cells := 0, slots := 0, locals := 53 } : Room).slots) := by
  refine MetFree.of_bodySF (plainFor_of_name pn_17) hisR ?_
  intro p e s m args below meth c s₁ Bd hml0 hP hK
  obtain ⟨rfl, hZ, hh⟩ := hP
  have hx := Bd.exec
  have hby := Bd.bytes
  have hml : c.maxLocals = 5 := hml0
  have hown : s.vm.findClass "dev/treefold/text/CanvasClipPinLaw" = some m.cls := findClass_of_methodNamed Bd.named
  have hnm := (name_of_methodNamed Bd.named Bd.method).1
  have X0 : Stand p l e ({ frames := 4, cells := 0, slots := 0, locals := 53 } : Room) s m #[(.ref x), (.int k1), (.int (Int32.ofNat xn)), (.int k3), (.int i4)] below meth c s₁ [] 0 0 := Stand.of_body Bd
  have e0 : s₁.heap = h0 := by rw [← hh, Bd.state]; rfl
  have N0 := Fr.nil n0
  have pre0 : ∀ tt, Steps p.tables e below (s₁.setTop (mkF m 0 #[.val (.ref x), .val (.int k1), .val (.int (Int32.ofNat xn)), .val (.int k3), .val (.int i4)] [])) tt → Steps p.tables e below (s₁.setTop (entryFrame m #[(.ref x), (.int k1), (.int (Int32.ofNat xn)), (.int k3), (.int i4)] 5)) tt := fun tt kk => castTop (ef_17_rrrrr m x k1 (Int32.ofNat xn) k3 i4) kk
  have EN0 := EN
  obtain ⟨O2, P5, O4, rG3⟩ := EN
  obtain ⟨b_x, k_x, E_x, C_x, V_x, K_x, hp_x, hl_x⟩ := id S_x
  obtain ⟨cq1, kq1, q1a, q1b, q1c⟩ := isOf hZ e0 E_x
  obtain ⟨_, _, ⟨T1, L1, k1, n1⟩, -, X1, ⟨Lc1, hQ1, l1, y1, z1⟩, st1⟩ := X0.virtualBack hx (y := y_2) (z := y_2) hown (mvT hZ (hw _ (tk 133 rfl))) (mvT hZ (hw _ (tk 134 rfl))) (notFace_of_selects (args := #[]) (mvT hZ (hw _ (tk 136 rfl)))) (mvT hZ (hw _ (tk 136 rfl))) (mvT hZ (hw _ (tk 135 rfl))) (by decide) (backOf (W := 0) (rmLN l Z a0 hw [] G1 G3 x ([] : List Int32) h0 n0 Z0 EN0 X00 ⟨b_x, k_x, E_x, C_x, V_x, K_x, hp_x, hl_x⟩) hZ (hw _ (tk 137 rfl)) (hw _ (tk 36 rfl)) (by decide) (by decide)) q1a q1c (g := (mkF m 37 #[.val (.ref x), .val (.int k1), .val (.int (Int32.ofNat xn)), .val (.int k3), .val (.int i4)] [(.ref x)])) rfl (by rw [hml]; rfl) (Steps.refl _) (argsL := []) (rest := []) (lenOf pd___I rfl) rfl (by show 2 * 0 + _ ≤ _; exact Nat.le_of_eq rfl) (hb hby d17_37) (fun _ _ => ⟨rfl, e0, (by decide : 0 + 0 ≤ _), (by decide : 0 + 0 ≤ _)⟩)
  dsimp only [Pt.U, Pt.locs, Pt.cells, Pt.slots] at X1 l1 y1 z1 st1 hQ1
  subst l1 y1 z1
  obtain ⟨rfl, Nq1, eq1⟩ := hQ1
  have N1 := Fr.app N0 Nq1
  obtain ⟨fs, hr, hrun, hended, hW, hsame⟩ := X1.leave (v := some (.int 1)) (fun h => by rw [Bd.returns] at h; cases h)
  refine ⟨_, _, pre0 _ ?_, hrun, hended, _, _, rfl, ?_, ⟨_, rfl⟩, hW, hsame.mono (by decide) (by decide)⟩
  · show Steps _ _ _ (s₁.setTop (mkF m 0 #[.val (.ref x), .val (.int k1), .val (.int (Int32.ofNat xn)), .val (.int k3), .val (.int i4)] [])) _
    refine XS.iloadN X0.here hx rfl (hb hby d17_0) rfl ?_
    refine XS.iloadN X0.here hx rfl (hb hby d17_1) rfl ?_
    refine XS.icmpNo X0.here hx rfl (hb hby d17_2) rfl (teq h1).2 ?_
    refine XS.iload X0.here hx rfl (hb hby d17_5) rfl ?_
    refine XS.ifYes X0.here hx rfl (pc0 := 7) (pc' := 36) rfl (hb hby d17_7) rfl ((if0 _ _).trans (teq h2).1) (by decide) (by decide) ?_
    refine XS.aloadN X0.here hx rfl (hb hby d17_36) rfl rfl ?_
    show Steps _ _ _ (s₁.setTop (mkF m 37 #[.val (.ref x), .val (.int k1), .val (.int (Int32.ofNat xn)), .val (.int k3), .val (.int i4)] [(.ref x)])) _
    refine st1.trans ?_
    show Steps _ _ _ (T1.setTop (mkF m 40 #[.val (.ref x), .val (.int k1), .val (.int (Int32.ofNat xn)), .val (.int k3), .val (.int i4)] [(.int (Int32.ofNat ([] : List Int32).length))])) _
    rw [(rfl : Int32.ofNat ([] : List Int32).length = (0 : Int32))]
    show Steps _ _ _ (T1.setTop (mkF m 40 #[.val (.ref x), .val (.int k1), .val (.int (Int32.ofNat xn)), .val (.int k3), .val (.int i4)] [(.int 0)])) _
    refine XS.ifNo X1.here hx rfl (hb hby d17_40) rfl ((if0 _ _).trans (teq (by decide : (0 : Int32) = (0 : Int32))).2) ?_
    refine XS.iconst X1.here hx rfl (hb hby d17_43) ?_
    refine XS.goto X1.here hx rfl (pc0 := 44) (pc' := 48) rfl (hb hby d17_44) (by decide) (by decide) ?_
    show Steps _ _ _ (T1.setTop (mkF m 48 #[.val (.ref x), .val (.int k1), .val (.int (Int32.ofNat xn)), .val (.int k3), .val (.int i4)] [(.int 1)])) _
    exact retN X1 hx (t := .boolean) Bd.returns (by simp) (hb hby d17_48) hr
  · show own_Q Z (some (.int 1)) h0 n0 _ T1.heap _
    rw [eq1]
    exact ⟨rfl, N1, rfl⟩
theorem rmRKO (l : Launch) (Z : State) (a0 : Array Value) (hw : ∀ d ∈ tables_1, d.before a0 Z = true) (ws : List Jvm.Cond) (G1 : Int32) (G3 : Value) (x : Addr) (k1 : Int32) (xn : Nat) (k3 : Int32) (i4 : Int32) (h0 : Heap) (n0 : Nat) (Z0 : n0 ≤ h0.size) (EN : own_env Z G1 G3) (X00 : Old Z n0 h0) (hxn : xn < 4) (S_x : own_s Z h0 x ([] : List Int32)) (hor : ¬ (k1 = k3) ∨ i4 = (0 : Int32)) :
    MetFree l y_42 (head1 (Jvm.Cond.code y_42 method_2_code 5 (some .boolean) :: ws) ({ frames := 4, cells := 0, slots := 0, locals := 53 } : Room)) (fun a_ U_ => a_ = #[(.ref x), (.int k1), (.int (Int32.ofNat xn)), (.int k3), (.int i4)] ∧ Z.Warmed39 U_.vm ∧ U_.heap = h0) (fun _ _ _ _ _ => True) (fun _ U_ o_ U1_ => ∃ v_ L_, o_ = .returned v_ ∧ own_Q Z (some (.int 1)) h0 n0 v_ U1_.heap L_ ∧ FrameEnd U_ o_ U1_ L_ ({ frames := 4, cells := 0, slots := 0, locals := 53 } : Room).cells ({ frames := 4, cells := 0, slots := 0, locals := 53 } : Room).slots) := by
  by_cases h1 : k1 = k3
  · exact rmRKB l Z a0 hw ws G1 G3 x k1 xn k3 i4 h0 n0 Z0 EN X00 hxn S_x h1 (hor.resolve_left (fun q => q h1))
  · exact rmRKA l Z a0 hw ws G1 G3 x k1 xn k3 i4 h0 n0 Z0 EN X00 hxn S_x h1
def Q0 (Z : State) (h0 : Heap) (n0 : Nat) (v : Option Value) (h : Heap) (L : List Loc) : Prop := v = some (.int 1) ∧ Fr n0 L
theorem own_pos (x : Int32) : 0 ≤ (x &&& (2147483647 : Int32)).toInt := by
  have h : (x &&& 2147483647).toBitVec.toNat < 2147483648 := by
    simp only [Int32.toBitVec_and, BitVec.toNat_and]
    exact Nat.lt_succ_of_le Nat.and_le_right
  show 0 ≤ (x &&& 2147483647).toBitVec.toInt
  rw [BitVec.toInt_eq_toNat_cond, if_pos (by omega)]
  omega
theorem own_rem (x : Int32) (n : Int32) (k : Nat) (hn : n.toInt = k) (hk : 0 < k) (hb : k ≤ 8) : ∃ j : Nat, j < k ∧ ((x &&& (2147483647 : Int32)) % n) = Int32.ofNat j := by
  have h0 := own_pos x
  have e : ((x &&& (2147483647 : Int32)) % n).toInt = (x &&& (2147483647 : Int32)).toInt % k := by
    rw [Int32.toInt_mod, hn, Int.tmod_eq_emod_of_nonneg h0]
  have l1 := Int.emod_nonneg (x &&& (2147483647 : Int32)).toInt (b := k) (by omega)
  have l2 := Int.emod_lt_of_pos (x &&& (2147483647 : Int32)).toInt (b := k) (by omega)
  refine ⟨((x &&& (2147483647 : Int32)).toInt % k).toNat, by omega, Int32.toInt_inj.mp ?_⟩
  rw [e, Int32.toInt_ofNat_of_lt (by omega)]
  omega
theorem frL {p : Program} {l : Launch} {e : Env} {s : State} {m : MethodId} {args : Array Value} {below : List Frame} {meth : Method} {c : Code} {s₁ : State} {L0 : List Loc} {Z : State} {a0 : Array Value} (p1 : Int32) (p2 : Int32) (p3 : Int32) (p4 : Int32) (p5 : Int32) (p6 : Int32) (lf : Nat) (rt : Nat) (tp : Nat) (bt : Nat) (xn : Nat) (yI : Int32) (h0 : Heap) (n0 : Nat) (X0 : Stand p l e room_1 s m args below meth c s₁ L0 0 0) (hx : p.tables.exec = Jvm.exec) (hZ : Z.Warmed39 s.vm) (hw : ∀ d ∈ tables_1, d.before a0 Z = true) (hby : c.code = code) (hml : c.maxLocals = 15) (hown : s.vm.findClass "dev/treefold/text/CanvasClipPinLaw" = some m.cls) (e0 : s₁.heap = h0) (N0 : Fr n0 L0) (Z0 : n0 ≤ h0.size) (e1_ : ((p1 &&& (2147483647 : Int32)) % (5 : Int32)) = (Int32.ofNat lf)) (e2_ : ((p2 &&& (2147483647 : Int32)) % (5 : Int32)) = (Int32.ofNat rt)) (e3_ : ((p3 &&& (2147483647 : Int32)) % (4 : Int32)) = (Int32.ofNat tp)) (e4_ : ((p4 &&& (2147483647 : Int32)) % (4 : Int32)) = (Int32.ofNat bt)) (e5_ : ((p5 &&& (2147483647 : Int32)) % (4 : Int32)) = (Int32.ofNat xn)) (e6_ : ((p6 &&& (2147483647 : Int32)) % (3 : Int32)) = yI) (X00 : Old Z n0 h0) :
    ∃ (T' : State) (h' : Heap) (L' : List Loc) (cv : Addr) (R : Addr) (kR : ClassId), Stand p l e room_1 s m args below meth c T' L' 2 9 ∧ T'.heap = h' ∧ Fr n0 L' ∧ n0 ≤ h'.size ∧ Old Z n0 h' ∧ Keep h0 h' [] ∧ n0 ≤ cv ∧ n0 ≤ R ∧ h0.size ≤ cv ∧ h0.size ≤ R ∧ cv ≠ R ∧ Exa Z h' cv "dev/treefold/text/Canvas" ∧ Fld Z h' cv "dev/treefold/text/Canvas" "width" "I" (.int 4) ∧ Fld Z h' cv "dev/treefold/text/Canvas" "rows" "[[I" (.ref R) ∧ Fld Z h' cv "dev/treefold/text/Canvas" "clipLeft" "I" (.int (Int32.ofNat lf)) ∧ Fld Z h' cv "dev/treefold/text/Canvas" "clipTop" "I" (.int (Int32.ofNat tp)) ∧ Fld Z h' cv "dev/treefold/text/Canvas" "clipRight" "I" (.int (Int32.ofNat rt)) ∧ Fld Z h' cv "dev/treefold/text/Canvas" "clipBottom" "I" (.int (Int32.ofNat bt)) ∧ Arv Z h' R kR (.array .int) (3 : Int32) [.null, .null, .null] .null ∧ OvrA Z kR .int "[I" ∧ 
      ∀ target, Steps p.tables e below (T'.setTop (mkF m 95 #[.val (.int p1), .val (.int p2), .val (.int p3), .val (.int p4), .val (.int p5), .val (.int p6), .val (.int (Int32.ofNat lf)), .val (.int (Int32.ofNat rt)), .val (.int (Int32.ofNat tp)), .val (.int (Int32.ofNat bt)), .val (.int (Int32.ofNat xn)), .val (.int yI), .val (.ref cv), .unset, .unset] [])) target → Steps p.tables e below (s₁.setTop (mkF m 0 #[.val (.int p1), .val (.int p2), .val (.int p3), .val (.int p4), .val (.int p5), .val (.int p6), .unset, .unset, .unset, .unset, .unset, .unset, .unset, .unset, .unset] [])) target := by
  obtain ⟨T1, h1, X1, e1, E1, A1, D1, -, st1⟩ := newO X0 hx hZ hown (hw _ (tk 1 rfl)) (hw _ (tk 2 rfl)) (hw _ (tk 3 rfl)) e0 (g := (mkF m 50 #[.val (.int p1), .val (.int p2), .val (.int p3), .val (.int p4), .val (.int p5), .val (.int p6), .val (.int (Int32.ofNat lf)), .val (.int (Int32.ofNat rt)), .val (.int (Int32.ofNat tp)), .val (.int (Int32.ofNat bt)), .val (.int (Int32.ofNat xn)), .val (.int yI), .unset, .unset, .unset] [])) rfl (hb hby at_50) (by decide) (by decide)
  obtain ⟨b1, g1⟩ : ∃ z, z = h0.size := ⟨_, rfl⟩
  rw [← g1] at A1 D1 st1
  have g_b1 : n0 ≤ b1 := Nat.le_trans Z0 (Nat.le_of_eq g1.symm)
  have sz_b1 : h0.size ≤ b1 := Nat.le_trans (Nat.le_refl _) (Nat.le_of_eq g1.symm)
  have F1_width : Fld Z h1 b1 "dev/treefold/text/Canvas" "width" "I" (.int 0) := D1 (Or.inr (hw _ (tk 11 rfl))) (ty := .int) (by decide)
  have F1_rows : Fld Z h1 b1 "dev/treefold/text/Canvas" "rows" "[[I" .null := D1 (Or.inr (hw _ (tk 15 rfl))) (ty := (.array (.array .int))) (by decide)
  have F1_clipLeft : Fld Z h1 b1 "dev/treefold/text/Canvas" "clipLeft" "I" (.int 0) := D1 (Or.inl (hw _ (tk 27 rfl))) (ty := .int) (by decide)
  have F1_clipTop : Fld Z h1 b1 "dev/treefold/text/Canvas" "clipTop" "I" (.int 0) := D1 (Or.inl (hw _ (tk 29 rfl))) (ty := .int) (by decide)
  have F1_clipRight : Fld Z h1 b1 "dev/treefold/text/Canvas" "clipRight" "I" (.int 0) := D1 (Or.inl (hw _ (tk 31 rfl))) (ty := .int) (by decide)
  have F1_clipBottom : Fld Z h1 b1 "dev/treefold/text/Canvas" "clipBottom" "I" (.int 0) := D1 (Or.inl (hw _ (tk 33 rfl))) (ty := .int) (by decide)
  obtain ⟨_, _, ⟨T2, L2, k2, n2⟩, -, X2, ⟨Lc2, hQ2, l2, y2, z2⟩, st2⟩ := X1.specialBack hx (y := y_22) rfl hown (mvT hZ (hw _ (tk 4 rfl))) (mvT hZ (hw _ (tk 5 rfl))) (mvT hZ (hw _ (tk 6 rfl))) (by decide) (backOf (W := 1) (rmCV l Z a0 hw [] b1 h1 n0 (Nat.le_trans Z0 E1.1) A1 F1_width F1_rows F1_clipLeft F1_clipTop F1_clipRight F1_clipBottom g_b1) hZ (hw _ (tk 6 rfl)) (hw _ (tk 3 rfl)) (by decide) (by decide)) (g := (mkF m 56 #[.val (.int p1), .val (.int p2), .val (.int p3), .val (.int p4), .val (.int p5), .val (.int p6), .val (.int (Int32.ofNat lf)), .val (.int (Int32.ofNat rt)), .val (.int (Int32.ofNat tp)), .val (.int (Int32.ofNat bt)), .val (.int (Int32.ofNat xn)), .val (.int yI), .unset, .unset, .unset] [(.int 3), (.int 4), (.ref b1), (.ref b1)])) rfl (by rw [hml]; rfl) (Steps.refl _) (a := b1) (argsL := [(.int 4), (.int 3)]) (rest := [(.ref b1)]) (lenOf pd__II_V rfl) rfl (by show 2 * 0 + _ ≤ _; exact Nat.le_of_eq rfl) (hb hby at_56) (fun _ _ => ⟨rfl, e1, (by decide : 1 + 1 ≤ _), (by decide : 6 + 3 ≤ _)⟩)
  dsimp only [Pt.U, Pt.locs, Pt.cells, Pt.slots] at X2 l2 y2 z2 st2 hQ2
  subst l2 y2 z2
  obtain ⟨R2, kR2, rfl, Nq2, gR2, sR2, Kq2, Ec2, Fc2_0, Fc2_1, Fc2_2, Fc2_3, Fc2_4, Fc2_5, V2q, O2q⟩ := hQ2
  have N2 := Fr.app N0 Nq2
  have szR2 : h0.size ≤ R2 := Nat.le_trans E1.1 sR2
  obtain ⟨cq3, kq3, q3a, q3b, q3c⟩ := isOf hZ rfl Ec2
  obtain ⟨_, _, ⟨T3, L3, k3, n3⟩, -, X3, ⟨Lc3, hQ3, l3, y3, z3⟩, st3⟩ := X2.virtualBack hx (y := y_20) (z := y_20) hown (mvT hZ (hw _ (tk 34 rfl))) (mvT hZ (hw _ (tk 22 rfl))) (notFace_of_selects (args := #[]) (mvT hZ (hw _ (tk 24 rfl)))) (mvT hZ (hw _ (tk 24 rfl))) (mvT hZ (hw _ (tk 23 rfl))) (by decide) (backOf (W := 0) (rmCL l Z a0 hw [] b1 R2 (4 : Int32) (0 : Int32) (0 : Int32) (4 : Int32) (3 : Int32) ((4 : Int32) - (Int32.ofNat rt)) ((3 : Int32) - (Int32.ofNat bt)) ((4 : Int32) - (Int32.ofNat lf)) ((3 : Int32) - (Int32.ofNat tp)) T2.heap n0 (Nat.le_trans Z0 (Nat.le_trans E1.1 Kq2.1)) Ec2 Fc2_0 Fc2_1 Fc2_2 Fc2_3 Fc2_4 Fc2_5 g_b1) hZ (hw _ (tk 25 rfl)) (hw _ (tk 3 rfl)) (by decide) (by decide)) q3a q3c (g := (mkF m 79 #[.val (.int p1), .val (.int p2), .val (.int p3), .val (.int p4), .val (.int p5), .val (.int p6), .val (.int (Int32.ofNat lf)), .val (.int (Int32.ofNat rt)), .val (.int (Int32.ofNat tp)), .val (.int (Int32.ofNat bt)), .val (.int (Int32.ofNat xn)), .val (.int yI), .val (.ref b1), .unset, .unset] [(.int ((3 : Int32) - (Int32.ofNat tp))), (.int ((4 : Int32) - (Int32.ofNat lf))), (.int ((3 : Int32) - (Int32.ofNat bt))), (.int ((4 : Int32) - (Int32.ofNat rt))), (.ref b1)])) rfl (by rw [hml]; rfl) (Steps.refl _) (argsL := [(.int ((4 : Int32) - (Int32.ofNat rt))), (.int ((3 : Int32) - (Int32.ofNat bt))), (.int ((4 : Int32) - (Int32.ofNat lf))), (.int ((3 : Int32) - (Int32.ofNat tp)))]) (rest := []) (lenOf pd__IIII_V rfl) rfl (by show 2 * 0 + _ ≤ _; exact Nat.le_of_eq rfl) (hb hby at_79) (fun _ _ => ⟨rfl, rfl, (by decide : 2 + 0 ≤ _), (by decide : 9 + 0 ≤ _)⟩)
  dsimp only [Pt.U, Pt.locs, Pt.cells, Pt.slots] at X3 l3 y3 z3 st3 hQ3
  subst l3 y3 z3
  obtain ⟨rfl, Nq3, Kq3, Ec3, Fc3_0, Fc3_1, Fc3_2, Fc3_3, Fc3_4, Fc3_5⟩ := hQ3
  have N3 := Fr.app N2 Nq3
  obtain ⟨cq4, kq4, q4a, q4b, q4c⟩ := isOf hZ rfl Ec3
  obtain ⟨_, _, ⟨T4, L4, k4, n4⟩, -, X4, ⟨Lc4, hQ4, l4, y4, z4⟩, st4⟩ := X3.virtualBack hx (y := y_20) (z := y_20) hown (mvT hZ (hw _ (tk 34 rfl))) (mvT hZ (hw _ (tk 22 rfl))) (notFace_of_selects (args := #[]) (mvT hZ (hw _ (tk 24 rfl)))) (mvT hZ (hw _ (tk 24 rfl))) (mvT hZ (hw _ (tk 23 rfl))) (by decide) (backOf (W := 0) (rmCL l Z a0 hw [] b1 R2 (4 : Int32) ((4 : Int32) - (Int32.ofNat rt)) ((3 : Int32) - (Int32.ofNat bt)) ((4 : Int32) - (Int32.ofNat lf)) ((3 : Int32) - (Int32.ofNat tp)) (Int32.ofNat lf) (Int32.ofNat tp) (Int32.ofNat rt) (Int32.ofNat bt) T3.heap n0 (Nat.le_trans Z0 (Nat.le_trans (Nat.le_trans E1.1 Kq2.1) Kq3.1)) Ec3 Fc3_0 Fc3_1 Fc3_2 Fc3_3 Fc3_4 Fc3_5 g_b1) hZ (hw _ (tk 25 rfl)) (hw _ (tk 3 rfl)) (by decide) (by decide)) q4a q4c (g := (mkF m 92 #[.val (.int p1), .val (.int p2), .val (.int p3), .val (.int p4), .val (.int p5), .val (.int p6), .val (.int (Int32.ofNat lf)), .val (.int (Int32.ofNat rt)), .val (.int (Int32.ofNat tp)), .val (.int (Int32.ofNat bt)), .val (.int (Int32.ofNat xn)), .val (.int yI), .val (.ref b1), .unset, .unset] [(.int (Int32.ofNat bt)), (.int (Int32.ofNat rt)), (.int (Int32.ofNat tp)), (.int (Int32.ofNat lf)), (.ref b1)])) rfl (by rw [hml]; rfl) (Steps.refl _) (argsL := [(.int (Int32.ofNat lf)), (.int (Int32.ofNat tp)), (.int (Int32.ofNat rt)), (.int (Int32.ofNat bt))]) (rest := []) (lenOf pd__IIII_V rfl) rfl (by show 2 * 0 + _ ≤ _; exact Nat.le_of_eq rfl) (hb hby at_92) (fun _ _ => ⟨rfl, rfl, (by decide : 2 + 0 ≤ _), (by decide : 9 + 0 ≤ _)⟩)
  dsimp only [Pt.U, Pt.locs, Pt.cells, Pt.slots] at X4 l4 y4 z4 st4 hQ4
  subst l4 y4 z4
  obtain ⟨rfl, Nq4, Kq4, Ec4, Fc4_0, Fc4_1, Fc4_2, Fc4_3, Fc4_4, Fc4_5⟩ := hQ4
  have N4 := Fr.app N3 Nq4
  have f5 := ((((X00.ext E1).keep Kq2 (allS g_b1 all0)).keep Kq3 (allS g_b1 all0)).keep Kq4 (allS g_b1 all0))
  have f6 := ((V2q.keep Kq3 (ninS (Ne.symm (Nat.ne_of_lt (Nat.lt_of_lt_of_le A1.lt sR2))) nin0)).keep Kq4 (ninS (Ne.symm (Nat.ne_of_lt (Nat.lt_of_lt_of_le A1.lt sR2))) nin0))
  refine ⟨T4, T4.heap, _, b1, R2, kR2, X4, rfl, N4, (Nat.le_trans Z0 (Nat.le_trans (Nat.le_trans (Nat.le_trans E1.1 Kq2.1) Kq3.1) Kq4.1)), f5, (((((Keep.refl h0 []).ext E1).trans Kq2 (allS (P := fun zz => zz ∈ ([] : List Addr) ∨ h0.size ≤ zz) (Or.inr sz_b1) all0)).trans Kq3 (allS (P := fun zz => zz ∈ ([] : List Addr) ∨ h0.size ≤ zz) (Or.inr sz_b1) all0)).trans Kq4 (allS (P := fun zz => zz ∈ ([] : List Addr) ∨ h0.size ≤ zz) (Or.inr sz_b1) all0)), g_b1, gR2, sz_b1, szR2, (Nat.ne_of_lt (Nat.lt_of_lt_of_le A1.lt sR2)), Ec4, Fc4_0, Fc4_1, Fc4_2, Fc4_3, Fc4_4, Fc4_5, f6, O2q, fun target kt => ?_⟩
  show Steps _ _ _ (s₁.setTop (mkF m 0 #[.val (.int p1), .val (.int p2), .val (.int p3), .val (.int p4), .val (.int p5), .val (.int p6), .unset, .unset, .unset, .unset, .unset, .unset, .unset, .unset, .unset] [])) _
  refine XS.iloadN X0.here hx rfl (hb hby at_0) rfl ?_
  show Steps _ _ _ (s₁.setTop (mkF m 1 #[.val (.int p1), .val (.int p2), .val (.int p3), .val (.int p4), .val (.int p5), .val (.int p6), .unset, .unset, .unset, .unset, .unset, .unset, .unset, .unset, .unset] [(.int p1)])) _
  refine X0.ldcInt hx hown (mvT hZ (hw _ (tk 0 rfl))) (g := (mkF m 1 #[.val (.int p1), .val (.int p2), .val (.int p3), .val (.int p4), .val (.int p5), .val (.int p6), .unset, .unset, .unset, .unset, .unset, .unset, .unset, .unset, .unset] [(.int p1)])) rfl (hb hby at_1) _ ?_
  show Steps _ _ _ (s₁.setTop (mkF m 3 #[.val (.int p1), .val (.int p2), .val (.int p3), .val (.int p4), .val (.int p5), .val (.int p6), .unset, .unset, .unset, .unset, .unset, .unset, .unset, .unset, .unset] [(.int 2147483647), (.int p1)])) _
  refine XS.iand X0.here hx rfl (hb hby at_3) rfl ?_
  refine XS.iconst X0.here hx rfl (hb hby at_4) ?_
  show Steps _ _ _ (s₁.setTop (mkF m 5 #[.val (.int p1), .val (.int p2), .val (.int p3), .val (.int p4), .val (.int p5), .val (.int p6), .unset, .unset, .unset, .unset, .unset, .unset, .unset, .unset, .unset] [(.int 5), (.int (p1 &&& (2147483647 : Int32)))])) _
  refine iremM X0 hx (g := (mkF m 5 #[.val (.int p1), .val (.int p2), .val (.int p3), .val (.int p4), .val (.int p5), .val (.int p6), .unset, .unset, .unset, .unset, .unset, .unset, .unset, .unset, .unset] [(.int 5), (.int (p1 &&& (2147483647 : Int32)))])) rfl (hb hby at_5) rfl (by decide) ?_
  show Steps _ _ _ (s₁.setTop (mkF m 6 #[.val (.int p1), .val (.int p2), .val (.int p3), .val (.int p4), .val (.int p5), .val (.int p6), .unset, .unset, .unset, .unset, .unset, .unset, .unset, .unset, .unset] [(.int ((p1 &&& (2147483647 : Int32)) % (5 : Int32)))])) _
  rw [e1_]
  show Steps _ _ _ (s₁.setTop (mkF m 6 #[.val (.int p1), .val (.int p2), .val (.int p3), .val (.int p4), .val (.int p5), .val (.int p6), .unset, .unset, .unset, .unset, .unset, .unset, .unset, .unset, .unset] [(.int (Int32.ofNat lf))])) _
  refine XS.istore X0.here hx rfl (hb hby at_6) rfl (l' := #[.val (.int p1), .val (.int p2), .val (.int p3), .val (.int p4), .val (.int p5), .val (.int p6), .val (.int (Int32.ofNat lf)), .unset, .unset, .unset, .unset, .unset, .unset, .unset, .unset]) rfl ?_
  refine XS.iloadN X0.here hx rfl (hb hby at_8) rfl ?_
  show Steps _ _ _ (s₁.setTop (mkF m 9 #[.val (.int p1), .val (.int p2), .val (.int p3), .val (.int p4), .val (.int p5), .val (.int p6), .val (.int (Int32.ofNat lf)), .unset, .unset, .unset, .unset, .unset, .unset, .unset, .unset] [(.int p2)])) _
  refine X0.ldcInt hx hown (mvT hZ (hw _ (tk 0 rfl))) (g := (mkF m 9 #[.val (.int p1), .val (.int p2), .val (.int p3), .val (.int p4), .val (.int p5), .val (.int p6), .val (.int (Int32.ofNat lf)), .unset, .unset, .unset, .unset, .unset, .unset, .unset, .unset] [(.int p2)])) rfl (hb hby at_9) _ ?_
  show Steps _ _ _ (s₁.setTop (mkF m 11 #[.val (.int p1), .val (.int p2), .val (.int p3), .val (.int p4), .val (.int p5), .val (.int p6), .val (.int (Int32.ofNat lf)), .unset, .unset, .unset, .unset, .unset, .unset, .unset, .unset] [(.int 2147483647), (.int p2)])) _
  refine XS.iand X0.here hx rfl (hb hby at_11) rfl ?_
  refine XS.iconst X0.here hx rfl (hb hby at_12) ?_
  show Steps _ _ _ (s₁.setTop (mkF m 13 #[.val (.int p1), .val (.int p2), .val (.int p3), .val (.int p4), .val (.int p5), .val (.int p6), .val (.int (Int32.ofNat lf)), .unset, .unset, .unset, .unset, .unset, .unset, .unset, .unset] [(.int 5), (.int (p2 &&& (2147483647 : Int32)))])) _
  refine iremM X0 hx (g := (mkF m 13 #[.val (.int p1), .val (.int p2), .val (.int p3), .val (.int p4), .val (.int p5), .val (.int p6), .val (.int (Int32.ofNat lf)), .unset, .unset, .unset, .unset, .unset, .unset, .unset, .unset] [(.int 5), (.int (p2 &&& (2147483647 : Int32)))])) rfl (hb hby at_13) rfl (by decide) ?_
  show Steps _ _ _ (s₁.setTop (mkF m 14 #[.val (.int p1), .val (.int p2), .val (.int p3), .val (.int p4), .val (.int p5), .val (.int p6), .val (.int (Int32.ofNat lf)), .unset, .unset, .unset, .unset, .unset, .unset, .unset, .unset] [(.int ((p2 &&& (2147483647 : Int32)) % (5 : Int32)))])) _
  rw [e2_]
  show Steps _ _ _ (s₁.setTop (mkF m 14 #[.val (.int p1), .val (.int p2), .val (.int p3), .val (.int p4), .val (.int p5), .val (.int p6), .val (.int (Int32.ofNat lf)), .unset, .unset, .unset, .unset, .unset, .unset, .unset, .unset] [(.int (Int32.ofNat rt))])) _
  refine XS.istore X0.here hx rfl (hb hby at_14) rfl (l' := #[.val (.int p1), .val (.int p2), .val (.int p3), .val (.int p4), .val (.int p5), .val (.int p6), .val (.int (Int32.ofNat lf)), .val (.int (Int32.ofNat rt)), .unset, .unset, .unset, .unset, .unset, .unset, .unset]) rfl ?_
  refine XS.iloadN X0.here hx rfl (hb hby at_16) rfl ?_
  show Steps _ _ _ (s₁.setTop (mkF m 17 #[.val (.int p1), .val (.int p2), .val (.int p3), .val (.int p4), .val (.int p5), .val (.int p6), .val (.int (Int32.ofNat lf)), .val (.int (Int32.ofNat rt)), .unset, .unset, .unset, .unset, .unset, .unset, .unset] [(.int p3)])) _
  refine X0.ldcInt hx hown (mvT hZ (hw _ (tk 0 rfl))) (g := (mkF m 17 #[.val (.int p1), .val (.int p2), .val (.int p3), .val (.int p4), .val (.int p5), .val (.int p6), .val (.int (Int32.ofNat lf)), .val (.int (Int32.ofNat rt)), .unset, .unset, .unset, .unset, .unset, .unset, .unset] [(.int p3)])) rfl (hb hby at_17) _ ?_
  show Steps _ _ _ (s₁.setTop (mkF m 19 #[.val (.int p1), .val (.int p2), .val (.int p3), .val (.int p4), .val (.int p5), .val (.int p6), .val (.int (Int32.ofNat lf)), .val (.int (Int32.ofNat rt)), .unset, .unset, .unset, .unset, .unset, .unset, .unset] [(.int 2147483647), (.int p3)])) _
  refine XS.iand X0.here hx rfl (hb hby at_19) rfl ?_
  refine XS.iconst X0.here hx rfl (hb hby at_20) ?_
  show Steps _ _ _ (s₁.setTop (mkF m 21 #[.val (.int p1), .val (.int p2), .val (.int p3), .val (.int p4), .val (.int p5), .val (.int p6), .val (.int (Int32.ofNat lf)), .val (.int (Int32.ofNat rt)), .unset, .unset, .unset, .unset, .unset, .unset, .unset] [(.int 4), (.int (p3 &&& (2147483647 : Int32)))])) _
  refine iremM X0 hx (g := (mkF m 21 #[.val (.int p1), .val (.int p2), .val (.int p3), .val (.int p4), .val (.int p5), .val (.int p6), .val (.int (Int32.ofNat lf)), .val (.int (Int32.ofNat rt)), .unset, .unset, .unset, .unset, .unset, .unset, .unset] [(.int 4), (.int (p3 &&& (2147483647 : Int32)))])) rfl (hb hby at_21) rfl (by decide) ?_
  show Steps _ _ _ (s₁.setTop (mkF m 22 #[.val (.int p1), .val (.int p2), .val (.int p3), .val (.int p4), .val (.int p5), .val (.int p6), .val (.int (Int32.ofNat lf)), .val (.int (Int32.ofNat rt)), .unset, .unset, .unset, .unset, .unset, .unset, .unset] [(.int ((p3 &&& (2147483647 : Int32)) % (4 : Int32)))])) _
  rw [e3_]
  show Steps _ _ _ (s₁.setTop (mkF m 22 #[.val (.int p1), .val (.int p2), .val (.int p3), .val (.int p4), .val (.int p5), .val (.int p6), .val (.int (Int32.ofNat lf)), .val (.int (Int32.ofNat rt)), .unset, .unset, .unset, .unset, .unset, .unset, .unset] [(.int (Int32.ofNat tp))])) _
  refine XS.istore X0.here hx rfl (hb hby at_22) rfl (l' := #[.val (.int p1), .val (.int p2), .val (.int p3), .val (.int p4), .val (.int p5), .val (.int p6), .val (.int (Int32.ofNat lf)), .val (.int (Int32.ofNat rt)), .val (.int (Int32.ofNat tp)), .unset, .unset, .unset, .unset, .unset, .unset]) rfl ?_
  refine XS.iloadN X0.here hx rfl (hb hby at_24) rfl ?_
  show Steps _ _ _ (s₁.setTop (mkF m 25 #[.val (.int p1), .val (.int p2), .val (.int p3), .val (.int p4), .val (.int p5), .val (.int p6), .val (.int (Int32.ofNat lf)), .val (.int (Int32.ofNat rt)), .val (.int (Int32.ofNat tp)), .unset, .unset, .unset, .unset, .unset, .unset] [(.int p4)])) _
  refine X0.ldcInt hx hown (mvT hZ (hw _ (tk 0 rfl))) (g := (mkF m 25 #[.val (.int p1), .val (.int p2), .val (.int p3), .val (.int p4), .val (.int p5), .val (.int p6), .val (.int (Int32.ofNat lf)), .val (.int (Int32.ofNat rt)), .val (.int (Int32.ofNat tp)), .unset, .unset, .unset, .unset, .unset, .unset] [(.int p4)])) rfl (hb hby at_25) _ ?_
  show Steps _ _ _ (s₁.setTop (mkF m 27 #[.val (.int p1), .val (.int p2), .val (.int p3), .val (.int p4), .val (.int p5), .val (.int p6), .val (.int (Int32.ofNat lf)), .val (.int (Int32.ofNat rt)), .val (.int (Int32.ofNat tp)), .unset, .unset, .unset, .unset, .unset, .unset] [(.int 2147483647), (.int p4)])) _
  refine XS.iand X0.here hx rfl (hb hby at_27) rfl ?_
  refine XS.iconst X0.here hx rfl (hb hby at_28) ?_
  show Steps _ _ _ (s₁.setTop (mkF m 29 #[.val (.int p1), .val (.int p2), .val (.int p3), .val (.int p4), .val (.int p5), .val (.int p6), .val (.int (Int32.ofNat lf)), .val (.int (Int32.ofNat rt)), .val (.int (Int32.ofNat tp)), .unset, .unset, .unset, .unset, .unset, .unset] [(.int 4), (.int (p4 &&& (2147483647 : Int32)))])) _
  refine iremM X0 hx (g := (mkF m 29 #[.val (.int p1), .val (.int p2), .val (.int p3), .val (.int p4), .val (.int p5), .val (.int p6), .val (.int (Int32.ofNat lf)), .val (.int (Int32.ofNat rt)), .val (.int (Int32.ofNat tp)), .unset, .unset, .unset, .unset, .unset, .unset] [(.int 4), (.int (p4 &&& (2147483647 : Int32)))])) rfl (hb hby at_29) rfl (by decide) ?_
  show Steps _ _ _ (s₁.setTop (mkF m 30 #[.val (.int p1), .val (.int p2), .val (.int p3), .val (.int p4), .val (.int p5), .val (.int p6), .val (.int (Int32.ofNat lf)), .val (.int (Int32.ofNat rt)), .val (.int (Int32.ofNat tp)), .unset, .unset, .unset, .unset, .unset, .unset] [(.int ((p4 &&& (2147483647 : Int32)) % (4 : Int32)))])) _
  rw [e4_]
  show Steps _ _ _ (s₁.setTop (mkF m 30 #[.val (.int p1), .val (.int p2), .val (.int p3), .val (.int p4), .val (.int p5), .val (.int p6), .val (.int (Int32.ofNat lf)), .val (.int (Int32.ofNat rt)), .val (.int (Int32.ofNat tp)), .unset, .unset, .unset, .unset, .unset, .unset] [(.int (Int32.ofNat bt))])) _
  refine XS.istore X0.here hx rfl (hb hby at_30) rfl (l' := #[.val (.int p1), .val (.int p2), .val (.int p3), .val (.int p4), .val (.int p5), .val (.int p6), .val (.int (Int32.ofNat lf)), .val (.int (Int32.ofNat rt)), .val (.int (Int32.ofNat tp)), .val (.int (Int32.ofNat bt)), .unset, .unset, .unset, .unset, .unset]) rfl ?_
  refine XS.iload X0.here hx rfl (hb hby at_32) rfl ?_
  show Steps _ _ _ (s₁.setTop (mkF m 34 #[.val (.int p1), .val (.int p2), .val (.int p3), .val (.int p4), .val (.int p5), .val (.int p6), .val (.int (Int32.ofNat lf)), .val (.int (Int32.ofNat rt)), .val (.int (Int32.ofNat tp)), .val (.int (Int32.ofNat bt)), .unset, .unset, .unset, .unset, .unset] [(.int p5)])) _
  refine X0.ldcInt hx hown (mvT hZ (hw _ (tk 0 rfl))) (g := (mkF m 34 #[.val (.int p1), .val (.int p2), .val (.int p3), .val (.int p4), .val (.int p5), .val (.int p6), .val (.int (Int32.ofNat lf)), .val (.int (Int32.ofNat rt)), .val (.int (Int32.ofNat tp)), .val (.int (Int32.ofNat bt)), .unset, .unset, .unset, .unset, .unset] [(.int p5)])) rfl (hb hby at_34) _ ?_
  show Steps _ _ _ (s₁.setTop (mkF m 36 #[.val (.int p1), .val (.int p2), .val (.int p3), .val (.int p4), .val (.int p5), .val (.int p6), .val (.int (Int32.ofNat lf)), .val (.int (Int32.ofNat rt)), .val (.int (Int32.ofNat tp)), .val (.int (Int32.ofNat bt)), .unset, .unset, .unset, .unset, .unset] [(.int 2147483647), (.int p5)])) _
  refine XS.iand X0.here hx rfl (hb hby at_36) rfl ?_
  refine XS.iconst X0.here hx rfl (hb hby at_37) ?_
  show Steps _ _ _ (s₁.setTop (mkF m 38 #[.val (.int p1), .val (.int p2), .val (.int p3), .val (.int p4), .val (.int p5), .val (.int p6), .val (.int (Int32.ofNat lf)), .val (.int (Int32.ofNat rt)), .val (.int (Int32.ofNat tp)), .val (.int (Int32.ofNat bt)), .unset, .unset, .unset, .unset, .unset] [(.int 4), (.int (p5 &&& (2147483647 : Int32)))])) _
  refine iremM X0 hx (g := (mkF m 38 #[.val (.int p1), .val (.int p2), .val (.int p3), .val (.int p4), .val (.int p5), .val (.int p6), .val (.int (Int32.ofNat lf)), .val (.int (Int32.ofNat rt)), .val (.int (Int32.ofNat tp)), .val (.int (Int32.ofNat bt)), .unset, .unset, .unset, .unset, .unset] [(.int 4), (.int (p5 &&& (2147483647 : Int32)))])) rfl (hb hby at_38) rfl (by decide) ?_
  show Steps _ _ _ (s₁.setTop (mkF m 39 #[.val (.int p1), .val (.int p2), .val (.int p3), .val (.int p4), .val (.int p5), .val (.int p6), .val (.int (Int32.ofNat lf)), .val (.int (Int32.ofNat rt)), .val (.int (Int32.ofNat tp)), .val (.int (Int32.ofNat bt)), .unset, .unset, .unset, .unset, .unset] [(.int ((p5 &&& (2147483647 : Int32)) % (4 : Int32)))])) _
  rw [e5_]
  show Steps _ _ _ (s₁.setTop (mkF m 39 #[.val (.int p1), .val (.int p2), .val (.int p3), .val (.int p4), .val (.int p5), .val (.int p6), .val (.int (Int32.ofNat lf)), .val (.int (Int32.ofNat rt)), .val (.int (Int32.ofNat tp)), .val (.int (Int32.ofNat bt)), .unset, .unset, .unset, .unset, .unset] [(.int (Int32.ofNat xn))])) _
  refine XS.istore X0.here hx rfl (hb hby at_39) rfl (l' := #[.val (.int p1), .val (.int p2), .val (.int p3), .val (.int p4), .val (.int p5), .val (.int p6), .val (.int (Int32.ofNat lf)), .val (.int (Int32.ofNat rt)), .val (.int (Int32.ofNat tp)), .val (.int (Int32.ofNat bt)), .val (.int (Int32.ofNat xn)), .unset, .unset, .unset, .unset]) rfl ?_
  refine XS.iload X0.here hx rfl (hb hby at_41) rfl ?_
  show Steps _ _ _ (s₁.setTop (mkF m 43 #[.val (.int p1), .val (.int p2), .val (.int p3), .val (.int p4), .val (.int p5), .val (.int p6), .val (.int (Int32.ofNat lf)), .val (.int (Int32.ofNat rt)), .val (.int (Int32.ofNat tp)), .val (.int (Int32.ofNat bt)), .val (.int (Int32.ofNat xn)), .unset, .unset, .unset, .unset] [(.int p6)])) _
  refine X0.ldcInt hx hown (mvT hZ (hw _ (tk 0 rfl))) (g := (mkF m 43 #[.val (.int p1), .val (.int p2), .val (.int p3), .val (.int p4), .val (.int p5), .val (.int p6), .val (.int (Int32.ofNat lf)), .val (.int (Int32.ofNat rt)), .val (.int (Int32.ofNat tp)), .val (.int (Int32.ofNat bt)), .val (.int (Int32.ofNat xn)), .unset, .unset, .unset, .unset] [(.int p6)])) rfl (hb hby at_43) _ ?_
  show Steps _ _ _ (s₁.setTop (mkF m 45 #[.val (.int p1), .val (.int p2), .val (.int p3), .val (.int p4), .val (.int p5), .val (.int p6), .val (.int (Int32.ofNat lf)), .val (.int (Int32.ofNat rt)), .val (.int (Int32.ofNat tp)), .val (.int (Int32.ofNat bt)), .val (.int (Int32.ofNat xn)), .unset, .unset, .unset, .unset] [(.int 2147483647), (.int p6)])) _
  refine XS.iand X0.here hx rfl (hb hby at_45) rfl ?_
  refine XS.iconst X0.here hx rfl (hb hby at_46) ?_
  show Steps _ _ _ (s₁.setTop (mkF m 47 #[.val (.int p1), .val (.int p2), .val (.int p3), .val (.int p4), .val (.int p5), .val (.int p6), .val (.int (Int32.ofNat lf)), .val (.int (Int32.ofNat rt)), .val (.int (Int32.ofNat tp)), .val (.int (Int32.ofNat bt)), .val (.int (Int32.ofNat xn)), .unset, .unset, .unset, .unset] [(.int 3), (.int (p6 &&& (2147483647 : Int32)))])) _
  refine iremM X0 hx (g := (mkF m 47 #[.val (.int p1), .val (.int p2), .val (.int p3), .val (.int p4), .val (.int p5), .val (.int p6), .val (.int (Int32.ofNat lf)), .val (.int (Int32.ofNat rt)), .val (.int (Int32.ofNat tp)), .val (.int (Int32.ofNat bt)), .val (.int (Int32.ofNat xn)), .unset, .unset, .unset, .unset] [(.int 3), (.int (p6 &&& (2147483647 : Int32)))])) rfl (hb hby at_47) rfl (by decide) ?_
  show Steps _ _ _ (s₁.setTop (mkF m 48 #[.val (.int p1), .val (.int p2), .val (.int p3), .val (.int p4), .val (.int p5), .val (.int p6), .val (.int (Int32.ofNat lf)), .val (.int (Int32.ofNat rt)), .val (.int (Int32.ofNat tp)), .val (.int (Int32.ofNat bt)), .val (.int (Int32.ofNat xn)), .unset, .unset, .unset, .unset] [(.int ((p6 &&& (2147483647 : Int32)) % (3 : Int32)))])) _
  rw [e6_]
  show Steps _ _ _ (s₁.setTop (mkF m 48 #[.val (.int p1), .val (.int p2), .val (.int p3), .val (.int p4), .val (.int p5), .val (.int p6), .val (.int (Int32.ofNat lf)), .val (.int (Int32.ofNat rt)), .val (.int (Int32.ofNat tp)), .val (.int (Int32.ofNat bt)), .val (.int (Int32.ofNat xn)), .unset, .unset, .unset, .unset] [(.int yI)])) _
  refine XS.istore X0.here hx rfl (hb hby at_48) rfl (l' := #[.val (.int p1), .val (.int p2), .val (.int p3), .val (.int p4), .val (.int p5), .val (.int p6), .val (.int (Int32.ofNat lf)), .val (.int (Int32.ofNat rt)), .val (.int (Int32.ofNat tp)), .val (.int (Int32.ofNat bt)), .val (.int (Int32.ofNat xn)), .val (.int yI), .unset, .unset, .unset]) rfl ?_
  show Steps _ _ _ (s₁.setTop (mkF m 50 #[.val (.int p1), .val (.int p2), .val (.int p3), .val (.int p4), .val (.int p5), .val (.int p6), .val (.int (Int32.ofNat lf)), .val (.int (Int32.ofNat rt)), .val (.int (Int32.ofNat tp)), .val (.int (Int32.ofNat bt)), .val (.int (Int32.ofNat xn)), .val (.int yI), .unset, .unset, .unset] [])) _
  refine st1 _ ?_
  show Steps _ _ _ (T1.setTop (mkF m 53 #[.val (.int p1), .val (.int p2), .val (.int p3), .val (.int p4), .val (.int p5), .val (.int p6), .val (.int (Int32.ofNat lf)), .val (.int (Int32.ofNat rt)), .val (.int (Int32.ofNat tp)), .val (.int (Int32.ofNat bt)), .val (.int (Int32.ofNat xn)), .val (.int yI), .unset, .unset, .unset] [(.ref b1)])) _
  refine XS.dup X1.here hx rfl (hb hby at_53) rfl rfl ?_
  refine XS.iconst X1.here hx rfl (hb hby at_54) ?_
  refine XS.iconst X1.here hx rfl (hb hby at_55) ?_
  show Steps _ _ _ (T1.setTop (mkF m 56 #[.val (.int p1), .val (.int p2), .val (.int p3), .val (.int p4), .val (.int p5), .val (.int p6), .val (.int (Int32.ofNat lf)), .val (.int (Int32.ofNat rt)), .val (.int (Int32.ofNat tp)), .val (.int (Int32.ofNat bt)), .val (.int (Int32.ofNat xn)), .val (.int yI), .unset, .unset, .unset] [(.int 3), (.int 4), (.ref b1), (.ref b1)])) _
  refine st2.trans ?_
  show Steps _ _ _ (T2.setTop (mkF m 59 #[.val (.int p1), .val (.int p2), .val (.int p3), .val (.int p4), .val (.int p5), .val (.int p6), .val (.int (Int32.ofNat lf)), .val (.int (Int32.ofNat rt)), .val (.int (Int32.ofNat tp)), .val (.int (Int32.ofNat bt)), .val (.int (Int32.ofNat xn)), .val (.int yI), .unset, .unset, .unset] [(.ref b1)])) _
  refine XS.astore X2.here hx rfl (hb hby at_59) rfl rfl (l' := #[.val (.int p1), .val (.int p2), .val (.int p3), .val (.int p4), .val (.int p5), .val (.int p6), .val (.int (Int32.ofNat lf)), .val (.int (Int32.ofNat rt)), .val (.int (Int32.ofNat tp)), .val (.int (Int32.ofNat bt)), .val (.int (Int32.ofNat xn)), .val (.int yI), .val (.ref b1), .unset, .unset]) rfl ?_
  refine XS.aload X2.here hx rfl (hb hby at_61) rfl rfl ?_
  refine XS.iconst X2.here hx rfl (hb hby at_63) ?_
  refine XS.iload X2.here hx rfl (hb hby at_64) rfl ?_
  refine XS.isub X2.here hx rfl (hb hby at_66) rfl ?_
  refine XS.iconst X2.here hx rfl (hb hby at_67) ?_
  refine XS.iload X2.here hx rfl (hb hby at_68) rfl ?_
  refine XS.isub X2.here hx rfl (hb hby at_70) rfl ?_
  refine XS.iconst X2.here hx rfl (hb hby at_71) ?_
  refine XS.iload X2.here hx rfl (hb hby at_72) rfl ?_
  refine XS.isub X2.here hx rfl (hb hby at_74) rfl ?_
  show Steps _ _ _ (T2.setTop (mkF m 75 #[.val (.int p1), .val (.int p2), .val (.int p3), .val (.int p4), .val (.int p5), .val (.int p6), .val (.int (Int32.ofNat lf)), .val (.int (Int32.ofNat rt)), .val (.int (Int32.ofNat tp)), .val (.int (Int32.ofNat bt)), .val (.int (Int32.ofNat xn)), .val (.int yI), .val (.ref b1), .unset, .unset] [(.int ((4 : Int32) - (Int32.ofNat lf))), (.int ((3 : Int32) - (Int32.ofNat bt))), (.int ((4 : Int32) - (Int32.ofNat rt))), (.ref b1)])) _
  refine XS.iconst X2.here hx rfl (hb hby at_75) ?_
  refine XS.iload X2.here hx rfl (hb hby at_76) rfl ?_
  refine XS.isub X2.here hx rfl (hb hby at_78) rfl ?_
  show Steps _ _ _ (T2.setTop (mkF m 79 #[.val (.int p1), .val (.int p2), .val (.int p3), .val (.int p4), .val (.int p5), .val (.int p6), .val (.int (Int32.ofNat lf)), .val (.int (Int32.ofNat rt)), .val (.int (Int32.ofNat tp)), .val (.int (Int32.ofNat bt)), .val (.int (Int32.ofNat xn)), .val (.int yI), .val (.ref b1), .unset, .unset] [(.int ((3 : Int32) - (Int32.ofNat tp))), (.int ((4 : Int32) - (Int32.ofNat lf))), (.int ((3 : Int32) - (Int32.ofNat bt))), (.int ((4 : Int32) - (Int32.ofNat rt))), (.ref b1)])) _
  refine st3.trans ?_
  show Steps _ _ _ (T3.setTop (mkF m 82 #[.val (.int p1), .val (.int p2), .val (.int p3), .val (.int p4), .val (.int p5), .val (.int p6), .val (.int (Int32.ofNat lf)), .val (.int (Int32.ofNat rt)), .val (.int (Int32.ofNat tp)), .val (.int (Int32.ofNat bt)), .val (.int (Int32.ofNat xn)), .val (.int yI), .val (.ref b1), .unset, .unset] [])) _
  refine XS.aload X3.here hx rfl (hb hby at_82) rfl rfl ?_
  refine XS.iload X3.here hx rfl (hb hby at_84) rfl ?_
  refine XS.iload X3.here hx rfl (hb hby at_86) rfl ?_
  refine XS.iload X3.here hx rfl (hb hby at_88) rfl ?_
  refine XS.iload X3.here hx rfl (hb hby at_90) rfl ?_
  show Steps _ _ _ (T3.setTop (mkF m 92 #[.val (.int p1), .val (.int p2), .val (.int p3), .val (.int p4), .val (.int p5), .val (.int p6), .val (.int (Int32.ofNat lf)), .val (.int (Int32.ofNat rt)), .val (.int (Int32.ofNat tp)), .val (.int (Int32.ofNat bt)), .val (.int (Int32.ofNat xn)), .val (.int yI), .val (.ref b1), .unset, .unset] [(.int (Int32.ofNat bt)), (.int (Int32.ofNat rt)), (.int (Int32.ofNat tp)), (.int (Int32.ofNat lf)), (.ref b1)])) _
  refine st4.trans ?_
  exact kt
theorem own_mem27 : ("dev/treefold/text/CanvasClipPinLaw", (27 : Nat)) ∈ consts_1 := by simp [consts_1]
theorem pd__IILjava_lang_String__V : parseMethodDescriptor "(IILjava/lang/String;)V" = some ⟨[.int, .int, (.object "java/lang/String")], none⟩ := by decide +kernel
theorem pd___Ljava_util_List_ : parseMethodDescriptor "()Ljava/util/List;" = some ⟨[], some (.object "java/util/List")⟩ := by decide +kernel
theorem ins1 {p : Program} {l : Launch} {e : Env} {s : State} {m : MethodId} {args : Array Value} {below : List Frame} {meth : Method} {c : Code} {s₁ : State} {L0 : List Loc} {Z : State} {a0 : Array Value} (p1 : Int32) (p2 : Int32) (p3 : Int32) (p4 : Int32) (p5 : Int32) (p6 : Int32) (lf : Nat) (rt : Nat) (tp : Nat) (bt : Nat) (xn : Nat) (y : Nat) (cv : Addr) (a : Addr) (h0 : Heap) (n0 : Nat) (X0 : Stand p l e room_1 s m args below meth c s₁ L0 12 35) (hx : p.tables.exec = Jvm.exec) (hZ : Z.Warmed39 s.vm) (hw : ∀ d ∈ tables_1, d.before a0 Z = true) (hby : c.code = code) (hml : c.maxLocals = 15) (hown : s.vm.findClass "dev/treefold/text/CanvasClipPinLaw" = some m.cls) (e0 : s₁.heap = h0) (N0 : Fr n0 L0) (Z0 : n0 ≤ h0.size) (hlf : lf ≤ 4) (htp : tp ≤ 3) (hrt : rt ≤ 4) (hbt : bt ≤ 3) (hxn : xn < 4) (hy : y < 3) (c0 : xn < lf) :
    ∃ (T' : State) (h' : Heap) (L' : List Loc) , Stand p l e room_1 s m args below meth c T' L' 12 35 ∧ T'.heap = h' ∧ Fr n0 L' ∧ n0 ≤ h'.size ∧ h' = h0 ∧ 
      ∀ target, Steps p.tables e below (T'.setTop (mkF m 148 #[.val (.int p1), .val (.int p2), .val (.int p3), .val (.int p4), .val (.int p5), .val (.int p6), .val (.int (Int32.ofNat lf)), .val (.int (Int32.ofNat rt)), .val (.int (Int32.ofNat tp)), .val (.int (Int32.ofNat bt)), .val (.int (Int32.ofNat xn)), .val (.int (Int32.ofNat y)), .val (.ref cv), .val (.ref a), .val (.int 0)] [])) target → Steps p.tables e below (s₁.setTop (mkF m 113 #[.val (.int p1), .val (.int p2), .val (.int p3), .val (.int p4), .val (.int p5), .val (.int p6), .val (.int (Int32.ofNat lf)), .val (.int (Int32.ofNat rt)), .val (.int (Int32.ofNat tp)), .val (.int (Int32.ofNat bt)), .val (.int (Int32.ofNat xn)), .val (.int (Int32.ofNat y)), .val (.ref cv), .val (.ref a), .unset] [])) target := by
  refine ⟨s₁, h0, _, X0, e0, N0, Z0, rfl, fun target kt => ?_⟩
  show Steps _ _ _ (s₁.setTop (mkF m 113 #[.val (.int p1), .val (.int p2), .val (.int p3), .val (.int p4), .val (.int p5), .val (.int p6), .val (.int (Int32.ofNat lf)), .val (.int (Int32.ofNat rt)), .val (.int (Int32.ofNat tp)), .val (.int (Int32.ofNat bt)), .val (.int (Int32.ofNat xn)), .val (.int (Int32.ofNat y)), .val (.ref cv), .val (.ref a), .unset] [])) _
  refine XS.iload X0.here hx rfl (hb hby at_113) rfl ?_
  refine XS.iload X0.here hx rfl (hb hby at_115) rfl ?_
  refine XS.icmpYes X0.here hx rfl (pc0 := 117) (pc' := 145) rfl (hb hby at_117) rfl (tlt ((own_lt (by omega) (by omega)).mpr c0)).2.2.1 (by decide) (by decide) ?_
  refine XS.iconst X0.here hx rfl (hb hby at_145) ?_
  refine XS.istore X0.here hx rfl (hb hby at_146) rfl (l' := #[.val (.int p1), .val (.int p2), .val (.int p3), .val (.int p4), .val (.int p5), .val (.int p6), .val (.int (Int32.ofNat lf)), .val (.int (Int32.ofNat rt)), .val (.int (Int32.ofNat tp)), .val (.int (Int32.ofNat bt)), .val (.int (Int32.ofNat xn)), .val (.int (Int32.ofNat y)), .val (.ref cv), .val (.ref a), .val (.int 0)]) rfl ?_
  exact kt
theorem ins2 {p : Program} {l : Launch} {e : Env} {s : State} {m : MethodId} {args : Array Value} {below : List Frame} {meth : Method} {c : Code} {s₁ : State} {L0 : List Loc} {Z : State} {a0 : Array Value} (p1 : Int32) (p2 : Int32) (p3 : Int32) (p4 : Int32) (p5 : Int32) (p6 : Int32) (lf : Nat) (rt : Nat) (tp : Nat) (bt : Nat) (xn : Nat) (y : Nat) (cv : Addr) (a : Addr) (h0 : Heap) (n0 : Nat) (X0 : Stand p l e room_1 s m args below meth c s₁ L0 12 35) (hx : p.tables.exec = Jvm.exec) (hZ : Z.Warmed39 s.vm) (hw : ∀ d ∈ tables_1, d.before a0 Z = true) (hby : c.code = code) (hml : c.maxLocals = 15) (hown : s.vm.findClass "dev/treefold/text/CanvasClipPinLaw" = some m.cls) (e0 : s₁.heap = h0) (N0 : Fr n0 L0) (Z0 : n0 ≤ h0.size) (hlf : lf ≤ 4) (htp : tp ≤ 3) (hrt : rt ≤ 4) (hbt : bt ≤ 3) (hxn : xn < 4) (hy : y < 3) (c0 : ¬ (xn < lf)) (c1 : ¬ (xn < rt)) :
    ∃ (T' : State) (h' : Heap) (L' : List Loc) , Stand p l e room_1 s m args below meth c T' L' 12 35 ∧ T'.heap = h' ∧ Fr n0 L' ∧ n0 ≤ h'.size ∧ h' = h0 ∧ 
      ∀ target, Steps p.tables e below (T'.setTop (mkF m 148 #[.val (.int p1), .val (.int p2), .val (.int p3), .val (.int p4), .val (.int p5), .val (.int p6), .val (.int (Int32.ofNat lf)), .val (.int (Int32.ofNat rt)), .val (.int (Int32.ofNat tp)), .val (.int (Int32.ofNat bt)), .val (.int (Int32.ofNat xn)), .val (.int (Int32.ofNat y)), .val (.ref cv), .val (.ref a), .val (.int 0)] [])) target → Steps p.tables e below (s₁.setTop (mkF m 113 #[.val (.int p1), .val (.int p2), .val (.int p3), .val (.int p4), .val (.int p5), .val (.int p6), .val (.int (Int32.ofNat lf)), .val (.int (Int32.ofNat rt)), .val (.int (Int32.ofNat tp)), .val (.int (Int32.ofNat bt)), .val (.int (Int32.ofNat xn)), .val (.int (Int32.ofNat y)), .val (.ref cv), .val (.ref a), .unset] [])) target := by
  refine ⟨s₁, h0, _, X0, e0, N0, Z0, rfl, fun target kt => ?_⟩
  show Steps _ _ _ (s₁.setTop (mkF m 113 #[.val (.int p1), .val (.int p2), .val (.int p3), .val (.int p4), .val (.int p5), .val (.int p6), .val (.int (Int32.ofNat lf)), .val (.int (Int32.ofNat rt)), .val (.int (Int32.ofNat tp)), .val (.int (Int32.ofNat bt)), .val (.int (Int32.ofNat xn)), .val (.int (Int32.ofNat y)), .val (.ref cv), .val (.ref a), .unset] [])) _
  refine XS.iload X0.here hx rfl (hb hby at_113) rfl ?_
  refine XS.iload X0.here hx rfl (hb hby at_115) rfl ?_
  refine XS.icmpNo X0.here hx rfl (hb hby at_117) rfl (flt (own_lo (by omega) (by omega) c0)).2.2.1 ?_
  refine XS.iload X0.here hx rfl (hb hby at_120) rfl ?_
  refine XS.iload X0.here hx rfl (hb hby at_122) rfl ?_
  refine XS.icmpYes X0.here hx rfl (pc0 := 124) (pc' := 145) rfl (hb hby at_124) rfl (flt (own_lo (by omega) (by omega) c1)).2.1 (by decide) (by decide) ?_
  refine XS.iconst X0.here hx rfl (hb hby at_145) ?_
  refine XS.istore X0.here hx rfl (hb hby at_146) rfl (l' := #[.val (.int p1), .val (.int p2), .val (.int p3), .val (.int p4), .val (.int p5), .val (.int p6), .val (.int (Int32.ofNat lf)), .val (.int (Int32.ofNat rt)), .val (.int (Int32.ofNat tp)), .val (.int (Int32.ofNat bt)), .val (.int (Int32.ofNat xn)), .val (.int (Int32.ofNat y)), .val (.ref cv), .val (.ref a), .val (.int 0)]) rfl ?_
  exact kt
theorem ins3 {p : Program} {l : Launch} {e : Env} {s : State} {m : MethodId} {args : Array Value} {below : List Frame} {meth : Method} {c : Code} {s₁ : State} {L0 : List Loc} {Z : State} {a0 : Array Value} (p1 : Int32) (p2 : Int32) (p3 : Int32) (p4 : Int32) (p5 : Int32) (p6 : Int32) (lf : Nat) (rt : Nat) (tp : Nat) (bt : Nat) (xn : Nat) (y : Nat) (cv : Addr) (a : Addr) (h0 : Heap) (n0 : Nat) (X0 : Stand p l e room_1 s m args below meth c s₁ L0 12 35) (hx : p.tables.exec = Jvm.exec) (hZ : Z.Warmed39 s.vm) (hw : ∀ d ∈ tables_1, d.before a0 Z = true) (hby : c.code = code) (hml : c.maxLocals = 15) (hown : s.vm.findClass "dev/treefold/text/CanvasClipPinLaw" = some m.cls) (e0 : s₁.heap = h0) (N0 : Fr n0 L0) (Z0 : n0 ≤ h0.size) (hlf : lf ≤ 4) (htp : tp ≤ 3) (hrt : rt ≤ 4) (hbt : bt ≤ 3) (hxn : xn < 4) (hy : y < 3) (c0 : ¬ (xn < lf)) (c1 : xn < rt) (c2 : y < tp) :
    ∃ (T' : State) (h' : Heap) (L' : List Loc) , Stand p l e room_1 s m args below meth c T' L' 12 35 ∧ T'.heap = h' ∧ Fr n0 L' ∧ n0 ≤ h'.size ∧ h' = h0 ∧ 
      ∀ target, Steps p.tables e below (T'.setTop (mkF m 148 #[.val (.int p1), .val (.int p2), .val (.int p3), .val (.int p4), .val (.int p5), .val (.int p6), .val (.int (Int32.ofNat lf)), .val (.int (Int32.ofNat rt)), .val (.int (Int32.ofNat tp)), .val (.int (Int32.ofNat bt)), .val (.int (Int32.ofNat xn)), .val (.int (Int32.ofNat y)), .val (.ref cv), .val (.ref a), .val (.int 0)] [])) target → Steps p.tables e below (s₁.setTop (mkF m 113 #[.val (.int p1), .val (.int p2), .val (.int p3), .val (.int p4), .val (.int p5), .val (.int p6), .val (.int (Int32.ofNat lf)), .val (.int (Int32.ofNat rt)), .val (.int (Int32.ofNat tp)), .val (.int (Int32.ofNat bt)), .val (.int (Int32.ofNat xn)), .val (.int (Int32.ofNat y)), .val (.ref cv), .val (.ref a), .unset] [])) target := by
  refine ⟨s₁, h0, _, X0, e0, N0, Z0, rfl, fun target kt => ?_⟩
  show Steps _ _ _ (s₁.setTop (mkF m 113 #[.val (.int p1), .val (.int p2), .val (.int p3), .val (.int p4), .val (.int p5), .val (.int p6), .val (.int (Int32.ofNat lf)), .val (.int (Int32.ofNat rt)), .val (.int (Int32.ofNat tp)), .val (.int (Int32.ofNat bt)), .val (.int (Int32.ofNat xn)), .val (.int (Int32.ofNat y)), .val (.ref cv), .val (.ref a), .unset] [])) _
  refine XS.iload X0.here hx rfl (hb hby at_113) rfl ?_
  refine XS.iload X0.here hx rfl (hb hby at_115) rfl ?_
  refine XS.icmpNo X0.here hx rfl (hb hby at_117) rfl (flt (own_lo (by omega) (by omega) c0)).2.2.1 ?_
  refine XS.iload X0.here hx rfl (hb hby at_120) rfl ?_
  refine XS.iload X0.here hx rfl (hb hby at_122) rfl ?_
  refine XS.icmpNo X0.here hx rfl (hb hby at_124) rfl (tlt ((own_lt (by omega) (by omega)).mpr c1)).2.1 ?_
  refine XS.iload X0.here hx rfl (hb hby at_127) rfl ?_
  refine XS.iload X0.here hx rfl (hb hby at_129) rfl ?_
  refine XS.icmpYes X0.here hx rfl (pc0 := 131) (pc' := 145) rfl (hb hby at_131) rfl (tlt ((own_lt (by omega) (by omega)).mpr c2)).2.2.1 (by decide) (by decide) ?_
  refine XS.iconst X0.here hx rfl (hb hby at_145) ?_
  refine XS.istore X0.here hx rfl (hb hby at_146) rfl (l' := #[.val (.int p1), .val (.int p2), .val (.int p3), .val (.int p4), .val (.int p5), .val (.int p6), .val (.int (Int32.ofNat lf)), .val (.int (Int32.ofNat rt)), .val (.int (Int32.ofNat tp)), .val (.int (Int32.ofNat bt)), .val (.int (Int32.ofNat xn)), .val (.int (Int32.ofNat y)), .val (.ref cv), .val (.ref a), .val (.int 0)]) rfl ?_
  exact kt
theorem ins4 {p : Program} {l : Launch} {e : Env} {s : State} {m : MethodId} {args : Array Value} {below : List Frame} {meth : Method} {c : Code} {s₁ : State} {L0 : List Loc} {Z : State} {a0 : Array Value} (p1 : Int32) (p2 : Int32) (p3 : Int32) (p4 : Int32) (p5 : Int32) (p6 : Int32) (lf : Nat) (rt : Nat) (tp : Nat) (bt : Nat) (xn : Nat) (y : Nat) (cv : Addr) (a : Addr) (h0 : Heap) (n0 : Nat) (X0 : Stand p l e room_1 s m args below meth c s₁ L0 12 35) (hx : p.tables.exec = Jvm.exec) (hZ : Z.Warmed39 s.vm) (hw : ∀ d ∈ tables_1, d.before a0 Z = true) (hby : c.code = code) (hml : c.maxLocals = 15) (hown : s.vm.findClass "dev/treefold/text/CanvasClipPinLaw" = some m.cls) (e0 : s₁.heap = h0) (N0 : Fr n0 L0) (Z0 : n0 ≤ h0.size) (hlf : lf ≤ 4) (htp : tp ≤ 3) (hrt : rt ≤ 4) (hbt : bt ≤ 3) (hxn : xn < 4) (hy : y < 3) (c0 : ¬ (xn < lf)) (c1 : xn < rt) (c2 : ¬ (y < tp)) (c3 : ¬ (y < bt)) :
    ∃ (T' : State) (h' : Heap) (L' : List Loc) , Stand p l e room_1 s m args below meth c T' L' 12 35 ∧ T'.heap = h' ∧ Fr n0 L' ∧ n0 ≤ h'.size ∧ h' = h0 ∧ 
      ∀ target, Steps p.tables e below (T'.setTop (mkF m 148 #[.val (.int p1), .val (.int p2), .val (.int p3), .val (.int p4), .val (.int p5), .val (.int p6), .val (.int (Int32.ofNat lf)), .val (.int (Int32.ofNat rt)), .val (.int (Int32.ofNat tp)), .val (.int (Int32.ofNat bt)), .val (.int (Int32.ofNat xn)), .val (.int (Int32.ofNat y)), .val (.ref cv), .val (.ref a), .val (.int 0)] [])) target → Steps p.tables e below (s₁.setTop (mkF m 113 #[.val (.int p1), .val (.int p2), .val (.int p3), .val (.int p4), .val (.int p5), .val (.int p6), .val (.int (Int32.ofNat lf)), .val (.int (Int32.ofNat rt)), .val (.int (Int32.ofNat tp)), .val (.int (Int32.ofNat bt)), .val (.int (Int32.ofNat xn)), .val (.int (Int32.ofNat y)), .val (.ref cv), .val (.ref a), .unset] [])) target := by
  refine ⟨s₁, h0, _, X0, e0, N0, Z0, rfl, fun target kt => ?_⟩
  show Steps _ _ _ (s₁.setTop (mkF m 113 #[.val (.int p1), .val (.int p2), .val (.int p3), .val (.int p4), .val (.int p5), .val (.int p6), .val (.int (Int32.ofNat lf)), .val (.int (Int32.ofNat rt)), .val (.int (Int32.ofNat tp)), .val (.int (Int32.ofNat bt)), .val (.int (Int32.ofNat xn)), .val (.int (Int32.ofNat y)), .val (.ref cv), .val (.ref a), .unset] [])) _
  refine XS.iload X0.here hx rfl (hb hby at_113) rfl ?_
  refine XS.iload X0.here hx rfl (hb hby at_115) rfl ?_
  refine XS.icmpNo X0.here hx rfl (hb hby at_117) rfl (flt (own_lo (by omega) (by omega) c0)).2.2.1 ?_
  refine XS.iload X0.here hx rfl (hb hby at_120) rfl ?_
  refine XS.iload X0.here hx rfl (hb hby at_122) rfl ?_
  refine XS.icmpNo X0.here hx rfl (hb hby at_124) rfl (tlt ((own_lt (by omega) (by omega)).mpr c1)).2.1 ?_
  refine XS.iload X0.here hx rfl (hb hby at_127) rfl ?_
  refine XS.iload X0.here hx rfl (hb hby at_129) rfl ?_
  refine XS.icmpNo X0.here hx rfl (hb hby at_131) rfl (flt (own_lo (by omega) (by omega) c2)).2.2.1 ?_
  refine XS.iload X0.here hx rfl (hb hby at_134) rfl ?_
  refine XS.iload X0.here hx rfl (hb hby at_136) rfl ?_
  show Steps _ _ _ (s₁.setTop (mkF m 138 #[.val (.int p1), .val (.int p2), .val (.int p3), .val (.int p4), .val (.int p5), .val (.int p6), .val (.int (Int32.ofNat lf)), .val (.int (Int32.ofNat rt)), .val (.int (Int32.ofNat tp)), .val (.int (Int32.ofNat bt)), .val (.int (Int32.ofNat xn)), .val (.int (Int32.ofNat y)), .val (.ref cv), .val (.ref a), .unset] [(.int (Int32.ofNat bt)), (.int (Int32.ofNat y))])) _
  refine XS.icmpYes X0.here hx rfl (pc0 := 138) (pc' := 145) rfl (hb hby at_138) rfl (flt (own_lo (by omega) (by omega) c3)).2.1 (by decide) (by decide) ?_
  refine XS.iconst X0.here hx rfl (hb hby at_145) ?_
  refine XS.istore X0.here hx rfl (hb hby at_146) rfl (l' := #[.val (.int p1), .val (.int p2), .val (.int p3), .val (.int p4), .val (.int p5), .val (.int p6), .val (.int (Int32.ofNat lf)), .val (.int (Int32.ofNat rt)), .val (.int (Int32.ofNat tp)), .val (.int (Int32.ofNat bt)), .val (.int (Int32.ofNat xn)), .val (.int (Int32.ofNat y)), .val (.ref cv), .val (.ref a), .val (.int 0)]) rfl ?_
  exact kt
theorem insO {p : Program} {l : Launch} {e : Env} {s : State} {m : MethodId} {args : Array Value} {below : List Frame} {meth : Method} {c : Code} {s₁ : State} {L0 : List Loc} {Z : State} {a0 : Array Value} (p1 : Int32) (p2 : Int32) (p3 : Int32) (p4 : Int32) (p5 : Int32) (p6 : Int32) (lf : Nat) (rt : Nat) (tp : Nat) (bt : Nat) (xn : Nat) (y : Nat) (cv : Addr) (a : Addr) (h0 : Heap) (n0 : Nat) (X0 : Stand p l e room_1 s m args below meth c s₁ L0 12 35) (hx : p.tables.exec = Jvm.exec) (hZ : Z.Warmed39 s.vm) (hw : ∀ d ∈ tables_1, d.before a0 Z = true) (hby : c.code = code) (hml : c.maxLocals = 15) (hown : s.vm.findClass "dev/treefold/text/CanvasClipPinLaw" = some m.cls) (e0 : s₁.heap = h0) (N0 : Fr n0 L0) (Z0 : n0 ≤ h0.size) (hlf : lf ≤ 4) (htp : tp ≤ 3) (hrt : rt ≤ 4) (hbt : bt ≤ 3) (hxn : xn < 4) (hy : y < 3) (hout : ¬ (lf ≤ xn ∧ xn < rt ∧ tp ≤ y ∧ y < bt)) :
    ∃ (T' : State) (h' : Heap) (L' : List Loc) , Stand p l e room_1 s m args below meth c T' L' 12 35 ∧ T'.heap = h' ∧ Fr n0 L' ∧ n0 ≤ h'.size ∧ h' = h0 ∧ 
      ∀ target, Steps p.tables e below (T'.setTop (mkF m 148 #[.val (.int p1), .val (.int p2), .val (.int p3), .val (.int p4), .val (.int p5), .val (.int p6), .val (.int (Int32.ofNat lf)), .val (.int (Int32.ofNat rt)), .val (.int (Int32.ofNat tp)), .val (.int (Int32.ofNat bt)), .val (.int (Int32.ofNat xn)), .val (.int (Int32.ofNat y)), .val (.ref cv), .val (.ref a), .val (.int 0)] [])) target → Steps p.tables e below (s₁.setTop (mkF m 113 #[.val (.int p1), .val (.int p2), .val (.int p3), .val (.int p4), .val (.int p5), .val (.int p6), .val (.int (Int32.ofNat lf)), .val (.int (Int32.ofNat rt)), .val (.int (Int32.ofNat tp)), .val (.int (Int32.ofNat bt)), .val (.int (Int32.ofNat xn)), .val (.int (Int32.ofNat y)), .val (.ref cv), .val (.ref a), .unset] [])) target := by
  by_cases c0 : xn < lf
  · exact ins1 p1 p2 p3 p4 p5 p6 lf rt tp bt xn y cv a h0 n0 X0 hx hZ hw hby hml hown e0 N0 Z0 hlf htp hrt hbt hxn hy c0
  · by_cases c1 : xn < rt
    · by_cases c2 : y < tp
      · exact ins3 p1 p2 p3 p4 p5 p6 lf rt tp bt xn y cv a h0 n0 X0 hx hZ hw hby hml hown e0 N0 Z0 hlf htp hrt hbt hxn hy c0 c1 c2
      · exact ins4 p1 p2 p3 p4 p5 p6 lf rt tp bt xn y cv a h0 n0 X0 hx hZ hw hby hml hown e0 N0 Z0 hlf htp hrt hbt hxn hy c0 c1 c2 (fun q => hout ⟨by omega, c1, by omega, q⟩)
    · exact ins2 p1 p2 p3 p4 p5 p6 lf rt tp bt xn y cv a h0 n0 X0 hx hZ hw hby hml hown e0 N0 Z0 hlf htp hrt hbt hxn hy c0 c1
theorem pd__Ljava_lang_String_IIIZ_Z : parseMethodDescriptor "(Ljava/lang/String;IIIZ)Z" = some ⟨[(.object "java/lang/String"), .int, .int, .int, .boolean], some .boolean⟩ := by decide +kernel
theorem pn_0 : plainName "dev/treefold/text/CanvasClipPinLaw" = true := by first | (simp [plainName, overriddenIn]; done) | decide +kernel
theorem ef_0_rrrrrr (m : MethodId) (x0 : Int32) (x1 : Int32) (x2 : Int32) (x3 : Int32) (x4 : Int32) (x5 : Int32) : entryFrame m #[(.int x0), (.int x1), (.int x2), (.int x3), (.int x4), (.int x5)] maxLocals = mkF m 0 #[.val (.int x0), .val (.int x1), .val (.int x2), .val (.int x3), .val (.int x4), .val (.int x5), .unset, .unset, .unset, .unset, .unset, .unset, .unset, .unset, .unset] [] := by first | (simp [entryFrame, mkF, argsToLocals, Value.category, maxLocals]; done) | rfl
theorem rm0_n (l : Launch) (Z : State) (a0 : Array Value) (hw : ∀ d ∈ tables_1, d.before a0 Z = true) (ws : List Jvm.Cond) (G1 : Int32) (G3 : Value) (p1 : Int32) (p2 : Int32) (p3 : Int32) (p4 : Int32) (p5 : Int32) (p6 : Int32) (lf : Nat) (rt : Nat) (tp : Nat) (bt : Nat) (xn : Nat) (y : Nat) (h0 : Heap) (n0 : Nat) (Z0 : n0 ≤ h0.size) (EN : own_env Z G1 G3) (X00 : Old Z n0 h0) (e1_ : ((p1 &&& (2147483647 : Int32)) % (5 : Int32)) = (Int32.ofNat lf)) (e2_ : ((p2 &&& (2147483647 : Int32)) % (5 : Int32)) = (Int32.ofNat rt)) (e3_ : ((p3 &&& (2147483647 : Int32)) % (4 : Int32)) = (Int32.ofNat tp)) (e4_ : ((p4 &&& (2147483647 : Int32)) % (4 : Int32)) = (Int32.ofNat bt)) (e5_ : ((p5 &&& (2147483647 : Int32)) % (4 : Int32)) = (Int32.ofNat xn)) (e6_ : ((p6 &&& (2147483647 : Int32)) % (3 : Int32)) = (Int32.ofNat y)) (hlf : lf ≤ 4) (htp : tp ≤ 3) (hrt : rt ≤ 4) (hbt : bt ≤ 3) (hxn : xn < 4) (hy : y < 3) (hout : ¬ (lf ≤ xn ∧ xn < rt ∧ tp ≤ y ∧ y < bt)) :
    MetFree l x (head1 (Jvm.Cond.code x code maxLocals ret :: ws) room_1) (fun a_ U_ => a_ = #[(.int p1), (.int p2), (.int p3), (.int p4), (.int p5), (.int p6)] ∧ Z.Warmed39 U_.vm ∧ U_.heap = h0 ∧ CHv Z consts_1 U_.vm h0) (fun _ _ _ _ _ => True) (fun _ U_ o_ U1_ => ∃ v_ L_, o_ = .returned v_ ∧ Q0 Z  h0 n0 v_ U1_.heap L_ ∧ ReturnedEndW U_ o_ U1_ L_ 32 2176) := by
  refine MetFree.of_bodySF (plainFor_of_name pn_0) hisR ?_
  intro p e s m args below meth c s₁ Bd hml0 hP hK
  obtain ⟨rfl, hZ, hh, H0⟩ := hP
  have hx := Bd.exec
  have hby := Bd.bytes
  have hml : c.maxLocals = 15 := hml0
  have hown : s.vm.findClass "dev/treefold/text/CanvasClipPinLaw" = some m.cls := findClass_of_methodNamed Bd.named
  have hnm := (name_of_methodNamed Bd.named Bd.method).1
  have X0 : Stand p l e room_1 s m #[(.int p1), (.int p2), (.int p3), (.int p4), (.int p5), (.int p6)] below meth c s₁ [] 0 0 := Stand.of_body Bd
  have e0 : s₁.heap = h0 := by rw [← hh, Bd.state]; rfl
  have N0 := Fr.nil n0
  have pre0 : ∀ tt, Steps p.tables e below (s₁.setTop (mkF m 0 #[.val (.int p1), .val (.int p2), .val (.int p3), .val (.int p4), .val (.int p5), .val (.int p6), .unset, .unset, .unset, .unset, .unset, .unset, .unset, .unset, .unset] [])) tt → Steps p.tables e below (s₁.setTop (entryFrame m #[(.int p1), (.int p2), (.int p3), (.int p4), (.int p5), (.int p6)] maxLocals)) tt := fun tt kk => castTop (ef_0_rrrrrr m p1 p2 p3 p4 p5 p6) kk
  have hS0 : s.Since s.vm 0 := (State.WarmedH.refl s).since 0
  have hk0 : 0 ≤ h0.size := Nat.zero_le _
  have EN0 := EN
  obtain ⟨O2, P5, O4, rG3⟩ := EN
  obtain ⟨T1, h1, L1, cv, R, kR, X1, e1, N1, Z1, O1, K1, g_cv, g_R, sz_cv, sz_R, ncR, Ec1, Fc1_0, Fc1_1, Fc1_2, Fc1_3, Fc1_4, Fc1_5, V1, OvR, st1⟩ := frL p1 p2 p3 p4 p5 p6 lf rt tp bt xn (Int32.ofNat y) h0 n0 X0 hx hZ hw hby hml hown e0 N0 Z0 e1_ e2_ e3_ e4_ e5_ e6_ X00
  have C12 := CHr.keep ((Keep.refl h0 []).trans K1 all0) sf0 H0
  obtain ⟨b11, T11, h11, k11, d11, kb11, X11, e11, E11, hS11, hk11, hZ11, hown11, Ea11, Ca11, Va11, Ka11, la11, lb11, Cx11, -, ne11, st11⟩ := ldcCH (s := s) (vm0 := s.vm) X1 hx hZ hown (hw _ (tk 35 rfl)) (fun d hd => hw d (own_wS d hd)) e1 hS0 (Nat.le_trans hk0 K1.1) (own_EW hw) own_mem27 C12.1 (vs := [Value.int (Jvm.Lit.byteI 81)]) (z := 1) ⟨by decide, rfl⟩ (by decide) rfl (g := (mkF m 101 #[.val (.int p1), .val (.int p2), .val (.int p3), .val (.int p4), .val (.int p5), .val (.int p6), .val (.int (Int32.ofNat lf)), .val (.int (Int32.ofNat rt)), .val (.int (Int32.ofNat tp)), .val (.int (Int32.ofNat bt)), .val (.int (Int32.ofNat xn)), .val (.int (Int32.ofNat y)), .val (.ref cv), .unset, .unset] [(.int (Int32.ofNat y)), (.int (Int32.ofNat xn)), (.ref cv)])) rfl (hb hby at_101) (n := 4) (by decide) (by decide) (by decide) (by decide)
  have C11 := CHr.trans C12 Cx11
  have Vq13 : Arv Z h11 d11 kb11 .byte (1 : Int32) ((([81] : List Int32).map fun c => c.toInt8.toInt32).map Value.int) (.int 0) := by
    have q_ := Ka11
    rw [own_b81] at q_
    exact q_
  have f15 := (O1.ext E11)
  have f16 := (Ec1.ext E11)
  have f17 := (Fc1_0.ext E11)
  have f18 := (Fc1_1.ext E11)
  have f19 := (Fc1_2.ext E11)
  have f20 := (Fc1_3.ext E11)
  have f21 := (Fc1_4.ext E11)
  have f22 := (Fc1_5.ext E11)
  obtain ⟨cq14, kq14, q14a, q14b, q14c⟩ := isOf hZ11 e11 f16
  obtain ⟨_, _, ⟨T14, L14, k14, n14⟩, -, X14, ⟨Lc14, hQ14, l14, y14, z14⟩, st14⟩ := X11.virtualBack hx (y := y_26) (z := y_26) hown11 (mvT hZ11 (hw _ (tk 43 rfl))) (mvT hZ11 (hw _ (tk 44 rfl))) (notFace_of_selects (args := #[]) (mvT hZ11 (hw _ (tk 46 rfl)))) (mvT hZ11 (hw _ (tk 46 rfl))) (mvT hZ11 (hw _ (tk 45 rfl))) (by decide) (backOf (W := 0) (rmWO l Z a0 hw [] G1 G3 cv R kR y lf tp rt bt b11 xn h11 n0 (Nat.le_trans Z0 (Nat.le_trans K1.1 E11.1)) EN0 f15 f16 f17 f18 f19 f20 f21 f22 ⟨d11, kb11, Ea11, Ca11, Va11, Vq13, own_hq, (by decide)⟩ hlf htp hrt hbt hxn hy hout) hZ11 (hw _ (tk 47 rfl)) (hw _ (tk 3 rfl)) (by decide) (by decide)) q14a q14c (g := (mkF m 103 #[.val (.int p1), .val (.int p2), .val (.int p3), .val (.int p4), .val (.int p5), .val (.int p6), .val (.int (Int32.ofNat lf)), .val (.int (Int32.ofNat rt)), .val (.int (Int32.ofNat tp)), .val (.int (Int32.ofNat bt)), .val (.int (Int32.ofNat xn)), .val (.int (Int32.ofNat y)), .val (.ref cv), .unset, .unset] [(.ref b11), (.int (Int32.ofNat y)), (.int (Int32.ofNat xn)), (.ref cv)])) rfl (by rw [hml]; rfl) (Steps.refl _) (argsL := [(.int (Int32.ofNat xn)), (.int (Int32.ofNat y)), (.ref b11)]) (rest := []) (lenOf pd__IILjava_lang_String__V rfl) rfl (by show 2 * 0 + _ ≤ _; exact Nat.le_of_eq rfl) (hb hby at_103) (fun _ _ => ⟨rfl, e11, (by decide : 4 + 0 ≤ _), (by decide : 17 + 0 ≤ _)⟩)
  dsimp only [Pt.U, Pt.locs, Pt.cells, Pt.slots] at X14 l14 y14 z14 st14 hQ14
  subst l14 y14 z14
  obtain ⟨rfl, Nq14, eq14⟩ := hQ14
  have N14 := Fr.app N1 Nq14
  have f24 := (V1.ext E11)
  obtain ⟨cq23, kq23, q23a, q23b, q23c⟩ := isOf hZ11 eq14 f16
  obtain ⟨_, _, ⟨T23, L23, k23, n23⟩, -, X23', hS23', gr23, ⟨Lc23, hQ23, l23, y23, z23⟩, st23⟩ := X14.virtualBackS hx (y := y_40) (z := y_40) hown11 (mvT hZ11 (hw _ (tk 48 rfl))) (mvT hZ11 (hw _ (tk 49 rfl))) (notFace_of_selects (args := #[]) (mvT hZ11 (hw _ (tk 51 rfl)))) (mvT hZ11 (hw _ (tk 51 rfl))) (mvT hZ11 (hw _ (tk 50 rfl))) (by decide) (own_backSN (W := 0) (s := s) (rmLSn l Z a0 hw [] G1 G3 cv R kR (Int32.ofNat lf) (Int32.ofNat tp) (Int32.ofNat rt) (Int32.ofNat bt) h11 n0 (Nat.le_trans Z0 (Nat.le_trans K1.1 E11.1)) EN0 f15 f16 f17 f18 f19 f20 f21 f22 f24) hZ11 (hw _ (tk 52 rfl)) (hw _ (tk 3 rfl)) (by decide) (by decide) (own_EW hw) C11.1) q23a q23c (g := (mkF m 108 #[.val (.int p1), .val (.int p2), .val (.int p3), .val (.int p4), .val (.int p5), .val (.int p6), .val (.int (Int32.ofNat lf)), .val (.int (Int32.ofNat rt)), .val (.int (Int32.ofNat tp)), .val (.int (Int32.ofNat bt)), .val (.int (Int32.ofNat xn)), .val (.int (Int32.ofNat y)), .val (.ref cv), .unset, .unset] [(.ref cv)])) rfl (by rw [hml]; rfl) (Steps.refl _) (argsL := []) (rest := []) (lenOf pd___Ljava_util_List_ rfl) rfl (by show 2 * 0 + _ ≤ _; exact Nat.le_of_eq rfl) (hb hby at_108) (fun _ _ => ⟨rfl, eq14, (by decide : 4 + 8 ≤ _), (by decide : 17 + 18 ≤ _)⟩)
  dsimp only [Pt.U, Pt.locs, Pt.cells, Pt.slots] at X23' hS23' gr23 l23 y23 z23 st23 hQ23
  subst l23 y23 z23
  obtain ⟨X23, hS23, hZ23, hown23⟩ := rebS (s := s) (vm0 := T11.vm) hS11 (by rw [eq14]; exact hk11) X23' hS23' gr23 hZ11 hown11
  obtain ⟨a23, t23, k23q, s23_0, s23_1, s23_2, rfl, Nq23, Kq23, Ea23, Fe23, Fs23, Vt23, S23_0, S23_1, S23_2⟩ := hQ23
  have N23 := Fr.app N14 Nq23
  obtain ⟨bs23_0, ks23_0, Es23_0, Cs23_0, Vs23_0, Ks23_0, hps23_0, hls23_0⟩ := S23_0
  obtain ⟨bs23_1, ks23_1, Es23_1, Cs23_1, Vs23_1, Ks23_1, hps23_1, hls23_1⟩ := S23_1
  obtain ⟨bs23_2, ks23_2, Es23_2, Cs23_2, Vs23_2, Ks23_2, hps23_2, hls23_2⟩ := S23_2
  obtain ⟨T99, h99, L99, X99, e99, N99, Z99, hh99, st99⟩ := insO p1 p2 p3 p4 p5 p6 lf rt tp bt xn y cv a23 T23.heap n0 X23 hx hZ23 hw hby hml hown23 rfl N23 (Nat.le_trans Z0 (Nat.le_trans (Nat.le_trans K1.1 E11.1) Kq23.1)) hlf htp hrt hbt hxn hy hout
  have e99b := e99.trans hh99
  obtain ⟨cq201, kq201, q201a, q201b, q201c⟩ := isOf hZ23 e99b Ea23
  obtain ⟨_, _, ⟨T201, L201, k201, n201⟩, -, X201, ⟨Lc201, hQ201, l201, y201, z201⟩, st201⟩ := X99.interfaceBack hx (xi := y_43) (y := y_37) hown23 (mvT hZ23 (hw _ (tk 98 rfl))) (mvT hZ23 (hw _ (tk 99 rfl))) (mvT hZ23 (hw _ (tk 100 rfl))) (mvT hZ23 (hw _ (tk 101 rfl))) (mvT hZ23 (hw _ (tk 102 rfl))) (mvT hZ23 (hw _ (tk 103 rfl))) (mvT hZ23 (hw _ (tk 104 rfl))) (mvT hZ23 (hw _ (tk 86 rfl))) (by decide) (backOf (W := 0) (rmSZ l Z a0 hw [] a23 T23.heap n0 (Nat.le_trans Z0 (Nat.le_trans (Nat.le_trans K1.1 E11.1) Kq23.1)) Fs23) hZ23 (hw _ (tk 105 rfl)) (hw _ (tk 55 rfl)) (by decide) (by decide)) q201a q201b q201c (g := (mkF m 150 #[.val (.int p1), .val (.int p2), .val (.int p3), .val (.int p4), .val (.int p5), .val (.int p6), .val (.int (Int32.ofNat lf)), .val (.int (Int32.ofNat rt)), .val (.int (Int32.ofNat tp)), .val (.int (Int32.ofNat bt)), .val (.int (Int32.ofNat xn)), .val (.int (Int32.ofNat y)), .val (.ref cv), .val (.ref a23), .val (.int 0)] [(.ref a23)])) rfl (by rw [hml]; rfl) (Steps.refl _) (argsL := []) (rest := []) (lenOf pd___I rfl) rfl (by show 2 * 0 + _ ≤ _; exact Nat.le_of_eq rfl) (hb hby at_150) (fun _ _ => ⟨rfl, e99b, (by decide : 12 + 0 ≤ _), (by decide : 35 + 0 ≤ _)⟩)
  dsimp only [Pt.U, Pt.locs, Pt.cells, Pt.slots] at X201 l201 y201 z201 st201 hQ201
  subst l201 y201 z201
  obtain ⟨rfl, Nq201, eq201⟩ := hQ201
  have N201 := Fr.app N99 Nq201
  obtain ⟨cq202, kq202, q202a, q202b, q202c⟩ := isOf hZ23 eq201 Ea23
  obtain ⟨_, _, ⟨T202, L202, k202, n202⟩, -, X202, ⟨Lc202, hQ202, l202, y202, z202⟩, st202⟩ := X201.interfaceBack hx (xi := y_44) (y := y_39) hown23 (mvT hZ23 (hw _ (tk 106 rfl))) (mvT hZ23 (hw _ (tk 107 rfl))) (mvT hZ23 (hw _ (tk 108 rfl))) (mvT hZ23 (hw _ (tk 109 rfl))) (mvT hZ23 (hw _ (tk 110 rfl))) (mvT hZ23 (hw _ (tk 111 rfl))) (mvT hZ23 (hw _ (tk 112 rfl))) (mvT hZ23 (hw _ (tk 86 rfl))) (by decide) (backOf (W := 0) (rmGT0 l Z a0 hw [] a23 t23 k23q s23_0 s23_1 s23_2 T23.heap n0 (Nat.le_trans Z0 (Nat.le_trans (Nat.le_trans K1.1 E11.1) Kq23.1)) Ea23 Fe23 Fs23 Vt23) hZ23 (hw _ (tk 113 rfl)) (hw _ (tk 55 rfl)) (by decide) (by decide)) q202a q202b q202c (g := (mkF m 164 #[.val (.int p1), .val (.int p2), .val (.int p3), .val (.int p4), .val (.int p5), .val (.int p6), .val (.int (Int32.ofNat lf)), .val (.int (Int32.ofNat rt)), .val (.int (Int32.ofNat tp)), .val (.int (Int32.ofNat bt)), .val (.int (Int32.ofNat xn)), .val (.int (Int32.ofNat y)), .val (.ref cv), .val (.ref a23), .val (.int 0)] [(.int 0), (.ref a23)])) rfl (by rw [hml]; rfl) (Steps.refl _) (argsL := [(.int 0)]) (rest := []) (lenOf pd__I_Ljava_lang_Object_ rfl) rfl (by show 2 * 0 + _ ≤ _; exact Nat.le_of_eq rfl) (hb hby at_164) (fun _ _ => ⟨rfl, eq201, (by decide : 12 + 0 ≤ _), (by decide : 35 + 0 ≤ _)⟩)
  dsimp only [Pt.U, Pt.locs, Pt.cells, Pt.slots] at X202 l202 y202 z202 st202 hQ202
  subst l202 y202 z202
  obtain ⟨rfl, Nq202, eq202⟩ := hQ202
  have N202 := Fr.app N201 Nq202
  obtain ⟨T203, X203, e203, st203⟩ := castY X202 hx hZ23 hown23 (hw _ (tk 127 rfl)) eq202 (Ins.self Es23_0) (g := (mkF m 169 #[.val (.int p1), .val (.int p2), .val (.int p3), .val (.int p4), .val (.int p5), .val (.int p6), .val (.int (Int32.ofNat lf)), .val (.int (Int32.ofNat rt)), .val (.int (Int32.ofNat tp)), .val (.int (Int32.ofNat bt)), .val (.int (Int32.ofNat xn)), .val (.int (Int32.ofNat y)), .val (.ref cv), .val (.ref a23), .val (.int 0)] [(.ref s23_0)])) rfl rfl (hb hby at_169)
  have f205 := (f15.keep Kq23 all0)
  obtain ⟨_, _, ⟨T204, L204, k204, n204⟩, -, X204, ⟨Lc204, hQ204, l204, y204, z204⟩, st204⟩ := Jvm.LawKit.callS X203 hx (y := y_42) hown23 (mvT hZ23 (hw _ (tk 129 rfl))) (mvT hZ23 (hw _ (tk 130 rfl))) (mvT hZ23 (hw _ (tk 131 rfl))) (mvT hZ23 (hw _ (tk 132 rfl))) (by decide) (backOf (W := 0) (rmRKO l Z a0 hw [] G1 G3 s23_0 (0 : Int32) xn (Int32.ofNat y) (0 : Int32) T23.heap n0 (Nat.le_trans Z0 (Nat.le_trans (Nat.le_trans K1.1 E11.1) Kq23.1)) EN0 f205 hxn ⟨bs23_0, ks23_0, Es23_0, Cs23_0, Vs23_0, Ks23_0, hps23_0, hls23_0⟩ (Or.inr rfl)) hZ23 (hw _ (tk 132 rfl)) (hw _ (tk 131 rfl)) (by decide) (by decide)) (g := (mkF m 179 #[.val (.int p1), .val (.int p2), .val (.int p3), .val (.int p4), .val (.int p5), .val (.int p6), .val (.int (Int32.ofNat lf)), .val (.int (Int32.ofNat rt)), .val (.int (Int32.ofNat tp)), .val (.int (Int32.ofNat bt)), .val (.int (Int32.ofNat xn)), .val (.int (Int32.ofNat y)), .val (.ref cv), .val (.ref a23), .val (.int 0)] [(.int 0), (.int (Int32.ofNat y)), (.int (Int32.ofNat xn)), (.int 0), (.ref s23_0)])) rfl (by rw [hml]; rfl) (argsL := [(.ref s23_0), (.int 0), (.int (Int32.ofNat xn)), (.int (Int32.ofNat y)), (.int 0)]) (rest := []) (lenOf pd__Ljava_lang_String_IIIZ_Z rfl) rfl (by show 2 * 0 + _ ≤ _; exact Nat.le_of_eq rfl) (hb hby at_179) (fun _ _ => ⟨rfl, e203, (by decide : 12 + 0 ≤ _), (by decide : 35 + 0 ≤ _)⟩)
  dsimp only [Pt.U, Pt.locs, Pt.cells, Pt.slots] at X204 l204 y204 z204 st204 hQ204
  subst l204 y204 z204
  obtain ⟨rfl, Nq204, eq204⟩ := hQ204
  have N204 := Fr.app N202 Nq204
  obtain ⟨cq206, kq206, q206a, q206b, q206c⟩ := isOf hZ23 eq204 Ea23
  obtain ⟨_, _, ⟨T206, L206, k206, n206⟩, -, X206, ⟨Lc206, hQ206, l206, y206, z206⟩, st206⟩ := X204.interfaceBack hx (xi := y_44) (y := y_39) hown23 (mvT hZ23 (hw _ (tk 106 rfl))) (mvT hZ23 (hw _ (tk 107 rfl))) (mvT hZ23 (hw _ (tk 108 rfl))) (mvT hZ23 (hw _ (tk 109 rfl))) (mvT hZ23 (hw _ (tk 110 rfl))) (mvT hZ23 (hw _ (tk 111 rfl))) (mvT hZ23 (hw _ (tk 112 rfl))) (mvT hZ23 (hw _ (tk 86 rfl))) (by decide) (backOf (W := 0) (rmGT1 l Z a0 hw [] a23 t23 k23q s23_0 s23_1 s23_2 T23.heap n0 (Nat.le_trans Z0 (Nat.le_trans (Nat.le_trans K1.1 E11.1) Kq23.1)) Ea23 Fe23 Fs23 Vt23) hZ23 (hw _ (tk 113 rfl)) (hw _ (tk 55 rfl)) (by decide) (by decide)) q206a q206b q206c (g := (mkF m 188 #[.val (.int p1), .val (.int p2), .val (.int p3), .val (.int p4), .val (.int p5), .val (.int p6), .val (.int (Int32.ofNat lf)), .val (.int (Int32.ofNat rt)), .val (.int (Int32.ofNat tp)), .val (.int (Int32.ofNat bt)), .val (.int (Int32.ofNat xn)), .val (.int (Int32.ofNat y)), .val (.ref cv), .val (.ref a23), .val (.int 0)] [(.int 1), (.ref a23)])) rfl (by rw [hml]; rfl) (Steps.refl _) (argsL := [(.int 1)]) (rest := []) (lenOf pd__I_Ljava_lang_Object_ rfl) rfl (by show 2 * 0 + _ ≤ _; exact Nat.le_of_eq rfl) (hb hby at_188) (fun _ _ => ⟨rfl, eq204, (by decide : 12 + 0 ≤ _), (by decide : 35 + 0 ≤ _)⟩)
  dsimp only [Pt.U, Pt.locs, Pt.cells, Pt.slots] at X206 l206 y206 z206 st206 hQ206
  subst l206 y206 z206
  obtain ⟨rfl, Nq206, eq206⟩ := hQ206
  have N206 := Fr.app N204 Nq206
  obtain ⟨T207, X207, e207, st207⟩ := castY X206 hx hZ23 hown23 (hw _ (tk 127 rfl)) eq206 (Ins.self Es23_1) (g := (mkF m 193 #[.val (.int p1), .val (.int p2), .val (.int p3), .val (.int p4), .val (.int p5), .val (.int p6), .val (.int (Int32.ofNat lf)), .val (.int (Int32.ofNat rt)), .val (.int (Int32.ofNat tp)), .val (.int (Int32.ofNat bt)), .val (.int (Int32.ofNat xn)), .val (.int (Int32.ofNat y)), .val (.ref cv), .val (.ref a23), .val (.int 0)] [(.ref s23_1)])) rfl rfl (hb hby at_193)
  obtain ⟨_, _, ⟨T208, L208, k208, n208⟩, -, X208, ⟨Lc208, hQ208, l208, y208, z208⟩, st208⟩ := Jvm.LawKit.callS X207 hx (y := y_42) hown23 (mvT hZ23 (hw _ (tk 129 rfl))) (mvT hZ23 (hw _ (tk 130 rfl))) (mvT hZ23 (hw _ (tk 131 rfl))) (mvT hZ23 (hw _ (tk 132 rfl))) (by decide) (backOf (W := 0) (rmRKO l Z a0 hw [] G1 G3 s23_1 (1 : Int32) xn (Int32.ofNat y) (0 : Int32) T23.heap n0 (Nat.le_trans Z0 (Nat.le_trans (Nat.le_trans K1.1 E11.1) Kq23.1)) EN0 f205 hxn ⟨bs23_1, ks23_1, Es23_1, Cs23_1, Vs23_1, Ks23_1, hps23_1, hls23_1⟩ (Or.inr rfl)) hZ23 (hw _ (tk 132 rfl)) (hw _ (tk 131 rfl)) (by decide) (by decide)) (g := (mkF m 203 #[.val (.int p1), .val (.int p2), .val (.int p3), .val (.int p4), .val (.int p5), .val (.int p6), .val (.int (Int32.ofNat lf)), .val (.int (Int32.ofNat rt)), .val (.int (Int32.ofNat tp)), .val (.int (Int32.ofNat bt)), .val (.int (Int32.ofNat xn)), .val (.int (Int32.ofNat y)), .val (.ref cv), .val (.ref a23), .val (.int 0)] [(.int 0), (.int (Int32.ofNat y)), (.int (Int32.ofNat xn)), (.int 1), (.ref s23_1)])) rfl (by rw [hml]; rfl) (argsL := [(.ref s23_1), (.int 1), (.int (Int32.ofNat xn)), (.int (Int32.ofNat y)), (.int 0)]) (rest := []) (lenOf pd__Ljava_lang_String_IIIZ_Z rfl) rfl (by show 2 * 0 + _ ≤ _; exact Nat.le_of_eq rfl) (hb hby at_203) (fun _ _ => ⟨rfl, e207, (by decide : 12 + 0 ≤ _), (by decide : 35 + 0 ≤ _)⟩)
  dsimp only [Pt.U, Pt.locs, Pt.cells, Pt.slots] at X208 l208 y208 z208 st208 hQ208
  subst l208 y208 z208
  obtain ⟨rfl, Nq208, eq208⟩ := hQ208
  have N208 := Fr.app N206 Nq208
  obtain ⟨cq209, kq209, q209a, q209b, q209c⟩ := isOf hZ23 eq208 Ea23
  obtain ⟨_, _, ⟨T209, L209, k209, n209⟩, -, X209, ⟨Lc209, hQ209, l209, y209, z209⟩, st209⟩ := X208.interfaceBack hx (xi := y_44) (y := y_39) hown23 (mvT hZ23 (hw _ (tk 106 rfl))) (mvT hZ23 (hw _ (tk 107 rfl))) (mvT hZ23 (hw _ (tk 108 rfl))) (mvT hZ23 (hw _ (tk 109 rfl))) (mvT hZ23 (hw _ (tk 110 rfl))) (mvT hZ23 (hw _ (tk 111 rfl))) (mvT hZ23 (hw _ (tk 112 rfl))) (mvT hZ23 (hw _ (tk 86 rfl))) (by decide) (backOf (W := 0) (rmGT2 l Z a0 hw [] a23 t23 k23q s23_0 s23_1 s23_2 T23.heap n0 (Nat.le_trans Z0 (Nat.le_trans (Nat.le_trans K1.1 E11.1) Kq23.1)) Ea23 Fe23 Fs23 Vt23) hZ23 (hw _ (tk 113 rfl)) (hw _ (tk 55 rfl)) (by decide) (by decide)) q209a q209b q209c (g := (mkF m 212 #[.val (.int p1), .val (.int p2), .val (.int p3), .val (.int p4), .val (.int p5), .val (.int p6), .val (.int (Int32.ofNat lf)), .val (.int (Int32.ofNat rt)), .val (.int (Int32.ofNat tp)), .val (.int (Int32.ofNat bt)), .val (.int (Int32.ofNat xn)), .val (.int (Int32.ofNat y)), .val (.ref cv), .val (.ref a23), .val (.int 0)] [(.int 2), (.ref a23)])) rfl (by rw [hml]; rfl) (Steps.refl _) (argsL := [(.int 2)]) (rest := []) (lenOf pd__I_Ljava_lang_Object_ rfl) rfl (by show 2 * 0 + _ ≤ _; exact Nat.le_of_eq rfl) (hb hby at_212) (fun _ _ => ⟨rfl, eq208, (by decide : 12 + 0 ≤ _), (by decide : 35 + 0 ≤ _)⟩)
  dsimp only [Pt.U, Pt.locs, Pt.cells, Pt.slots] at X209 l209 y209 z209 st209 hQ209
  subst l209 y209 z209
  obtain ⟨rfl, Nq209, eq209⟩ := hQ209
  have N209 := Fr.app N208 Nq209
  obtain ⟨T210, X210, e210, st210⟩ := castY X209 hx hZ23 hown23 (hw _ (tk 127 rfl)) eq209 (Ins.self Es23_2) (g := (mkF m 217 #[.val (.int p1), .val (.int p2), .val (.int p3), .val (.int p4), .val (.int p5), .val (.int p6), .val (.int (Int32.ofNat lf)), .val (.int (Int32.ofNat rt)), .val (.int (Int32.ofNat tp)), .val (.int (Int32.ofNat bt)), .val (.int (Int32.ofNat xn)), .val (.int (Int32.ofNat y)), .val (.ref cv), .val (.ref a23), .val (.int 0)] [(.ref s23_2)])) rfl rfl (hb hby at_217)
  obtain ⟨_, _, ⟨T211, L211, k211, n211⟩, -, X211, ⟨Lc211, hQ211, l211, y211, z211⟩, st211⟩ := Jvm.LawKit.callS X210 hx (y := y_42) hown23 (mvT hZ23 (hw _ (tk 129 rfl))) (mvT hZ23 (hw _ (tk 130 rfl))) (mvT hZ23 (hw _ (tk 131 rfl))) (mvT hZ23 (hw _ (tk 132 rfl))) (by decide) (backOf (W := 0) (rmRKO l Z a0 hw [] G1 G3 s23_2 (2 : Int32) xn (Int32.ofNat y) (0 : Int32) T23.heap n0 (Nat.le_trans Z0 (Nat.le_trans (Nat.le_trans K1.1 E11.1) Kq23.1)) EN0 f205 hxn ⟨bs23_2, ks23_2, Es23_2, Cs23_2, Vs23_2, Ks23_2, hps23_2, hls23_2⟩ (Or.inr rfl)) hZ23 (hw _ (tk 132 rfl)) (hw _ (tk 131 rfl)) (by decide) (by decide)) (g := (mkF m 227 #[.val (.int p1), .val (.int p2), .val (.int p3), .val (.int p4), .val (.int p5), .val (.int p6), .val (.int (Int32.ofNat lf)), .val (.int (Int32.ofNat rt)), .val (.int (Int32.ofNat tp)), .val (.int (Int32.ofNat bt)), .val (.int (Int32.ofNat xn)), .val (.int (Int32.ofNat y)), .val (.ref cv), .val (.ref a23), .val (.int 0)] [(.int 0), (.int (Int32.ofNat y)), (.int (Int32.ofNat xn)), (.int 2), (.ref s23_2)])) rfl (by rw [hml]; rfl) (argsL := [(.ref s23_2), (.int 2), (.int (Int32.ofNat xn)), (.int (Int32.ofNat y)), (.int 0)]) (rest := []) (lenOf pd__Ljava_lang_String_IIIZ_Z rfl) rfl (by show 2 * 0 + _ ≤ _; exact Nat.le_of_eq rfl) (hb hby at_227) (fun _ _ => ⟨rfl, e210, (by decide : 12 + 0 ≤ _), (by decide : 35 + 0 ≤ _)⟩)
  dsimp only [Pt.U, Pt.locs, Pt.cells, Pt.slots] at X211 l211 y211 z211 st211 hQ211
  subst l211 y211 z211
  obtain ⟨rfl, Nq211, eq211⟩ := hQ211
  have N211 := Fr.app N209 Nq211
  obtain ⟨fs, hr, hrun, hended, hfin⟩ := X211.leaveW hS23 (by rw [eq211]; exact (Nat.le_refl _)) (v := some (.int 1)) (fun h => by rw [Bd.returns] at h; cases h)
  refine ⟨_, _, pre0 _ ?_, hrun, hended, _, _, rfl, ?_, hfin.1, hfin.2.1, hfin.2.2.1, hfin.2.2.2.mono (by decide) (by decide)⟩
  · show Steps _ _ _ (s₁.setTop (mkF m 0 #[.val (.int p1), .val (.int p2), .val (.int p3), .val (.int p4), .val (.int p5), .val (.int p6), .unset, .unset, .unset, .unset, .unset, .unset, .unset, .unset, .unset] [])) _
    refine st1 _ ?_
    show Steps _ _ _ (T1.setTop (mkF m 95 #[.val (.int p1), .val (.int p2), .val (.int p3), .val (.int p4), .val (.int p5), .val (.int p6), .val (.int (Int32.ofNat lf)), .val (.int (Int32.ofNat rt)), .val (.int (Int32.ofNat tp)), .val (.int (Int32.ofNat bt)), .val (.int (Int32.ofNat xn)), .val (.int (Int32.ofNat y)), .val (.ref cv), .unset, .unset] [])) _
    refine XS.aload X1.here hx rfl (hb hby at_95) rfl rfl ?_
    refine XS.iload X1.here hx rfl (hb hby at_97) rfl ?_
    refine XS.iload X1.here hx rfl (hb hby at_99) rfl ?_
    show Steps _ _ _ (T1.setTop (mkF m 101 #[.val (.int p1), .val (.int p2), .val (.int p3), .val (.int p4), .val (.int p5), .val (.int p6), .val (.int (Int32.ofNat lf)), .val (.int (Int32.ofNat rt)), .val (.int (Int32.ofNat tp)), .val (.int (Int32.ofNat bt)), .val (.int (Int32.ofNat xn)), .val (.int (Int32.ofNat y)), .val (.ref cv), .unset, .unset] [(.int (Int32.ofNat y)), (.int (Int32.ofNat xn)), (.ref cv)])) _
    refine st11 _ ?_
    show Steps _ _ _ (T11.setTop (mkF m 103 #[.val (.int p1), .val (.int p2), .val (.int p3), .val (.int p4), .val (.int p5), .val (.int p6), .val (.int (Int32.ofNat lf)), .val (.int (Int32.ofNat rt)), .val (.int (Int32.ofNat tp)), .val (.int (Int32.ofNat bt)), .val (.int (Int32.ofNat xn)), .val (.int (Int32.ofNat y)), .val (.ref cv), .unset, .unset] [(.ref b11), (.int (Int32.ofNat y)), (.int (Int32.ofNat xn)), (.ref cv)])) _
    refine st14.trans ?_
    show Steps _ _ _ (T14.setTop (mkF m 106 #[.val (.int p1), .val (.int p2), .val (.int p3), .val (.int p4), .val (.int p5), .val (.int p6), .val (.int (Int32.ofNat lf)), .val (.int (Int32.ofNat rt)), .val (.int (Int32.ofNat tp)), .val (.int (Int32.ofNat bt)), .val (.int (Int32.ofNat xn)), .val (.int (Int32.ofNat y)), .val (.ref cv), .unset, .unset] [])) _
    refine XS.aload X14.here hx rfl (hb hby at_106) rfl rfl ?_
    show Steps _ _ _ (T14.setTop (mkF m 108 #[.val (.int p1), .val (.int p2), .val (.int p3), .val (.int p4), .val (.int p5), .val (.int p6), .val (.int (Int32.ofNat lf)), .val (.int (Int32.ofNat rt)), .val (.int (Int32.ofNat tp)), .val (.int (Int32.ofNat bt)), .val (.int (Int32.ofNat xn)), .val (.int (Int32.ofNat y)), .val (.ref cv), .unset, .unset] [(.ref cv)])) _
    refine st23.trans ?_
    show Steps _ _ _ (T23.setTop (mkF m 111 #[.val (.int p1), .val (.int p2), .val (.int p3), .val (.int p4), .val (.int p5), .val (.int p6), .val (.int (Int32.ofNat lf)), .val (.int (Int32.ofNat rt)), .val (.int (Int32.ofNat tp)), .val (.int (Int32.ofNat bt)), .val (.int (Int32.ofNat xn)), .val (.int (Int32.ofNat y)), .val (.ref cv), .unset, .unset] [(.ref a23)])) _
    refine XS.astore X23.here hx rfl (hb hby at_111) rfl rfl (l' := #[.val (.int p1), .val (.int p2), .val (.int p3), .val (.int p4), .val (.int p5), .val (.int p6), .val (.int (Int32.ofNat lf)), .val (.int (Int32.ofNat rt)), .val (.int (Int32.ofNat tp)), .val (.int (Int32.ofNat bt)), .val (.int (Int32.ofNat xn)), .val (.int (Int32.ofNat y)), .val (.ref cv), .val (.ref a23), .unset]) rfl ?_
    show Steps _ _ _ (T23.setTop (mkF m 113 #[.val (.int p1), .val (.int p2), .val (.int p3), .val (.int p4), .val (.int p5), .val (.int p6), .val (.int (Int32.ofNat lf)), .val (.int (Int32.ofNat rt)), .val (.int (Int32.ofNat tp)), .val (.int (Int32.ofNat bt)), .val (.int (Int32.ofNat xn)), .val (.int (Int32.ofNat y)), .val (.ref cv), .val (.ref a23), .unset] [])) _
    refine st99 _ ?_
    show Steps _ _ _ (T99.setTop (mkF m 148 #[.val (.int p1), .val (.int p2), .val (.int p3), .val (.int p4), .val (.int p5), .val (.int p6), .val (.int (Int32.ofNat lf)), .val (.int (Int32.ofNat rt)), .val (.int (Int32.ofNat tp)), .val (.int (Int32.ofNat bt)), .val (.int (Int32.ofNat xn)), .val (.int (Int32.ofNat y)), .val (.ref cv), .val (.ref a23), .val (.int 0)] [])) _
    refine XS.aload X99.here hx rfl (hb hby at_148) rfl rfl ?_
    show Steps _ _ _ (T99.setTop (mkF m 150 #[.val (.int p1), .val (.int p2), .val (.int p3), .val (.int p4), .val (.int p5), .val (.int p6), .val (.int (Int32.ofNat lf)), .val (.int (Int32.ofNat rt)), .val (.int (Int32.ofNat tp)), .val (.int (Int32.ofNat bt)), .val (.int (Int32.ofNat xn)), .val (.int (Int32.ofNat y)), .val (.ref cv), .val (.ref a23), .val (.int 0)] [(.ref a23)])) _
    refine st201.trans ?_
    show Steps _ _ _ (T201.setTop (mkF m 155 #[.val (.int p1), .val (.int p2), .val (.int p3), .val (.int p4), .val (.int p5), .val (.int p6), .val (.int (Int32.ofNat lf)), .val (.int (Int32.ofNat rt)), .val (.int (Int32.ofNat tp)), .val (.int (Int32.ofNat bt)), .val (.int (Int32.ofNat xn)), .val (.int (Int32.ofNat y)), .val (.ref cv), .val (.ref a23), .val (.int 0)] [(.int 3)])) _
    refine XS.iconst X201.here hx rfl (hb hby at_155) ?_
    refine XS.icmpYes X201.here hx rfl (pc0 := 156) (pc' := 161) rfl (hb hby at_156) rfl (teq (by decide : (3 : Int32) = (3 : Int32))).1 (by decide) (by decide) ?_
    refine XS.aload X201.here hx rfl (hb hby at_161) rfl rfl ?_
    refine XS.iconst X201.here hx rfl (hb hby at_163) ?_
    show Steps _ _ _ (T201.setTop (mkF m 164 #[.val (.int p1), .val (.int p2), .val (.int p3), .val (.int p4), .val (.int p5), .val (.int p6), .val (.int (Int32.ofNat lf)), .val (.int (Int32.ofNat rt)), .val (.int (Int32.ofNat tp)), .val (.int (Int32.ofNat bt)), .val (.int (Int32.ofNat xn)), .val (.int (Int32.ofNat y)), .val (.ref cv), .val (.ref a23), .val (.int 0)] [(.int 0), (.ref a23)])) _
    refine st202.trans ?_
    show Steps _ _ _ (T202.setTop (mkF m 169 #[.val (.int p1), .val (.int p2), .val (.int p3), .val (.int p4), .val (.int p5), .val (.int p6), .val (.int (Int32.ofNat lf)), .val (.int (Int32.ofNat rt)), .val (.int (Int32.ofNat tp)), .val (.int (Int32.ofNat bt)), .val (.int (Int32.ofNat xn)), .val (.int (Int32.ofNat y)), .val (.ref cv), .val (.ref a23), .val (.int 0)] [(.ref s23_0)])) _
    refine st203 _ ?_
    show Steps _ _ _ (T203.setTop (mkF m 172 #[.val (.int p1), .val (.int p2), .val (.int p3), .val (.int p4), .val (.int p5), .val (.int p6), .val (.int (Int32.ofNat lf)), .val (.int (Int32.ofNat rt)), .val (.int (Int32.ofNat tp)), .val (.int (Int32.ofNat bt)), .val (.int (Int32.ofNat xn)), .val (.int (Int32.ofNat y)), .val (.ref cv), .val (.ref a23), .val (.int 0)] [(.ref s23_0)])) _
    refine XS.iconst X203.here hx rfl (hb hby at_172) ?_
    refine XS.iload X203.here hx rfl (hb hby at_173) rfl ?_
    refine XS.iload X203.here hx rfl (hb hby at_175) rfl ?_
    refine XS.iload X203.here hx rfl (hb hby at_177) rfl ?_
    show Steps _ _ _ (T203.setTop (mkF m 179 #[.val (.int p1), .val (.int p2), .val (.int p3), .val (.int p4), .val (.int p5), .val (.int p6), .val (.int (Int32.ofNat lf)), .val (.int (Int32.ofNat rt)), .val (.int (Int32.ofNat tp)), .val (.int (Int32.ofNat bt)), .val (.int (Int32.ofNat xn)), .val (.int (Int32.ofNat y)), .val (.ref cv), .val (.ref a23), .val (.int 0)] [(.int 0), (.int (Int32.ofNat y)), (.int (Int32.ofNat xn)), (.int 0), (.ref s23_0)])) _
    refine st204 _ ?_
    show Steps _ _ _ (T204.setTop (mkF m 182 #[.val (.int p1), .val (.int p2), .val (.int p3), .val (.int p4), .val (.int p5), .val (.int p6), .val (.int (Int32.ofNat lf)), .val (.int (Int32.ofNat rt)), .val (.int (Int32.ofNat tp)), .val (.int (Int32.ofNat bt)), .val (.int (Int32.ofNat xn)), .val (.int (Int32.ofNat y)), .val (.ref cv), .val (.ref a23), .val (.int 0)] [(.int 1)])) _
    refine XS.ifNo X204.here hx rfl (hb hby at_182) rfl ((if0 _ _).trans (feq (by decide : ¬ ((1 : Int32) = (0 : Int32)))).1) ?_
    refine XS.aload X204.here hx rfl (hb hby at_185) rfl rfl ?_
    refine XS.iconst X204.here hx rfl (hb hby at_187) ?_
    show Steps _ _ _ (T204.setTop (mkF m 188 #[.val (.int p1), .val (.int p2), .val (.int p3), .val (.int p4), .val (.int p5), .val (.int p6), .val (.int (Int32.ofNat lf)), .val (.int (Int32.ofNat rt)), .val (.int (Int32.ofNat tp)), .val (.int (Int32.ofNat bt)), .val (.int (Int32.ofNat xn)), .val (.int (Int32.ofNat y)), .val (.ref cv), .val (.ref a23), .val (.int 0)] [(.int 1), (.ref a23)])) _
    refine st206.trans ?_
    show Steps _ _ _ (T206.setTop (mkF m 193 #[.val (.int p1), .val (.int p2), .val (.int p3), .val (.int p4), .val (.int p5), .val (.int p6), .val (.int (Int32.ofNat lf)), .val (.int (Int32.ofNat rt)), .val (.int (Int32.ofNat tp)), .val (.int (Int32.ofNat bt)), .val (.int (Int32.ofNat xn)), .val (.int (Int32.ofNat y)), .val (.ref cv), .val (.ref a23), .val (.int 0)] [(.ref s23_1)])) _
    refine st207 _ ?_
    show Steps _ _ _ (T207.setTop (mkF m 196 #[.val (.int p1), .val (.int p2), .val (.int p3), .val (.int p4), .val (.int p5), .val (.int p6), .val (.int (Int32.ofNat lf)), .val (.int (Int32.ofNat rt)), .val (.int (Int32.ofNat tp)), .val (.int (Int32.ofNat bt)), .val (.int (Int32.ofNat xn)), .val (.int (Int32.ofNat y)), .val (.ref cv), .val (.ref a23), .val (.int 0)] [(.ref s23_1)])) _
    refine XS.iconst X207.here hx rfl (hb hby at_196) ?_
    refine XS.iload X207.here hx rfl (hb hby at_197) rfl ?_
    refine XS.iload X207.here hx rfl (hb hby at_199) rfl ?_
    refine XS.iload X207.here hx rfl (hb hby at_201) rfl ?_
    show Steps _ _ _ (T207.setTop (mkF m 203 #[.val (.int p1), .val (.int p2), .val (.int p3), .val (.int p4), .val (.int p5), .val (.int p6), .val (.int (Int32.ofNat lf)), .val (.int (Int32.ofNat rt)), .val (.int (Int32.ofNat tp)), .val (.int (Int32.ofNat bt)), .val (.int (Int32.ofNat xn)), .val (.int (Int32.ofNat y)), .val (.ref cv), .val (.ref a23), .val (.int 0)] [(.int 0), (.int (Int32.ofNat y)), (.int (Int32.ofNat xn)), (.int 1), (.ref s23_1)])) _
    refine st208 _ ?_
    show Steps _ _ _ (T208.setTop (mkF m 206 #[.val (.int p1), .val (.int p2), .val (.int p3), .val (.int p4), .val (.int p5), .val (.int p6), .val (.int (Int32.ofNat lf)), .val (.int (Int32.ofNat rt)), .val (.int (Int32.ofNat tp)), .val (.int (Int32.ofNat bt)), .val (.int (Int32.ofNat xn)), .val (.int (Int32.ofNat y)), .val (.ref cv), .val (.ref a23), .val (.int 0)] [(.int 1)])) _
    refine XS.ifNo X208.here hx rfl (hb hby at_206) rfl ((if0 _ _).trans (feq (by decide : ¬ ((1 : Int32) = (0 : Int32)))).1) ?_
    refine XS.aload X208.here hx rfl (hb hby at_209) rfl rfl ?_
    refine XS.iconst X208.here hx rfl (hb hby at_211) ?_
    show Steps _ _ _ (T208.setTop (mkF m 212 #[.val (.int p1), .val (.int p2), .val (.int p3), .val (.int p4), .val (.int p5), .val (.int p6), .val (.int (Int32.ofNat lf)), .val (.int (Int32.ofNat rt)), .val (.int (Int32.ofNat tp)), .val (.int (Int32.ofNat bt)), .val (.int (Int32.ofNat xn)), .val (.int (Int32.ofNat y)), .val (.ref cv), .val (.ref a23), .val (.int 0)] [(.int 2), (.ref a23)])) _
    refine st209.trans ?_
    show Steps _ _ _ (T209.setTop (mkF m 217 #[.val (.int p1), .val (.int p2), .val (.int p3), .val (.int p4), .val (.int p5), .val (.int p6), .val (.int (Int32.ofNat lf)), .val (.int (Int32.ofNat rt)), .val (.int (Int32.ofNat tp)), .val (.int (Int32.ofNat bt)), .val (.int (Int32.ofNat xn)), .val (.int (Int32.ofNat y)), .val (.ref cv), .val (.ref a23), .val (.int 0)] [(.ref s23_2)])) _
    refine st210 _ ?_
    show Steps _ _ _ (T210.setTop (mkF m 220 #[.val (.int p1), .val (.int p2), .val (.int p3), .val (.int p4), .val (.int p5), .val (.int p6), .val (.int (Int32.ofNat lf)), .val (.int (Int32.ofNat rt)), .val (.int (Int32.ofNat tp)), .val (.int (Int32.ofNat bt)), .val (.int (Int32.ofNat xn)), .val (.int (Int32.ofNat y)), .val (.ref cv), .val (.ref a23), .val (.int 0)] [(.ref s23_2)])) _
    refine XS.iconst X210.here hx rfl (hb hby at_220) ?_
    refine XS.iload X210.here hx rfl (hb hby at_221) rfl ?_
    refine XS.iload X210.here hx rfl (hb hby at_223) rfl ?_
    refine XS.iload X210.here hx rfl (hb hby at_225) rfl ?_
    show Steps _ _ _ (T210.setTop (mkF m 227 #[.val (.int p1), .val (.int p2), .val (.int p3), .val (.int p4), .val (.int p5), .val (.int p6), .val (.int (Int32.ofNat lf)), .val (.int (Int32.ofNat rt)), .val (.int (Int32.ofNat tp)), .val (.int (Int32.ofNat bt)), .val (.int (Int32.ofNat xn)), .val (.int (Int32.ofNat y)), .val (.ref cv), .val (.ref a23), .val (.int 0)] [(.int 0), (.int (Int32.ofNat y)), (.int (Int32.ofNat xn)), (.int 2), (.ref s23_2)])) _
    refine st211 _ ?_
    show Steps _ _ _ (T211.setTop (mkF m 230 #[.val (.int p1), .val (.int p2), .val (.int p3), .val (.int p4), .val (.int p5), .val (.int p6), .val (.int (Int32.ofNat lf)), .val (.int (Int32.ofNat rt)), .val (.int (Int32.ofNat tp)), .val (.int (Int32.ofNat bt)), .val (.int (Int32.ofNat xn)), .val (.int (Int32.ofNat y)), .val (.ref cv), .val (.ref a23), .val (.int 0)] [(.int 1)])) _
    refine XS.ifNo X211.here hx rfl (hb hby at_230) rfl ((if0 _ _).trans (feq (by decide : ¬ ((1 : Int32) = (0 : Int32)))).1) ?_
    refine XS.iconst X211.here hx rfl (hb hby at_233) ?_
    refine XS.goto X211.here hx rfl (pc0 := 234) (pc' := 238) rfl (hb hby at_234) (by decide) (by decide) ?_
    show Steps _ _ _ (T211.setTop (mkF m 238 #[.val (.int p1), .val (.int p2), .val (.int p3), .val (.int p4), .val (.int p5), .val (.int p6), .val (.int (Int32.ofNat lf)), .val (.int (Int32.ofNat rt)), .val (.int (Int32.ofNat tp)), .val (.int (Int32.ofNat bt)), .val (.int (Int32.ofNat xn)), .val (.int (Int32.ofNat y)), .val (.ref cv), .val (.ref a23), .val (.int 0)] [(.int 1)])) _
    exact retN X211 hx (t := .boolean) Bd.returns (by simp) (hb hby at_238) hr
  · show Q0 Z  h0 n0 _ T211.heap _
    rw [eq211]
    exact ⟨rfl, N211⟩
theorem rm0_0 (l : Launch) (Z : State) (a0 : Array Value) (hw : ∀ d ∈ tables_1, d.before a0 Z = true) (ws : List Jvm.Cond) (G1 : Int32) (G3 : Value) (p1 : Int32) (p2 : Int32) (p3 : Int32) (p4 : Int32) (p5 : Int32) (p6 : Int32) (lf : Nat) (rt : Nat) (tp : Nat) (bt : Nat) (xn : Nat) (h0 : Heap) (n0 : Nat) (Z0 : n0 ≤ h0.size) (EN : own_env Z G1 G3) (X00 : Old Z n0 h0) (e1_ : ((p1 &&& (2147483647 : Int32)) % (5 : Int32)) = (Int32.ofNat lf)) (e2_ : ((p2 &&& (2147483647 : Int32)) % (5 : Int32)) = (Int32.ofNat rt)) (e3_ : ((p3 &&& (2147483647 : Int32)) % (4 : Int32)) = (Int32.ofNat tp)) (e4_ : ((p4 &&& (2147483647 : Int32)) % (4 : Int32)) = (Int32.ofNat bt)) (e5_ : ((p5 &&& (2147483647 : Int32)) % (4 : Int32)) = (Int32.ofNat xn)) (e6_ : ((p6 &&& (2147483647 : Int32)) % (3 : Int32)) = (0 : Int32)) (hlf : lf ≤ 4) (htp : tp ≤ 3) (hrt : rt ≤ 4) (hbt : bt ≤ 3) (hxn : xn < 4) (u1 : lf ≤ xn) (u2 : xn < rt) (u3 : tp ≤ 0) (u4 : 0 < bt) :
    MetFree l x (head1 (Jvm.Cond.code x code maxLocals ret :: ws) room_1) (fun a_ U_ => a_ = #[(.int p1), (.int p2), (.int p3), (.int p4), (.int p5), (.int p6)] ∧ Z.Warmed39 U_.vm ∧ U_.heap = h0 ∧ CHv Z consts_1 U_.vm h0) (fun _ _ _ _ _ => True) (fun _ U_ o_ U1_ => ∃ v_ L_, o_ = .returned v_ ∧ Q0 Z  h0 n0 v_ U1_.heap L_ ∧ ReturnedEndW U_ o_ U1_ L_ 32 2176) := by
  refine MetFree.of_bodySF (plainFor_of_name pn_0) hisR ?_
  intro p e s m args below meth c s₁ Bd hml0 hP hK
  obtain ⟨rfl, hZ, hh, H0⟩ := hP
  have hx := Bd.exec
  have hby := Bd.bytes
  have hml : c.maxLocals = 15 := hml0
  have hown : s.vm.findClass "dev/treefold/text/CanvasClipPinLaw" = some m.cls := findClass_of_methodNamed Bd.named
  have hnm := (name_of_methodNamed Bd.named Bd.method).1
  have X0 : Stand p l e room_1 s m #[(.int p1), (.int p2), (.int p3), (.int p4), (.int p5), (.int p6)] below meth c s₁ [] 0 0 := Stand.of_body Bd
  have e0 : s₁.heap = h0 := by rw [← hh, Bd.state]; rfl
  have N0 := Fr.nil n0
  have pre0 : ∀ tt, Steps p.tables e below (s₁.setTop (mkF m 0 #[.val (.int p1), .val (.int p2), .val (.int p3), .val (.int p4), .val (.int p5), .val (.int p6), .unset, .unset, .unset, .unset, .unset, .unset, .unset, .unset, .unset] [])) tt → Steps p.tables e below (s₁.setTop (entryFrame m #[(.int p1), (.int p2), (.int p3), (.int p4), (.int p5), (.int p6)] maxLocals)) tt := fun tt kk => castTop (ef_0_rrrrrr m p1 p2 p3 p4 p5 p6) kk
  have hS0 : s.Since s.vm 0 := (State.WarmedH.refl s).since 0
  have hk0 : 0 ≤ h0.size := Nat.zero_le _
  have EN0 := EN
  obtain ⟨O2, P5, O4, rG3⟩ := EN
  obtain ⟨T1, h1, L1, cv, R, kR, X1, e1, N1, Z1, O1, K1, g_cv, g_R, sz_cv, sz_R, ncR, Ec1, Fc1_0, Fc1_1, Fc1_2, Fc1_3, Fc1_4, Fc1_5, V1, OvR, st1⟩ := frL p1 p2 p3 p4 p5 p6 lf rt tp bt xn (0 : Int32) h0 n0 X0 hx hZ hw hby hml hown e0 N0 Z0 e1_ e2_ e3_ e4_ e5_ e6_ X00
  have C12 := CHr.keep ((Keep.refl h0 []).trans K1 all0) sf0 H0
  obtain ⟨b11, T11, h11, k11, d11, kb11, X11, e11, E11, hS11, hk11, hZ11, hown11, Ea11, Ca11, Va11, Ka11, la11, lb11, Cx11, -, ne11, st11⟩ := ldcCH (s := s) (vm0 := s.vm) X1 hx hZ hown (hw _ (tk 35 rfl)) (fun d hd => hw d (own_wS d hd)) e1 hS0 (Nat.le_trans hk0 K1.1) (own_EW hw) own_mem27 C12.1 (vs := [Value.int (Jvm.Lit.byteI 81)]) (z := 1) ⟨by decide, rfl⟩ (by decide) rfl (g := (mkF m 101 #[.val (.int p1), .val (.int p2), .val (.int p3), .val (.int p4), .val (.int p5), .val (.int p6), .val (.int (Int32.ofNat lf)), .val (.int (Int32.ofNat rt)), .val (.int (Int32.ofNat tp)), .val (.int (Int32.ofNat bt)), .val (.int (Int32.ofNat xn)), .val (.int 0), .val (.ref cv), .unset, .unset] [(.int 0), (.int (Int32.ofNat xn)), (.ref cv)])) rfl (hb hby at_101) (n := 4) (by decide) (by decide) (by decide) (by decide)
  have C11 := CHr.trans C12 Cx11
  have Vq13 : Arv Z h11 d11 kb11 .byte (1 : Int32) ((([81] : List Int32).map fun c => c.toInt8.toInt32).map Value.int) (.int 0) := by
    have q_ := Ka11
    rw [own_b81] at q_
    exact q_
  have f15 := (O1.ext E11)
  have f16 := (Ec1.ext E11)
  have f17 := (Fc1_0.ext E11)
  have f18 := (Fc1_1.ext E11)
  have f19 := (Fc1_2.ext E11)
  have f20 := (Fc1_3.ext E11)
  have f21 := (Fc1_4.ext E11)
  have f22 := (Fc1_5.ext E11)
  have f23 := (V1.ext E11)
  obtain ⟨cq14, kq14, q14a, q14b, q14c⟩ := isOf hZ11 e11 f16
  obtain ⟨_, _, ⟨T14, L14, k14, n14⟩, -, X14, ⟨Lc14, hQ14, l14, y14, z14⟩, st14⟩ := X11.virtualBack hx (y := y_26) (z := y_26) hown11 (mvT hZ11 (hw _ (tk 43 rfl))) (mvT hZ11 (hw _ (tk 44 rfl))) (notFace_of_selects (args := #[]) (mvT hZ11 (hw _ (tk 46 rfl)))) (mvT hZ11 (hw _ (tk 46 rfl))) (mvT hZ11 (hw _ (tk 45 rfl))) (by decide) (backOf (W := 0) (rmWI l Z a0 hw [] G1 G3 cv R kR 0 lf tp rt bt b11 xn h11 n0 (Nat.le_trans Z0 (Nat.le_trans K1.1 E11.1)) EN0 f15 f16 f17 f18 f19 f20 f21 f22 g_cv f23 OvR g_R (by decide) ⟨d11, kb11, Ea11, Ca11, Va11, Vq13, own_hq, (by decide)⟩ hlf htp hrt hbt hxn u1 u2 u3 u4) hZ11 (hw _ (tk 47 rfl)) (hw _ (tk 3 rfl)) (by decide) (by decide)) q14a q14c (g := (mkF m 103 #[.val (.int p1), .val (.int p2), .val (.int p3), .val (.int p4), .val (.int p5), .val (.int p6), .val (.int (Int32.ofNat lf)), .val (.int (Int32.ofNat rt)), .val (.int (Int32.ofNat tp)), .val (.int (Int32.ofNat bt)), .val (.int (Int32.ofNat xn)), .val (.int 0), .val (.ref cv), .unset, .unset] [(.ref b11), (.int 0), (.int (Int32.ofNat xn)), (.ref cv)])) rfl (by rw [hml]; rfl) (Steps.refl _) (argsL := [(.int (Int32.ofNat xn)), (.int 0), (.ref b11)]) (rest := []) (lenOf pd__IILjava_lang_String__V rfl) rfl (by show 2 * 0 + _ ≤ _; exact Nat.le_of_eq rfl) (hb hby at_103) (fun _ _ => ⟨rfl, e11, (by decide : 4 + 1 ≤ _), (by decide : 17 + 4 ≤ _)⟩)
  dsimp only [Pt.U, Pt.locs, Pt.cells, Pt.slots] at X14 l14 y14 z14 st14 hQ14
  subst l14 y14 z14
  obtain ⟨t14, kt14, rfl, Nq14, gt14, st_14, Kq14, VR14, Vt14⟩ := hQ14
  have N14 := Fr.app N1 Nq14
  have szt14 : h0.size ≤ t14 := Nat.le_trans (Nat.le_trans K1.1 E11.1) st_14
  have C25 := CHr.trans C11 (CHr.keep Kq14 (sfS (own_safeV hZ11 f23 nofun) sf0) C11.1)
  have f26 := (f15.keep Kq14 (allS g_R all0))
  have f27 := (f16.keep Kq14)
  have f28 := (f17.keep Kq14 (ninS ncR nin0))
  have f29 := (f18.keep Kq14 (ninS ncR nin0))
  have f30 := (f19.keep Kq14 (ninS ncR nin0))
  have f31 := (f20.keep Kq14 (ninS ncR nin0))
  have f32 := (f21.keep Kq14 (ninS ncR nin0))
  have f33 := (f22.keep Kq14 (ninS ncR nin0))
  obtain ⟨cq24, kq24, q24a, q24b, q24c⟩ := isOf hZ11 rfl f27
  obtain ⟨_, _, ⟨T24, L24, k24, n24⟩, -, X24', hS24', gr24, ⟨Lc24, hQ24, l24, y24, z24⟩, st24⟩ := X14.virtualBackS hx (y := y_40) (z := y_40) hown11 (mvT hZ11 (hw _ (tk 48 rfl))) (mvT hZ11 (hw _ (tk 49 rfl))) (notFace_of_selects (args := #[]) (mvT hZ11 (hw _ (tk 51 rfl)))) (mvT hZ11 (hw _ (tk 51 rfl))) (mvT hZ11 (hw _ (tk 50 rfl))) (by decide) (own_backSN (W := 0) (s := s) (rmLS0 l Z a0 hw [] G1 G3 cv R kR (Int32.ofNat lf) (Int32.ofNat tp) (Int32.ofNat rt) (Int32.ofNat bt) t14 kt14 xn T14.heap n0 (Nat.le_trans Z0 (Nat.le_trans (Nat.le_trans K1.1 E11.1) Kq14.1)) EN0 f26 f27 f28 f29 f30 f31 f32 f33 VR14 Vt14 hxn) hZ11 (hw _ (tk 52 rfl)) (hw _ (tk 3 rfl)) (by decide) (by decide) (own_EW hw) C25.1) q24a q24c (g := (mkF m 108 #[.val (.int p1), .val (.int p2), .val (.int p3), .val (.int p4), .val (.int p5), .val (.int p6), .val (.int (Int32.ofNat lf)), .val (.int (Int32.ofNat rt)), .val (.int (Int32.ofNat tp)), .val (.int (Int32.ofNat bt)), .val (.int (Int32.ofNat xn)), .val (.int 0), .val (.ref cv), .unset, .unset] [(.ref cv)])) rfl (by rw [hml]; rfl) (Steps.refl _) (argsL := []) (rest := []) (lenOf pd___Ljava_util_List_ rfl) rfl (by show 2 * 0 + _ ≤ _; exact Nat.le_of_eq rfl) (hb hby at_108) (fun _ _ => ⟨rfl, rfl, (by decide : 5 + 8 ≤ _), (by decide : 21 + 22 ≤ _)⟩)
  dsimp only [Pt.U, Pt.locs, Pt.cells, Pt.slots] at X24' hS24' gr24 l24 y24 z24 st24 hQ24
  subst l24 y24 z24
  obtain ⟨X24, hS24, hZ24, hown24⟩ := rebS (s := s) (vm0 := T11.vm) hS11 ((Nat.le_trans hk11 Kq14.1)) X24' hS24' gr24 hZ11 hown11
  obtain ⟨a24, t24, k24q, s24_0, s24_1, s24_2, rfl, Nq24, Kq24, Ea24, Fe24, Fs24, Vt24, S24_0, S24_1, S24_2⟩ := hQ24
  have N24 := Fr.app N14 Nq24
  obtain ⟨bs24_0, ks24_0, Es24_0, Cs24_0, Vs24_0, Ks24_0, hps24_0, hls24_0⟩ := S24_0
  obtain ⟨bs24_1, ks24_1, Es24_1, Cs24_1, Vs24_1, Ks24_1, hps24_1, hls24_1⟩ := S24_1
  obtain ⟨bs24_2, ks24_2, Es24_2, Cs24_2, Vs24_2, Ks24_2, hps24_2, hls24_2⟩ := S24_2
  obtain ⟨cq34, kq34, q34a, q34b, q34c⟩ := isOf hZ24 rfl Ea24
  obtain ⟨_, _, ⟨T34, L34, k34, n34⟩, -, X34, ⟨Lc34, hQ34, l34, y34, z34⟩, st34⟩ := X24.interfaceBack hx (xi := y_43) (y := y_37) hown24 (mvT hZ24 (hw _ (tk 98 rfl))) (mvT hZ24 (hw _ (tk 99 rfl))) (mvT hZ24 (hw _ (tk 100 rfl))) (mvT hZ24 (hw _ (tk 101 rfl))) (mvT hZ24 (hw _ (tk 102 rfl))) (mvT hZ24 (hw _ (tk 103 rfl))) (mvT hZ24 (hw _ (tk 104 rfl))) (mvT hZ24 (hw _ (tk 86 rfl))) (by decide) (backOf (W := 0) (rmSZ l Z a0 hw [] a24 T24.heap n0 (Nat.le_trans Z0 (Nat.le_trans (Nat.le_trans (Nat.le_trans K1.1 E11.1) Kq14.1) Kq24.1)) Fs24) hZ24 (hw _ (tk 105 rfl)) (hw _ (tk 55 rfl)) (by decide) (by decide)) q34a q34b q34c (g := (mkF m 150 #[.val (.int p1), .val (.int p2), .val (.int p3), .val (.int p4), .val (.int p5), .val (.int p6), .val (.int (Int32.ofNat lf)), .val (.int (Int32.ofNat rt)), .val (.int (Int32.ofNat tp)), .val (.int (Int32.ofNat bt)), .val (.int (Int32.ofNat xn)), .val (.int 0), .val (.ref cv), .val (.ref a24), .val (.int 1)] [(.ref a24)])) rfl (by rw [hml]; rfl) (Steps.refl _) (argsL := []) (rest := []) (lenOf pd___I rfl) rfl (by show 2 * 0 + _ ≤ _; exact Nat.le_of_eq rfl) (hb hby at_150) (fun _ _ => ⟨rfl, rfl, (by decide : 13 + 0 ≤ _), (by decide : 43 + 0 ≤ _)⟩)
  dsimp only [Pt.U, Pt.locs, Pt.cells, Pt.slots] at X34 l34 y34 z34 st34 hQ34
  subst l34 y34 z34
  obtain ⟨rfl, Nq34, eq34⟩ := hQ34
  have N34 := Fr.app N24 Nq34
  obtain ⟨cq35, kq35, q35a, q35b, q35c⟩ := isOf hZ24 eq34 Ea24
  obtain ⟨_, _, ⟨T35, L35, k35, n35⟩, -, X35, ⟨Lc35, hQ35, l35, y35, z35⟩, st35⟩ := X34.interfaceBack hx (xi := y_44) (y := y_39) hown24 (mvT hZ24 (hw _ (tk 106 rfl))) (mvT hZ24 (hw _ (tk 107 rfl))) (mvT hZ24 (hw _ (tk 108 rfl))) (mvT hZ24 (hw _ (tk 109 rfl))) (mvT hZ24 (hw _ (tk 110 rfl))) (mvT hZ24 (hw _ (tk 111 rfl))) (mvT hZ24 (hw _ (tk 112 rfl))) (mvT hZ24 (hw _ (tk 86 rfl))) (by decide) (backOf (W := 0) (rmGT0 l Z a0 hw [] a24 t24 k24q s24_0 s24_1 s24_2 T24.heap n0 (Nat.le_trans Z0 (Nat.le_trans (Nat.le_trans (Nat.le_trans K1.1 E11.1) Kq14.1) Kq24.1)) Ea24 Fe24 Fs24 Vt24) hZ24 (hw _ (tk 113 rfl)) (hw _ (tk 55 rfl)) (by decide) (by decide)) q35a q35b q35c (g := (mkF m 164 #[.val (.int p1), .val (.int p2), .val (.int p3), .val (.int p4), .val (.int p5), .val (.int p6), .val (.int (Int32.ofNat lf)), .val (.int (Int32.ofNat rt)), .val (.int (Int32.ofNat tp)), .val (.int (Int32.ofNat bt)), .val (.int (Int32.ofNat xn)), .val (.int 0), .val (.ref cv), .val (.ref a24), .val (.int 1)] [(.int 0), (.ref a24)])) rfl (by rw [hml]; rfl) (Steps.refl _) (argsL := [(.int 0)]) (rest := []) (lenOf pd__I_Ljava_lang_Object_ rfl) rfl (by show 2 * 0 + _ ≤ _; exact Nat.le_of_eq rfl) (hb hby at_164) (fun _ _ => ⟨rfl, eq34, (by decide : 13 + 0 ≤ _), (by decide : 43 + 0 ≤ _)⟩)
  dsimp only [Pt.U, Pt.locs, Pt.cells, Pt.slots] at X35 l35 y35 z35 st35 hQ35
  subst l35 y35 z35
  obtain ⟨rfl, Nq35, eq35⟩ := hQ35
  have N35 := Fr.app N34 Nq35
  obtain ⟨T36, X36, e36, st36⟩ := castY X35 hx hZ24 hown24 (hw _ (tk 127 rfl)) eq35 (Ins.self Es24_0) (g := (mkF m 169 #[.val (.int p1), .val (.int p2), .val (.int p3), .val (.int p4), .val (.int p5), .val (.int p6), .val (.int (Int32.ofNat lf)), .val (.int (Int32.ofNat rt)), .val (.int (Int32.ofNat tp)), .val (.int (Int32.ofNat bt)), .val (.int (Int32.ofNat xn)), .val (.int 0), .val (.ref cv), .val (.ref a24), .val (.int 1)] [(.ref s24_0)])) rfl rfl (hb hby at_169)
  have f38 := (f26.keep Kq24 all0)
  obtain ⟨_, _, ⟨T37, L37, k37, n37⟩, -, X37, ⟨Lc37, hQ37, l37, y37, z37⟩, st37⟩ := Jvm.LawKit.callS X36 hx (y := y_42) hown24 (mvT hZ24 (hw _ (tk 129 rfl))) (mvT hZ24 (hw _ (tk 130 rfl))) (mvT hZ24 (hw _ (tk 131 rfl))) (mvT hZ24 (hw _ (tk 132 rfl))) (by decide) (backOf (W := 0) (rmRKI l Z a0 hw [] G1 G3 s24_0 (0 : Int32) xn (0 : Int32) (1 : Int32) T24.heap n0 (Nat.le_trans Z0 (Nat.le_trans (Nat.le_trans (Nat.le_trans K1.1 E11.1) Kq14.1) Kq24.1)) EN0 f38 hxn ⟨bs24_0, ks24_0, Es24_0, Cs24_0, Vs24_0, Ks24_0, hps24_0, hls24_0⟩ (by decide) (by decide)) hZ24 (hw _ (tk 132 rfl)) (hw _ (tk 131 rfl)) (by decide) (by decide)) (g := (mkF m 179 #[.val (.int p1), .val (.int p2), .val (.int p3), .val (.int p4), .val (.int p5), .val (.int p6), .val (.int (Int32.ofNat lf)), .val (.int (Int32.ofNat rt)), .val (.int (Int32.ofNat tp)), .val (.int (Int32.ofNat bt)), .val (.int (Int32.ofNat xn)), .val (.int 0), .val (.ref cv), .val (.ref a24), .val (.int 1)] [(.int 1), (.int 0), (.int (Int32.ofNat xn)), (.int 0), (.ref s24_0)])) rfl (by rw [hml]; rfl) (argsL := [(.ref s24_0), (.int 0), (.int (Int32.ofNat xn)), (.int 0), (.int 1)]) (rest := []) (lenOf pd__Ljava_lang_String_IIIZ_Z rfl) rfl (by show 2 * 0 + _ ≤ _; exact Nat.le_of_eq rfl) (hb hby at_179) (fun _ _ => ⟨rfl, e36, (by decide : 13 + 0 ≤ _), (by decide : 43 + 0 ≤ _)⟩)
  dsimp only [Pt.U, Pt.locs, Pt.cells, Pt.slots] at X37 l37 y37 z37 st37 hQ37
  subst l37 y37 z37
  obtain ⟨rfl, Nq37, eq37⟩ := hQ37
  have N37 := Fr.app N35 Nq37
  obtain ⟨cq39, kq39, q39a, q39b, q39c⟩ := isOf hZ24 eq37 Ea24
  obtain ⟨_, _, ⟨T39, L39, k39, n39⟩, -, X39, ⟨Lc39, hQ39, l39, y39, z39⟩, st39⟩ := X37.interfaceBack hx (xi := y_44) (y := y_39) hown24 (mvT hZ24 (hw _ (tk 106 rfl))) (mvT hZ24 (hw _ (tk 107 rfl))) (mvT hZ24 (hw _ (tk 108 rfl))) (mvT hZ24 (hw _ (tk 109 rfl))) (mvT hZ24 (hw _ (tk 110 rfl))) (mvT hZ24 (hw _ (tk 111 rfl))) (mvT hZ24 (hw _ (tk 112 rfl))) (mvT hZ24 (hw _ (tk 86 rfl))) (by decide) (backOf (W := 0) (rmGT1 l Z a0 hw [] a24 t24 k24q s24_0 s24_1 s24_2 T24.heap n0 (Nat.le_trans Z0 (Nat.le_trans (Nat.le_trans (Nat.le_trans K1.1 E11.1) Kq14.1) Kq24.1)) Ea24 Fe24 Fs24 Vt24) hZ24 (hw _ (tk 113 rfl)) (hw _ (tk 55 rfl)) (by decide) (by decide)) q39a q39b q39c (g := (mkF m 188 #[.val (.int p1), .val (.int p2), .val (.int p3), .val (.int p4), .val (.int p5), .val (.int p6), .val (.int (Int32.ofNat lf)), .val (.int (Int32.ofNat rt)), .val (.int (Int32.ofNat tp)), .val (.int (Int32.ofNat bt)), .val (.int (Int32.ofNat xn)), .val (.int 0), .val (.ref cv), .val (.ref a24), .val (.int 1)] [(.int 1), (.ref a24)])) rfl (by rw [hml]; rfl) (Steps.refl _) (argsL := [(.int 1)]) (rest := []) (lenOf pd__I_Ljava_lang_Object_ rfl) rfl (by show 2 * 0 + _ ≤ _; exact Nat.le_of_eq rfl) (hb hby at_188) (fun _ _ => ⟨rfl, eq37, (by decide : 13 + 0 ≤ _), (by decide : 43 + 0 ≤ _)⟩)
  dsimp only [Pt.U, Pt.locs, Pt.cells, Pt.slots] at X39 l39 y39 z39 st39 hQ39
  subst l39 y39 z39
  obtain ⟨rfl, Nq39, eq39⟩ := hQ39
  have N39 := Fr.app N37 Nq39
  obtain ⟨T40, X40, e40, st40⟩ := castY X39 hx hZ24 hown24 (hw _ (tk 127 rfl)) eq39 (Ins.self Es24_1) (g := (mkF m 193 #[.val (.int p1), .val (.int p2), .val (.int p3), .val (.int p4), .val (.int p5), .val (.int p6), .val (.int (Int32.ofNat lf)), .val (.int (Int32.ofNat rt)), .val (.int (Int32.ofNat tp)), .val (.int (Int32.ofNat bt)), .val (.int (Int32.ofNat xn)), .val (.int 0), .val (.ref cv), .val (.ref a24), .val (.int 1)] [(.ref s24_1)])) rfl rfl (hb hby at_193)
  obtain ⟨_, _, ⟨T41, L41, k41, n41⟩, -, X41, ⟨Lc41, hQ41, l41, y41, z41⟩, st41⟩ := Jvm.LawKit.callS X40 hx (y := y_42) hown24 (mvT hZ24 (hw _ (tk 129 rfl))) (mvT hZ24 (hw _ (tk 130 rfl))) (mvT hZ24 (hw _ (tk 131 rfl))) (mvT hZ24 (hw _ (tk 132 rfl))) (by decide) (backOf (W := 0) (rmRKO l Z a0 hw [] G1 G3 s24_1 (1 : Int32) xn (0 : Int32) (1 : Int32) T24.heap n0 (Nat.le_trans Z0 (Nat.le_trans (Nat.le_trans (Nat.le_trans K1.1 E11.1) Kq14.1) Kq24.1)) EN0 f38 hxn ⟨bs24_1, ks24_1, Es24_1, Cs24_1, Vs24_1, Ks24_1, hps24_1, hls24_1⟩ (Or.inl (by decide))) hZ24 (hw _ (tk 132 rfl)) (hw _ (tk 131 rfl)) (by decide) (by decide)) (g := (mkF m 203 #[.val (.int p1), .val (.int p2), .val (.int p3), .val (.int p4), .val (.int p5), .val (.int p6), .val (.int (Int32.ofNat lf)), .val (.int (Int32.ofNat rt)), .val (.int (Int32.ofNat tp)), .val (.int (Int32.ofNat bt)), .val (.int (Int32.ofNat xn)), .val (.int 0), .val (.ref cv), .val (.ref a24), .val (.int 1)] [(.int 1), (.int 0), (.int (Int32.ofNat xn)), (.int 1), (.ref s24_1)])) rfl (by rw [hml]; rfl) (argsL := [(.ref s24_1), (.int 1), (.int (Int32.ofNat xn)), (.int 0), (.int 1)]) (rest := []) (lenOf pd__Ljava_lang_String_IIIZ_Z rfl) rfl (by show 2 * 0 + _ ≤ _; exact Nat.le_of_eq rfl) (hb hby at_203) (fun _ _ => ⟨rfl, e40, (by decide : 13 + 0 ≤ _), (by decide : 43 + 0 ≤ _)⟩)
  dsimp only [Pt.U, Pt.locs, Pt.cells, Pt.slots] at X41 l41 y41 z41 st41 hQ41
  subst l41 y41 z41
  obtain ⟨rfl, Nq41, eq41⟩ := hQ41
  have N41 := Fr.app N39 Nq41
  obtain ⟨cq42, kq42, q42a, q42b, q42c⟩ := isOf hZ24 eq41 Ea24
  obtain ⟨_, _, ⟨T42, L42, k42, n42⟩, -, X42, ⟨Lc42, hQ42, l42, y42, z42⟩, st42⟩ := X41.interfaceBack hx (xi := y_44) (y := y_39) hown24 (mvT hZ24 (hw _ (tk 106 rfl))) (mvT hZ24 (hw _ (tk 107 rfl))) (mvT hZ24 (hw _ (tk 108 rfl))) (mvT hZ24 (hw _ (tk 109 rfl))) (mvT hZ24 (hw _ (tk 110 rfl))) (mvT hZ24 (hw _ (tk 111 rfl))) (mvT hZ24 (hw _ (tk 112 rfl))) (mvT hZ24 (hw _ (tk 86 rfl))) (by decide) (backOf (W := 0) (rmGT2 l Z a0 hw [] a24 t24 k24q s24_0 s24_1 s24_2 T24.heap n0 (Nat.le_trans Z0 (Nat.le_trans (Nat.le_trans (Nat.le_trans K1.1 E11.1) Kq14.1) Kq24.1)) Ea24 Fe24 Fs24 Vt24) hZ24 (hw _ (tk 113 rfl)) (hw _ (tk 55 rfl)) (by decide) (by decide)) q42a q42b q42c (g := (mkF m 212 #[.val (.int p1), .val (.int p2), .val (.int p3), .val (.int p4), .val (.int p5), .val (.int p6), .val (.int (Int32.ofNat lf)), .val (.int (Int32.ofNat rt)), .val (.int (Int32.ofNat tp)), .val (.int (Int32.ofNat bt)), .val (.int (Int32.ofNat xn)), .val (.int 0), .val (.ref cv), .val (.ref a24), .val (.int 1)] [(.int 2), (.ref a24)])) rfl (by rw [hml]; rfl) (Steps.refl _) (argsL := [(.int 2)]) (rest := []) (lenOf pd__I_Ljava_lang_Object_ rfl) rfl (by show 2 * 0 + _ ≤ _; exact Nat.le_of_eq rfl) (hb hby at_212) (fun _ _ => ⟨rfl, eq41, (by decide : 13 + 0 ≤ _), (by decide : 43 + 0 ≤ _)⟩)
  dsimp only [Pt.U, Pt.locs, Pt.cells, Pt.slots] at X42 l42 y42 z42 st42 hQ42
  subst l42 y42 z42
  obtain ⟨rfl, Nq42, eq42⟩ := hQ42
  have N42 := Fr.app N41 Nq42
  obtain ⟨T43, X43, e43, st43⟩ := castY X42 hx hZ24 hown24 (hw _ (tk 127 rfl)) eq42 (Ins.self Es24_2) (g := (mkF m 217 #[.val (.int p1), .val (.int p2), .val (.int p3), .val (.int p4), .val (.int p5), .val (.int p6), .val (.int (Int32.ofNat lf)), .val (.int (Int32.ofNat rt)), .val (.int (Int32.ofNat tp)), .val (.int (Int32.ofNat bt)), .val (.int (Int32.ofNat xn)), .val (.int 0), .val (.ref cv), .val (.ref a24), .val (.int 1)] [(.ref s24_2)])) rfl rfl (hb hby at_217)
  obtain ⟨_, _, ⟨T44, L44, k44, n44⟩, -, X44, ⟨Lc44, hQ44, l44, y44, z44⟩, st44⟩ := Jvm.LawKit.callS X43 hx (y := y_42) hown24 (mvT hZ24 (hw _ (tk 129 rfl))) (mvT hZ24 (hw _ (tk 130 rfl))) (mvT hZ24 (hw _ (tk 131 rfl))) (mvT hZ24 (hw _ (tk 132 rfl))) (by decide) (backOf (W := 0) (rmRKO l Z a0 hw [] G1 G3 s24_2 (2 : Int32) xn (0 : Int32) (1 : Int32) T24.heap n0 (Nat.le_trans Z0 (Nat.le_trans (Nat.le_trans (Nat.le_trans K1.1 E11.1) Kq14.1) Kq24.1)) EN0 f38 hxn ⟨bs24_2, ks24_2, Es24_2, Cs24_2, Vs24_2, Ks24_2, hps24_2, hls24_2⟩ (Or.inl (by decide))) hZ24 (hw _ (tk 132 rfl)) (hw _ (tk 131 rfl)) (by decide) (by decide)) (g := (mkF m 227 #[.val (.int p1), .val (.int p2), .val (.int p3), .val (.int p4), .val (.int p5), .val (.int p6), .val (.int (Int32.ofNat lf)), .val (.int (Int32.ofNat rt)), .val (.int (Int32.ofNat tp)), .val (.int (Int32.ofNat bt)), .val (.int (Int32.ofNat xn)), .val (.int 0), .val (.ref cv), .val (.ref a24), .val (.int 1)] [(.int 1), (.int 0), (.int (Int32.ofNat xn)), (.int 2), (.ref s24_2)])) rfl (by rw [hml]; rfl) (argsL := [(.ref s24_2), (.int 2), (.int (Int32.ofNat xn)), (.int 0), (.int 1)]) (rest := []) (lenOf pd__Ljava_lang_String_IIIZ_Z rfl) rfl (by show 2 * 0 + _ ≤ _; exact Nat.le_of_eq rfl) (hb hby at_227) (fun _ _ => ⟨rfl, e43, (by decide : 13 + 0 ≤ _), (by decide : 43 + 0 ≤ _)⟩)
  dsimp only [Pt.U, Pt.locs, Pt.cells, Pt.slots] at X44 l44 y44 z44 st44 hQ44
  subst l44 y44 z44
  obtain ⟨rfl, Nq44, eq44⟩ := hQ44
  have N44 := Fr.app N42 Nq44
  obtain ⟨fs, hr, hrun, hended, hfin⟩ := X44.leaveW hS24 (by rw [eq44]; exact (Nat.le_refl _)) (v := some (.int 1)) (fun h => by rw [Bd.returns] at h; cases h)
  refine ⟨_, _, pre0 _ ?_, hrun, hended, _, _, rfl, ?_, hfin.1, hfin.2.1, hfin.2.2.1, hfin.2.2.2.mono (by decide) (by decide)⟩
  · show Steps _ _ _ (s₁.setTop (mkF m 0 #[.val (.int p1), .val (.int p2), .val (.int p3), .val (.int p4), .val (.int p5), .val (.int p6), .unset, .unset, .unset, .unset, .unset, .unset, .unset, .unset, .unset] [])) _
    refine st1 _ ?_
    show Steps _ _ _ (T1.setTop (mkF m 95 #[.val (.int p1), .val (.int p2), .val (.int p3), .val (.int p4), .val (.int p5), .val (.int p6), .val (.int (Int32.ofNat lf)), .val (.int (Int32.ofNat rt)), .val (.int (Int32.ofNat tp)), .val (.int (Int32.ofNat bt)), .val (.int (Int32.ofNat xn)), .val (.int 0), .val (.ref cv), .unset, .unset] [])) _
    refine XS.aload X1.here hx rfl (hb hby at_95) rfl rfl ?_
    refine XS.iload X1.here hx rfl (hb hby at_97) rfl ?_
    refine XS.iload X1.here hx rfl (hb hby at_99) rfl ?_
    show Steps _ _ _ (T1.setTop (mkF m 101 #[.val (.int p1), .val (.int p2), .val (.int p3), .val (.int p4), .val (.int p5), .val (.int p6), .val (.int (Int32.ofNat lf)), .val (.int (Int32.ofNat rt)), .val (.int (Int32.ofNat tp)), .val (.int (Int32.ofNat bt)), .val (.int (Int32.ofNat xn)), .val (.int 0), .val (.ref cv), .unset, .unset] [(.int 0), (.int (Int32.ofNat xn)), (.ref cv)])) _
    refine st11 _ ?_
    show Steps _ _ _ (T11.setTop (mkF m 103 #[.val (.int p1), .val (.int p2), .val (.int p3), .val (.int p4), .val (.int p5), .val (.int p6), .val (.int (Int32.ofNat lf)), .val (.int (Int32.ofNat rt)), .val (.int (Int32.ofNat tp)), .val (.int (Int32.ofNat bt)), .val (.int (Int32.ofNat xn)), .val (.int 0), .val (.ref cv), .unset, .unset] [(.ref b11), (.int 0), (.int (Int32.ofNat xn)), (.ref cv)])) _
    refine st14.trans ?_
    show Steps _ _ _ (T14.setTop (mkF m 106 #[.val (.int p1), .val (.int p2), .val (.int p3), .val (.int p4), .val (.int p5), .val (.int p6), .val (.int (Int32.ofNat lf)), .val (.int (Int32.ofNat rt)), .val (.int (Int32.ofNat tp)), .val (.int (Int32.ofNat bt)), .val (.int (Int32.ofNat xn)), .val (.int 0), .val (.ref cv), .unset, .unset] [])) _
    refine XS.aload X14.here hx rfl (hb hby at_106) rfl rfl ?_
    show Steps _ _ _ (T14.setTop (mkF m 108 #[.val (.int p1), .val (.int p2), .val (.int p3), .val (.int p4), .val (.int p5), .val (.int p6), .val (.int (Int32.ofNat lf)), .val (.int (Int32.ofNat rt)), .val (.int (Int32.ofNat tp)), .val (.int (Int32.ofNat bt)), .val (.int (Int32.ofNat xn)), .val (.int 0), .val (.ref cv), .unset, .unset] [(.ref cv)])) _
    refine st24.trans ?_
    show Steps _ _ _ (T24.setTop (mkF m 111 #[.val (.int p1), .val (.int p2), .val (.int p3), .val (.int p4), .val (.int p5), .val (.int p6), .val (.int (Int32.ofNat lf)), .val (.int (Int32.ofNat rt)), .val (.int (Int32.ofNat tp)), .val (.int (Int32.ofNat bt)), .val (.int (Int32.ofNat xn)), .val (.int 0), .val (.ref cv), .unset, .unset] [(.ref a24)])) _
    refine XS.astore X24.here hx rfl (hb hby at_111) rfl rfl (l' := #[.val (.int p1), .val (.int p2), .val (.int p3), .val (.int p4), .val (.int p5), .val (.int p6), .val (.int (Int32.ofNat lf)), .val (.int (Int32.ofNat rt)), .val (.int (Int32.ofNat tp)), .val (.int (Int32.ofNat bt)), .val (.int (Int32.ofNat xn)), .val (.int 0), .val (.ref cv), .val (.ref a24), .unset]) rfl ?_
    refine XS.iload X24.here hx rfl (hb hby at_113) rfl ?_
    refine XS.iload X24.here hx rfl (hb hby at_115) rfl ?_
    refine XS.icmpNo X24.here hx rfl (hb hby at_117) rfl (flt (own_lo (by omega) (by omega) (by omega))).2.2.1 ?_
    refine XS.iload X24.here hx rfl (hb hby at_120) rfl ?_
    refine XS.iload X24.here hx rfl (hb hby at_122) rfl ?_
    refine XS.icmpNo X24.here hx rfl (hb hby at_124) rfl (tlt ((own_lt (by omega) (by omega)).mpr u2)).2.1 ?_
    refine XS.iload X24.here hx rfl (hb hby at_127) rfl ?_
    refine XS.iload X24.here hx rfl (hb hby at_129) rfl ?_
    refine XS.icmpNo X24.here hx rfl (hb hby at_131) rfl (flt (own_lo (a := 0) (by omega) (by omega) (by omega))).2.2.1 ?_
    refine XS.iload X24.here hx rfl (hb hby at_134) rfl ?_
    show Steps _ _ _ (T24.setTop (mkF m 136 #[.val (.int p1), .val (.int p2), .val (.int p3), .val (.int p4), .val (.int p5), .val (.int p6), .val (.int (Int32.ofNat lf)), .val (.int (Int32.ofNat rt)), .val (.int (Int32.ofNat tp)), .val (.int (Int32.ofNat bt)), .val (.int (Int32.ofNat xn)), .val (.int 0), .val (.ref cv), .val (.ref a24), .unset] [(.int 0)])) _
    refine XS.iload X24.here hx rfl (hb hby at_136) rfl ?_
    refine XS.icmpNo X24.here hx rfl (hb hby at_138) rfl (tlt ((own_lt (i := 0) (by omega) (by omega)).mpr u4)).2.1 ?_
    refine XS.iconst X24.here hx rfl (hb hby at_141) ?_
    refine XS.goto X24.here hx rfl (pc0 := 142) (pc' := 146) rfl (hb hby at_142) (by decide) (by decide) ?_
    refine XS.istore X24.here hx rfl (hb hby at_146) rfl (l' := #[.val (.int p1), .val (.int p2), .val (.int p3), .val (.int p4), .val (.int p5), .val (.int p6), .val (.int (Int32.ofNat lf)), .val (.int (Int32.ofNat rt)), .val (.int (Int32.ofNat tp)), .val (.int (Int32.ofNat bt)), .val (.int (Int32.ofNat xn)), .val (.int 0), .val (.ref cv), .val (.ref a24), .val (.int 1)]) rfl ?_
    refine XS.aload X24.here hx rfl (hb hby at_148) rfl rfl ?_
    show Steps _ _ _ (T24.setTop (mkF m 150 #[.val (.int p1), .val (.int p2), .val (.int p3), .val (.int p4), .val (.int p5), .val (.int p6), .val (.int (Int32.ofNat lf)), .val (.int (Int32.ofNat rt)), .val (.int (Int32.ofNat tp)), .val (.int (Int32.ofNat bt)), .val (.int (Int32.ofNat xn)), .val (.int 0), .val (.ref cv), .val (.ref a24), .val (.int 1)] [(.ref a24)])) _
    refine st34.trans ?_
    show Steps _ _ _ (T34.setTop (mkF m 155 #[.val (.int p1), .val (.int p2), .val (.int p3), .val (.int p4), .val (.int p5), .val (.int p6), .val (.int (Int32.ofNat lf)), .val (.int (Int32.ofNat rt)), .val (.int (Int32.ofNat tp)), .val (.int (Int32.ofNat bt)), .val (.int (Int32.ofNat xn)), .val (.int 0), .val (.ref cv), .val (.ref a24), .val (.int 1)] [(.int 3)])) _
    refine XS.iconst X34.here hx rfl (hb hby at_155) ?_
    refine XS.icmpYes X34.here hx rfl (pc0 := 156) (pc' := 161) rfl (hb hby at_156) rfl (teq (by decide : (3 : Int32) = (3 : Int32))).1 (by decide) (by decide) ?_
    refine XS.aload X34.here hx rfl (hb hby at_161) rfl rfl ?_
    refine XS.iconst X34.here hx rfl (hb hby at_163) ?_
    show Steps _ _ _ (T34.setTop (mkF m 164 #[.val (.int p1), .val (.int p2), .val (.int p3), .val (.int p4), .val (.int p5), .val (.int p6), .val (.int (Int32.ofNat lf)), .val (.int (Int32.ofNat rt)), .val (.int (Int32.ofNat tp)), .val (.int (Int32.ofNat bt)), .val (.int (Int32.ofNat xn)), .val (.int 0), .val (.ref cv), .val (.ref a24), .val (.int 1)] [(.int 0), (.ref a24)])) _
    refine st35.trans ?_
    show Steps _ _ _ (T35.setTop (mkF m 169 #[.val (.int p1), .val (.int p2), .val (.int p3), .val (.int p4), .val (.int p5), .val (.int p6), .val (.int (Int32.ofNat lf)), .val (.int (Int32.ofNat rt)), .val (.int (Int32.ofNat tp)), .val (.int (Int32.ofNat bt)), .val (.int (Int32.ofNat xn)), .val (.int 0), .val (.ref cv), .val (.ref a24), .val (.int 1)] [(.ref s24_0)])) _
    refine st36 _ ?_
    show Steps _ _ _ (T36.setTop (mkF m 172 #[.val (.int p1), .val (.int p2), .val (.int p3), .val (.int p4), .val (.int p5), .val (.int p6), .val (.int (Int32.ofNat lf)), .val (.int (Int32.ofNat rt)), .val (.int (Int32.ofNat tp)), .val (.int (Int32.ofNat bt)), .val (.int (Int32.ofNat xn)), .val (.int 0), .val (.ref cv), .val (.ref a24), .val (.int 1)] [(.ref s24_0)])) _
    refine XS.iconst X36.here hx rfl (hb hby at_172) ?_
    refine XS.iload X36.here hx rfl (hb hby at_173) rfl ?_
    refine XS.iload X36.here hx rfl (hb hby at_175) rfl ?_
    refine XS.iload X36.here hx rfl (hb hby at_177) rfl ?_
    show Steps _ _ _ (T36.setTop (mkF m 179 #[.val (.int p1), .val (.int p2), .val (.int p3), .val (.int p4), .val (.int p5), .val (.int p6), .val (.int (Int32.ofNat lf)), .val (.int (Int32.ofNat rt)), .val (.int (Int32.ofNat tp)), .val (.int (Int32.ofNat bt)), .val (.int (Int32.ofNat xn)), .val (.int 0), .val (.ref cv), .val (.ref a24), .val (.int 1)] [(.int 1), (.int 0), (.int (Int32.ofNat xn)), (.int 0), (.ref s24_0)])) _
    refine st37 _ ?_
    show Steps _ _ _ (T37.setTop (mkF m 182 #[.val (.int p1), .val (.int p2), .val (.int p3), .val (.int p4), .val (.int p5), .val (.int p6), .val (.int (Int32.ofNat lf)), .val (.int (Int32.ofNat rt)), .val (.int (Int32.ofNat tp)), .val (.int (Int32.ofNat bt)), .val (.int (Int32.ofNat xn)), .val (.int 0), .val (.ref cv), .val (.ref a24), .val (.int 1)] [(.int 1)])) _
    refine XS.ifNo X37.here hx rfl (hb hby at_182) rfl ((if0 _ _).trans (feq (by decide : ¬ ((1 : Int32) = (0 : Int32)))).1) ?_
    refine XS.aload X37.here hx rfl (hb hby at_185) rfl rfl ?_
    refine XS.iconst X37.here hx rfl (hb hby at_187) ?_
    show Steps _ _ _ (T37.setTop (mkF m 188 #[.val (.int p1), .val (.int p2), .val (.int p3), .val (.int p4), .val (.int p5), .val (.int p6), .val (.int (Int32.ofNat lf)), .val (.int (Int32.ofNat rt)), .val (.int (Int32.ofNat tp)), .val (.int (Int32.ofNat bt)), .val (.int (Int32.ofNat xn)), .val (.int 0), .val (.ref cv), .val (.ref a24), .val (.int 1)] [(.int 1), (.ref a24)])) _
    refine st39.trans ?_
    show Steps _ _ _ (T39.setTop (mkF m 193 #[.val (.int p1), .val (.int p2), .val (.int p3), .val (.int p4), .val (.int p5), .val (.int p6), .val (.int (Int32.ofNat lf)), .val (.int (Int32.ofNat rt)), .val (.int (Int32.ofNat tp)), .val (.int (Int32.ofNat bt)), .val (.int (Int32.ofNat xn)), .val (.int 0), .val (.ref cv), .val (.ref a24), .val (.int 1)] [(.ref s24_1)])) _
    refine st40 _ ?_
    show Steps _ _ _ (T40.setTop (mkF m 196 #[.val (.int p1), .val (.int p2), .val (.int p3), .val (.int p4), .val (.int p5), .val (.int p6), .val (.int (Int32.ofNat lf)), .val (.int (Int32.ofNat rt)), .val (.int (Int32.ofNat tp)), .val (.int (Int32.ofNat bt)), .val (.int (Int32.ofNat xn)), .val (.int 0), .val (.ref cv), .val (.ref a24), .val (.int 1)] [(.ref s24_1)])) _
    refine XS.iconst X40.here hx rfl (hb hby at_196) ?_
    refine XS.iload X40.here hx rfl (hb hby at_197) rfl ?_
    refine XS.iload X40.here hx rfl (hb hby at_199) rfl ?_
    refine XS.iload X40.here hx rfl (hb hby at_201) rfl ?_
    show Steps _ _ _ (T40.setTop (mkF m 203 #[.val (.int p1), .val (.int p2), .val (.int p3), .val (.int p4), .val (.int p5), .val (.int p6), .val (.int (Int32.ofNat lf)), .val (.int (Int32.ofNat rt)), .val (.int (Int32.ofNat tp)), .val (.int (Int32.ofNat bt)), .val (.int (Int32.ofNat xn)), .val (.int 0), .val (.ref cv), .val (.ref a24), .val (.int 1)] [(.int 1), (.int 0), (.int (Int32.ofNat xn)), (.int 1), (.ref s24_1)])) _
    refine st41 _ ?_
    show Steps _ _ _ (T41.setTop (mkF m 206 #[.val (.int p1), .val (.int p2), .val (.int p3), .val (.int p4), .val (.int p5), .val (.int p6), .val (.int (Int32.ofNat lf)), .val (.int (Int32.ofNat rt)), .val (.int (Int32.ofNat tp)), .val (.int (Int32.ofNat bt)), .val (.int (Int32.ofNat xn)), .val (.int 0), .val (.ref cv), .val (.ref a24), .val (.int 1)] [(.int 1)])) _
    refine XS.ifNo X41.here hx rfl (hb hby at_206) rfl ((if0 _ _).trans (feq (by decide : ¬ ((1 : Int32) = (0 : Int32)))).1) ?_
    refine XS.aload X41.here hx rfl (hb hby at_209) rfl rfl ?_
    refine XS.iconst X41.here hx rfl (hb hby at_211) ?_
    show Steps _ _ _ (T41.setTop (mkF m 212 #[.val (.int p1), .val (.int p2), .val (.int p3), .val (.int p4), .val (.int p5), .val (.int p6), .val (.int (Int32.ofNat lf)), .val (.int (Int32.ofNat rt)), .val (.int (Int32.ofNat tp)), .val (.int (Int32.ofNat bt)), .val (.int (Int32.ofNat xn)), .val (.int 0), .val (.ref cv), .val (.ref a24), .val (.int 1)] [(.int 2), (.ref a24)])) _
    refine st42.trans ?_
    show Steps _ _ _ (T42.setTop (mkF m 217 #[.val (.int p1), .val (.int p2), .val (.int p3), .val (.int p4), .val (.int p5), .val (.int p6), .val (.int (Int32.ofNat lf)), .val (.int (Int32.ofNat rt)), .val (.int (Int32.ofNat tp)), .val (.int (Int32.ofNat bt)), .val (.int (Int32.ofNat xn)), .val (.int 0), .val (.ref cv), .val (.ref a24), .val (.int 1)] [(.ref s24_2)])) _
    refine st43 _ ?_
    show Steps _ _ _ (T43.setTop (mkF m 220 #[.val (.int p1), .val (.int p2), .val (.int p3), .val (.int p4), .val (.int p5), .val (.int p6), .val (.int (Int32.ofNat lf)), .val (.int (Int32.ofNat rt)), .val (.int (Int32.ofNat tp)), .val (.int (Int32.ofNat bt)), .val (.int (Int32.ofNat xn)), .val (.int 0), .val (.ref cv), .val (.ref a24), .val (.int 1)] [(.ref s24_2)])) _
    refine XS.iconst X43.here hx rfl (hb hby at_220) ?_
    refine XS.iload X43.here hx rfl (hb hby at_221) rfl ?_
    refine XS.iload X43.here hx rfl (hb hby at_223) rfl ?_
    refine XS.iload X43.here hx rfl (hb hby at_225) rfl ?_
    show Steps _ _ _ (T43.setTop (mkF m 227 #[.val (.int p1), .val (.int p2), .val (.int p3), .val (.int p4), .val (.int p5), .val (.int p6), .val (.int (Int32.ofNat lf)), .val (.int (Int32.ofNat rt)), .val (.int (Int32.ofNat tp)), .val (.int (Int32.ofNat bt)), .val (.int (Int32.ofNat xn)), .val (.int 0), .val (.ref cv), .val (.ref a24), .val (.int 1)] [(.int 1), (.int 0), (.int (Int32.ofNat xn)), (.int 2), (.ref s24_2)])) _
    refine st44 _ ?_
    show Steps _ _ _ (T44.setTop (mkF m 230 #[.val (.int p1), .val (.int p2), .val (.int p3), .val (.int p4), .val (.int p5), .val (.int p6), .val (.int (Int32.ofNat lf)), .val (.int (Int32.ofNat rt)), .val (.int (Int32.ofNat tp)), .val (.int (Int32.ofNat bt)), .val (.int (Int32.ofNat xn)), .val (.int 0), .val (.ref cv), .val (.ref a24), .val (.int 1)] [(.int 1)])) _
    refine XS.ifNo X44.here hx rfl (hb hby at_230) rfl ((if0 _ _).trans (feq (by decide : ¬ ((1 : Int32) = (0 : Int32)))).1) ?_
    refine XS.iconst X44.here hx rfl (hb hby at_233) ?_
    refine XS.goto X44.here hx rfl (pc0 := 234) (pc' := 238) rfl (hb hby at_234) (by decide) (by decide) ?_
    show Steps _ _ _ (T44.setTop (mkF m 238 #[.val (.int p1), .val (.int p2), .val (.int p3), .val (.int p4), .val (.int p5), .val (.int p6), .val (.int (Int32.ofNat lf)), .val (.int (Int32.ofNat rt)), .val (.int (Int32.ofNat tp)), .val (.int (Int32.ofNat bt)), .val (.int (Int32.ofNat xn)), .val (.int 0), .val (.ref cv), .val (.ref a24), .val (.int 1)] [(.int 1)])) _
    exact retN X44 hx (t := .boolean) Bd.returns (by simp) (hb hby at_238) hr
  · show Q0 Z  h0 n0 _ T44.heap _
    rw [eq44]
    exact ⟨rfl, N44⟩
theorem rm0_1 (l : Launch) (Z : State) (a0 : Array Value) (hw : ∀ d ∈ tables_1, d.before a0 Z = true) (ws : List Jvm.Cond) (G1 : Int32) (G3 : Value) (p1 : Int32) (p2 : Int32) (p3 : Int32) (p4 : Int32) (p5 : Int32) (p6 : Int32) (lf : Nat) (rt : Nat) (tp : Nat) (bt : Nat) (xn : Nat) (h0 : Heap) (n0 : Nat) (Z0 : n0 ≤ h0.size) (EN : own_env Z G1 G3) (X00 : Old Z n0 h0) (e1_ : ((p1 &&& (2147483647 : Int32)) % (5 : Int32)) = (Int32.ofNat lf)) (e2_ : ((p2 &&& (2147483647 : Int32)) % (5 : Int32)) = (Int32.ofNat rt)) (e3_ : ((p3 &&& (2147483647 : Int32)) % (4 : Int32)) = (Int32.ofNat tp)) (e4_ : ((p4 &&& (2147483647 : Int32)) % (4 : Int32)) = (Int32.ofNat bt)) (e5_ : ((p5 &&& (2147483647 : Int32)) % (4 : Int32)) = (Int32.ofNat xn)) (e6_ : ((p6 &&& (2147483647 : Int32)) % (3 : Int32)) = (1 : Int32)) (hlf : lf ≤ 4) (htp : tp ≤ 3) (hrt : rt ≤ 4) (hbt : bt ≤ 3) (hxn : xn < 4) (u1 : lf ≤ xn) (u2 : xn < rt) (u3 : tp ≤ 1) (u4 : 1 < bt) :
    MetFree l x (head1 (Jvm.Cond.code x code maxLocals ret :: ws) room_1) (fun a_ U_ => a_ = #[(.int p1), (.int p2), (.int p3), (.int p4), (.int p5), (.int p6)] ∧ Z.Warmed39 U_.vm ∧ U_.heap = h0 ∧ CHv Z consts_1 U_.vm h0) (fun _ _ _ _ _ => True) (fun _ U_ o_ U1_ => ∃ v_ L_, o_ = .returned v_ ∧ Q0 Z  h0 n0 v_ U1_.heap L_ ∧ ReturnedEndW U_ o_ U1_ L_ 32 2176) := by
  refine MetFree.of_bodySF (plainFor_of_name pn_0) hisR ?_
  intro p e s m args below meth c s₁ Bd hml0 hP hK
  obtain ⟨rfl, hZ, hh, H0⟩ := hP
  have hx := Bd.exec
  have hby := Bd.bytes
  have hml : c.maxLocals = 15 := hml0
  have hown : s.vm.findClass "dev/treefold/text/CanvasClipPinLaw" = some m.cls := findClass_of_methodNamed Bd.named
  have hnm := (name_of_methodNamed Bd.named Bd.method).1
  have X0 : Stand p l e room_1 s m #[(.int p1), (.int p2), (.int p3), (.int p4), (.int p5), (.int p6)] below meth c s₁ [] 0 0 := Stand.of_body Bd
  have e0 : s₁.heap = h0 := by rw [← hh, Bd.state]; rfl
  have N0 := Fr.nil n0
  have pre0 : ∀ tt, Steps p.tables e below (s₁.setTop (mkF m 0 #[.val (.int p1), .val (.int p2), .val (.int p3), .val (.int p4), .val (.int p5), .val (.int p6), .unset, .unset, .unset, .unset, .unset, .unset, .unset, .unset, .unset] [])) tt → Steps p.tables e below (s₁.setTop (entryFrame m #[(.int p1), (.int p2), (.int p3), (.int p4), (.int p5), (.int p6)] maxLocals)) tt := fun tt kk => castTop (ef_0_rrrrrr m p1 p2 p3 p4 p5 p6) kk
  have hS0 : s.Since s.vm 0 := (State.WarmedH.refl s).since 0
  have hk0 : 0 ≤ h0.size := Nat.zero_le _
  have EN0 := EN
  obtain ⟨O2, P5, O4, rG3⟩ := EN
  obtain ⟨T1, h1, L1, cv, R, kR, X1, e1, N1, Z1, O1, K1, g_cv, g_R, sz_cv, sz_R, ncR, Ec1, Fc1_0, Fc1_1, Fc1_2, Fc1_3, Fc1_4, Fc1_5, V1, OvR, st1⟩ := frL p1 p2 p3 p4 p5 p6 lf rt tp bt xn (1 : Int32) h0 n0 X0 hx hZ hw hby hml hown e0 N0 Z0 e1_ e2_ e3_ e4_ e5_ e6_ X00
  have C12 := CHr.keep ((Keep.refl h0 []).trans K1 all0) sf0 H0
  obtain ⟨b11, T11, h11, k11, d11, kb11, X11, e11, E11, hS11, hk11, hZ11, hown11, Ea11, Ca11, Va11, Ka11, la11, lb11, Cx11, -, ne11, st11⟩ := ldcCH (s := s) (vm0 := s.vm) X1 hx hZ hown (hw _ (tk 35 rfl)) (fun d hd => hw d (own_wS d hd)) e1 hS0 (Nat.le_trans hk0 K1.1) (own_EW hw) own_mem27 C12.1 (vs := [Value.int (Jvm.Lit.byteI 81)]) (z := 1) ⟨by decide, rfl⟩ (by decide) rfl (g := (mkF m 101 #[.val (.int p1), .val (.int p2), .val (.int p3), .val (.int p4), .val (.int p5), .val (.int p6), .val (.int (Int32.ofNat lf)), .val (.int (Int32.ofNat rt)), .val (.int (Int32.ofNat tp)), .val (.int (Int32.ofNat bt)), .val (.int (Int32.ofNat xn)), .val (.int 1), .val (.ref cv), .unset, .unset] [(.int 1), (.int (Int32.ofNat xn)), (.ref cv)])) rfl (hb hby at_101) (n := 4) (by decide) (by decide) (by decide) (by decide)
  have C11 := CHr.trans C12 Cx11
  have Vq13 : Arv Z h11 d11 kb11 .byte (1 : Int32) ((([81] : List Int32).map fun c => c.toInt8.toInt32).map Value.int) (.int 0) := by
    have q_ := Ka11
    rw [own_b81] at q_
    exact q_
  have f15 := (O1.ext E11)
  have f16 := (Ec1.ext E11)
  have f17 := (Fc1_0.ext E11)
  have f18 := (Fc1_1.ext E11)
  have f19 := (Fc1_2.ext E11)
  have f20 := (Fc1_3.ext E11)
  have f21 := (Fc1_4.ext E11)
  have f22 := (Fc1_5.ext E11)
  have f23 := (V1.ext E11)
  obtain ⟨cq14, kq14, q14a, q14b, q14c⟩ := isOf hZ11 e11 f16
  obtain ⟨_, _, ⟨T14, L14, k14, n14⟩, -, X14, ⟨Lc14, hQ14, l14, y14, z14⟩, st14⟩ := X11.virtualBack hx (y := y_26) (z := y_26) hown11 (mvT hZ11 (hw _ (tk 43 rfl))) (mvT hZ11 (hw _ (tk 44 rfl))) (notFace_of_selects (args := #[]) (mvT hZ11 (hw _ (tk 46 rfl)))) (mvT hZ11 (hw _ (tk 46 rfl))) (mvT hZ11 (hw _ (tk 45 rfl))) (by decide) (backOf (W := 0) (rmWI l Z a0 hw [] G1 G3 cv R kR 1 lf tp rt bt b11 xn h11 n0 (Nat.le_trans Z0 (Nat.le_trans K1.1 E11.1)) EN0 f15 f16 f17 f18 f19 f20 f21 f22 g_cv f23 OvR g_R (by decide) ⟨d11, kb11, Ea11, Ca11, Va11, Vq13, own_hq, (by decide)⟩ hlf htp hrt hbt hxn u1 u2 u3 u4) hZ11 (hw _ (tk 47 rfl)) (hw _ (tk 3 rfl)) (by decide) (by decide)) q14a q14c (g := (mkF m 103 #[.val (.int p1), .val (.int p2), .val (.int p3), .val (.int p4), .val (.int p5), .val (.int p6), .val (.int (Int32.ofNat lf)), .val (.int (Int32.ofNat rt)), .val (.int (Int32.ofNat tp)), .val (.int (Int32.ofNat bt)), .val (.int (Int32.ofNat xn)), .val (.int 1), .val (.ref cv), .unset, .unset] [(.ref b11), (.int 1), (.int (Int32.ofNat xn)), (.ref cv)])) rfl (by rw [hml]; rfl) (Steps.refl _) (argsL := [(.int (Int32.ofNat xn)), (.int 1), (.ref b11)]) (rest := []) (lenOf pd__IILjava_lang_String__V rfl) rfl (by show 2 * 0 + _ ≤ _; exact Nat.le_of_eq rfl) (hb hby at_103) (fun _ _ => ⟨rfl, e11, (by decide : 4 + 1 ≤ _), (by decide : 17 + 4 ≤ _)⟩)
  dsimp only [Pt.U, Pt.locs, Pt.cells, Pt.slots] at X14 l14 y14 z14 st14 hQ14
  subst l14 y14 z14
  obtain ⟨t14, kt14, rfl, Nq14, gt14, st_14, Kq14, VR14, Vt14⟩ := hQ14
  have N14 := Fr.app N1 Nq14
  have szt14 : h0.size ≤ t14 := Nat.le_trans (Nat.le_trans K1.1 E11.1) st_14
  have C25 := CHr.trans C11 (CHr.keep Kq14 (sfS (own_safeV hZ11 f23 nofun) sf0) C11.1)
  have f26 := (f15.keep Kq14 (allS g_R all0))
  have f27 := (f16.keep Kq14)
  have f28 := (f17.keep Kq14 (ninS ncR nin0))
  have f29 := (f18.keep Kq14 (ninS ncR nin0))
  have f30 := (f19.keep Kq14 (ninS ncR nin0))
  have f31 := (f20.keep Kq14 (ninS ncR nin0))
  have f32 := (f21.keep Kq14 (ninS ncR nin0))
  have f33 := (f22.keep Kq14 (ninS ncR nin0))
  obtain ⟨cq24, kq24, q24a, q24b, q24c⟩ := isOf hZ11 rfl f27
  obtain ⟨_, _, ⟨T24, L24, k24, n24⟩, -, X24', hS24', gr24, ⟨Lc24, hQ24, l24, y24, z24⟩, st24⟩ := X14.virtualBackS hx (y := y_40) (z := y_40) hown11 (mvT hZ11 (hw _ (tk 48 rfl))) (mvT hZ11 (hw _ (tk 49 rfl))) (notFace_of_selects (args := #[]) (mvT hZ11 (hw _ (tk 51 rfl)))) (mvT hZ11 (hw _ (tk 51 rfl))) (mvT hZ11 (hw _ (tk 50 rfl))) (by decide) (own_backSN (W := 0) (s := s) (rmLS1 l Z a0 hw [] G1 G3 cv R kR (Int32.ofNat lf) (Int32.ofNat tp) (Int32.ofNat rt) (Int32.ofNat bt) t14 kt14 xn T14.heap n0 (Nat.le_trans Z0 (Nat.le_trans (Nat.le_trans K1.1 E11.1) Kq14.1)) EN0 f26 f27 f28 f29 f30 f31 f32 f33 VR14 Vt14 hxn) hZ11 (hw _ (tk 52 rfl)) (hw _ (tk 3 rfl)) (by decide) (by decide) (own_EW hw) C25.1) q24a q24c (g := (mkF m 108 #[.val (.int p1), .val (.int p2), .val (.int p3), .val (.int p4), .val (.int p5), .val (.int p6), .val (.int (Int32.ofNat lf)), .val (.int (Int32.ofNat rt)), .val (.int (Int32.ofNat tp)), .val (.int (Int32.ofNat bt)), .val (.int (Int32.ofNat xn)), .val (.int 1), .val (.ref cv), .unset, .unset] [(.ref cv)])) rfl (by rw [hml]; rfl) (Steps.refl _) (argsL := []) (rest := []) (lenOf pd___Ljava_util_List_ rfl) rfl (by show 2 * 0 + _ ≤ _; exact Nat.le_of_eq rfl) (hb hby at_108) (fun _ _ => ⟨rfl, rfl, (by decide : 5 + 8 ≤ _), (by decide : 21 + 22 ≤ _)⟩)
  dsimp only [Pt.U, Pt.locs, Pt.cells, Pt.slots] at X24' hS24' gr24 l24 y24 z24 st24 hQ24
  subst l24 y24 z24
  obtain ⟨X24, hS24, hZ24, hown24⟩ := rebS (s := s) (vm0 := T11.vm) hS11 ((Nat.le_trans hk11 Kq14.1)) X24' hS24' gr24 hZ11 hown11
  obtain ⟨a24, t24, k24q, s24_0, s24_1, s24_2, rfl, Nq24, Kq24, Ea24, Fe24, Fs24, Vt24, S24_0, S24_1, S24_2⟩ := hQ24
  have N24 := Fr.app N14 Nq24
  obtain ⟨bs24_0, ks24_0, Es24_0, Cs24_0, Vs24_0, Ks24_0, hps24_0, hls24_0⟩ := S24_0
  obtain ⟨bs24_1, ks24_1, Es24_1, Cs24_1, Vs24_1, Ks24_1, hps24_1, hls24_1⟩ := S24_1
  obtain ⟨bs24_2, ks24_2, Es24_2, Cs24_2, Vs24_2, Ks24_2, hps24_2, hls24_2⟩ := S24_2
  obtain ⟨cq34, kq34, q34a, q34b, q34c⟩ := isOf hZ24 rfl Ea24
  obtain ⟨_, _, ⟨T34, L34, k34, n34⟩, -, X34, ⟨Lc34, hQ34, l34, y34, z34⟩, st34⟩ := X24.interfaceBack hx (xi := y_43) (y := y_37) hown24 (mvT hZ24 (hw _ (tk 98 rfl))) (mvT hZ24 (hw _ (tk 99 rfl))) (mvT hZ24 (hw _ (tk 100 rfl))) (mvT hZ24 (hw _ (tk 101 rfl))) (mvT hZ24 (hw _ (tk 102 rfl))) (mvT hZ24 (hw _ (tk 103 rfl))) (mvT hZ24 (hw _ (tk 104 rfl))) (mvT hZ24 (hw _ (tk 86 rfl))) (by decide) (backOf (W := 0) (rmSZ l Z a0 hw [] a24 T24.heap n0 (Nat.le_trans Z0 (Nat.le_trans (Nat.le_trans (Nat.le_trans K1.1 E11.1) Kq14.1) Kq24.1)) Fs24) hZ24 (hw _ (tk 105 rfl)) (hw _ (tk 55 rfl)) (by decide) (by decide)) q34a q34b q34c (g := (mkF m 150 #[.val (.int p1), .val (.int p2), .val (.int p3), .val (.int p4), .val (.int p5), .val (.int p6), .val (.int (Int32.ofNat lf)), .val (.int (Int32.ofNat rt)), .val (.int (Int32.ofNat tp)), .val (.int (Int32.ofNat bt)), .val (.int (Int32.ofNat xn)), .val (.int 1), .val (.ref cv), .val (.ref a24), .val (.int 1)] [(.ref a24)])) rfl (by rw [hml]; rfl) (Steps.refl _) (argsL := []) (rest := []) (lenOf pd___I rfl) rfl (by show 2 * 0 + _ ≤ _; exact Nat.le_of_eq rfl) (hb hby at_150) (fun _ _ => ⟨rfl, rfl, (by decide : 13 + 0 ≤ _), (by decide : 43 + 0 ≤ _)⟩)
  dsimp only [Pt.U, Pt.locs, Pt.cells, Pt.slots] at X34 l34 y34 z34 st34 hQ34
  subst l34 y34 z34
  obtain ⟨rfl, Nq34, eq34⟩ := hQ34
  have N34 := Fr.app N24 Nq34
  obtain ⟨cq35, kq35, q35a, q35b, q35c⟩ := isOf hZ24 eq34 Ea24
  obtain ⟨_, _, ⟨T35, L35, k35, n35⟩, -, X35, ⟨Lc35, hQ35, l35, y35, z35⟩, st35⟩ := X34.interfaceBack hx (xi := y_44) (y := y_39) hown24 (mvT hZ24 (hw _ (tk 106 rfl))) (mvT hZ24 (hw _ (tk 107 rfl))) (mvT hZ24 (hw _ (tk 108 rfl))) (mvT hZ24 (hw _ (tk 109 rfl))) (mvT hZ24 (hw _ (tk 110 rfl))) (mvT hZ24 (hw _ (tk 111 rfl))) (mvT hZ24 (hw _ (tk 112 rfl))) (mvT hZ24 (hw _ (tk 86 rfl))) (by decide) (backOf (W := 0) (rmGT0 l Z a0 hw [] a24 t24 k24q s24_0 s24_1 s24_2 T24.heap n0 (Nat.le_trans Z0 (Nat.le_trans (Nat.le_trans (Nat.le_trans K1.1 E11.1) Kq14.1) Kq24.1)) Ea24 Fe24 Fs24 Vt24) hZ24 (hw _ (tk 113 rfl)) (hw _ (tk 55 rfl)) (by decide) (by decide)) q35a q35b q35c (g := (mkF m 164 #[.val (.int p1), .val (.int p2), .val (.int p3), .val (.int p4), .val (.int p5), .val (.int p6), .val (.int (Int32.ofNat lf)), .val (.int (Int32.ofNat rt)), .val (.int (Int32.ofNat tp)), .val (.int (Int32.ofNat bt)), .val (.int (Int32.ofNat xn)), .val (.int 1), .val (.ref cv), .val (.ref a24), .val (.int 1)] [(.int 0), (.ref a24)])) rfl (by rw [hml]; rfl) (Steps.refl _) (argsL := [(.int 0)]) (rest := []) (lenOf pd__I_Ljava_lang_Object_ rfl) rfl (by show 2 * 0 + _ ≤ _; exact Nat.le_of_eq rfl) (hb hby at_164) (fun _ _ => ⟨rfl, eq34, (by decide : 13 + 0 ≤ _), (by decide : 43 + 0 ≤ _)⟩)
  dsimp only [Pt.U, Pt.locs, Pt.cells, Pt.slots] at X35 l35 y35 z35 st35 hQ35
  subst l35 y35 z35
  obtain ⟨rfl, Nq35, eq35⟩ := hQ35
  have N35 := Fr.app N34 Nq35
  obtain ⟨T36, X36, e36, st36⟩ := castY X35 hx hZ24 hown24 (hw _ (tk 127 rfl)) eq35 (Ins.self Es24_0) (g := (mkF m 169 #[.val (.int p1), .val (.int p2), .val (.int p3), .val (.int p4), .val (.int p5), .val (.int p6), .val (.int (Int32.ofNat lf)), .val (.int (Int32.ofNat rt)), .val (.int (Int32.ofNat tp)), .val (.int (Int32.ofNat bt)), .val (.int (Int32.ofNat xn)), .val (.int 1), .val (.ref cv), .val (.ref a24), .val (.int 1)] [(.ref s24_0)])) rfl rfl (hb hby at_169)
  have f38 := (f26.keep Kq24 all0)
  obtain ⟨_, _, ⟨T37, L37, k37, n37⟩, -, X37, ⟨Lc37, hQ37, l37, y37, z37⟩, st37⟩ := Jvm.LawKit.callS X36 hx (y := y_42) hown24 (mvT hZ24 (hw _ (tk 129 rfl))) (mvT hZ24 (hw _ (tk 130 rfl))) (mvT hZ24 (hw _ (tk 131 rfl))) (mvT hZ24 (hw _ (tk 132 rfl))) (by decide) (backOf (W := 0) (rmRKO l Z a0 hw [] G1 G3 s24_0 (0 : Int32) xn (1 : Int32) (1 : Int32) T24.heap n0 (Nat.le_trans Z0 (Nat.le_trans (Nat.le_trans (Nat.le_trans K1.1 E11.1) Kq14.1) Kq24.1)) EN0 f38 hxn ⟨bs24_0, ks24_0, Es24_0, Cs24_0, Vs24_0, Ks24_0, hps24_0, hls24_0⟩ (Or.inl (by decide))) hZ24 (hw _ (tk 132 rfl)) (hw _ (tk 131 rfl)) (by decide) (by decide)) (g := (mkF m 179 #[.val (.int p1), .val (.int p2), .val (.int p3), .val (.int p4), .val (.int p5), .val (.int p6), .val (.int (Int32.ofNat lf)), .val (.int (Int32.ofNat rt)), .val (.int (Int32.ofNat tp)), .val (.int (Int32.ofNat bt)), .val (.int (Int32.ofNat xn)), .val (.int 1), .val (.ref cv), .val (.ref a24), .val (.int 1)] [(.int 1), (.int 1), (.int (Int32.ofNat xn)), (.int 0), (.ref s24_0)])) rfl (by rw [hml]; rfl) (argsL := [(.ref s24_0), (.int 0), (.int (Int32.ofNat xn)), (.int 1), (.int 1)]) (rest := []) (lenOf pd__Ljava_lang_String_IIIZ_Z rfl) rfl (by show 2 * 0 + _ ≤ _; exact Nat.le_of_eq rfl) (hb hby at_179) (fun _ _ => ⟨rfl, e36, (by decide : 13 + 0 ≤ _), (by decide : 43 + 0 ≤ _)⟩)
  dsimp only [Pt.U, Pt.locs, Pt.cells, Pt.slots] at X37 l37 y37 z37 st37 hQ37
  subst l37 y37 z37
  obtain ⟨rfl, Nq37, eq37⟩ := hQ37
  have N37 := Fr.app N35 Nq37
  obtain ⟨cq39, kq39, q39a, q39b, q39c⟩ := isOf hZ24 eq37 Ea24
  obtain ⟨_, _, ⟨T39, L39, k39, n39⟩, -, X39, ⟨Lc39, hQ39, l39, y39, z39⟩, st39⟩ := X37.interfaceBack hx (xi := y_44) (y := y_39) hown24 (mvT hZ24 (hw _ (tk 106 rfl))) (mvT hZ24 (hw _ (tk 107 rfl))) (mvT hZ24 (hw _ (tk 108 rfl))) (mvT hZ24 (hw _ (tk 109 rfl))) (mvT hZ24 (hw _ (tk 110 rfl))) (mvT hZ24 (hw _ (tk 111 rfl))) (mvT hZ24 (hw _ (tk 112 rfl))) (mvT hZ24 (hw _ (tk 86 rfl))) (by decide) (backOf (W := 0) (rmGT1 l Z a0 hw [] a24 t24 k24q s24_0 s24_1 s24_2 T24.heap n0 (Nat.le_trans Z0 (Nat.le_trans (Nat.le_trans (Nat.le_trans K1.1 E11.1) Kq14.1) Kq24.1)) Ea24 Fe24 Fs24 Vt24) hZ24 (hw _ (tk 113 rfl)) (hw _ (tk 55 rfl)) (by decide) (by decide)) q39a q39b q39c (g := (mkF m 188 #[.val (.int p1), .val (.int p2), .val (.int p3), .val (.int p4), .val (.int p5), .val (.int p6), .val (.int (Int32.ofNat lf)), .val (.int (Int32.ofNat rt)), .val (.int (Int32.ofNat tp)), .val (.int (Int32.ofNat bt)), .val (.int (Int32.ofNat xn)), .val (.int 1), .val (.ref cv), .val (.ref a24), .val (.int 1)] [(.int 1), (.ref a24)])) rfl (by rw [hml]; rfl) (Steps.refl _) (argsL := [(.int 1)]) (rest := []) (lenOf pd__I_Ljava_lang_Object_ rfl) rfl (by show 2 * 0 + _ ≤ _; exact Nat.le_of_eq rfl) (hb hby at_188) (fun _ _ => ⟨rfl, eq37, (by decide : 13 + 0 ≤ _), (by decide : 43 + 0 ≤ _)⟩)
  dsimp only [Pt.U, Pt.locs, Pt.cells, Pt.slots] at X39 l39 y39 z39 st39 hQ39
  subst l39 y39 z39
  obtain ⟨rfl, Nq39, eq39⟩ := hQ39
  have N39 := Fr.app N37 Nq39
  obtain ⟨T40, X40, e40, st40⟩ := castY X39 hx hZ24 hown24 (hw _ (tk 127 rfl)) eq39 (Ins.self Es24_1) (g := (mkF m 193 #[.val (.int p1), .val (.int p2), .val (.int p3), .val (.int p4), .val (.int p5), .val (.int p6), .val (.int (Int32.ofNat lf)), .val (.int (Int32.ofNat rt)), .val (.int (Int32.ofNat tp)), .val (.int (Int32.ofNat bt)), .val (.int (Int32.ofNat xn)), .val (.int 1), .val (.ref cv), .val (.ref a24), .val (.int 1)] [(.ref s24_1)])) rfl rfl (hb hby at_193)
  obtain ⟨_, _, ⟨T41, L41, k41, n41⟩, -, X41, ⟨Lc41, hQ41, l41, y41, z41⟩, st41⟩ := Jvm.LawKit.callS X40 hx (y := y_42) hown24 (mvT hZ24 (hw _ (tk 129 rfl))) (mvT hZ24 (hw _ (tk 130 rfl))) (mvT hZ24 (hw _ (tk 131 rfl))) (mvT hZ24 (hw _ (tk 132 rfl))) (by decide) (backOf (W := 0) (rmRKI l Z a0 hw [] G1 G3 s24_1 (1 : Int32) xn (1 : Int32) (1 : Int32) T24.heap n0 (Nat.le_trans Z0 (Nat.le_trans (Nat.le_trans (Nat.le_trans K1.1 E11.1) Kq14.1) Kq24.1)) EN0 f38 hxn ⟨bs24_1, ks24_1, Es24_1, Cs24_1, Vs24_1, Ks24_1, hps24_1, hls24_1⟩ (by decide) (by decide)) hZ24 (hw _ (tk 132 rfl)) (hw _ (tk 131 rfl)) (by decide) (by decide)) (g := (mkF m 203 #[.val (.int p1), .val (.int p2), .val (.int p3), .val (.int p4), .val (.int p5), .val (.int p6), .val (.int (Int32.ofNat lf)), .val (.int (Int32.ofNat rt)), .val (.int (Int32.ofNat tp)), .val (.int (Int32.ofNat bt)), .val (.int (Int32.ofNat xn)), .val (.int 1), .val (.ref cv), .val (.ref a24), .val (.int 1)] [(.int 1), (.int 1), (.int (Int32.ofNat xn)), (.int 1), (.ref s24_1)])) rfl (by rw [hml]; rfl) (argsL := [(.ref s24_1), (.int 1), (.int (Int32.ofNat xn)), (.int 1), (.int 1)]) (rest := []) (lenOf pd__Ljava_lang_String_IIIZ_Z rfl) rfl (by show 2 * 0 + _ ≤ _; exact Nat.le_of_eq rfl) (hb hby at_203) (fun _ _ => ⟨rfl, e40, (by decide : 13 + 0 ≤ _), (by decide : 43 + 0 ≤ _)⟩)
  dsimp only [Pt.U, Pt.locs, Pt.cells, Pt.slots] at X41 l41 y41 z41 st41 hQ41
  subst l41 y41 z41
  obtain ⟨rfl, Nq41, eq41⟩ := hQ41
  have N41 := Fr.app N39 Nq41
  obtain ⟨cq42, kq42, q42a, q42b, q42c⟩ := isOf hZ24 eq41 Ea24
  obtain ⟨_, _, ⟨T42, L42, k42, n42⟩, -, X42, ⟨Lc42, hQ42, l42, y42, z42⟩, st42⟩ := X41.interfaceBack hx (xi := y_44) (y := y_39) hown24 (mvT hZ24 (hw _ (tk 106 rfl))) (mvT hZ24 (hw _ (tk 107 rfl))) (mvT hZ24 (hw _ (tk 108 rfl))) (mvT hZ24 (hw _ (tk 109 rfl))) (mvT hZ24 (hw _ (tk 110 rfl))) (mvT hZ24 (hw _ (tk 111 rfl))) (mvT hZ24 (hw _ (tk 112 rfl))) (mvT hZ24 (hw _ (tk 86 rfl))) (by decide) (backOf (W := 0) (rmGT2 l Z a0 hw [] a24 t24 k24q s24_0 s24_1 s24_2 T24.heap n0 (Nat.le_trans Z0 (Nat.le_trans (Nat.le_trans (Nat.le_trans K1.1 E11.1) Kq14.1) Kq24.1)) Ea24 Fe24 Fs24 Vt24) hZ24 (hw _ (tk 113 rfl)) (hw _ (tk 55 rfl)) (by decide) (by decide)) q42a q42b q42c (g := (mkF m 212 #[.val (.int p1), .val (.int p2), .val (.int p3), .val (.int p4), .val (.int p5), .val (.int p6), .val (.int (Int32.ofNat lf)), .val (.int (Int32.ofNat rt)), .val (.int (Int32.ofNat tp)), .val (.int (Int32.ofNat bt)), .val (.int (Int32.ofNat xn)), .val (.int 1), .val (.ref cv), .val (.ref a24), .val (.int 1)] [(.int 2), (.ref a24)])) rfl (by rw [hml]; rfl) (Steps.refl _) (argsL := [(.int 2)]) (rest := []) (lenOf pd__I_Ljava_lang_Object_ rfl) rfl (by show 2 * 0 + _ ≤ _; exact Nat.le_of_eq rfl) (hb hby at_212) (fun _ _ => ⟨rfl, eq41, (by decide : 13 + 0 ≤ _), (by decide : 43 + 0 ≤ _)⟩)
  dsimp only [Pt.U, Pt.locs, Pt.cells, Pt.slots] at X42 l42 y42 z42 st42 hQ42
  subst l42 y42 z42
  obtain ⟨rfl, Nq42, eq42⟩ := hQ42
  have N42 := Fr.app N41 Nq42
  obtain ⟨T43, X43, e43, st43⟩ := castY X42 hx hZ24 hown24 (hw _ (tk 127 rfl)) eq42 (Ins.self Es24_2) (g := (mkF m 217 #[.val (.int p1), .val (.int p2), .val (.int p3), .val (.int p4), .val (.int p5), .val (.int p6), .val (.int (Int32.ofNat lf)), .val (.int (Int32.ofNat rt)), .val (.int (Int32.ofNat tp)), .val (.int (Int32.ofNat bt)), .val (.int (Int32.ofNat xn)), .val (.int 1), .val (.ref cv), .val (.ref a24), .val (.int 1)] [(.ref s24_2)])) rfl rfl (hb hby at_217)
  obtain ⟨_, _, ⟨T44, L44, k44, n44⟩, -, X44, ⟨Lc44, hQ44, l44, y44, z44⟩, st44⟩ := Jvm.LawKit.callS X43 hx (y := y_42) hown24 (mvT hZ24 (hw _ (tk 129 rfl))) (mvT hZ24 (hw _ (tk 130 rfl))) (mvT hZ24 (hw _ (tk 131 rfl))) (mvT hZ24 (hw _ (tk 132 rfl))) (by decide) (backOf (W := 0) (rmRKO l Z a0 hw [] G1 G3 s24_2 (2 : Int32) xn (1 : Int32) (1 : Int32) T24.heap n0 (Nat.le_trans Z0 (Nat.le_trans (Nat.le_trans (Nat.le_trans K1.1 E11.1) Kq14.1) Kq24.1)) EN0 f38 hxn ⟨bs24_2, ks24_2, Es24_2, Cs24_2, Vs24_2, Ks24_2, hps24_2, hls24_2⟩ (Or.inl (by decide))) hZ24 (hw _ (tk 132 rfl)) (hw _ (tk 131 rfl)) (by decide) (by decide)) (g := (mkF m 227 #[.val (.int p1), .val (.int p2), .val (.int p3), .val (.int p4), .val (.int p5), .val (.int p6), .val (.int (Int32.ofNat lf)), .val (.int (Int32.ofNat rt)), .val (.int (Int32.ofNat tp)), .val (.int (Int32.ofNat bt)), .val (.int (Int32.ofNat xn)), .val (.int 1), .val (.ref cv), .val (.ref a24), .val (.int 1)] [(.int 1), (.int 1), (.int (Int32.ofNat xn)), (.int 2), (.ref s24_2)])) rfl (by rw [hml]; rfl) (argsL := [(.ref s24_2), (.int 2), (.int (Int32.ofNat xn)), (.int 1), (.int 1)]) (rest := []) (lenOf pd__Ljava_lang_String_IIIZ_Z rfl) rfl (by show 2 * 0 + _ ≤ _; exact Nat.le_of_eq rfl) (hb hby at_227) (fun _ _ => ⟨rfl, e43, (by decide : 13 + 0 ≤ _), (by decide : 43 + 0 ≤ _)⟩)
  dsimp only [Pt.U, Pt.locs, Pt.cells, Pt.slots] at X44 l44 y44 z44 st44 hQ44
  subst l44 y44 z44
  obtain ⟨rfl, Nq44, eq44⟩ := hQ44
  have N44 := Fr.app N42 Nq44
  obtain ⟨fs, hr, hrun, hended, hfin⟩ := X44.leaveW hS24 (by rw [eq44]; exact (Nat.le_refl _)) (v := some (.int 1)) (fun h => by rw [Bd.returns] at h; cases h)
  refine ⟨_, _, pre0 _ ?_, hrun, hended, _, _, rfl, ?_, hfin.1, hfin.2.1, hfin.2.2.1, hfin.2.2.2.mono (by decide) (by decide)⟩
  · show Steps _ _ _ (s₁.setTop (mkF m 0 #[.val (.int p1), .val (.int p2), .val (.int p3), .val (.int p4), .val (.int p5), .val (.int p6), .unset, .unset, .unset, .unset, .unset, .unset, .unset, .unset, .unset] [])) _
    refine st1 _ ?_
    show Steps _ _ _ (T1.setTop (mkF m 95 #[.val (.int p1), .val (.int p2), .val (.int p3), .val (.int p4), .val (.int p5), .val (.int p6), .val (.int (Int32.ofNat lf)), .val (.int (Int32.ofNat rt)), .val (.int (Int32.ofNat tp)), .val (.int (Int32.ofNat bt)), .val (.int (Int32.ofNat xn)), .val (.int 1), .val (.ref cv), .unset, .unset] [])) _
    refine XS.aload X1.here hx rfl (hb hby at_95) rfl rfl ?_
    refine XS.iload X1.here hx rfl (hb hby at_97) rfl ?_
    refine XS.iload X1.here hx rfl (hb hby at_99) rfl ?_
    show Steps _ _ _ (T1.setTop (mkF m 101 #[.val (.int p1), .val (.int p2), .val (.int p3), .val (.int p4), .val (.int p5), .val (.int p6), .val (.int (Int32.ofNat lf)), .val (.int (Int32.ofNat rt)), .val (.int (Int32.ofNat tp)), .val (.int (Int32.ofNat bt)), .val (.int (Int32.ofNat xn)), .val (.int 1), .val (.ref cv), .unset, .unset] [(.int 1), (.int (Int32.ofNat xn)), (.ref cv)])) _
    refine st11 _ ?_
    show Steps _ _ _ (T11.setTop (mkF m 103 #[.val (.int p1), .val (.int p2), .val (.int p3), .val (.int p4), .val (.int p5), .val (.int p6), .val (.int (Int32.ofNat lf)), .val (.int (Int32.ofNat rt)), .val (.int (Int32.ofNat tp)), .val (.int (Int32.ofNat bt)), .val (.int (Int32.ofNat xn)), .val (.int 1), .val (.ref cv), .unset, .unset] [(.ref b11), (.int 1), (.int (Int32.ofNat xn)), (.ref cv)])) _
    refine st14.trans ?_
    show Steps _ _ _ (T14.setTop (mkF m 106 #[.val (.int p1), .val (.int p2), .val (.int p3), .val (.int p4), .val (.int p5), .val (.int p6), .val (.int (Int32.ofNat lf)), .val (.int (Int32.ofNat rt)), .val (.int (Int32.ofNat tp)), .val (.int (Int32.ofNat bt)), .val (.int (Int32.ofNat xn)), .val (.int 1), .val (.ref cv), .unset, .unset] [])) _
    refine XS.aload X14.here hx rfl (hb hby at_106) rfl rfl ?_
    show Steps _ _ _ (T14.setTop (mkF m 108 #[.val (.int p1), .val (.int p2), .val (.int p3), .val (.int p4), .val (.int p5), .val (.int p6), .val (.int (Int32.ofNat lf)), .val (.int (Int32.ofNat rt)), .val (.int (Int32.ofNat tp)), .val (.int (Int32.ofNat bt)), .val (.int (Int32.ofNat xn)), .val (.int 1), .val (.ref cv), .unset, .unset] [(.ref cv)])) _
    refine st24.trans ?_
    show Steps _ _ _ (T24.setTop (mkF m 111 #[.val (.int p1), .val (.int p2), .val (.int p3), .val (.int p4), .val (.int p5), .val (.int p6), .val (.int (Int32.ofNat lf)), .val (.int (Int32.ofNat rt)), .val (.int (Int32.ofNat tp)), .val (.int (Int32.ofNat bt)), .val (.int (Int32.ofNat xn)), .val (.int 1), .val (.ref cv), .unset, .unset] [(.ref a24)])) _
    refine XS.astore X24.here hx rfl (hb hby at_111) rfl rfl (l' := #[.val (.int p1), .val (.int p2), .val (.int p3), .val (.int p4), .val (.int p5), .val (.int p6), .val (.int (Int32.ofNat lf)), .val (.int (Int32.ofNat rt)), .val (.int (Int32.ofNat tp)), .val (.int (Int32.ofNat bt)), .val (.int (Int32.ofNat xn)), .val (.int 1), .val (.ref cv), .val (.ref a24), .unset]) rfl ?_
    refine XS.iload X24.here hx rfl (hb hby at_113) rfl ?_
    refine XS.iload X24.here hx rfl (hb hby at_115) rfl ?_
    refine XS.icmpNo X24.here hx rfl (hb hby at_117) rfl (flt (own_lo (by omega) (by omega) (by omega))).2.2.1 ?_
    refine XS.iload X24.here hx rfl (hb hby at_120) rfl ?_
    refine XS.iload X24.here hx rfl (hb hby at_122) rfl ?_
    refine XS.icmpNo X24.here hx rfl (hb hby at_124) rfl (tlt ((own_lt (by omega) (by omega)).mpr u2)).2.1 ?_
    refine XS.iload X24.here hx rfl (hb hby at_127) rfl ?_
    refine XS.iload X24.here hx rfl (hb hby at_129) rfl ?_
    refine XS.icmpNo X24.here hx rfl (hb hby at_131) rfl (flt (own_lo (a := 1) (by omega) (by omega) (by omega))).2.2.1 ?_
    refine XS.iload X24.here hx rfl (hb hby at_134) rfl ?_
    show Steps _ _ _ (T24.setTop (mkF m 136 #[.val (.int p1), .val (.int p2), .val (.int p3), .val (.int p4), .val (.int p5), .val (.int p6), .val (.int (Int32.ofNat lf)), .val (.int (Int32.ofNat rt)), .val (.int (Int32.ofNat tp)), .val (.int (Int32.ofNat bt)), .val (.int (Int32.ofNat xn)), .val (.int 1), .val (.ref cv), .val (.ref a24), .unset] [(.int 1)])) _
    refine XS.iload X24.here hx rfl (hb hby at_136) rfl ?_
    refine XS.icmpNo X24.here hx rfl (hb hby at_138) rfl (tlt ((own_lt (i := 1) (by omega) (by omega)).mpr u4)).2.1 ?_
    refine XS.iconst X24.here hx rfl (hb hby at_141) ?_
    refine XS.goto X24.here hx rfl (pc0 := 142) (pc' := 146) rfl (hb hby at_142) (by decide) (by decide) ?_
    refine XS.istore X24.here hx rfl (hb hby at_146) rfl (l' := #[.val (.int p1), .val (.int p2), .val (.int p3), .val (.int p4), .val (.int p5), .val (.int p6), .val (.int (Int32.ofNat lf)), .val (.int (Int32.ofNat rt)), .val (.int (Int32.ofNat tp)), .val (.int (Int32.ofNat bt)), .val (.int (Int32.ofNat xn)), .val (.int 1), .val (.ref cv), .val (.ref a24), .val (.int 1)]) rfl ?_
    refine XS.aload X24.here hx rfl (hb hby at_148) rfl rfl ?_
    show Steps _ _ _ (T24.setTop (mkF m 150 #[.val (.int p1), .val (.int p2), .val (.int p3), .val (.int p4), .val (.int p5), .val (.int p6), .val (.int (Int32.ofNat lf)), .val (.int (Int32.ofNat rt)), .val (.int (Int32.ofNat tp)), .val (.int (Int32.ofNat bt)), .val (.int (Int32.ofNat xn)), .val (.int 1), .val (.ref cv), .val (.ref a24), .val (.int 1)] [(.ref a24)])) _
    refine st34.trans ?_
    show Steps _ _ _ (T34.setTop (mkF m 155 #[.val (.int p1), .val (.int p2), .val (.int p3), .val (.int p4), .val (.int p5), .val (.int p6), .val (.int (Int32.ofNat lf)), .val (.int (Int32.ofNat rt)), .val (.int (Int32.ofNat tp)), .val (.int (Int32.ofNat bt)), .val (.int (Int32.ofNat xn)), .val (.int 1), .val (.ref cv), .val (.ref a24), .val (.int 1)] [(.int 3)])) _
    refine XS.iconst X34.here hx rfl (hb hby at_155) ?_
    refine XS.icmpYes X34.here hx rfl (pc0 := 156) (pc' := 161) rfl (hb hby at_156) rfl (teq (by decide : (3 : Int32) = (3 : Int32))).1 (by decide) (by decide) ?_
    refine XS.aload X34.here hx rfl (hb hby at_161) rfl rfl ?_
    refine XS.iconst X34.here hx rfl (hb hby at_163) ?_
    show Steps _ _ _ (T34.setTop (mkF m 164 #[.val (.int p1), .val (.int p2), .val (.int p3), .val (.int p4), .val (.int p5), .val (.int p6), .val (.int (Int32.ofNat lf)), .val (.int (Int32.ofNat rt)), .val (.int (Int32.ofNat tp)), .val (.int (Int32.ofNat bt)), .val (.int (Int32.ofNat xn)), .val (.int 1), .val (.ref cv), .val (.ref a24), .val (.int 1)] [(.int 0), (.ref a24)])) _
    refine st35.trans ?_
    show Steps _ _ _ (T35.setTop (mkF m 169 #[.val (.int p1), .val (.int p2), .val (.int p3), .val (.int p4), .val (.int p5), .val (.int p6), .val (.int (Int32.ofNat lf)), .val (.int (Int32.ofNat rt)), .val (.int (Int32.ofNat tp)), .val (.int (Int32.ofNat bt)), .val (.int (Int32.ofNat xn)), .val (.int 1), .val (.ref cv), .val (.ref a24), .val (.int 1)] [(.ref s24_0)])) _
    refine st36 _ ?_
    show Steps _ _ _ (T36.setTop (mkF m 172 #[.val (.int p1), .val (.int p2), .val (.int p3), .val (.int p4), .val (.int p5), .val (.int p6), .val (.int (Int32.ofNat lf)), .val (.int (Int32.ofNat rt)), .val (.int (Int32.ofNat tp)), .val (.int (Int32.ofNat bt)), .val (.int (Int32.ofNat xn)), .val (.int 1), .val (.ref cv), .val (.ref a24), .val (.int 1)] [(.ref s24_0)])) _
    refine XS.iconst X36.here hx rfl (hb hby at_172) ?_
    refine XS.iload X36.here hx rfl (hb hby at_173) rfl ?_
    refine XS.iload X36.here hx rfl (hb hby at_175) rfl ?_
    refine XS.iload X36.here hx rfl (hb hby at_177) rfl ?_
    show Steps _ _ _ (T36.setTop (mkF m 179 #[.val (.int p1), .val (.int p2), .val (.int p3), .val (.int p4), .val (.int p5), .val (.int p6), .val (.int (Int32.ofNat lf)), .val (.int (Int32.ofNat rt)), .val (.int (Int32.ofNat tp)), .val (.int (Int32.ofNat bt)), .val (.int (Int32.ofNat xn)), .val (.int 1), .val (.ref cv), .val (.ref a24), .val (.int 1)] [(.int 1), (.int 1), (.int (Int32.ofNat xn)), (.int 0), (.ref s24_0)])) _
    refine st37 _ ?_
    show Steps _ _ _ (T37.setTop (mkF m 182 #[.val (.int p1), .val (.int p2), .val (.int p3), .val (.int p4), .val (.int p5), .val (.int p6), .val (.int (Int32.ofNat lf)), .val (.int (Int32.ofNat rt)), .val (.int (Int32.ofNat tp)), .val (.int (Int32.ofNat bt)), .val (.int (Int32.ofNat xn)), .val (.int 1), .val (.ref cv), .val (.ref a24), .val (.int 1)] [(.int 1)])) _
    refine XS.ifNo X37.here hx rfl (hb hby at_182) rfl ((if0 _ _).trans (feq (by decide : ¬ ((1 : Int32) = (0 : Int32)))).1) ?_
    refine XS.aload X37.here hx rfl (hb hby at_185) rfl rfl ?_
    refine XS.iconst X37.here hx rfl (hb hby at_187) ?_
    show Steps _ _ _ (T37.setTop (mkF m 188 #[.val (.int p1), .val (.int p2), .val (.int p3), .val (.int p4), .val (.int p5), .val (.int p6), .val (.int (Int32.ofNat lf)), .val (.int (Int32.ofNat rt)), .val (.int (Int32.ofNat tp)), .val (.int (Int32.ofNat bt)), .val (.int (Int32.ofNat xn)), .val (.int 1), .val (.ref cv), .val (.ref a24), .val (.int 1)] [(.int 1), (.ref a24)])) _
    refine st39.trans ?_
    show Steps _ _ _ (T39.setTop (mkF m 193 #[.val (.int p1), .val (.int p2), .val (.int p3), .val (.int p4), .val (.int p5), .val (.int p6), .val (.int (Int32.ofNat lf)), .val (.int (Int32.ofNat rt)), .val (.int (Int32.ofNat tp)), .val (.int (Int32.ofNat bt)), .val (.int (Int32.ofNat xn)), .val (.int 1), .val (.ref cv), .val (.ref a24), .val (.int 1)] [(.ref s24_1)])) _
    refine st40 _ ?_
    show Steps _ _ _ (T40.setTop (mkF m 196 #[.val (.int p1), .val (.int p2), .val (.int p3), .val (.int p4), .val (.int p5), .val (.int p6), .val (.int (Int32.ofNat lf)), .val (.int (Int32.ofNat rt)), .val (.int (Int32.ofNat tp)), .val (.int (Int32.ofNat bt)), .val (.int (Int32.ofNat xn)), .val (.int 1), .val (.ref cv), .val (.ref a24), .val (.int 1)] [(.ref s24_1)])) _
    refine XS.iconst X40.here hx rfl (hb hby at_196) ?_
    refine XS.iload X40.here hx rfl (hb hby at_197) rfl ?_
    refine XS.iload X40.here hx rfl (hb hby at_199) rfl ?_
    refine XS.iload X40.here hx rfl (hb hby at_201) rfl ?_
    show Steps _ _ _ (T40.setTop (mkF m 203 #[.val (.int p1), .val (.int p2), .val (.int p3), .val (.int p4), .val (.int p5), .val (.int p6), .val (.int (Int32.ofNat lf)), .val (.int (Int32.ofNat rt)), .val (.int (Int32.ofNat tp)), .val (.int (Int32.ofNat bt)), .val (.int (Int32.ofNat xn)), .val (.int 1), .val (.ref cv), .val (.ref a24), .val (.int 1)] [(.int 1), (.int 1), (.int (Int32.ofNat xn)), (.int 1), (.ref s24_1)])) _
    refine st41 _ ?_
    show Steps _ _ _ (T41.setTop (mkF m 206 #[.val (.int p1), .val (.int p2), .val (.int p3), .val (.int p4), .val (.int p5), .val (.int p6), .val (.int (Int32.ofNat lf)), .val (.int (Int32.ofNat rt)), .val (.int (Int32.ofNat tp)), .val (.int (Int32.ofNat bt)), .val (.int (Int32.ofNat xn)), .val (.int 1), .val (.ref cv), .val (.ref a24), .val (.int 1)] [(.int 1)])) _
    refine XS.ifNo X41.here hx rfl (hb hby at_206) rfl ((if0 _ _).trans (feq (by decide : ¬ ((1 : Int32) = (0 : Int32)))).1) ?_
    refine XS.aload X41.here hx rfl (hb hby at_209) rfl rfl ?_
    refine XS.iconst X41.here hx rfl (hb hby at_211) ?_
    show Steps _ _ _ (T41.setTop (mkF m 212 #[.val (.int p1), .val (.int p2), .val (.int p3), .val (.int p4), .val (.int p5), .val (.int p6), .val (.int (Int32.ofNat lf)), .val (.int (Int32.ofNat rt)), .val (.int (Int32.ofNat tp)), .val (.int (Int32.ofNat bt)), .val (.int (Int32.ofNat xn)), .val (.int 1), .val (.ref cv), .val (.ref a24), .val (.int 1)] [(.int 2), (.ref a24)])) _
    refine st42.trans ?_
    show Steps _ _ _ (T42.setTop (mkF m 217 #[.val (.int p1), .val (.int p2), .val (.int p3), .val (.int p4), .val (.int p5), .val (.int p6), .val (.int (Int32.ofNat lf)), .val (.int (Int32.ofNat rt)), .val (.int (Int32.ofNat tp)), .val (.int (Int32.ofNat bt)), .val (.int (Int32.ofNat xn)), .val (.int 1), .val (.ref cv), .val (.ref a24), .val (.int 1)] [(.ref s24_2)])) _
    refine st43 _ ?_
    show Steps _ _ _ (T43.setTop (mkF m 220 #[.val (.int p1), .val (.int p2), .val (.int p3), .val (.int p4), .val (.int p5), .val (.int p6), .val (.int (Int32.ofNat lf)), .val (.int (Int32.ofNat rt)), .val (.int (Int32.ofNat tp)), .val (.int (Int32.ofNat bt)), .val (.int (Int32.ofNat xn)), .val (.int 1), .val (.ref cv), .val (.ref a24), .val (.int 1)] [(.ref s24_2)])) _
    refine XS.iconst X43.here hx rfl (hb hby at_220) ?_
    refine XS.iload X43.here hx rfl (hb hby at_221) rfl ?_
    refine XS.iload X43.here hx rfl (hb hby at_223) rfl ?_
    refine XS.iload X43.here hx rfl (hb hby at_225) rfl ?_
    show Steps _ _ _ (T43.setTop (mkF m 227 #[.val (.int p1), .val (.int p2), .val (.int p3), .val (.int p4), .val (.int p5), .val (.int p6), .val (.int (Int32.ofNat lf)), .val (.int (Int32.ofNat rt)), .val (.int (Int32.ofNat tp)), .val (.int (Int32.ofNat bt)), .val (.int (Int32.ofNat xn)), .val (.int 1), .val (.ref cv), .val (.ref a24), .val (.int 1)] [(.int 1), (.int 1), (.int (Int32.ofNat xn)), (.int 2), (.ref s24_2)])) _
    refine st44 _ ?_
    show Steps _ _ _ (T44.setTop (mkF m 230 #[.val (.int p1), .val (.int p2), .val (.int p3), .val (.int p4), .val (.int p5), .val (.int p6), .val (.int (Int32.ofNat lf)), .val (.int (Int32.ofNat rt)), .val (.int (Int32.ofNat tp)), .val (.int (Int32.ofNat bt)), .val (.int (Int32.ofNat xn)), .val (.int 1), .val (.ref cv), .val (.ref a24), .val (.int 1)] [(.int 1)])) _
    refine XS.ifNo X44.here hx rfl (hb hby at_230) rfl ((if0 _ _).trans (feq (by decide : ¬ ((1 : Int32) = (0 : Int32)))).1) ?_
    refine XS.iconst X44.here hx rfl (hb hby at_233) ?_
    refine XS.goto X44.here hx rfl (pc0 := 234) (pc' := 238) rfl (hb hby at_234) (by decide) (by decide) ?_
    show Steps _ _ _ (T44.setTop (mkF m 238 #[.val (.int p1), .val (.int p2), .val (.int p3), .val (.int p4), .val (.int p5), .val (.int p6), .val (.int (Int32.ofNat lf)), .val (.int (Int32.ofNat rt)), .val (.int (Int32.ofNat tp)), .val (.int (Int32.ofNat bt)), .val (.int (Int32.ofNat xn)), .val (.int 1), .val (.ref cv), .val (.ref a24), .val (.int 1)] [(.int 1)])) _
    exact retN X44 hx (t := .boolean) Bd.returns (by simp) (hb hby at_238) hr
  · show Q0 Z  h0 n0 _ T44.heap _
    rw [eq44]
    exact ⟨rfl, N44⟩
theorem rm0_2 (l : Launch) (Z : State) (a0 : Array Value) (hw : ∀ d ∈ tables_1, d.before a0 Z = true) (ws : List Jvm.Cond) (G1 : Int32) (G3 : Value) (p1 : Int32) (p2 : Int32) (p3 : Int32) (p4 : Int32) (p5 : Int32) (p6 : Int32) (lf : Nat) (rt : Nat) (tp : Nat) (bt : Nat) (xn : Nat) (h0 : Heap) (n0 : Nat) (Z0 : n0 ≤ h0.size) (EN : own_env Z G1 G3) (X00 : Old Z n0 h0) (e1_ : ((p1 &&& (2147483647 : Int32)) % (5 : Int32)) = (Int32.ofNat lf)) (e2_ : ((p2 &&& (2147483647 : Int32)) % (5 : Int32)) = (Int32.ofNat rt)) (e3_ : ((p3 &&& (2147483647 : Int32)) % (4 : Int32)) = (Int32.ofNat tp)) (e4_ : ((p4 &&& (2147483647 : Int32)) % (4 : Int32)) = (Int32.ofNat bt)) (e5_ : ((p5 &&& (2147483647 : Int32)) % (4 : Int32)) = (Int32.ofNat xn)) (e6_ : ((p6 &&& (2147483647 : Int32)) % (3 : Int32)) = (2 : Int32)) (hlf : lf ≤ 4) (htp : tp ≤ 3) (hrt : rt ≤ 4) (hbt : bt ≤ 3) (hxn : xn < 4) (u1 : lf ≤ xn) (u2 : xn < rt) (u3 : tp ≤ 2) (u4 : 2 < bt) :
    MetFree l x (head1 (Jvm.Cond.code x code maxLocals ret :: ws) room_1) (fun a_ U_ => a_ = #[(.int p1), (.int p2), (.int p3), (.int p4), (.int p5), (.int p6)] ∧ Z.Warmed39 U_.vm ∧ U_.heap = h0 ∧ CHv Z consts_1 U_.vm h0) (fun _ _ _ _ _ => True) (fun _ U_ o_ U1_ => ∃ v_ L_, o_ = .returned v_ ∧ Q0 Z  h0 n0 v_ U1_.heap L_ ∧ ReturnedEndW U_ o_ U1_ L_ 32 2176) := by
  refine MetFree.of_bodySF (plainFor_of_name pn_0) hisR ?_
  intro p e s m args below meth c s₁ Bd hml0 hP hK
  obtain ⟨rfl, hZ, hh, H0⟩ := hP
  have hx := Bd.exec
  have hby := Bd.bytes
  have hml : c.maxLocals = 15 := hml0
  have hown : s.vm.findClass "dev/treefold/text/CanvasClipPinLaw" = some m.cls := findClass_of_methodNamed Bd.named
  have hnm := (name_of_methodNamed Bd.named Bd.method).1
  have X0 : Stand p l e room_1 s m #[(.int p1), (.int p2), (.int p3), (.int p4), (.int p5), (.int p6)] below meth c s₁ [] 0 0 := Stand.of_body Bd
  have e0 : s₁.heap = h0 := by rw [← hh, Bd.state]; rfl
  have N0 := Fr.nil n0
  have pre0 : ∀ tt, Steps p.tables e below (s₁.setTop (mkF m 0 #[.val (.int p1), .val (.int p2), .val (.int p3), .val (.int p4), .val (.int p5), .val (.int p6), .unset, .unset, .unset, .unset, .unset, .unset, .unset, .unset, .unset] [])) tt → Steps p.tables e below (s₁.setTop (entryFrame m #[(.int p1), (.int p2), (.int p3), (.int p4), (.int p5), (.int p6)] maxLocals)) tt := fun tt kk => castTop (ef_0_rrrrrr m p1 p2 p3 p4 p5 p6) kk
  have hS0 : s.Since s.vm 0 := (State.WarmedH.refl s).since 0
  have hk0 : 0 ≤ h0.size := Nat.zero_le _
  have EN0 := EN
  obtain ⟨O2, P5, O4, rG3⟩ := EN
  obtain ⟨T1, h1, L1, cv, R, kR, X1, e1, N1, Z1, O1, K1, g_cv, g_R, sz_cv, sz_R, ncR, Ec1, Fc1_0, Fc1_1, Fc1_2, Fc1_3, Fc1_4, Fc1_5, V1, OvR, st1⟩ := frL p1 p2 p3 p4 p5 p6 lf rt tp bt xn (2 : Int32) h0 n0 X0 hx hZ hw hby hml hown e0 N0 Z0 e1_ e2_ e3_ e4_ e5_ e6_ X00
  have C12 := CHr.keep ((Keep.refl h0 []).trans K1 all0) sf0 H0
  obtain ⟨b11, T11, h11, k11, d11, kb11, X11, e11, E11, hS11, hk11, hZ11, hown11, Ea11, Ca11, Va11, Ka11, la11, lb11, Cx11, -, ne11, st11⟩ := ldcCH (s := s) (vm0 := s.vm) X1 hx hZ hown (hw _ (tk 35 rfl)) (fun d hd => hw d (own_wS d hd)) e1 hS0 (Nat.le_trans hk0 K1.1) (own_EW hw) own_mem27 C12.1 (vs := [Value.int (Jvm.Lit.byteI 81)]) (z := 1) ⟨by decide, rfl⟩ (by decide) rfl (g := (mkF m 101 #[.val (.int p1), .val (.int p2), .val (.int p3), .val (.int p4), .val (.int p5), .val (.int p6), .val (.int (Int32.ofNat lf)), .val (.int (Int32.ofNat rt)), .val (.int (Int32.ofNat tp)), .val (.int (Int32.ofNat bt)), .val (.int (Int32.ofNat xn)), .val (.int 2), .val (.ref cv), .unset, .unset] [(.int 2), (.int (Int32.ofNat xn)), (.ref cv)])) rfl (hb hby at_101) (n := 4) (by decide) (by decide) (by decide) (by decide)
  have C11 := CHr.trans C12 Cx11
  have Vq13 : Arv Z h11 d11 kb11 .byte (1 : Int32) ((([81] : List Int32).map fun c => c.toInt8.toInt32).map Value.int) (.int 0) := by
    have q_ := Ka11
    rw [own_b81] at q_
    exact q_
  have f15 := (O1.ext E11)
  have f16 := (Ec1.ext E11)
  have f17 := (Fc1_0.ext E11)
  have f18 := (Fc1_1.ext E11)
  have f19 := (Fc1_2.ext E11)
  have f20 := (Fc1_3.ext E11)
  have f21 := (Fc1_4.ext E11)
  have f22 := (Fc1_5.ext E11)
  have f23 := (V1.ext E11)
  obtain ⟨cq14, kq14, q14a, q14b, q14c⟩ := isOf hZ11 e11 f16
  obtain ⟨_, _, ⟨T14, L14, k14, n14⟩, -, X14, ⟨Lc14, hQ14, l14, y14, z14⟩, st14⟩ := X11.virtualBack hx (y := y_26) (z := y_26) hown11 (mvT hZ11 (hw _ (tk 43 rfl))) (mvT hZ11 (hw _ (tk 44 rfl))) (notFace_of_selects (args := #[]) (mvT hZ11 (hw _ (tk 46 rfl)))) (mvT hZ11 (hw _ (tk 46 rfl))) (mvT hZ11 (hw _ (tk 45 rfl))) (by decide) (backOf (W := 0) (rmWI l Z a0 hw [] G1 G3 cv R kR 2 lf tp rt bt b11 xn h11 n0 (Nat.le_trans Z0 (Nat.le_trans K1.1 E11.1)) EN0 f15 f16 f17 f18 f19 f20 f21 f22 g_cv f23 OvR g_R (by decide) ⟨d11, kb11, Ea11, Ca11, Va11, Vq13, own_hq, (by decide)⟩ hlf htp hrt hbt hxn u1 u2 u3 u4) hZ11 (hw _ (tk 47 rfl)) (hw _ (tk 3 rfl)) (by decide) (by decide)) q14a q14c (g := (mkF m 103 #[.val (.int p1), .val (.int p2), .val (.int p3), .val (.int p4), .val (.int p5), .val (.int p6), .val (.int (Int32.ofNat lf)), .val (.int (Int32.ofNat rt)), .val (.int (Int32.ofNat tp)), .val (.int (Int32.ofNat bt)), .val (.int (Int32.ofNat xn)), .val (.int 2), .val (.ref cv), .unset, .unset] [(.ref b11), (.int 2), (.int (Int32.ofNat xn)), (.ref cv)])) rfl (by rw [hml]; rfl) (Steps.refl _) (argsL := [(.int (Int32.ofNat xn)), (.int 2), (.ref b11)]) (rest := []) (lenOf pd__IILjava_lang_String__V rfl) rfl (by show 2 * 0 + _ ≤ _; exact Nat.le_of_eq rfl) (hb hby at_103) (fun _ _ => ⟨rfl, e11, (by decide : 4 + 1 ≤ _), (by decide : 17 + 4 ≤ _)⟩)
  dsimp only [Pt.U, Pt.locs, Pt.cells, Pt.slots] at X14 l14 y14 z14 st14 hQ14
  subst l14 y14 z14
  obtain ⟨t14, kt14, rfl, Nq14, gt14, st_14, Kq14, VR14, Vt14⟩ := hQ14
  have N14 := Fr.app N1 Nq14
  have szt14 : h0.size ≤ t14 := Nat.le_trans (Nat.le_trans K1.1 E11.1) st_14
  have C25 := CHr.trans C11 (CHr.keep Kq14 (sfS (own_safeV hZ11 f23 nofun) sf0) C11.1)
  have f26 := (f15.keep Kq14 (allS g_R all0))
  have f27 := (f16.keep Kq14)
  have f28 := (f17.keep Kq14 (ninS ncR nin0))
  have f29 := (f18.keep Kq14 (ninS ncR nin0))
  have f30 := (f19.keep Kq14 (ninS ncR nin0))
  have f31 := (f20.keep Kq14 (ninS ncR nin0))
  have f32 := (f21.keep Kq14 (ninS ncR nin0))
  have f33 := (f22.keep Kq14 (ninS ncR nin0))
  obtain ⟨cq24, kq24, q24a, q24b, q24c⟩ := isOf hZ11 rfl f27
  obtain ⟨_, _, ⟨T24, L24, k24, n24⟩, -, X24', hS24', gr24, ⟨Lc24, hQ24, l24, y24, z24⟩, st24⟩ := X14.virtualBackS hx (y := y_40) (z := y_40) hown11 (mvT hZ11 (hw _ (tk 48 rfl))) (mvT hZ11 (hw _ (tk 49 rfl))) (notFace_of_selects (args := #[]) (mvT hZ11 (hw _ (tk 51 rfl)))) (mvT hZ11 (hw _ (tk 51 rfl))) (mvT hZ11 (hw _ (tk 50 rfl))) (by decide) (own_backSN (W := 0) (s := s) (rmLS2 l Z a0 hw [] G1 G3 cv R kR (Int32.ofNat lf) (Int32.ofNat tp) (Int32.ofNat rt) (Int32.ofNat bt) t14 kt14 xn T14.heap n0 (Nat.le_trans Z0 (Nat.le_trans (Nat.le_trans K1.1 E11.1) Kq14.1)) EN0 f26 f27 f28 f29 f30 f31 f32 f33 VR14 Vt14 hxn) hZ11 (hw _ (tk 52 rfl)) (hw _ (tk 3 rfl)) (by decide) (by decide) (own_EW hw) C25.1) q24a q24c (g := (mkF m 108 #[.val (.int p1), .val (.int p2), .val (.int p3), .val (.int p4), .val (.int p5), .val (.int p6), .val (.int (Int32.ofNat lf)), .val (.int (Int32.ofNat rt)), .val (.int (Int32.ofNat tp)), .val (.int (Int32.ofNat bt)), .val (.int (Int32.ofNat xn)), .val (.int 2), .val (.ref cv), .unset, .unset] [(.ref cv)])) rfl (by rw [hml]; rfl) (Steps.refl _) (argsL := []) (rest := []) (lenOf pd___Ljava_util_List_ rfl) rfl (by show 2 * 0 + _ ≤ _; exact Nat.le_of_eq rfl) (hb hby at_108) (fun _ _ => ⟨rfl, rfl, (by decide : 5 + 8 ≤ _), (by decide : 21 + 22 ≤ _)⟩)
  dsimp only [Pt.U, Pt.locs, Pt.cells, Pt.slots] at X24' hS24' gr24 l24 y24 z24 st24 hQ24
  subst l24 y24 z24
  obtain ⟨X24, hS24, hZ24, hown24⟩ := rebS (s := s) (vm0 := T11.vm) hS11 ((Nat.le_trans hk11 Kq14.1)) X24' hS24' gr24 hZ11 hown11
  obtain ⟨a24, t24, k24q, s24_0, s24_1, s24_2, rfl, Nq24, Kq24, Ea24, Fe24, Fs24, Vt24, S24_0, S24_1, S24_2⟩ := hQ24
  have N24 := Fr.app N14 Nq24
  obtain ⟨bs24_0, ks24_0, Es24_0, Cs24_0, Vs24_0, Ks24_0, hps24_0, hls24_0⟩ := S24_0
  obtain ⟨bs24_1, ks24_1, Es24_1, Cs24_1, Vs24_1, Ks24_1, hps24_1, hls24_1⟩ := S24_1
  obtain ⟨bs24_2, ks24_2, Es24_2, Cs24_2, Vs24_2, Ks24_2, hps24_2, hls24_2⟩ := S24_2
  obtain ⟨cq34, kq34, q34a, q34b, q34c⟩ := isOf hZ24 rfl Ea24
  obtain ⟨_, _, ⟨T34, L34, k34, n34⟩, -, X34, ⟨Lc34, hQ34, l34, y34, z34⟩, st34⟩ := X24.interfaceBack hx (xi := y_43) (y := y_37) hown24 (mvT hZ24 (hw _ (tk 98 rfl))) (mvT hZ24 (hw _ (tk 99 rfl))) (mvT hZ24 (hw _ (tk 100 rfl))) (mvT hZ24 (hw _ (tk 101 rfl))) (mvT hZ24 (hw _ (tk 102 rfl))) (mvT hZ24 (hw _ (tk 103 rfl))) (mvT hZ24 (hw _ (tk 104 rfl))) (mvT hZ24 (hw _ (tk 86 rfl))) (by decide) (backOf (W := 0) (rmSZ l Z a0 hw [] a24 T24.heap n0 (Nat.le_trans Z0 (Nat.le_trans (Nat.le_trans (Nat.le_trans K1.1 E11.1) Kq14.1) Kq24.1)) Fs24) hZ24 (hw _ (tk 105 rfl)) (hw _ (tk 55 rfl)) (by decide) (by decide)) q34a q34b q34c (g := (mkF m 150 #[.val (.int p1), .val (.int p2), .val (.int p3), .val (.int p4), .val (.int p5), .val (.int p6), .val (.int (Int32.ofNat lf)), .val (.int (Int32.ofNat rt)), .val (.int (Int32.ofNat tp)), .val (.int (Int32.ofNat bt)), .val (.int (Int32.ofNat xn)), .val (.int 2), .val (.ref cv), .val (.ref a24), .val (.int 1)] [(.ref a24)])) rfl (by rw [hml]; rfl) (Steps.refl _) (argsL := []) (rest := []) (lenOf pd___I rfl) rfl (by show 2 * 0 + _ ≤ _; exact Nat.le_of_eq rfl) (hb hby at_150) (fun _ _ => ⟨rfl, rfl, (by decide : 13 + 0 ≤ _), (by decide : 43 + 0 ≤ _)⟩)
  dsimp only [Pt.U, Pt.locs, Pt.cells, Pt.slots] at X34 l34 y34 z34 st34 hQ34
  subst l34 y34 z34
  obtain ⟨rfl, Nq34, eq34⟩ := hQ34
  have N34 := Fr.app N24 Nq34
  obtain ⟨cq35, kq35, q35a, q35b, q35c⟩ := isOf hZ24 eq34 Ea24
  obtain ⟨_, _, ⟨T35, L35, k35, n35⟩, -, X35, ⟨Lc35, hQ35, l35, y35, z35⟩, st35⟩ := X34.interfaceBack hx (xi := y_44) (y := y_39) hown24 (mvT hZ24 (hw _ (tk 106 rfl))) (mvT hZ24 (hw _ (tk 107 rfl))) (mvT hZ24 (hw _ (tk 108 rfl))) (mvT hZ24 (hw _ (tk 109 rfl))) (mvT hZ24 (hw _ (tk 110 rfl))) (mvT hZ24 (hw _ (tk 111 rfl))) (mvT hZ24 (hw _ (tk 112 rfl))) (mvT hZ24 (hw _ (tk 86 rfl))) (by decide) (backOf (W := 0) (rmGT0 l Z a0 hw [] a24 t24 k24q s24_0 s24_1 s24_2 T24.heap n0 (Nat.le_trans Z0 (Nat.le_trans (Nat.le_trans (Nat.le_trans K1.1 E11.1) Kq14.1) Kq24.1)) Ea24 Fe24 Fs24 Vt24) hZ24 (hw _ (tk 113 rfl)) (hw _ (tk 55 rfl)) (by decide) (by decide)) q35a q35b q35c (g := (mkF m 164 #[.val (.int p1), .val (.int p2), .val (.int p3), .val (.int p4), .val (.int p5), .val (.int p6), .val (.int (Int32.ofNat lf)), .val (.int (Int32.ofNat rt)), .val (.int (Int32.ofNat tp)), .val (.int (Int32.ofNat bt)), .val (.int (Int32.ofNat xn)), .val (.int 2), .val (.ref cv), .val (.ref a24), .val (.int 1)] [(.int 0), (.ref a24)])) rfl (by rw [hml]; rfl) (Steps.refl _) (argsL := [(.int 0)]) (rest := []) (lenOf pd__I_Ljava_lang_Object_ rfl) rfl (by show 2 * 0 + _ ≤ _; exact Nat.le_of_eq rfl) (hb hby at_164) (fun _ _ => ⟨rfl, eq34, (by decide : 13 + 0 ≤ _), (by decide : 43 + 0 ≤ _)⟩)
  dsimp only [Pt.U, Pt.locs, Pt.cells, Pt.slots] at X35 l35 y35 z35 st35 hQ35
  subst l35 y35 z35
  obtain ⟨rfl, Nq35, eq35⟩ := hQ35
  have N35 := Fr.app N34 Nq35
  obtain ⟨T36, X36, e36, st36⟩ := castY X35 hx hZ24 hown24 (hw _ (tk 127 rfl)) eq35 (Ins.self Es24_0) (g := (mkF m 169 #[.val (.int p1), .val (.int p2), .val (.int p3), .val (.int p4), .val (.int p5), .val (.int p6), .val (.int (Int32.ofNat lf)), .val (.int (Int32.ofNat rt)), .val (.int (Int32.ofNat tp)), .val (.int (Int32.ofNat bt)), .val (.int (Int32.ofNat xn)), .val (.int 2), .val (.ref cv), .val (.ref a24), .val (.int 1)] [(.ref s24_0)])) rfl rfl (hb hby at_169)
  have f38 := (f26.keep Kq24 all0)
  obtain ⟨_, _, ⟨T37, L37, k37, n37⟩, -, X37, ⟨Lc37, hQ37, l37, y37, z37⟩, st37⟩ := Jvm.LawKit.callS X36 hx (y := y_42) hown24 (mvT hZ24 (hw _ (tk 129 rfl))) (mvT hZ24 (hw _ (tk 130 rfl))) (mvT hZ24 (hw _ (tk 131 rfl))) (mvT hZ24 (hw _ (tk 132 rfl))) (by decide) (backOf (W := 0) (rmRKO l Z a0 hw [] G1 G3 s24_0 (0 : Int32) xn (2 : Int32) (1 : Int32) T24.heap n0 (Nat.le_trans Z0 (Nat.le_trans (Nat.le_trans (Nat.le_trans K1.1 E11.1) Kq14.1) Kq24.1)) EN0 f38 hxn ⟨bs24_0, ks24_0, Es24_0, Cs24_0, Vs24_0, Ks24_0, hps24_0, hls24_0⟩ (Or.inl (by decide))) hZ24 (hw _ (tk 132 rfl)) (hw _ (tk 131 rfl)) (by decide) (by decide)) (g := (mkF m 179 #[.val (.int p1), .val (.int p2), .val (.int p3), .val (.int p4), .val (.int p5), .val (.int p6), .val (.int (Int32.ofNat lf)), .val (.int (Int32.ofNat rt)), .val (.int (Int32.ofNat tp)), .val (.int (Int32.ofNat bt)), .val (.int (Int32.ofNat xn)), .val (.int 2), .val (.ref cv), .val (.ref a24), .val (.int 1)] [(.int 1), (.int 2), (.int (Int32.ofNat xn)), (.int 0), (.ref s24_0)])) rfl (by rw [hml]; rfl) (argsL := [(.ref s24_0), (.int 0), (.int (Int32.ofNat xn)), (.int 2), (.int 1)]) (rest := []) (lenOf pd__Ljava_lang_String_IIIZ_Z rfl) rfl (by show 2 * 0 + _ ≤ _; exact Nat.le_of_eq rfl) (hb hby at_179) (fun _ _ => ⟨rfl, e36, (by decide : 13 + 0 ≤ _), (by decide : 43 + 0 ≤ _)⟩)
  dsimp only [Pt.U, Pt.locs, Pt.cells, Pt.slots] at X37 l37 y37 z37 st37 hQ37
  subst l37 y37 z37
  obtain ⟨rfl, Nq37, eq37⟩ := hQ37
  have N37 := Fr.app N35 Nq37
  obtain ⟨cq39, kq39, q39a, q39b, q39c⟩ := isOf hZ24 eq37 Ea24
  obtain ⟨_, _, ⟨T39, L39, k39, n39⟩, -, X39, ⟨Lc39, hQ39, l39, y39, z39⟩, st39⟩ := X37.interfaceBack hx (xi := y_44) (y := y_39) hown24 (mvT hZ24 (hw _ (tk 106 rfl))) (mvT hZ24 (hw _ (tk 107 rfl))) (mvT hZ24 (hw _ (tk 108 rfl))) (mvT hZ24 (hw _ (tk 109 rfl))) (mvT hZ24 (hw _ (tk 110 rfl))) (mvT hZ24 (hw _ (tk 111 rfl))) (mvT hZ24 (hw _ (tk 112 rfl))) (mvT hZ24 (hw _ (tk 86 rfl))) (by decide) (backOf (W := 0) (rmGT1 l Z a0 hw [] a24 t24 k24q s24_0 s24_1 s24_2 T24.heap n0 (Nat.le_trans Z0 (Nat.le_trans (Nat.le_trans (Nat.le_trans K1.1 E11.1) Kq14.1) Kq24.1)) Ea24 Fe24 Fs24 Vt24) hZ24 (hw _ (tk 113 rfl)) (hw _ (tk 55 rfl)) (by decide) (by decide)) q39a q39b q39c (g := (mkF m 188 #[.val (.int p1), .val (.int p2), .val (.int p3), .val (.int p4), .val (.int p5), .val (.int p6), .val (.int (Int32.ofNat lf)), .val (.int (Int32.ofNat rt)), .val (.int (Int32.ofNat tp)), .val (.int (Int32.ofNat bt)), .val (.int (Int32.ofNat xn)), .val (.int 2), .val (.ref cv), .val (.ref a24), .val (.int 1)] [(.int 1), (.ref a24)])) rfl (by rw [hml]; rfl) (Steps.refl _) (argsL := [(.int 1)]) (rest := []) (lenOf pd__I_Ljava_lang_Object_ rfl) rfl (by show 2 * 0 + _ ≤ _; exact Nat.le_of_eq rfl) (hb hby at_188) (fun _ _ => ⟨rfl, eq37, (by decide : 13 + 0 ≤ _), (by decide : 43 + 0 ≤ _)⟩)
  dsimp only [Pt.U, Pt.locs, Pt.cells, Pt.slots] at X39 l39 y39 z39 st39 hQ39
  subst l39 y39 z39
  obtain ⟨rfl, Nq39, eq39⟩ := hQ39
  have N39 := Fr.app N37 Nq39
  obtain ⟨T40, X40, e40, st40⟩ := castY X39 hx hZ24 hown24 (hw _ (tk 127 rfl)) eq39 (Ins.self Es24_1) (g := (mkF m 193 #[.val (.int p1), .val (.int p2), .val (.int p3), .val (.int p4), .val (.int p5), .val (.int p6), .val (.int (Int32.ofNat lf)), .val (.int (Int32.ofNat rt)), .val (.int (Int32.ofNat tp)), .val (.int (Int32.ofNat bt)), .val (.int (Int32.ofNat xn)), .val (.int 2), .val (.ref cv), .val (.ref a24), .val (.int 1)] [(.ref s24_1)])) rfl rfl (hb hby at_193)
  obtain ⟨_, _, ⟨T41, L41, k41, n41⟩, -, X41, ⟨Lc41, hQ41, l41, y41, z41⟩, st41⟩ := Jvm.LawKit.callS X40 hx (y := y_42) hown24 (mvT hZ24 (hw _ (tk 129 rfl))) (mvT hZ24 (hw _ (tk 130 rfl))) (mvT hZ24 (hw _ (tk 131 rfl))) (mvT hZ24 (hw _ (tk 132 rfl))) (by decide) (backOf (W := 0) (rmRKO l Z a0 hw [] G1 G3 s24_1 (1 : Int32) xn (2 : Int32) (1 : Int32) T24.heap n0 (Nat.le_trans Z0 (Nat.le_trans (Nat.le_trans (Nat.le_trans K1.1 E11.1) Kq14.1) Kq24.1)) EN0 f38 hxn ⟨bs24_1, ks24_1, Es24_1, Cs24_1, Vs24_1, Ks24_1, hps24_1, hls24_1⟩ (Or.inl (by decide))) hZ24 (hw _ (tk 132 rfl)) (hw _ (tk 131 rfl)) (by decide) (by decide)) (g := (mkF m 203 #[.val (.int p1), .val (.int p2), .val (.int p3), .val (.int p4), .val (.int p5), .val (.int p6), .val (.int (Int32.ofNat lf)), .val (.int (Int32.ofNat rt)), .val (.int (Int32.ofNat tp)), .val (.int (Int32.ofNat bt)), .val (.int (Int32.ofNat xn)), .val (.int 2), .val (.ref cv), .val (.ref a24), .val (.int 1)] [(.int 1), (.int 2), (.int (Int32.ofNat xn)), (.int 1), (.ref s24_1)])) rfl (by rw [hml]; rfl) (argsL := [(.ref s24_1), (.int 1), (.int (Int32.ofNat xn)), (.int 2), (.int 1)]) (rest := []) (lenOf pd__Ljava_lang_String_IIIZ_Z rfl) rfl (by show 2 * 0 + _ ≤ _; exact Nat.le_of_eq rfl) (hb hby at_203) (fun _ _ => ⟨rfl, e40, (by decide : 13 + 0 ≤ _), (by decide : 43 + 0 ≤ _)⟩)
  dsimp only [Pt.U, Pt.locs, Pt.cells, Pt.slots] at X41 l41 y41 z41 st41 hQ41
  subst l41 y41 z41
  obtain ⟨rfl, Nq41, eq41⟩ := hQ41
  have N41 := Fr.app N39 Nq41
  obtain ⟨cq42, kq42, q42a, q42b, q42c⟩ := isOf hZ24 eq41 Ea24
  obtain ⟨_, _, ⟨T42, L42, k42, n42⟩, -, X42, ⟨Lc42, hQ42, l42, y42, z42⟩, st42⟩ := X41.interfaceBack hx (xi := y_44) (y := y_39) hown24 (mvT hZ24 (hw _ (tk 106 rfl))) (mvT hZ24 (hw _ (tk 107 rfl))) (mvT hZ24 (hw _ (tk 108 rfl))) (mvT hZ24 (hw _ (tk 109 rfl))) (mvT hZ24 (hw _ (tk 110 rfl))) (mvT hZ24 (hw _ (tk 111 rfl))) (mvT hZ24 (hw _ (tk 112 rfl))) (mvT hZ24 (hw _ (tk 86 rfl))) (by decide) (backOf (W := 0) (rmGT2 l Z a0 hw [] a24 t24 k24q s24_0 s24_1 s24_2 T24.heap n0 (Nat.le_trans Z0 (Nat.le_trans (Nat.le_trans (Nat.le_trans K1.1 E11.1) Kq14.1) Kq24.1)) Ea24 Fe24 Fs24 Vt24) hZ24 (hw _ (tk 113 rfl)) (hw _ (tk 55 rfl)) (by decide) (by decide)) q42a q42b q42c (g := (mkF m 212 #[.val (.int p1), .val (.int p2), .val (.int p3), .val (.int p4), .val (.int p5), .val (.int p6), .val (.int (Int32.ofNat lf)), .val (.int (Int32.ofNat rt)), .val (.int (Int32.ofNat tp)), .val (.int (Int32.ofNat bt)), .val (.int (Int32.ofNat xn)), .val (.int 2), .val (.ref cv), .val (.ref a24), .val (.int 1)] [(.int 2), (.ref a24)])) rfl (by rw [hml]; rfl) (Steps.refl _) (argsL := [(.int 2)]) (rest := []) (lenOf pd__I_Ljava_lang_Object_ rfl) rfl (by show 2 * 0 + _ ≤ _; exact Nat.le_of_eq rfl) (hb hby at_212) (fun _ _ => ⟨rfl, eq41, (by decide : 13 + 0 ≤ _), (by decide : 43 + 0 ≤ _)⟩)
  dsimp only [Pt.U, Pt.locs, Pt.cells, Pt.slots] at X42 l42 y42 z42 st42 hQ42
  subst l42 y42 z42
  obtain ⟨rfl, Nq42, eq42⟩ := hQ42
  have N42 := Fr.app N41 Nq42
  obtain ⟨T43, X43, e43, st43⟩ := castY X42 hx hZ24 hown24 (hw _ (tk 127 rfl)) eq42 (Ins.self Es24_2) (g := (mkF m 217 #[.val (.int p1), .val (.int p2), .val (.int p3), .val (.int p4), .val (.int p5), .val (.int p6), .val (.int (Int32.ofNat lf)), .val (.int (Int32.ofNat rt)), .val (.int (Int32.ofNat tp)), .val (.int (Int32.ofNat bt)), .val (.int (Int32.ofNat xn)), .val (.int 2), .val (.ref cv), .val (.ref a24), .val (.int 1)] [(.ref s24_2)])) rfl rfl (hb hby at_217)
  obtain ⟨_, _, ⟨T44, L44, k44, n44⟩, -, X44, ⟨Lc44, hQ44, l44, y44, z44⟩, st44⟩ := Jvm.LawKit.callS X43 hx (y := y_42) hown24 (mvT hZ24 (hw _ (tk 129 rfl))) (mvT hZ24 (hw _ (tk 130 rfl))) (mvT hZ24 (hw _ (tk 131 rfl))) (mvT hZ24 (hw _ (tk 132 rfl))) (by decide) (backOf (W := 0) (rmRKI l Z a0 hw [] G1 G3 s24_2 (2 : Int32) xn (2 : Int32) (1 : Int32) T24.heap n0 (Nat.le_trans Z0 (Nat.le_trans (Nat.le_trans (Nat.le_trans K1.1 E11.1) Kq14.1) Kq24.1)) EN0 f38 hxn ⟨bs24_2, ks24_2, Es24_2, Cs24_2, Vs24_2, Ks24_2, hps24_2, hls24_2⟩ (by decide) (by decide)) hZ24 (hw _ (tk 132 rfl)) (hw _ (tk 131 rfl)) (by decide) (by decide)) (g := (mkF m 227 #[.val (.int p1), .val (.int p2), .val (.int p3), .val (.int p4), .val (.int p5), .val (.int p6), .val (.int (Int32.ofNat lf)), .val (.int (Int32.ofNat rt)), .val (.int (Int32.ofNat tp)), .val (.int (Int32.ofNat bt)), .val (.int (Int32.ofNat xn)), .val (.int 2), .val (.ref cv), .val (.ref a24), .val (.int 1)] [(.int 1), (.int 2), (.int (Int32.ofNat xn)), (.int 2), (.ref s24_2)])) rfl (by rw [hml]; rfl) (argsL := [(.ref s24_2), (.int 2), (.int (Int32.ofNat xn)), (.int 2), (.int 1)]) (rest := []) (lenOf pd__Ljava_lang_String_IIIZ_Z rfl) rfl (by show 2 * 0 + _ ≤ _; exact Nat.le_of_eq rfl) (hb hby at_227) (fun _ _ => ⟨rfl, e43, (by decide : 13 + 0 ≤ _), (by decide : 43 + 0 ≤ _)⟩)
  dsimp only [Pt.U, Pt.locs, Pt.cells, Pt.slots] at X44 l44 y44 z44 st44 hQ44
  subst l44 y44 z44
  obtain ⟨rfl, Nq44, eq44⟩ := hQ44
  have N44 := Fr.app N42 Nq44
  obtain ⟨fs, hr, hrun, hended, hfin⟩ := X44.leaveW hS24 (by rw [eq44]; exact (Nat.le_refl _)) (v := some (.int 1)) (fun h => by rw [Bd.returns] at h; cases h)
  refine ⟨_, _, pre0 _ ?_, hrun, hended, _, _, rfl, ?_, hfin.1, hfin.2.1, hfin.2.2.1, hfin.2.2.2.mono (by decide) (by decide)⟩
  · show Steps _ _ _ (s₁.setTop (mkF m 0 #[.val (.int p1), .val (.int p2), .val (.int p3), .val (.int p4), .val (.int p5), .val (.int p6), .unset, .unset, .unset, .unset, .unset, .unset, .unset, .unset, .unset] [])) _
    refine st1 _ ?_
    show Steps _ _ _ (T1.setTop (mkF m 95 #[.val (.int p1), .val (.int p2), .val (.int p3), .val (.int p4), .val (.int p5), .val (.int p6), .val (.int (Int32.ofNat lf)), .val (.int (Int32.ofNat rt)), .val (.int (Int32.ofNat tp)), .val (.int (Int32.ofNat bt)), .val (.int (Int32.ofNat xn)), .val (.int 2), .val (.ref cv), .unset, .unset] [])) _
    refine XS.aload X1.here hx rfl (hb hby at_95) rfl rfl ?_
    refine XS.iload X1.here hx rfl (hb hby at_97) rfl ?_
    refine XS.iload X1.here hx rfl (hb hby at_99) rfl ?_
    show Steps _ _ _ (T1.setTop (mkF m 101 #[.val (.int p1), .val (.int p2), .val (.int p3), .val (.int p4), .val (.int p5), .val (.int p6), .val (.int (Int32.ofNat lf)), .val (.int (Int32.ofNat rt)), .val (.int (Int32.ofNat tp)), .val (.int (Int32.ofNat bt)), .val (.int (Int32.ofNat xn)), .val (.int 2), .val (.ref cv), .unset, .unset] [(.int 2), (.int (Int32.ofNat xn)), (.ref cv)])) _
    refine st11 _ ?_
    show Steps _ _ _ (T11.setTop (mkF m 103 #[.val (.int p1), .val (.int p2), .val (.int p3), .val (.int p4), .val (.int p5), .val (.int p6), .val (.int (Int32.ofNat lf)), .val (.int (Int32.ofNat rt)), .val (.int (Int32.ofNat tp)), .val (.int (Int32.ofNat bt)), .val (.int (Int32.ofNat xn)), .val (.int 2), .val (.ref cv), .unset, .unset] [(.ref b11), (.int 2), (.int (Int32.ofNat xn)), (.ref cv)])) _
    refine st14.trans ?_
    show Steps _ _ _ (T14.setTop (mkF m 106 #[.val (.int p1), .val (.int p2), .val (.int p3), .val (.int p4), .val (.int p5), .val (.int p6), .val (.int (Int32.ofNat lf)), .val (.int (Int32.ofNat rt)), .val (.int (Int32.ofNat tp)), .val (.int (Int32.ofNat bt)), .val (.int (Int32.ofNat xn)), .val (.int 2), .val (.ref cv), .unset, .unset] [])) _
    refine XS.aload X14.here hx rfl (hb hby at_106) rfl rfl ?_
    show Steps _ _ _ (T14.setTop (mkF m 108 #[.val (.int p1), .val (.int p2), .val (.int p3), .val (.int p4), .val (.int p5), .val (.int p6), .val (.int (Int32.ofNat lf)), .val (.int (Int32.ofNat rt)), .val (.int (Int32.ofNat tp)), .val (.int (Int32.ofNat bt)), .val (.int (Int32.ofNat xn)), .val (.int 2), .val (.ref cv), .unset, .unset] [(.ref cv)])) _
    refine st24.trans ?_
    show Steps _ _ _ (T24.setTop (mkF m 111 #[.val (.int p1), .val (.int p2), .val (.int p3), .val (.int p4), .val (.int p5), .val (.int p6), .val (.int (Int32.ofNat lf)), .val (.int (Int32.ofNat rt)), .val (.int (Int32.ofNat tp)), .val (.int (Int32.ofNat bt)), .val (.int (Int32.ofNat xn)), .val (.int 2), .val (.ref cv), .unset, .unset] [(.ref a24)])) _
    refine XS.astore X24.here hx rfl (hb hby at_111) rfl rfl (l' := #[.val (.int p1), .val (.int p2), .val (.int p3), .val (.int p4), .val (.int p5), .val (.int p6), .val (.int (Int32.ofNat lf)), .val (.int (Int32.ofNat rt)), .val (.int (Int32.ofNat tp)), .val (.int (Int32.ofNat bt)), .val (.int (Int32.ofNat xn)), .val (.int 2), .val (.ref cv), .val (.ref a24), .unset]) rfl ?_
    refine XS.iload X24.here hx rfl (hb hby at_113) rfl ?_
    refine XS.iload X24.here hx rfl (hb hby at_115) rfl ?_
    refine XS.icmpNo X24.here hx rfl (hb hby at_117) rfl (flt (own_lo (by omega) (by omega) (by omega))).2.2.1 ?_
    refine XS.iload X24.here hx rfl (hb hby at_120) rfl ?_
    refine XS.iload X24.here hx rfl (hb hby at_122) rfl ?_
    refine XS.icmpNo X24.here hx rfl (hb hby at_124) rfl (tlt ((own_lt (by omega) (by omega)).mpr u2)).2.1 ?_
    refine XS.iload X24.here hx rfl (hb hby at_127) rfl ?_
    refine XS.iload X24.here hx rfl (hb hby at_129) rfl ?_
    refine XS.icmpNo X24.here hx rfl (hb hby at_131) rfl (flt (own_lo (a := 2) (by omega) (by omega) (by omega))).2.2.1 ?_
    refine XS.iload X24.here hx rfl (hb hby at_134) rfl ?_
    show Steps _ _ _ (T24.setTop (mkF m 136 #[.val (.int p1), .val (.int p2), .val (.int p3), .val (.int p4), .val (.int p5), .val (.int p6), .val (.int (Int32.ofNat lf)), .val (.int (Int32.ofNat rt)), .val (.int (Int32.ofNat tp)), .val (.int (Int32.ofNat bt)), .val (.int (Int32.ofNat xn)), .val (.int 2), .val (.ref cv), .val (.ref a24), .unset] [(.int 2)])) _
    refine XS.iload X24.here hx rfl (hb hby at_136) rfl ?_
    refine XS.icmpNo X24.here hx rfl (hb hby at_138) rfl (tlt ((own_lt (i := 2) (by omega) (by omega)).mpr u4)).2.1 ?_
    refine XS.iconst X24.here hx rfl (hb hby at_141) ?_
    refine XS.goto X24.here hx rfl (pc0 := 142) (pc' := 146) rfl (hb hby at_142) (by decide) (by decide) ?_
    refine XS.istore X24.here hx rfl (hb hby at_146) rfl (l' := #[.val (.int p1), .val (.int p2), .val (.int p3), .val (.int p4), .val (.int p5), .val (.int p6), .val (.int (Int32.ofNat lf)), .val (.int (Int32.ofNat rt)), .val (.int (Int32.ofNat tp)), .val (.int (Int32.ofNat bt)), .val (.int (Int32.ofNat xn)), .val (.int 2), .val (.ref cv), .val (.ref a24), .val (.int 1)]) rfl ?_
    refine XS.aload X24.here hx rfl (hb hby at_148) rfl rfl ?_
    show Steps _ _ _ (T24.setTop (mkF m 150 #[.val (.int p1), .val (.int p2), .val (.int p3), .val (.int p4), .val (.int p5), .val (.int p6), .val (.int (Int32.ofNat lf)), .val (.int (Int32.ofNat rt)), .val (.int (Int32.ofNat tp)), .val (.int (Int32.ofNat bt)), .val (.int (Int32.ofNat xn)), .val (.int 2), .val (.ref cv), .val (.ref a24), .val (.int 1)] [(.ref a24)])) _
    refine st34.trans ?_
    show Steps _ _ _ (T34.setTop (mkF m 155 #[.val (.int p1), .val (.int p2), .val (.int p3), .val (.int p4), .val (.int p5), .val (.int p6), .val (.int (Int32.ofNat lf)), .val (.int (Int32.ofNat rt)), .val (.int (Int32.ofNat tp)), .val (.int (Int32.ofNat bt)), .val (.int (Int32.ofNat xn)), .val (.int 2), .val (.ref cv), .val (.ref a24), .val (.int 1)] [(.int 3)])) _
    refine XS.iconst X34.here hx rfl (hb hby at_155) ?_
    refine XS.icmpYes X34.here hx rfl (pc0 := 156) (pc' := 161) rfl (hb hby at_156) rfl (teq (by decide : (3 : Int32) = (3 : Int32))).1 (by decide) (by decide) ?_
    refine XS.aload X34.here hx rfl (hb hby at_161) rfl rfl ?_
    refine XS.iconst X34.here hx rfl (hb hby at_163) ?_
    show Steps _ _ _ (T34.setTop (mkF m 164 #[.val (.int p1), .val (.int p2), .val (.int p3), .val (.int p4), .val (.int p5), .val (.int p6), .val (.int (Int32.ofNat lf)), .val (.int (Int32.ofNat rt)), .val (.int (Int32.ofNat tp)), .val (.int (Int32.ofNat bt)), .val (.int (Int32.ofNat xn)), .val (.int 2), .val (.ref cv), .val (.ref a24), .val (.int 1)] [(.int 0), (.ref a24)])) _
    refine st35.trans ?_
    show Steps _ _ _ (T35.setTop (mkF m 169 #[.val (.int p1), .val (.int p2), .val (.int p3), .val (.int p4), .val (.int p5), .val (.int p6), .val (.int (Int32.ofNat lf)), .val (.int (Int32.ofNat rt)), .val (.int (Int32.ofNat tp)), .val (.int (Int32.ofNat bt)), .val (.int (Int32.ofNat xn)), .val (.int 2), .val (.ref cv), .val (.ref a24), .val (.int 1)] [(.ref s24_0)])) _
    refine st36 _ ?_
    show Steps _ _ _ (T36.setTop (mkF m 172 #[.val (.int p1), .val (.int p2), .val (.int p3), .val (.int p4), .val (.int p5), .val (.int p6), .val (.int (Int32.ofNat lf)), .val (.int (Int32.ofNat rt)), .val (.int (Int32.ofNat tp)), .val (.int (Int32.ofNat bt)), .val (.int (Int32.ofNat xn)), .val (.int 2), .val (.ref cv), .val (.ref a24), .val (.int 1)] [(.ref s24_0)])) _
    refine XS.iconst X36.here hx rfl (hb hby at_172) ?_
    refine XS.iload X36.here hx rfl (hb hby at_173) rfl ?_
    refine XS.iload X36.here hx rfl (hb hby at_175) rfl ?_
    refine XS.iload X36.here hx rfl (hb hby at_177) rfl ?_
    show Steps _ _ _ (T36.setTop (mkF m 179 #[.val (.int p1), .val (.int p2), .val (.int p3), .val (.int p4), .val (.int p5), .val (.int p6), .val (.int (Int32.ofNat lf)), .val (.int (Int32.ofNat rt)), .val (.int (Int32.ofNat tp)), .val (.int (Int32.ofNat bt)), .val (.int (Int32.ofNat xn)), .val (.int 2), .val (.ref cv), .val (.ref a24), .val (.int 1)] [(.int 1), (.int 2), (.int (Int32.ofNat xn)), (.int 0), (.ref s24_0)])) _
    refine st37 _ ?_
    show Steps _ _ _ (T37.setTop (mkF m 182 #[.val (.int p1), .val (.int p2), .val (.int p3), .val (.int p4), .val (.int p5), .val (.int p6), .val (.int (Int32.ofNat lf)), .val (.int (Int32.ofNat rt)), .val (.int (Int32.ofNat tp)), .val (.int (Int32.ofNat bt)), .val (.int (Int32.ofNat xn)), .val (.int 2), .val (.ref cv), .val (.ref a24), .val (.int 1)] [(.int 1)])) _
    refine XS.ifNo X37.here hx rfl (hb hby at_182) rfl ((if0 _ _).trans (feq (by decide : ¬ ((1 : Int32) = (0 : Int32)))).1) ?_
    refine XS.aload X37.here hx rfl (hb hby at_185) rfl rfl ?_
    refine XS.iconst X37.here hx rfl (hb hby at_187) ?_
    show Steps _ _ _ (T37.setTop (mkF m 188 #[.val (.int p1), .val (.int p2), .val (.int p3), .val (.int p4), .val (.int p5), .val (.int p6), .val (.int (Int32.ofNat lf)), .val (.int (Int32.ofNat rt)), .val (.int (Int32.ofNat tp)), .val (.int (Int32.ofNat bt)), .val (.int (Int32.ofNat xn)), .val (.int 2), .val (.ref cv), .val (.ref a24), .val (.int 1)] [(.int 1), (.ref a24)])) _
    refine st39.trans ?_
    show Steps _ _ _ (T39.setTop (mkF m 193 #[.val (.int p1), .val (.int p2), .val (.int p3), .val (.int p4), .val (.int p5), .val (.int p6), .val (.int (Int32.ofNat lf)), .val (.int (Int32.ofNat rt)), .val (.int (Int32.ofNat tp)), .val (.int (Int32.ofNat bt)), .val (.int (Int32.ofNat xn)), .val (.int 2), .val (.ref cv), .val (.ref a24), .val (.int 1)] [(.ref s24_1)])) _
    refine st40 _ ?_
    show Steps _ _ _ (T40.setTop (mkF m 196 #[.val (.int p1), .val (.int p2), .val (.int p3), .val (.int p4), .val (.int p5), .val (.int p6), .val (.int (Int32.ofNat lf)), .val (.int (Int32.ofNat rt)), .val (.int (Int32.ofNat tp)), .val (.int (Int32.ofNat bt)), .val (.int (Int32.ofNat xn)), .val (.int 2), .val (.ref cv), .val (.ref a24), .val (.int 1)] [(.ref s24_1)])) _
    refine XS.iconst X40.here hx rfl (hb hby at_196) ?_
    refine XS.iload X40.here hx rfl (hb hby at_197) rfl ?_
    refine XS.iload X40.here hx rfl (hb hby at_199) rfl ?_
    refine XS.iload X40.here hx rfl (hb hby at_201) rfl ?_
    show Steps _ _ _ (T40.setTop (mkF m 203 #[.val (.int p1), .val (.int p2), .val (.int p3), .val (.int p4), .val (.int p5), .val (.int p6), .val (.int (Int32.ofNat lf)), .val (.int (Int32.ofNat rt)), .val (.int (Int32.ofNat tp)), .val (.int (Int32.ofNat bt)), .val (.int (Int32.ofNat xn)), .val (.int 2), .val (.ref cv), .val (.ref a24), .val (.int 1)] [(.int 1), (.int 2), (.int (Int32.ofNat xn)), (.int 1), (.ref s24_1)])) _
    refine st41 _ ?_
    show Steps _ _ _ (T41.setTop (mkF m 206 #[.val (.int p1), .val (.int p2), .val (.int p3), .val (.int p4), .val (.int p5), .val (.int p6), .val (.int (Int32.ofNat lf)), .val (.int (Int32.ofNat rt)), .val (.int (Int32.ofNat tp)), .val (.int (Int32.ofNat bt)), .val (.int (Int32.ofNat xn)), .val (.int 2), .val (.ref cv), .val (.ref a24), .val (.int 1)] [(.int 1)])) _
    refine XS.ifNo X41.here hx rfl (hb hby at_206) rfl ((if0 _ _).trans (feq (by decide : ¬ ((1 : Int32) = (0 : Int32)))).1) ?_
    refine XS.aload X41.here hx rfl (hb hby at_209) rfl rfl ?_
    refine XS.iconst X41.here hx rfl (hb hby at_211) ?_
    show Steps _ _ _ (T41.setTop (mkF m 212 #[.val (.int p1), .val (.int p2), .val (.int p3), .val (.int p4), .val (.int p5), .val (.int p6), .val (.int (Int32.ofNat lf)), .val (.int (Int32.ofNat rt)), .val (.int (Int32.ofNat tp)), .val (.int (Int32.ofNat bt)), .val (.int (Int32.ofNat xn)), .val (.int 2), .val (.ref cv), .val (.ref a24), .val (.int 1)] [(.int 2), (.ref a24)])) _
    refine st42.trans ?_
    show Steps _ _ _ (T42.setTop (mkF m 217 #[.val (.int p1), .val (.int p2), .val (.int p3), .val (.int p4), .val (.int p5), .val (.int p6), .val (.int (Int32.ofNat lf)), .val (.int (Int32.ofNat rt)), .val (.int (Int32.ofNat tp)), .val (.int (Int32.ofNat bt)), .val (.int (Int32.ofNat xn)), .val (.int 2), .val (.ref cv), .val (.ref a24), .val (.int 1)] [(.ref s24_2)])) _
    refine st43 _ ?_
    show Steps _ _ _ (T43.setTop (mkF m 220 #[.val (.int p1), .val (.int p2), .val (.int p3), .val (.int p4), .val (.int p5), .val (.int p6), .val (.int (Int32.ofNat lf)), .val (.int (Int32.ofNat rt)), .val (.int (Int32.ofNat tp)), .val (.int (Int32.ofNat bt)), .val (.int (Int32.ofNat xn)), .val (.int 2), .val (.ref cv), .val (.ref a24), .val (.int 1)] [(.ref s24_2)])) _
    refine XS.iconst X43.here hx rfl (hb hby at_220) ?_
    refine XS.iload X43.here hx rfl (hb hby at_221) rfl ?_
    refine XS.iload X43.here hx rfl (hb hby at_223) rfl ?_
    refine XS.iload X43.here hx rfl (hb hby at_225) rfl ?_
    show Steps _ _ _ (T43.setTop (mkF m 227 #[.val (.int p1), .val (.int p2), .val (.int p3), .val (.int p4), .val (.int p5), .val (.int p6), .val (.int (Int32.ofNat lf)), .val (.int (Int32.ofNat rt)), .val (.int (Int32.ofNat tp)), .val (.int (Int32.ofNat bt)), .val (.int (Int32.ofNat xn)), .val (.int 2), .val (.ref cv), .val (.ref a24), .val (.int 1)] [(.int 1), (.int 2), (.int (Int32.ofNat xn)), (.int 2), (.ref s24_2)])) _
    refine st44 _ ?_
    show Steps _ _ _ (T44.setTop (mkF m 230 #[.val (.int p1), .val (.int p2), .val (.int p3), .val (.int p4), .val (.int p5), .val (.int p6), .val (.int (Int32.ofNat lf)), .val (.int (Int32.ofNat rt)), .val (.int (Int32.ofNat tp)), .val (.int (Int32.ofNat bt)), .val (.int (Int32.ofNat xn)), .val (.int 2), .val (.ref cv), .val (.ref a24), .val (.int 1)] [(.int 1)])) _
    refine XS.ifNo X44.here hx rfl (hb hby at_230) rfl ((if0 _ _).trans (feq (by decide : ¬ ((1 : Int32) = (0 : Int32)))).1) ?_
    refine XS.iconst X44.here hx rfl (hb hby at_233) ?_
    refine XS.goto X44.here hx rfl (pc0 := 234) (pc' := 238) rfl (hb hby at_234) (by decide) (by decide) ?_
    show Steps _ _ _ (T44.setTop (mkF m 238 #[.val (.int p1), .val (.int p2), .val (.int p3), .val (.int p4), .val (.int p5), .val (.int p6), .val (.int (Int32.ofNat lf)), .val (.int (Int32.ofNat rt)), .val (.int (Int32.ofNat tp)), .val (.int (Int32.ofNat bt)), .val (.int (Int32.ofNat xn)), .val (.int 2), .val (.ref cv), .val (.ref a24), .val (.int 1)] [(.int 1)])) _
    exact retN X44 hx (t := .boolean) Bd.returns (by simp) (hb hby at_238) hr
  · show Q0 Z  h0 n0 _ T44.heap _
    rw [eq44]
    exact ⟨rfl, N44⟩
theorem rm0 (l : Launch) (Z : State) (a0 : Array Value) (hw : ∀ d ∈ tables_1, d.before a0 Z = true) (ws : List Jvm.Cond) (G1 : Int32) (G3 : Value) (p1 p2 p3 p4 p5 p6 : Int32) (h0 : Heap) (n0 : Nat) (Z0 : n0 ≤ h0.size) (EN : own_env Z G1 G3) (X00 : Old Z n0 h0) :
    MetFree l x (head1 (Jvm.Cond.code x code maxLocals ret :: ws) room_1) (fun a_ U_ => a_ = #[(.int p1), (.int p2), (.int p3), (.int p4), (.int p5), (.int p6)] ∧ Z.Warmed39 U_.vm ∧ U_.heap = h0 ∧ CHv Z consts_1 U_.vm h0) (fun _ _ _ _ _ => True) (fun _ U_ o_ U1_ => ∃ v_ L_, o_ = .returned v_ ∧ Q0 Z h0 n0 v_ U1_.heap L_ ∧ ReturnedEndW U_ o_ U1_ L_ 32 2176) := by
  obtain ⟨lf, b1, e1⟩ := own_rem p1 (5 : Int32) 5 (by decide) (by decide) (by decide)
  obtain ⟨rt, b2, e2⟩ := own_rem p2 (5 : Int32) 5 (by decide) (by decide) (by decide)
  obtain ⟨tp, b3, e3⟩ := own_rem p3 (4 : Int32) 4 (by decide) (by decide) (by decide)
  obtain ⟨bt, b4, e4⟩ := own_rem p4 (4 : Int32) 4 (by decide) (by decide) (by decide)
  obtain ⟨xn, b5, e5⟩ := own_rem p5 (4 : Int32) 4 (by decide) (by decide) (by decide)
  obtain ⟨y, b6, e6⟩ := own_rem p6 (3 : Int32) 3 (by decide) (by decide) (by decide)
  by_cases hin : lf ≤ xn ∧ xn < rt ∧ tp ≤ y ∧ y < bt
  · obtain ⟨h1, h2, h3, h4⟩ := hin
    match y, b6, e6, h3, h4 with
    | 0, _, e6, h3, h4 => exact rm0_0 l Z a0 hw ws G1 G3 p1 p2 p3 p4 p5 p6 lf rt tp bt xn h0 n0 Z0 EN X00 e1 e2 e3 e4 e5 e6 (by omega) (by omega) (by omega) (by omega) b5 h1 h2 h3 h4
    | 1, _, e6, h3, h4 => exact rm0_1 l Z a0 hw ws G1 G3 p1 p2 p3 p4 p5 p6 lf rt tp bt xn h0 n0 Z0 EN X00 e1 e2 e3 e4 e5 e6 (by omega) (by omega) (by omega) (by omega) b5 h1 h2 h3 h4
    | 2, _, e6, h3, h4 => exact rm0_2 l Z a0 hw ws G1 G3 p1 p2 p3 p4 p5 p6 lf rt tp bt xn h0 n0 Z0 EN X00 e1 e2 e3 e4 e5 e6 (by omega) (by omega) (by omega) (by omega) b5 h1 h2 h3 h4
  · exact rm0_n l Z a0 hw ws G1 G3 p1 p2 p3 p4 p5 p6 lf rt tp bt xn y h0 n0 Z0 EN X00 e1 e2 e3 e4 e5 e6 (by omega) (by omega) (by omega) (by omega) b5 b6 hin
theorem comes_1 {Post : Tables → Env → Array Value → State → Outcome → State → Prop} (hpost : ∀ tb e args s v u, (limb_1_1.after args s (.returned v) u = true ∧ limb_1_2.after args s (.returned v) u = true ∧ True) → ReturnedEndW s (.returned v) u (Jvm.fieldLocs frame_1_writes args s ++ Jvm.arrayLocs frame_1_arrays args s ++ Jvm.staticLocs frame_1_statics s) 32 2176 → Post tb e args s (.returned v) u) :
    ArmFor flags0 classFile x code maxLocals ret World_1 tables_1 room_1 Calls_1 rest_1 Pre_1 Post := by
  intro l hfl _ _ p e ha hc hk s m args below hf hA hF happ hP
  obtain ⟨hcalls, hrest, hpre⟩ := hP
  obtain ⟨-, -, -, hnamed, -, -, -, hat⟩ := (Spec.applies_iff hf).mp happ
  obtain ⟨hg, hn⟩ := and_e (Cond.before_iff.mp (show (Jvm.Cond.and given_1 narrow_1).before args s = true from hpre))
  obtain ⟨g1, g2⟩ := and_e hg
  obtain ⟨ga0, gb0⟩ := and_e g2
  obtain ⟨ga1, gb1⟩ := and_e gb0
  obtain ⟨ga2, gb2⟩ := and_e gb1
  obtain ⟨ga3, gb3⟩ := and_e gb2
  obtain ⟨ga4, gb4⟩ := and_e gb3
  obtain ⟨w0, w1, w2, w3, w4, w5, rfl⟩ : ∃ w0 w1 w2 w3 w4 w5 : Value, args = #[w0, w1, w2, w3, w4, w5] := by
    have hs : args.size = 6 := by simpa [Cond.value, given_1] using g1
    obtain ⟨L⟩ := args
    match L, hs with
    | [w0, w1, w2, w3, w4, w5], _ => exact ⟨w0, w1, w2, w3, w4, w5, rfl⟩
  have hw := fun d (hd : d ∈ tables_1) => atoms_spec (ws := Jvm.Cond.code x code maxLocals ret :: tables_1) hat d (List.mem_cons_of_mem _ hd)
  have hfit : Fit s := fun {y c} hc i hi => by
    obtain ⟨ha, rfl⟩ := Array.getElem?_eq_some_iff.mp hc
    have q := List.all_eq_true.mp ((Array.all_eq_true_iff_forall_mem.mp hF) _ (Array.getElem_mem ha)) i (List.mem_range.mpr hi)
    simpa [Array.getElem?_eq_getElem hi] using q
  obtain ⟨hsets, hown0⟩ := atoms_of _ (rest_1_c_eq ▸ (show rest_1_c.before _ s = true from hrest))
  obtain ⟨i0, ei0⟩ := is_v ga0
  obtain rfl : w0 = (.int i0) := Option.some.inj ei0
  obtain ⟨i1, ei1⟩ := is_v ga1
  obtain rfl : w1 = (.int i1) := Option.some.inj ei1
  obtain ⟨i2, ei2⟩ := is_v ga2
  obtain rfl : w2 = (.int i2) := Option.some.inj ei2
  obtain ⟨i3, ei3⟩ := is_v ga3
  obtain rfl : w3 = (.int i3) := Option.some.inj ei3
  obtain ⟨i4, ei4⟩ := is_v ga4
  obtain rfl : w4 = (.int i4) := Option.some.inj ei4
  obtain ⟨i5, ei5⟩ := is_v gb4
  obtain rfl : w5 = (.int i5) := Option.some.inj ei5
  obtain ⟨G1, eG1⟩ := is_v (Cond.before_iff.mp (hsets _ (tk 1 rfl)))
  have O2 := Sta.start eG1 (Or.inl (hsets _ (tk 0 rfl)))
  have P5 : ¬ (G1 = (0 : Int32)) := gotF (Cond.eq_ints eG1 (Term.int_eval (0))) (not_v (Cond.before_iff.mp (hsets _ (tk 2 rfl))))
  obtain ⟨G3, eG3, rG3⟩ := isR_v (Cond.before_iff.mp (hsets _ (tk 8 rfl)))
  have O4 := Sta.start eG3 (Or.inl (hsets _ (tk 7 rfl)))
  obtain ⟨n, o, h1, h2, h3, _, L, rfl, ⟨rfl, N⟩, hq⟩ := rm0 l s _ hw tables_1 G1 G3 i0 i1 i2 i3 i4 i5 s.heap s.heap.size (Nat.le_refl _) ⟨O2, P5, O4, rG3⟩ (Old.start s) p e ha hc hk s m _ below hf ((Spec.applies_iff_loose hf).mp happ).1 ⟨rfl, State.Warmed39.refl s, rfl, CHv.start (own_EW hw) hcalls.1 (hsets _ (tk 2 rfl)) (hw _ (tk 38 rfl)) (hw _ (tk 37 rfl))⟩ trivial
  refine ⟨n, _, h1, h2, h3, hpost _ _ _ _ _ _ ⟨Cond.after_iff.mpr rfl, Cond.after_iff.mpr (eq_i res_at (Term.int_eval (1)) rfl), trivial⟩ ⟨hq.1, hq.2.1, hq.2.2.1, (hq.2.2.2.sift fun y hy => Or.inr (N y hy)).mono (by decide) (by decide)⟩⟩
theorem main_1_1 : Claimed_1_1 := comes_1 fun _ _ _ _ _ _ h hF => ⟨h.1, hF⟩
theorem main_1_2 : Claimed_1_2 := comes_1 fun _ _ _ _ _ _ h hF => ⟨h.2.1, hF⟩
end Jvm.Pilot.@@N@@
namespace Jvm.Pilot.@@N@@
open Jvm Jvm.ClassFile Sem Op Lib Jvm.Free Jvm.Stand Jvm.Pilot.@@N@@.Jvm.D
/-! MADE BY PROGRAM (witnessworld.py) out of the Statement's table words and the real class files: 31 classes; the members and pool entries that the words name. The judged class is class 1, her method 2. -/
namespace start1
open Jvm.ClassFile
def u (s : String) : CpInfo := .utf8 (stringToUtf16 s)
/-- a pool by its gaps: so many unusable entries, then the entry; so many at the end -/
def gap : Nat → List CpInfo → List CpInfo
  | 0, r => r
  | n + 1, r => .unusable :: gap n r
def poolList (es : List (Nat × CpInfo)) (last : Nat) : List CpInfo := es.foldr (fun e r => gap e.1 (e.2 :: r)) (gap last [])
def pool (es : List (Nat × CpInfo)) (last : Nat) : Array CpInfo := ⟨poolList es last⟩
def fileOf (pool : Array CpInfo) (this : Nat) (attrs : Array Attribute := #[]) (ms : Array MethodInfo := #[]) (fl : Nat := 33) (sup : Nat := 0) (ifs : Array Nat := #[]) (fds : Array FieldInfo := #[]) : ClassFile where
  minorVersion := 0
  majorVersion := 65
  constantPool := pool
  accessFlags := fl
  thisClass := this
  superClass := sup
  interfaces := ifs
  fields := fds
  methods := ms
  attributes := attrs
def plain (name : String) (sup : Option ClassId) : Class where
  name := name
  kind := .ordinary
  loader := none
  accessFlags := 33
  super := sup
  interfaces := #[]
  cf := none
  fields := #[]
  methods := #[]
  instanceTypes := #[]
  staticTypes := #[]
  resolved := #[]
  callSites := []
  init := .initialized
  statics := none
  mirror := none

def pool0 : Array CpInfo := pool [(5, u "<init>"), (0, u "()V"), (1, .class_ 10), (1, u "java/lang/Object")] 113

def k0c0 : Code := { maxStack := 0, maxLocals := 1, code := object_method_1_code, exceptionTable := #[], attributes := #[] }
def k0m0 : Method := { name := "<init>", desc := "()V", sig := { parameters := [], returnType := none }, accessFlags := 1, code := some k0c0 }
/-- java/lang/Object -/
def k0 : Class := { plain "java/lang/Object" none with
  accessFlags := 33
  interfaces := #[]
  cf := some (fileOf pool0 8 #[] #[{ accessFlags := 1, nameIndex := 5, descriptorIndex := 6, attributes := #[] }] 33 0 #[] #[])
  fields := #[]
  methods := #[k0m0]
  instanceTypes := #[]
  staticTypes := #[]
  resolved := Array.replicate 124 none
  statics := none }

def pool1 : Array CpInfo := pool [(2, .class_ 4), (1, u "java/lang/Object"), (0, u "<init>"), (0, u "()V"), (0, .methodref 8 9), (0, .class_ 10), (0, .nameAndType 11 12), (0, u "java/lang/String"), (0, u "length"), (0, u "()I"), (0, .methodref 8 14), (0, .nameAndType 15 16), (0, u "charAt"), (0, u "(I)C"), (0, .integer 2147483647), (0, .class_ 19), (0, u "dev/treefold/text/Canvas"), (0, .methodref 18 21), (0, .nameAndType 5 22), (0, u "(II)V"), (0, .methodref 18 24), (0, .nameAndType 25 26), (0, u "clip"), (0, u "(IIII)V"), (0, .string 28), (0, u "Q"), (0, .methodref 18 30), (0, .nameAndType 31 32), (0, u "write"), (0, u "(IILjava/lang/String;)V"), (0, .methodref 18 34), (0, .nameAndType 35 36), (0, u "lines"), (0, u "()Ljava/util/List;"), (0, .interfaceMethodref 38 39), (0, .class_ 40), (0, .nameAndType 41 12), (0, u "java/util/List"), (0, u "size"), (0, .interfaceMethodref 38 43), (0, .nameAndType 44 45), (0, u "get"), (0, u "(I)Ljava/lang/Object;"), (0, .methodref 47 48), (0, .class_ 49), (0, .nameAndType 50 51), (0, u "dev/treefold/text/CanvasClipPinLaw"), (0, u "rowOk"), (0, u "(Ljava/lang/String;IIIZ)Z"), (3, u "law"), (0, u "(IIIIII)Z")] 2

def k1m0 : Method := { name := "<init>", desc := "()V", sig := { parameters := [], returnType := none }, accessFlags := 1, code := none }
def k1c1 : Code := { maxStack := 3, maxLocals := 5, code := method_2_code, exceptionTable := #[], attributes := #[] }
def k1m1 : Method := { name := "rowOk", desc := "(Ljava/lang/String;IIIZ)Z", sig := { parameters := [(.object "java/lang/String"), .int, .int, .int, .boolean], returnType := some .boolean }, accessFlags := 10, code := some k1c1 }
def k1c2 : Code := { maxStack := 6, maxLocals := 15, code := code, exceptionTable := #[], attributes := #[] }
def k1m2 : Method := { name := "law", desc := "(IIIIII)Z", sig := { parameters := [.int, .int, .int, .int, .int, .int], returnType := some .boolean }, accessFlags := 9, code := some k1c2 }
/-- dev/treefold/text/CanvasClipPinLaw -/
def k1 : Class := { plain "dev/treefold/text/CanvasClipPinLaw" (some 0) with
  accessFlags := 49
  interfaces := #[]
  cf := some (fileOf pool1 47 #[] #[{ accessFlags := 1, nameIndex := 5, descriptorIndex := 6, attributes := #[] }, { accessFlags := 10, nameIndex := 50, descriptorIndex := 51, attributes := #[] }, { accessFlags := 9, nameIndex := 55, descriptorIndex := 56, attributes := #[] }] 49 2 #[] #[])
  fields := #[]
  methods := #[k1m0, k1m1, k1m2]
  instanceTypes := #[]
  staticTypes := #[]
  resolved := Array.replicate 59 none
  statics := none }

def pool2 : Array CpInfo := pool [(1, .methodref 2 3), (0, .class_ 4), (0, .nameAndType 5 6), (0, u "java/lang/Object"), (0, u "<init>"), (0, u "()V"), (9, .fieldref 17 18), (0, .class_ 19), (0, .nameAndType 20 21), (0, u "dev/treefold/text/Canvas"), (0, u "width"), (0, u "I"), (0, .class_ 23), (0, u "[I"), (0, .fieldref 17 25), (0, .nameAndType 26 27), (0, u "rows"), (0, u "[[I"), (0, .methodref 17 29), (0, .nameAndType 30 6), (0, u "unclip"), (0, .fieldref 17 32), (0, .nameAndType 33 21), (0, u "clipTop"), (0, .fieldref 17 35), (0, .nameAndType 36 21), (0, u "clipBottom"), (0, .fieldref 17 38), (0, .nameAndType 39 21), (0, u "clipLeft"), (0, .methodref 41 42), (0, .class_ 43), (0, .nameAndType 44 45), (0, u "java/lang/Math"), (0, u "max"), (0, u "(II)I"), (0, .methodref 47 48), (0, .class_ 49), (0, .nameAndType 50 51), (0, u "java/lang/String"), (0, u "length"), (0, u "()I"), (0, .methodref 47 53), (0, .nameAndType 54 45), (0, u "codePointCount"), (0, .fieldref 17 56), (0, .nameAndType 57 21), (0, u "clipRight"), (0, .methodref 41 59), (0, .nameAndType 60 61), (0, u "min"), (0, u "(JJ)J"), (0, .methodref 17 63), (0, .nameAndType 64 65), (0, u "row"), (0, u "(II)[I"), (0, .methodref 47 67), (0, .nameAndType 68 45), (0, u "offsetByCodePoints"), (0, .methodref 47 70), (0, .nameAndType 71 72), (0, u "codePointAt"), (0, u "(I)I"), (0, .methodref 74 75), (0, .class_ 76), (0, .nameAndType 77 72), (0, u "java/lang/Character"), (0, u "charCount"), (0, .methodref 17 79), (0, .nameAndType 80 81), (0, u "showsAsBlank"), (0, u "(I)Z"), (0, .class_ 83), (0, u "java/util/ArrayList"), (0, .methodref 82 85), (0, .nameAndType 5 86), (0, u "(I)V"), (0, .string 88), (0, u ""), (0, .methodref 47 90), (0, .nameAndType 5 91), (0, u "([III)V"), (0, .interfaceMethodref 93 94), (0, .class_ 95), (0, .nameAndType 96 97), (0, u "java/util/List"), (0, u "add"), (0, u "(Ljava/lang/Object;)Z"), (0, .methodref 17 99), (0, .nameAndType 100 101), (0, u "clip"), (0, u "(IIII)V"), (0, .methodref 74 103), (0, .nameAndType 104 81), (0, u "isISOControl"), (0, .long 2), (1, .methodref 41 108), (0, .nameAndType 44 61), (1, .class_ 112), (1, u "java/util/Arrays"), (2, .methodref 110 116), (0, .nameAndType 117 118), (0, u "fill"), (0, u "([IIII)V"), (0, u "BLANK"), (2, u "(II)V"), (3, u "write"), (0, u "(IILjava/lang/String;)V"), (0, u "lines"), (0, u "()Ljava/util/List;")] 21

def k2c0 : Code := { maxStack := 4, maxLocals := 3, code := prog_104_method_1_code, exceptionTable := #[], attributes := #[] }
def k2m0 : Method := { name := "<init>", desc := "(II)V", sig := { parameters := [.int, .int], returnType := none }, accessFlags := 1, code := some k2c0 }
def k2c1 : Code := { maxStack := 5, maxLocals := 12, code := prog_104_method_2_code, exceptionTable := #[], attributes := #[] }
def k2m1 : Method := { name := "write", desc := "(IILjava/lang/String;)V", sig := { parameters := [.int, .int, (.object "java/lang/String")], returnType := none }, accessFlags := 1, code := some k2c1 }
def k2c2 : Code := { maxStack := 6, maxLocals := 7, code := prog_104_method_3_code, exceptionTable := #[], attributes := #[] }
def k2m2 : Method := { name := "lines", desc := "()Ljava/util/List;", sig := { parameters := [], returnType := some (.object "java/util/List") }, accessFlags := 1, code := some k2c2 }
def k2c3 : Code := { maxStack := 2, maxLocals := 5, code := prog_104_method_6_code, exceptionTable := #[], attributes := #[] }
def k2m3 : Method := { name := "clip", desc := "(IIII)V", sig := { parameters := [.int, .int, .int, .int], returnType := none }, accessFlags := 0, code := some k2c3 }
def k2c4 : Code := { maxStack := 5, maxLocals := 1, code := prog_104_method_7_code, exceptionTable := #[], attributes := #[] }
def k2m4 : Method := { name := "unclip", desc := "()V", sig := { parameters := [], returnType := none }, accessFlags := 0, code := some k2c4 }
def k2c5 : Code := { maxStack := 2, maxLocals := 1, code := prog_104_method_8_code, exceptionTable := #[], attributes := #[] }
def k2m5 : Method := { name := "showsAsBlank", desc := "(I)Z", sig := { parameters := [.int], returnType := some .boolean }, accessFlags := 8, code := some k2c5 }
def k2c6 : Code := { maxStack := 8, maxLocals := 6, code := prog_104_method_9_code, exceptionTable := #[], attributes := #[] }
def k2m6 : Method := { name := "row", desc := "(II)[I", sig := { parameters := [.int, .int], returnType := some (.array .int) }, accessFlags := 2, code := some k2c6 }
/-- dev/treefold/text/Canvas -/
def k2 : Class := { plain "dev/treefold/text/Canvas" (some 0) with
  accessFlags := 49
  interfaces := #[]
  cf := some (fileOf pool2 17 #[] #[{ accessFlags := 1, nameIndex := 5, descriptorIndex := 122, attributes := #[] }, { accessFlags := 1, nameIndex := 126, descriptorIndex := 127, attributes := #[] }, { accessFlags := 1, nameIndex := 128, descriptorIndex := 129, attributes := #[] }, { accessFlags := 0, nameIndex := 100, descriptorIndex := 101, attributes := #[] }, { accessFlags := 0, nameIndex := 30, descriptorIndex := 6, attributes := #[] }, { accessFlags := 8, nameIndex := 80, descriptorIndex := 81, attributes := #[] }, { accessFlags := 2, nameIndex := 64, descriptorIndex := 65, attributes := #[] }] 49 2 #[] #[{ accessFlags := 26, nameIndex := 119, descriptorIndex := 21, attributes := #[] }, { accessFlags := 18, nameIndex := 20, descriptorIndex := 21, attributes := #[] }, { accessFlags := 18, nameIndex := 26, descriptorIndex := 27, attributes := #[] }, { accessFlags := 2, nameIndex := 39, descriptorIndex := 21, attributes := #[] }, { accessFlags := 2, nameIndex := 33, descriptorIndex := 21, attributes := #[] }, { accessFlags := 2, nameIndex := 57, descriptorIndex := 21, attributes := #[] }, { accessFlags := 2, nameIndex := 36, descriptorIndex := 21, attributes := #[] }])
  fields := #[{ name := "BLANK", type := .int, accessFlags := 26, slot := 0, constantValue := 0 }, { name := "width", type := .int, accessFlags := 18, slot := 0, constantValue := 0 }, { name := "rows", type := (.array (.array .int)), accessFlags := 18, slot := 1, constantValue := 0 }, { name := "clipLeft", type := .int, accessFlags := 2, slot := 2, constantValue := 0 }, { name := "clipTop", type := .int, accessFlags := 2, slot := 3, constantValue := 0 }, { name := "clipRight", type := .int, accessFlags := 2, slot := 4, constantValue := 0 }, { name := "clipBottom", type := .int, accessFlags := 2, slot := 5, constantValue := 0 }]
  methods := #[k2m0, k2m1, k2m2, k2m3, k2m4, k2m5, k2m6]
  instanceTypes := #[.int, (.array (.array .int)), .int, .int, .int, .int]
  staticTypes := #[.int]
  resolved := Array.replicate 151 none
  statics := none }

def pool3 : Array CpInfo := pool [(1, .class_ 2), (0, u "java/io/Serializable"), (0, .class_ 4), (0, u "java/lang/Object")] 2

/-- java/io/Serializable -/
def k3 : Class := { plain "java/io/Serializable" (some 0) with
  accessFlags := 1537
  interfaces := #[]
  cf := some (fileOf pool3 1 #[] #[] 1537 3 #[] #[])
  fields := #[]
  methods := #[]
  instanceTypes := #[]
  staticTypes := #[]
  resolved := Array.replicate 7 none
  statics := none }

def pool4 : Array CpInfo := pool [(1, .class_ 2), (0, u "java/lang/Comparable"), (0, .class_ 4), (0, u "java/lang/Object")] 7

/-- java/lang/Comparable -/
def k4 : Class := { plain "java/lang/Comparable" (some 0) with
  accessFlags := 1537
  interfaces := #[]
  cf := some (fileOf pool4 1 #[] #[] 1537 3 #[] #[])
  fields := #[]
  methods := #[]
  instanceTypes := #[]
  staticTypes := #[]
  resolved := Array.replicate 12 none
  statics := none }

def pool5 : Array CpInfo := pool [(2, .class_ 4), (1, u "java/lang/CharSequence"), (0, u "length"), (0, u "()I"), (40, .class_ 48), (0, u "java/lang/CharSequence$1CodePointIterator"), (10, .class_ 60), (0, u "java/lang/CharSequence$1CharIterator"), (5, .class_ 67), (0, u "java/lang/Object")] 63

def k5m0 : Method := { name := "length", desc := "()I", sig := { parameters := [], returnType := some .int }, accessFlags := 1025, code := none }
/-- java/lang/CharSequence -/
def k5 : Class := { plain "java/lang/CharSequence" (some 0) with
  accessFlags := 1537
  interfaces := #[]
  cf := some (fileOf pool5 2 #[.nestMembers #[47, 59]] #[{ accessFlags := 1025, nameIndex := 5, descriptorIndex := 6, attributes := #[] }] 1537 66 #[] #[])
  fields := #[]
  methods := #[k5m0]
  instanceTypes := #[]
  staticTypes := #[]
  resolved := Array.replicate 131 none
  statics := none }

def pool6 : Array CpInfo := pool [(1, .class_ 2), (0, u "java/lang/constant/Constable"), (0, .class_ 4), (0, u "java/lang/Object")] 6

/-- java/lang/constant/Constable -/
def k6 : Class := { plain "java/lang/constant/Constable" (some 0) with
  accessFlags := 1537
  interfaces := #[]
  cf := some (fileOf pool6 1 #[] #[] 1537 3 #[] #[])
  fields := #[]
  methods := #[]
  instanceTypes := #[]
  staticTypes := #[]
  resolved := Array.replicate 11 none
  statics := none }

def pool7 : Array CpInfo := pool [(1, .class_ 2), (0, u "java/lang/constant/ConstantDesc"), (0, .class_ 4), (0, u "java/lang/Object")] 32

/-- java/lang/constant/ConstantDesc -/
def k7 : Class := { plain "java/lang/constant/ConstantDesc" (some 0) with
  accessFlags := 1537
  interfaces := #[]
  cf := some (fileOf pool7 1 #[] #[] 1537 3 #[] #[])
  fields := #[]
  methods := #[]
  instanceTypes := #[]
  staticTypes := #[]
  resolved := Array.replicate 37 none
  statics := none }

def pool8 : Array CpInfo := pool [(1, .methodref 2 3), (0, .class_ 4), (0, .nameAndType 5 6), (0, u "java/lang/Object"), (0, u "<init>"), (0, u "()V"), (2, .fieldref 10 11), (0, .class_ 12), (0, .nameAndType 13 14), (0, u "java/lang/String"), (0, u "value"), (0, u "[B"), (0, .fieldref 10 16), (0, .nameAndType 17 18), (0, u "coder"), (0, u "B"), (2, u "hash"), (0, u "I"), (2, u "hashIsZero"), (0, u "Z"), (7, .methodref 10 35), (0, .nameAndType 36 37), (0, u "checkBoundsOffCount"), (0, u "(III)I"), (0, .fieldref 10 39), (0, .nameAndType 40 26), (0, u "COMPACT_STRINGS"), (0, .methodref 42 43), (0, .class_ 44), (0, .nameAndType 45 46), (0, u "java/lang/StringUTF16"), (0, u "compress"), (0, u "([III)[B"), (0, .methodref 42 48), (0, .nameAndType 49 50), (0, u "coderFromArrayLen"), (0, u "([BI)B"), (28, .class_ 81), (1, u "java/util/Objects"), (25, .class_ 109), (1, u "java/lang/StringLatin1"), (32, u "()Z"), (191, u "()I"), (0, .methodref 10 336), (0, .nameAndType 17 337), (0, u "()B"), (25, u "([BI)C"), (1, .class_ 367), (1, u "java/lang/Character"), (23, u "(II)V"), (35, u "(I)C"), (64, .methodref 10 493), (0, .nameAndType 494 142), (0, u "isLatin1"), (0, .methodref 107 496), (0, .nameAndType 497 363), (0, u "charAt"), (1, .methodref 10 500), (0, .nameAndType 501 391), (0, u "checkIndex"), (2, u "codePointAt"), (0, .methodref 10 506), (0, .nameAndType 507 334), (0, u "length"), (3, .methodref 79 512), (0, .nameAndType 513 37), (0, u "checkFromToIndex"), (2, u "codePointCount"), (0, .methodref 365 518), (0, .nameAndType 519 520), (0, u "offsetByCodePoints"), (0, u "(Ljava/lang/CharSequence;II)I"), (54, .class_ 576), (0, u "java/lang/CharSequence"), (22, u "CASE_INSENSITIVE_ORDER"), (0, u "Ljava/util/Comparator;"), (35, u "(II)I"), (128, u "(I)I"), (287, .fieldref 1054 1055), (0, .class_ 1056), (0, .nameAndType 1057 1058), (0, u "jdk/internal/util/Preconditions"), (0, u "SIOOBE_FORMATTER"), (0, u "Ljava/util/function/BiFunction;"), (0, .methodref 1054 1060), (0, .nameAndType 501 1061), (0, u "(IILjava/util/function/BiFunction;)I"), (2, u "(IIILjava/util/function/BiFunction;)I"), (0, .methodref 1054 1066), (0, .nameAndType 1067 1064), (0, u "checkFromIndexSize"), (33, u "serialPersistentFields"), (0, u "[Ljava/io/ObjectStreamField;"), (0, .class_ 1104), (0, u "java/lang/String$CaseInsensitiveComparator"), (1, .class_ 1107), (0, u "java/io/Serializable"), (0, .class_ 1109), (0, u "java/lang/Comparable"), (0, .class_ 1111), (0, u "java/lang/constant/Constable"), (0, .class_ 1113), (0, u "java/lang/constant/ConstantDesc"), (2, u "serialVersionUID"), (0, u "J"), (3, u "REPL"), (0, u "C"), (2, u "LATIN1"), (1, u "UTF16"), (11, u "([III)V")] 311

def k8m0 : Method := { name := "<init>", desc := "()V", sig := { parameters := [], returnType := none }, accessFlags := 1, code := none }
def k8c1 : Code := { maxStack := 4, maxLocals := 5, code := jdk_42_method_6_code, exceptionTable := #[], attributes := #[] }
def k8m1 : Method := { name := "<init>", desc := "([III)V", sig := { parameters := [(.array .int), .int, .int], returnType := none }, accessFlags := 1, code := some k8c1 }
def k8c2 : Code := { maxStack := 2, maxLocals := 1, code := jdk_42_method_54_code, exceptionTable := #[], attributes := #[] }
def k8m2 : Method := { name := "length", desc := "()I", sig := { parameters := [], returnType := some .int }, accessFlags := 1, code := some k8c2 }
def k8c3 : Code := { maxStack := 2, maxLocals := 2, code := jdk_42_method_56_code, exceptionTable := #[], attributes := #[] }
def k8m3 : Method := { name := "charAt", desc := "(I)C", sig := { parameters := [.int], returnType := some .char }, accessFlags := 1, code := some k8c3 }
def k8c4 : Code := { maxStack := 3, maxLocals := 3, code := jdk_42_method_57_code, exceptionTable := #[], attributes := #[] }
def k8m4 : Method := { name := "codePointAt", desc := "(I)I", sig := { parameters := [.int], returnType := some .int }, accessFlags := 1, code := some k8c4 }
def k8c5 : Code := { maxStack := 3, maxLocals := 3, code := jdk_42_method_59_code, exceptionTable := #[], attributes := #[] }
def k8m5 : Method := { name := "codePointCount", desc := "(II)I", sig := { parameters := [.int, .int], returnType := some .int }, accessFlags := 1, code := some k8c5 }
def k8c6 : Code := { maxStack := 3, maxLocals := 3, code := jdk_42_method_60_code, exceptionTable := #[], attributes := #[] }
def k8m6 : Method := { name := "offsetByCodePoints", desc := "(II)I", sig := { parameters := [.int, .int], returnType := some .int }, accessFlags := 1, code := some k8c6 }
def k8c7 : Code := { maxStack := 1, maxLocals := 1, code := jdk_42_method_152_code, exceptionTable := #[], attributes := #[] }
def k8m7 : Method := { name := "coder", desc := "()B", sig := { parameters := [], returnType := some .byte }, accessFlags := 0, code := some k8c7 }
def k8c8 : Code := { maxStack := 1, maxLocals := 1, code := jdk_42_method_154_code, exceptionTable := #[], attributes := #[] }
def k8m8 : Method := { name := "isLatin1", desc := "()Z", sig := { parameters := [], returnType := some .boolean }, accessFlags := 0, code := some k8c8 }
def k8c9 : Code := { maxStack := 3, maxLocals := 2, code := jdk_42_method_155_code, exceptionTable := #[], attributes := #[] }
def k8m9 : Method := { name := "checkIndex", desc := "(II)V", sig := { parameters := [.int, .int], returnType := none }, accessFlags := 8, code := some k8c9 }
def k8c10 : Code := { maxStack := 4, maxLocals := 3, code := jdk_42_method_157_code, exceptionTable := #[], attributes := #[] }
def k8m10 : Method := { name := "checkBoundsOffCount", desc := "(III)I", sig := { parameters := [.int, .int, .int], returnType := some .int }, accessFlags := 8, code := some k8c10 }
/-- java/lang/String -/
def k8 : Class := { plain "java/lang/String" (some 0) with
  accessFlags := 49
  interfaces := #[3, 4, 5, 6, 7]
  cf := some (fileOf pool8 10 #[.nestMembers #[1103]] #[{ accessFlags := 1, nameIndex := 5, descriptorIndex := 6, attributes := #[] }, { accessFlags := 1, nameIndex := 5, descriptorIndex := 1139, attributes := #[] }, { accessFlags := 1, nameIndex := 507, descriptorIndex := 334, attributes := #[] }, { accessFlags := 1, nameIndex := 497, descriptorIndex := 427, attributes := #[] }, { accessFlags := 1, nameIndex := 504, descriptorIndex := 765, attributes := #[] }, { accessFlags := 1, nameIndex := 516, descriptorIndex := 636, attributes := #[] }, { accessFlags := 1, nameIndex := 519, descriptorIndex := 636, attributes := #[] }, { accessFlags := 0, nameIndex := 17, descriptorIndex := 337, attributes := #[] }, { accessFlags := 0, nameIndex := 494, descriptorIndex := 142, attributes := #[] }, { accessFlags := 8, nameIndex := 501, descriptorIndex := 391, attributes := #[] }, { accessFlags := 8, nameIndex := 36, descriptorIndex := 37, attributes := #[] }] 49 2 #[1106, 1108, 575, 1110, 1112] #[{ accessFlags := 18, nameIndex := 13, descriptorIndex := 14, attributes := #[] }, { accessFlags := 18, nameIndex := 17, descriptorIndex := 18, attributes := #[] }, { accessFlags := 2, nameIndex := 21, descriptorIndex := 22, attributes := #[] }, { accessFlags := 2, nameIndex := 25, descriptorIndex := 26, attributes := #[] }, { accessFlags := 26, nameIndex := 1116, descriptorIndex := 1117, attributes := #[] }, { accessFlags := 24, nameIndex := 40, descriptorIndex := 26, attributes := #[] }, { accessFlags := 26, nameIndex := 1101, descriptorIndex := 1102, attributes := #[] }, { accessFlags := 26, nameIndex := 1121, descriptorIndex := 1122, attributes := #[] }, { accessFlags := 25, nameIndex := 599, descriptorIndex := 600, attributes := #[] }, { accessFlags := 24, nameIndex := 1125, descriptorIndex := 18, attributes := #[] }, { accessFlags := 24, nameIndex := 1127, descriptorIndex := 18, attributes := #[] }])
  fields := #[{ name := "value", type := (.array .byte), accessFlags := 18, slot := 0, constantValue := 0 }, { name := "coder", type := .byte, accessFlags := 18, slot := 1, constantValue := 0 }, { name := "hash", type := .int, accessFlags := 2, slot := 2, constantValue := 0 }, { name := "hashIsZero", type := .boolean, accessFlags := 2, slot := 3, constantValue := 0 }, { name := "serialVersionUID", type := .long, accessFlags := 26, slot := 0, constantValue := 0 }, { name := "COMPACT_STRINGS", type := .boolean, accessFlags := 24, slot := 1, constantValue := 0 }, { name := "serialPersistentFields", type := (.array (.object "java/io/ObjectStreamField")), accessFlags := 26, slot := 2, constantValue := 0 }, { name := "REPL", type := .char, accessFlags := 26, slot := 3, constantValue := 0 }, { name := "CASE_INSENSITIVE_ORDER", type := (.object "java/util/Comparator"), accessFlags := 25, slot := 4, constantValue := 0 }, { name := "LATIN1", type := .byte, accessFlags := 24, slot := 5, constantValue := 0 }, { name := "UTF16", type := .byte, accessFlags := 24, slot := 6, constantValue := 0 }]
  methods := #[k8m0, k8m1, k8m2, k8m3, k8m4, k8m5, k8m6, k8m7, k8m8, k8m9, k8m10]
  instanceTypes := #[(.array .byte), .byte, .int, .boolean]
  staticTypes := #[.long, .boolean, (.array (.object "java/io/ObjectStreamField")), .char, (.object "java/util/Comparator"), .byte, .byte]
  resolved := Array.replicate 1451 none
  statics := some 0 }

def pool9 : Array CpInfo := pool [(8, .class_ 10), (1, u "java/lang/Iterable"), (24, .class_ 36), (0, u "java/lang/Object")] 25

/-- java/lang/Iterable -/
def k9 : Class := { plain "java/lang/Iterable" (some 0) with
  accessFlags := 1537
  interfaces := #[]
  cf := some (fileOf pool9 8 #[] #[] 1537 35 #[] #[])
  fields := #[]
  methods := #[]
  instanceTypes := #[]
  staticTypes := #[]
  resolved := Array.replicate 62 none
  statics := none }

def pool10 : Array CpInfo := pool [(10, .class_ 12), (1, u "java/util/Collection"), (47, .class_ 61), (0, u "java/lang/Object"), (0, .class_ 63), (0, u "java/lang/Iterable")] 51

/-- java/util/Collection -/
def k10 : Class := { plain "java/util/Collection" (some 0) with
  accessFlags := 1537
  interfaces := #[9]
  cf := some (fileOf pool10 10 #[] #[] 1537 60 #[62] #[])
  fields := #[]
  methods := #[]
  instanceTypes := #[]
  staticTypes := #[]
  resolved := Array.replicate 115 none
  statics := none }

def pool11 : Array CpInfo := pool [(1, .methodref 2 3), (0, .class_ 4), (0, .nameAndType 5 6), (0, u "java/lang/Object"), (0, u "<init>"), (0, u "()V"), (1, .class_ 10), (1, u "java/util/AbstractCollection"), (66, .class_ 78), (0, u "java/util/Collection")] 81

def k11c0 : Code := { maxStack := 1, maxLocals := 1, code := jdk_22_method_1_code, exceptionTable := #[], attributes := #[] }
def k11m0 : Method := { name := "<init>", desc := "()V", sig := { parameters := [], returnType := none }, accessFlags := 4, code := some k11c0 }
/-- java/util/AbstractCollection -/
def k11 : Class := { plain "java/util/AbstractCollection" (some 0) with
  accessFlags := 1057
  interfaces := #[10]
  cf := some (fileOf pool11 8 #[] #[{ accessFlags := 4, nameIndex := 5, descriptorIndex := 6, attributes := #[] }] 1057 2 #[77] #[])
  fields := #[]
  methods := #[k11m0]
  instanceTypes := #[]
  staticTypes := #[]
  resolved := Array.replicate 160 none
  statics := none }

def pool12 : Array CpInfo := pool [(8, .class_ 10), (1, u "java/util/SequencedCollection"), (15, .class_ 27), (0, u "java/lang/Object"), (0, .class_ 29), (0, u "java/util/Collection")] 27

/-- java/util/SequencedCollection -/
def k12 : Class := { plain "java/util/SequencedCollection" (some 0) with
  accessFlags := 1537
  interfaces := #[10]
  cf := some (fileOf pool12 8 #[] #[] 1537 26 #[28] #[])
  fields := #[]
  methods := #[]
  instanceTypes := #[]
  staticTypes := #[]
  resolved := Array.replicate 57 none
  statics := none }

def pool13 : Array CpInfo := pool [(8, .class_ 10), (1, u "java/util/List"), (49, u "add"), (3, u "(Ljava/lang/Object;)Z"), (10, u "get"), (0, u "(I)Ljava/lang/Object;"), (2, u "size"), (0, u "()I"), (22, .class_ 104), (0, u "java/lang/Object"), (15, .class_ 121), (0, u "java/util/SequencedCollection")] 129

def k13m0 : Method := { name := "size", desc := "()I", sig := { parameters := [], returnType := some .int }, accessFlags := 1025, code := none }
def k13m1 : Method := { name := "add", desc := "(Ljava/lang/Object;)Z", sig := { parameters := [(.object "java/lang/Object")], returnType := some .boolean }, accessFlags := 1025, code := none }
def k13m2 : Method := { name := "get", desc := "(I)Ljava/lang/Object;", sig := { parameters := [.int], returnType := some (.object "java/lang/Object") }, accessFlags := 1025, code := none }
/-- java/util/List -/
def k13 : Class := { plain "java/util/List" (some 0) with
  accessFlags := 1537
  interfaces := #[12]
  cf := some (fileOf pool13 8 #[] #[{ accessFlags := 1025, nameIndex := 79, descriptorIndex := 80, attributes := #[] }, { accessFlags := 1025, nameIndex := 60, descriptorIndex := 64, attributes := #[] }, { accessFlags := 1025, nameIndex := 75, descriptorIndex := 76, attributes := #[] }] 1537 103 #[120] #[])
  fields := #[]
  methods := #[k13m0, k13m1, k13m2]
  instanceTypes := #[]
  staticTypes := #[]
  resolved := Array.replicate 251 none
  statics := none }

def pool14 : Array CpInfo := pool [(1, .methodref 2 3), (0, .class_ 4), (0, .nameAndType 5 6), (0, u "java/util/AbstractCollection"), (0, u "<init>"), (0, u "()V"), (0, .fieldref 8 9), (0, .class_ 10), (0, .nameAndType 11 12), (0, u "java/util/AbstractList"), (0, u "modCount"), (0, u "I"), (64, .class_ 78), (0, u "java/util/AbstractList$Itr"), (3, .class_ 83), (0, u "java/util/AbstractList$ListItr"), (9, .class_ 94), (0, u "java/util/AbstractList$RandomAccessSubList"), (3, .class_ 99), (0, u "java/util/AbstractList$SubList"), (33, .class_ 134), (0, u "java/util/List"), (73, .class_ 209), (0, u "java/util/AbstractList$SubList$1"), (0, .class_ 211), (0, u "java/util/AbstractList$RandomAccessSpliterator")] 6

def k14c0 : Code := { maxStack := 2, maxLocals := 1, code := jdk_39_method_1_code, exceptionTable := #[], attributes := #[] }
def k14m0 : Method := { name := "<init>", desc := "()V", sig := { parameters := [], returnType := none }, accessFlags := 4, code := some k14c0 }
/-- java/util/AbstractList -/
def k14 : Class := { plain "java/util/AbstractList" (some 11) with
  accessFlags := 1057
  interfaces := #[13]
  cf := some (fileOf pool14 8 #[.nestMembers #[93, 98, 208, 210, 82, 77]] #[{ accessFlags := 4, nameIndex := 5, descriptorIndex := 6, attributes := #[] }] 1057 2 #[133] #[{ accessFlags := 132, nameIndex := 11, descriptorIndex := 12, attributes := #[] }])
  fields := #[{ name := "modCount", type := .int, accessFlags := 132, slot := 0, constantValue := 0 }]
  methods := #[k14m0]
  instanceTypes := #[.int]
  staticTypes := #[]
  resolved := Array.replicate 218 none
  statics := none }

def pool15 : Array CpInfo := pool [(1, .class_ 2), (0, u "java/util/RandomAccess"), (0, .class_ 4), (0, u "java/lang/Object")] 2

/-- java/util/RandomAccess -/
def k15 : Class := { plain "java/util/RandomAccess" (some 0) with
  accessFlags := 1537
  interfaces := #[]
  cf := some (fileOf pool15 1 #[] #[] 1537 3 #[] #[])
  fields := #[]
  methods := #[]
  instanceTypes := #[]
  staticTypes := #[]
  resolved := Array.replicate 7 none
  statics := none }

def pool16 : Array CpInfo := pool [(1, .class_ 2), (0, u "java/lang/Cloneable"), (0, .class_ 4), (0, u "java/lang/Object")] 2

/-- java/lang/Cloneable -/
def k16 : Class := { plain "java/lang/Cloneable" (some 0) with
  accessFlags := 1537
  interfaces := #[]
  cf := some (fileOf pool16 1 #[] #[] 1537 3 #[] #[])
  fields := #[]
  methods := #[]
  instanceTypes := #[]
  staticTypes := #[]
  resolved := Array.replicate 7 none
  statics := none }

def pool17 : Array CpInfo := pool [(1, .methodref 2 3), (0, .class_ 4), (0, .nameAndType 5 6), (0, u "java/util/AbstractList"), (0, u "<init>"), (0, u "()V"), (0, .class_ 8), (0, u "java/lang/Object"), (0, .fieldref 10 11), (0, .class_ 12), (0, .nameAndType 13 14), (0, u "java/util/ArrayList"), (0, u "elementData"), (0, u "[Ljava/lang/Object;"), (2, u "EMPTY_ELEMENTDATA"), (23, u "DEFAULTCAPACITY_EMPTY_ELEMENTDATA"), (6, .fieldref 10 49), (0, .nameAndType 50 51), (0, u "size"), (0, u "I"), (11, .fieldref 10 64), (0, .nameAndType 65 51), (0, u "modCount"), (18, u "(II)I"), (11, u "(Ljava/lang/Object;)Z"), (21, .methodref 119 120), (0, .class_ 121), (0, .nameAndType 122 84), (0, u "java/util/Objects"), (0, u "checkIndex"), (0, .methodref 10 124), (0, .nameAndType 13 125), (0, u "(I)Ljava/lang/Object;"), (5, .methodref 10 132), (0, .nameAndType 133 134), (0, u "add"), (0, u "(Ljava/lang/Object;[Ljava/lang/Object;I)V"), (3, u "(I)V"), (9, .class_ 149), (0, u "java/util/List"), (36, u "()I"), (75, .class_ 263), (0, u "java/util/ArrayList$ListItr"), (3, .class_ 268), (0, u "java/util/ArrayList$Itr"), (7, .class_ 277), (0, u "java/util/ArrayList$SubList"), (12, .class_ 291), (0, u "java/util/ArrayList$ArrayListSpliterator"), (37, .class_ 330), (0, u "java/util/RandomAccess"), (0, .class_ 332), (0, u "java/lang/Cloneable"), (0, .class_ 334), (0, u "java/io/Serializable"), (0, u "serialVersionUID"), (0, u "J"), (3, u "DEFAULT_CAPACITY"), (40, u "get"), (118, .class_ 501), (0, u "java/util/ArrayList$SubList$2"), (0, .class_ 503), (0, u "java/util/ArrayList$SubList$1")] 5

def k17c0 : Code := { maxStack := 4, maxLocals := 2, code := jdk_38_method_1_code, exceptionTable := #[], attributes := #[] }
def k17m0 : Method := { name := "<init>", desc := "(I)V", sig := { parameters := [.int], returnType := none }, accessFlags := 1, code := some k17c0 }
def k17m1 : Method := { name := "<init>", desc := "()V", sig := { parameters := [], returnType := none }, accessFlags := 1, code := none }
def k17c2 : Code := { maxStack := 1, maxLocals := 1, code := jdk_38_method_8_code, exceptionTable := #[], attributes := #[] }
def k17m2 : Method := { name := "size", desc := "()I", sig := { parameters := [], returnType := some .int }, accessFlags := 1, code := some k17c2 }
def k17c3 : Code := { maxStack := 2, maxLocals := 2, code := jdk_38_method_18_code, exceptionTable := #[], attributes := #[] }
def k17m3 : Method := { name := "elementData", desc := "(I)Ljava/lang/Object;", sig := { parameters := [.int], returnType := some (.object "java/lang/Object") }, accessFlags := 0, code := some k17c3 }
def k17c4 : Code := { maxStack := 2, maxLocals := 2, code := jdk_38_method_20_code, exceptionTable := #[], attributes := #[] }
def k17m4 : Method := { name := "get", desc := "(I)Ljava/lang/Object;", sig := { parameters := [.int], returnType := some (.object "java/lang/Object") }, accessFlags := 1, code := some k17c4 }
def k17c5 : Code := { maxStack := 3, maxLocals := 4, code := jdk_38_method_24_code, exceptionTable := #[], attributes := #[] }
def k17m5 : Method := { name := "add", desc := "(Ljava/lang/Object;[Ljava/lang/Object;I)V", sig := { parameters := [(.object "java/lang/Object"), (.array (.object "java/lang/Object")), .int], returnType := none }, accessFlags := 2, code := some k17c5 }
def k17c6 : Code := { maxStack := 4, maxLocals := 2, code := jdk_38_method_25_code, exceptionTable := #[], attributes := #[] }
def k17m6 : Method := { name := "add", desc := "(Ljava/lang/Object;)Z", sig := { parameters := [(.object "java/lang/Object")], returnType := some .boolean }, accessFlags := 1, code := some k17c6 }
/-- java/util/ArrayList -/
def k17 : Class := { plain "java/util/ArrayList" (some 14) with
  accessFlags := 33
  interfaces := #[13, 15, 16, 3]
  cf := some (fileOf pool17 10 #[.nestMembers #[290, 276, 500, 502, 262, 267]] #[{ accessFlags := 1, nameIndex := 5, descriptorIndex := 138, attributes := #[] }, { accessFlags := 1, nameIndex := 5, descriptorIndex := 6, attributes := #[] }, { accessFlags := 1, nameIndex := 50, descriptorIndex := 186, attributes := #[] }, { accessFlags := 0, nameIndex := 13, descriptorIndex := 125, attributes := #[] }, { accessFlags := 1, nameIndex := 381, descriptorIndex := 125, attributes := #[] }, { accessFlags := 2, nameIndex := 133, descriptorIndex := 134, attributes := #[] }, { accessFlags := 1, nameIndex := 133, descriptorIndex := 96, attributes := #[] }] 33 2 #[148, 329, 331, 333] #[{ accessFlags := 26, nameIndex := 335, descriptorIndex := 336, attributes := #[] }, { accessFlags := 26, nameIndex := 340, descriptorIndex := 51, attributes := #[] }, { accessFlags := 26, nameIndex := 17, descriptorIndex := 14, attributes := #[] }, { accessFlags := 26, nameIndex := 41, descriptorIndex := 14, attributes := #[] }, { accessFlags := 128, nameIndex := 13, descriptorIndex := 14, attributes := #[] }, { accessFlags := 2, nameIndex := 50, descriptorIndex := 51, attributes := #[] }])
  fields := #[{ name := "serialVersionUID", type := .long, accessFlags := 26, slot := 0, constantValue := 0 }, { name := "DEFAULT_CAPACITY", type := .int, accessFlags := 26, slot := 1, constantValue := 0 }, { name := "EMPTY_ELEMENTDATA", type := (.array (.object "java/lang/Object")), accessFlags := 26, slot := 2, constantValue := 0 }, { name := "DEFAULTCAPACITY_EMPTY_ELEMENTDATA", type := (.array (.object "java/lang/Object")), accessFlags := 26, slot := 3, constantValue := 0 }, { name := "elementData", type := (.array (.object "java/lang/Object")), accessFlags := 128, slot := 1, constantValue := 0 }, { name := "size", type := .int, accessFlags := 2, slot := 2, constantValue := 0 }]
  methods := #[k17m0, k17m1, k17m2, k17m3, k17m4, k17m5, k17m6]
  instanceTypes := #[.int, (.array (.object "java/lang/Object")), .int]
  staticTypes := #[.long, .int, (.array (.object "java/lang/Object")), (.array (.object "java/lang/Object"))]
  resolved := Array.replicate 509 none
  statics := none }

def pool18 : Array CpInfo := pool [(2, .class_ 4), (1, u "java/lang/Object"), (0, u "<init>"), (0, u "()V"), (35, .class_ 44), (1, u "java/util/Objects"), (60, .methodref 106 107), (0, .class_ 108), (0, .nameAndType 109 110), (0, u "jdk/internal/util/Preconditions"), (0, u "checkIndex"), (0, u "(IILjava/util/function/BiFunction;)I"), (0, .methodref 106 112), (0, .nameAndType 113 114), (0, u "checkFromToIndex"), (0, u "(IIILjava/util/function/BiFunction;)I"), (56, u "(II)I"), (3, u "(III)I")] 8

def k18m0 : Method := { name := "<init>", desc := "()V", sig := { parameters := [], returnType := none }, accessFlags := 2, code := none }
def k18c1 : Code := { maxStack := 3, maxLocals := 2, code := jdk_31_method_17_code, exceptionTable := #[], attributes := #[] }
def k18m1 : Method := { name := "checkIndex", desc := "(II)I", sig := { parameters := [.int, .int], returnType := some .int }, accessFlags := 9, code := some k18c1 }
def k18c2 : Code := { maxStack := 4, maxLocals := 3, code := jdk_31_method_18_code, exceptionTable := #[], attributes := #[] }
def k18m2 : Method := { name := "checkFromToIndex", desc := "(III)I", sig := { parameters := [.int, .int, .int], returnType := some .int }, accessFlags := 9, code := some k18c2 }
/-- java/util/Objects -/
def k18 : Class := { plain "java/util/Objects" (some 0) with
  accessFlags := 49
  interfaces := #[]
  cf := some (fileOf pool18 42 #[] #[{ accessFlags := 2, nameIndex := 5, descriptorIndex := 6, attributes := #[] }, { accessFlags := 9, nameIndex := 109, descriptorIndex := 171, attributes := #[] }, { accessFlags := 9, nameIndex := 113, descriptorIndex := 175, attributes := #[] }] 49 2 #[] #[])
  fields := #[]
  methods := #[k18m0, k18m1, k18m2]
  instanceTypes := #[]
  staticTypes := #[]
  resolved := Array.replicate 184 none
  statics := none }

def pool19 : Array CpInfo := pool [(2, .class_ 4), (1, u "java/lang/Object"), (0, u "<init>"), (0, u "()V"), (17, .class_ 26), (1, u "jdk/internal/util/Preconditions"), (6, u "checkIndex"), (13, u "checkFromToIndex"), (1, u "checkFromIndexSize"), (5, .class_ 56), (0, u "jdk/internal/util/Preconditions$4"), (57, .class_ 115), (0, u "jdk/internal/util/Preconditions$1"), (7, u "SIOOBE_FORMATTER"), (0, u "Ljava/util/function/BiFunction;"), (0, .class_ 126), (0, u "jdk/internal/util/Preconditions$2"), (3, u "AIOOBE_FORMATTER"), (0, .class_ 132), (0, u "jdk/internal/util/Preconditions$3"), (3, u "IOOBE_FORMATTER"), (41, u "(IILjava/util/function/BiFunction;)I"), (4, u "(IIILjava/util/function/BiFunction;)I")] 10

def k19m0 : Method := { name := "<init>", desc := "()V", sig := { parameters := [], returnType := none }, accessFlags := 1, code := none }
def k19c1 : Code := { maxStack := 3, maxLocals := 3, code := jdk_41_method_11_code, exceptionTable := #[], attributes := #[] }
def k19m1 : Method := { name := "checkIndex", desc := "(IILjava/util/function/BiFunction;)I", sig := { parameters := [.int, .int, (.object "java/util/function/BiFunction")], returnType := some .int }, accessFlags := 9, code := some k19c1 }
def k19c2 : Code := { maxStack := 4, maxLocals := 4, code := jdk_41_method_12_code, exceptionTable := #[], attributes := #[] }
def k19m2 : Method := { name := "checkFromToIndex", desc := "(IIILjava/util/function/BiFunction;)I", sig := { parameters := [.int, .int, .int, (.object "java/util/function/BiFunction")], returnType := some .int }, accessFlags := 9, code := some k19c2 }
def k19c3 : Code := { maxStack := 4, maxLocals := 4, code := jdk_41_method_13_code, exceptionTable := #[], attributes := #[] }
def k19m3 : Method := { name := "checkFromIndexSize", desc := "(IIILjava/util/function/BiFunction;)I", sig := { parameters := [.int, .int, .int, (.object "java/util/function/BiFunction")], returnType := some .int }, accessFlags := 9, code := some k19c3 }
/-- jdk/internal/util/Preconditions -/
def k19 : Class := { plain "jdk/internal/util/Preconditions" (some 0) with
  accessFlags := 33
  interfaces := #[]
  cf := some (fileOf pool19 24 #[.nestMembers #[55, 131, 125, 114]] #[{ accessFlags := 1, nameIndex := 5, descriptorIndex := 6, attributes := #[] }, { accessFlags := 9, nameIndex := 33, descriptorIndex := 178, attributes := #[] }, { accessFlags := 9, nameIndex := 47, descriptorIndex := 183, attributes := #[] }, { accessFlags := 9, nameIndex := 49, descriptorIndex := 183, attributes := #[] }] 33 2 #[] #[{ accessFlags := 25, nameIndex := 123, descriptorIndex := 124, attributes := #[] }, { accessFlags := 25, nameIndex := 130, descriptorIndex := 124, attributes := #[] }, { accessFlags := 25, nameIndex := 136, descriptorIndex := 124, attributes := #[] }])
  fields := #[{ name := "SIOOBE_FORMATTER", type := (.object "java/util/function/BiFunction"), accessFlags := 25, slot := 0, constantValue := 0 }, { name := "AIOOBE_FORMATTER", type := (.object "java/util/function/BiFunction"), accessFlags := 25, slot := 1, constantValue := 0 }, { name := "IOOBE_FORMATTER", type := (.object "java/util/function/BiFunction"), accessFlags := 25, slot := 2, constantValue := 0 }]
  methods := #[k19m0, k19m1, k19m2, k19m3]
  instanceTypes := #[]
  staticTypes := #[(.object "java/util/function/BiFunction"), (.object "java/util/function/BiFunction"), (.object "java/util/function/BiFunction")]
  resolved := Array.replicate 194 none
  statics := some 1 }

def pool20 : Array CpInfo := pool [(1, .class_ 2), (0, u "java/lang/Math"), (1, .class_ 6), (1, u "java/lang/Object"), (0, u "<init>"), (0, u "()V"), (89, .class_ 100), (1, u "java/lang/Math$RandomNumberGeneratorHolder"), (20, u "(JJ)J"), (50, u "negativeZeroFloatBits"), (0, u "J"), (2, u "negativeZeroDoubleBits"), (21, u "max"), (2, u "min"), (43, u "$assertionsDisabled"), (0, u "Z"), (88, u "(II)I"), (2, u "twoToTheDoubleScaleDown"), (0, u "D"), (4, u "twoToTheDoubleScaleUp"), (9, u "E"), (3, u "PI"), (2, u "TAU"), (2, u "DEGREES_TO_RADIANS"), (0, u "RADIANS_TO_DEGREES")] 94

def k20m0 : Method := { name := "<init>", desc := "()V", sig := { parameters := [], returnType := none }, accessFlags := 2, code := none }
def k20c1 : Code := { maxStack := 2, maxLocals := 2, code := jdk_29_method_65_code, exceptionTable := #[], attributes := #[] }
def k20m1 : Method := { name := "max", desc := "(II)I", sig := { parameters := [.int, .int], returnType := some .int }, accessFlags := 9, code := some k20c1 }
def k20c2 : Code := { maxStack := 4, maxLocals := 4, code := jdk_29_method_66_code, exceptionTable := #[], attributes := #[] }
def k20m2 : Method := { name := "max", desc := "(JJ)J", sig := { parameters := [.long, .long], returnType := some .long }, accessFlags := 9, code := some k20c2 }
def k20c3 : Code := { maxStack := 4, maxLocals := 4, code := jdk_29_method_70_code, exceptionTable := #[], attributes := #[] }
def k20m3 : Method := { name := "min", desc := "(JJ)J", sig := { parameters := [.long, .long], returnType := some .long }, accessFlags := 9, code := some k20c3 }
/-- java/lang/Math -/
def k20 : Class := { plain "java/lang/Math" (some 0) with
  accessFlags := 49
  interfaces := #[]
  cf := some (fileOf pool20 1 #[.nestMembers #[98]] #[{ accessFlags := 2, nameIndex := 7, descriptorIndex := 8, attributes := #[] }, { accessFlags := 9, nameIndex := 198, descriptorIndex := 335, attributes := #[] }, { accessFlags := 9, nameIndex := 198, descriptorIndex := 121, attributes := #[] }, { accessFlags := 9, nameIndex := 201, descriptorIndex := 121, attributes := #[] }] 49 4 #[] #[{ accessFlags := 25, nameIndex := 354, descriptorIndex := 339, attributes := #[] }, { accessFlags := 25, nameIndex := 358, descriptorIndex := 339, attributes := #[] }, { accessFlags := 25, nameIndex := 361, descriptorIndex := 339, attributes := #[] }, { accessFlags := 26, nameIndex := 364, descriptorIndex := 339, attributes := #[] }, { accessFlags := 26, nameIndex := 365, descriptorIndex := 339, attributes := #[] }, { accessFlags := 26, nameIndex := 172, descriptorIndex := 173, attributes := #[] }, { accessFlags := 26, nameIndex := 176, descriptorIndex := 173, attributes := #[] }, { accessFlags := 8, nameIndex := 344, descriptorIndex := 339, attributes := #[] }, { accessFlags := 8, nameIndex := 338, descriptorIndex := 339, attributes := #[] }, { accessFlags := 4120, nameIndex := 245, descriptorIndex := 246, attributes := #[] }])
  fields := #[{ name := "E", type := .double, accessFlags := 25, slot := 0, constantValue := 0 }, { name := "PI", type := .double, accessFlags := 25, slot := 1, constantValue := 0 }, { name := "TAU", type := .double, accessFlags := 25, slot := 2, constantValue := 0 }, { name := "DEGREES_TO_RADIANS", type := .double, accessFlags := 26, slot := 3, constantValue := 0 }, { name := "RADIANS_TO_DEGREES", type := .double, accessFlags := 26, slot := 4, constantValue := 0 }, { name := "negativeZeroFloatBits", type := .long, accessFlags := 26, slot := 5, constantValue := 0 }, { name := "negativeZeroDoubleBits", type := .long, accessFlags := 26, slot := 6, constantValue := 0 }, { name := "twoToTheDoubleScaleUp", type := .double, accessFlags := 8, slot := 7, constantValue := 0 }, { name := "twoToTheDoubleScaleDown", type := .double, accessFlags := 8, slot := 8, constantValue := 0 }, { name := "$assertionsDisabled", type := .boolean, accessFlags := 4120, slot := 9, constantValue := 0 }]
  methods := #[k20m0, k20m1, k20m2, k20m3]
  instanceTypes := #[]
  staticTypes := #[.double, .double, .double, .double, .double, .long, .long, .double, .double, .boolean]
  resolved := Array.replicate 460 none
  statics := none }

def pool21 : Array CpInfo := pool [(2, .class_ 4), (1, u "java/lang/Object"), (0, u "<init>"), (0, u "()V"), (5, u "([IIII)V"), (0, .methodref 14 15), (0, .class_ 16), (0, .nameAndType 17 18), (0, u "java/util/Arrays"), (0, u "rangeCheck"), (0, u "(III)V"), (55, .class_ 76), (1, u "java/util/Arrays$NaturalOrder"), (36, .class_ 115), (1, u "java/util/Arrays$LegacyMergeSort"), (1, u "Z"), (257, .class_ 376), (0, u "java/util/Arrays$ArrayList"), (68, u "$assertionsDisabled"), (269, u "MIN_ARRAY_SORT_GRAN"), (0, u "I"), (2, u "INSERTIONSORT_THRESHOLD"), (120, u "fill"), (134, .class_ 976), (0, u "java/util/Arrays$ArrayItr")] 52

def k21m0 : Method := { name := "<init>", desc := "()V", sig := { parameters := [], returnType := none }, accessFlags := 2, code := none }
def k21c1 : Code := { maxStack := 4, maxLocals := 3, code := jdk_65_method_30_code, exceptionTable := #[], attributes := #[] }
def k21m1 : Method := { name := "rangeCheck", desc := "(III)V", sig := { parameters := [.int, .int, .int], returnType := none }, accessFlags := 8, code := some k21c1 }
def k21c2 : Code := { maxStack := 3, maxLocals := 5, code := jdk_65_method_104_code, exceptionTable := #[], attributes := #[] }
def k21m2 : Method := { name := "fill", desc := "([IIII)V", sig := { parameters := [(.array .int), .int, .int, .int], returnType := none }, accessFlags := 9, code := some k21c2 }
/-- java/util/Arrays -/
def k21 : Class := { plain "java/util/Arrays" (some 0) with
  accessFlags := 49
  interfaces := #[]
  cf := some (fileOf pool21 14 #[.nestMembers #[975, 375, 113, 74]] #[{ accessFlags := 2, nameIndex := 5, descriptorIndex := 6, attributes := #[] }, { accessFlags := 8, nameIndex := 17, descriptorIndex := 18, attributes := #[] }, { accessFlags := 9, nameIndex := 840, descriptorIndex := 12, attributes := #[] }] 49 2 #[] #[{ accessFlags := 26, nameIndex := 715, descriptorIndex := 716, attributes := #[] }, { accessFlags := 26, nameIndex := 719, descriptorIndex := 716, attributes := #[] }, { accessFlags := 4120, nameIndex := 445, descriptorIndex := 117, attributes := #[] }])
  fields := #[{ name := "MIN_ARRAY_SORT_GRAN", type := .int, accessFlags := 26, slot := 0, constantValue := 0 }, { name := "INSERTIONSORT_THRESHOLD", type := .int, accessFlags := 26, slot := 1, constantValue := 0 }, { name := "$assertionsDisabled", type := .boolean, accessFlags := 4120, slot := 2, constantValue := 0 }]
  methods := #[k21m0, k21m1, k21m2]
  instanceTypes := #[]
  staticTypes := #[.int, .int, .boolean]
  resolved := Array.replicate 1029 none
  statics := none }

def pool22 : Array CpInfo := pool [(1, .class_ 2), (0, u "java/lang/Character"), (18, u "value"), (0, u "C"), (19, .class_ 44), (1, u "java/lang/Object"), (3, .class_ 50), (1, u "java/lang/Character$CharacterCache"), (22, .integer 65536), (13, .class_ 89), (1, u "java/lang/CharSequence"), (2, .interfaceMethodref 87 93), (0, .nameAndType 94 95), (0, u "length"), (0, u "()I"), (18, u "(I)Z"), (59, u "(I)I"), (93, u "isISOControl"), (15, u "$assertionsDisabled"), (0, u "Z"), (21, .class_ 309), (1, u "java/lang/Character$UnicodeBlock"), (73, u "TYPE"), (0, u "Ljava/lang/Class;"), (0, .class_ 386), (0, u "java/io/Serializable"), (0, .class_ 388), (0, u "java/lang/Comparable"), (0, .class_ 390), (0, u "java/lang/constant/Constable"), (0, u "MIN_RADIX"), (0, u "I"), (2, u "MAX_RADIX"), (1, u "MIN_VALUE"), (1, u "MAX_VALUE"), (3, u "UNASSIGNED"), (0, u "B"), (0, u "UPPERCASE_LETTER"), (1, u "LOWERCASE_LETTER"), (0, u "TITLECASE_LETTER"), (1, u "MODIFIER_LETTER"), (1, u "OTHER_LETTER"), (1, u "NON_SPACING_MARK"), (1, u "ENCLOSING_MARK"), (1, u "COMBINING_SPACING_MARK"), (1, u "DECIMAL_DIGIT_NUMBER"), (1, u "LETTER_NUMBER"), (1, u "OTHER_NUMBER"), (1, u "SPACE_SEPARATOR"), (1, u "LINE_SEPARATOR"), (1, u "PARAGRAPH_SEPARATOR"), (1, u "CONTROL"), (1, u "FORMAT"), (1, u "PRIVATE_USE"), (1, u "SURROGATE"), (1, u "DASH_PUNCTUATION"), (1, u "START_PUNCTUATION"), (1, u "END_PUNCTUATION"), (1, u "CONNECTOR_PUNCTUATION"), (1, u "OTHER_PUNCTUATION"), (1, u "MATH_SYMBOL"), (1, u "CURRENCY_SYMBOL"), (1, u "MODIFIER_SYMBOL"), (1, u "OTHER_SYMBOL"), (1, u "INITIAL_QUOTE_PUNCTUATION"), (1, u "FINAL_QUOTE_PUNCTUATION"), (1, u "ERROR"), (1, u "DIRECTIONALITY_UNDEFINED"), (0, u "DIRECTIONALITY_LEFT_TO_RIGHT"), (0, u "DIRECTIONALITY_RIGHT_TO_LEFT"), (0, u "DIRECTIONALITY_RIGHT_TO_LEFT_ARABIC"), (0, u "DIRECTIONALITY_EUROPEAN_NUMBER"), (0, u "DIRECTIONALITY_EUROPEAN_NUMBER_SEPARATOR"), (0, u "DIRECTIONALITY_EUROPEAN_NUMBER_TERMINATOR"), (0, u "DIRECTIONALITY_ARABIC_NUMBER"), (0, u "DIRECTIONALITY_COMMON_NUMBER_SEPARATOR"), (0, u "DIRECTIONALITY_NONSPACING_MARK"), (0, u "DIRECTIONALITY_BOUNDARY_NEUTRAL"), (0, u "DIRECTIONALITY_PARAGRAPH_SEPARATOR"), (0, u "DIRECTIONALITY_SEGMENT_SEPARATOR"), (0, u "DIRECTIONALITY_WHITESPACE"), (0, u "DIRECTIONALITY_OTHER_NEUTRALS"), (0, u "DIRECTIONALITY_LEFT_TO_RIGHT_EMBEDDING"), (0, u "DIRECTIONALITY_LEFT_TO_RIGHT_OVERRIDE"), (0, u "DIRECTIONALITY_RIGHT_TO_LEFT_EMBEDDING"), (0, u "DIRECTIONALITY_RIGHT_TO_LEFT_OVERRIDE"), (1, u "DIRECTIONALITY_POP_DIRECTIONAL_FORMAT"), (0, u "DIRECTIONALITY_LEFT_TO_RIGHT_ISOLATE"), (0, u "DIRECTIONALITY_RIGHT_TO_LEFT_ISOLATE"), (0, u "DIRECTIONALITY_FIRST_STRONG_ISOLATE"), (0, u "DIRECTIONALITY_POP_DIRECTIONAL_ISOLATE"), (0, u "MIN_HIGH_SURROGATE"), (0, u "MAX_HIGH_SURROGATE"), (1, u "MIN_LOW_SURROGATE"), (0, u "MAX_LOW_SURROGATE"), (1, u "MIN_SURROGATE"), (0, u "MAX_SURROGATE"), (0, u "MIN_SUPPLEMENTARY_CODE_POINT"), (0, u "MIN_CODE_POINT"), (0, u "MAX_CODE_POINT"), (1, u "serialVersionUID"), (0, u "J"), (2, u "SIZE"), (0, u "BYTES"), (29, u "charCount"), (19, u "(Ljava/lang/CharSequence;II)I"), (6, u "offsetByCodePoints"), (31, .class_ 596), (0, u "java/lang/Character$UnicodeScript"), (0, .class_ 598), (0, u "java/lang/Character$Subset")] 5

def k22c0 : Code := { maxStack := 2, maxLocals := 1, code := jdk_89_method_18_code, exceptionTable := #[], attributes := #[] }
def k22m0 : Method := { name := "charCount", desc := "(I)I", sig := { parameters := [.int], returnType := some .int }, accessFlags := 9, code := some k22c0 }
def k22c1 : Code := { maxStack := 3, maxLocals := 6, code := jdk_89_method_36_code, exceptionTable := #[], attributes := #[] }
def k22m1 : Method := { name := "offsetByCodePoints", desc := "(Ljava/lang/CharSequence;II)I", sig := { parameters := [(.object "java/lang/CharSequence"), .int, .int], returnType := some .int }, accessFlags := 9, code := some k22c1 }
def k22c2 : Code := { maxStack := 2, maxLocals := 1, code := jdk_89_method_89_code, exceptionTable := #[], attributes := #[] }
def k22m2 : Method := { name := "isISOControl", desc := "(I)Z", sig := { parameters := [.int], returnType := some .boolean }, accessFlags := 9, code := some k22c2 }
/-- java/lang/Character -/
def k22 : Class := { plain "java/lang/Character" (some 0) with
  accessFlags := 49
  interfaces := #[3, 4, 6]
  cf := some (fileOf pool22 1 #[.nestMembers #[48, 595, 307, 597]] #[{ accessFlags := 9, nameIndex := 536, descriptorIndex := 174, attributes := #[] }, { accessFlags := 9, nameIndex := 563, descriptorIndex := 556, attributes := #[] }, { accessFlags := 9, nameIndex := 268, descriptorIndex := 114, attributes := #[] }] 49 42 #[385, 387, 389] #[{ accessFlags := 25, nameIndex := 391, descriptorIndex := 392, attributes := #[] }, { accessFlags := 25, nameIndex := 395, descriptorIndex := 392, attributes := #[] }, { accessFlags := 25, nameIndex := 397, descriptorIndex := 22, attributes := #[] }, { accessFlags := 25, nameIndex := 399, descriptorIndex := 22, attributes := #[] }, { accessFlags := 25, nameIndex := 383, descriptorIndex := 384, attributes := #[] }, { accessFlags := 25, nameIndex := 403, descriptorIndex := 404, attributes := #[] }, { accessFlags := 25, nameIndex := 405, descriptorIndex := 404, attributes := #[] }, { accessFlags := 25, nameIndex := 407, descriptorIndex := 404, attributes := #[] }, { accessFlags := 25, nameIndex := 408, descriptorIndex := 404, attributes := #[] }, { accessFlags := 25, nameIndex := 410, descriptorIndex := 404, attributes := #[] }, { accessFlags := 25, nameIndex := 412, descriptorIndex := 404, attributes := #[] }, { accessFlags := 25, nameIndex := 414, descriptorIndex := 404, attributes := #[] }, { accessFlags := 25, nameIndex := 416, descriptorIndex := 404, attributes := #[] }, { accessFlags := 25, nameIndex := 418, descriptorIndex := 404, attributes := #[] }, { accessFlags := 25, nameIndex := 420, descriptorIndex := 404, attributes := #[] }, { accessFlags := 25, nameIndex := 422, descriptorIndex := 404, attributes := #[] }, { accessFlags := 25, nameIndex := 424, descriptorIndex := 404, attributes := #[] }, { accessFlags := 25, nameIndex := 426, descriptorIndex := 404, attributes := #[] }, { accessFlags := 25, nameIndex := 428, descriptorIndex := 404, attributes := #[] }, { accessFlags := 25, nameIndex := 430, descriptorIndex := 404, attributes := #[] }, { accessFlags := 25, nameIndex := 432, descriptorIndex := 404, attributes := #[] }, { accessFlags := 25, nameIndex := 434, descriptorIndex := 404, attributes := #[] }, { accessFlags := 25, nameIndex := 436, descriptorIndex := 404, attributes := #[] }, { accessFlags := 25, nameIndex := 438, descriptorIndex := 404, attributes := #[] }, { accessFlags := 25, nameIndex := 440, descriptorIndex := 404, attributes := #[] }, { accessFlags := 25, nameIndex := 442, descriptorIndex := 404, attributes := #[] }, { accessFlags := 25, nameIndex := 444, descriptorIndex := 404, attributes := #[] }, { accessFlags := 25, nameIndex := 446, descriptorIndex := 404, attributes := #[] }, { accessFlags := 25, nameIndex := 448, descriptorIndex := 404, attributes := #[] }, { accessFlags := 25, nameIndex := 450, descriptorIndex := 404, attributes := #[] }, { accessFlags := 25, nameIndex := 452, descriptorIndex := 404, attributes := #[] }, { accessFlags := 25, nameIndex := 454, descriptorIndex := 404, attributes := #[] }, { accessFlags := 25, nameIndex := 456, descriptorIndex := 404, attributes := #[] }, { accessFlags := 25, nameIndex := 458, descriptorIndex := 404, attributes := #[] }, { accessFlags := 25, nameIndex := 460, descriptorIndex := 404, attributes := #[] }, { accessFlags := 24, nameIndex := 462, descriptorIndex := 392, attributes := #[] }, { accessFlags := 25, nameIndex := 464, descriptorIndex := 404, attributes := #[] }, { accessFlags := 25, nameIndex := 465, descriptorIndex := 404, attributes := #[] }, { accessFlags := 25, nameIndex := 466, descriptorIndex := 404, attributes := #[] }, { accessFlags := 25, nameIndex := 467, descriptorIndex := 404, attributes := #[] }, { accessFlags := 25, nameIndex := 468, descriptorIndex := 404, attributes := #[] }, { accessFlags := 25, nameIndex := 469, descriptorIndex := 404, attributes := #[] }, { accessFlags := 25, nameIndex := 470, descriptorIndex := 404, attributes := #[] }, { accessFlags := 25, nameIndex := 471, descriptorIndex := 404, attributes := #[] }, { accessFlags := 25, nameIndex := 472, descriptorIndex := 404, attributes := #[] }, { accessFlags := 25, nameIndex := 473, descriptorIndex := 404, attributes := #[] }, { accessFlags := 25, nameIndex := 474, descriptorIndex := 404, attributes := #[] }, { accessFlags := 25, nameIndex := 475, descriptorIndex := 404, attributes := #[] }, { accessFlags := 25, nameIndex := 476, descriptorIndex := 404, attributes := #[] }, { accessFlags := 25, nameIndex := 477, descriptorIndex := 404, attributes := #[] }, { accessFlags := 25, nameIndex := 478, descriptorIndex := 404, attributes := #[] }, { accessFlags := 25, nameIndex := 479, descriptorIndex := 404, attributes := #[] }, { accessFlags := 25, nameIndex := 480, descriptorIndex := 404, attributes := #[] }, { accessFlags := 25, nameIndex := 481, descriptorIndex := 404, attributes := #[] }, { accessFlags := 25, nameIndex := 482, descriptorIndex := 404, attributes := #[] }, { accessFlags := 25, nameIndex := 484, descriptorIndex := 404, attributes := #[] }, { accessFlags := 25, nameIndex := 485, descriptorIndex := 404, attributes := #[] }, { accessFlags := 25, nameIndex := 486, descriptorIndex := 404, attributes := #[] }, { accessFlags := 25, nameIndex := 487, descriptorIndex := 404, attributes := #[] }, { accessFlags := 25, nameIndex := 488, descriptorIndex := 404, attributes := #[] }, { accessFlags := 25, nameIndex := 489, descriptorIndex := 22, attributes := #[] }, { accessFlags := 25, nameIndex := 490, descriptorIndex := 22, attributes := #[] }, { accessFlags := 25, nameIndex := 492, descriptorIndex := 22, attributes := #[] }, { accessFlags := 25, nameIndex := 493, descriptorIndex := 22, attributes := #[] }, { accessFlags := 25, nameIndex := 495, descriptorIndex := 22, attributes := #[] }, { accessFlags := 25, nameIndex := 496, descriptorIndex := 22, attributes := #[] }, { accessFlags := 25, nameIndex := 497, descriptorIndex := 392, attributes := #[] }, { accessFlags := 25, nameIndex := 498, descriptorIndex := 392, attributes := #[] }, { accessFlags := 25, nameIndex := 499, descriptorIndex := 392, attributes := #[] }, { accessFlags := 18, nameIndex := 21, descriptorIndex := 22, attributes := #[] }, { accessFlags := 26, nameIndex := 501, descriptorIndex := 502, attributes := #[] }, { accessFlags := 25, nameIndex := 505, descriptorIndex := 392, attributes := #[] }, { accessFlags := 25, nameIndex := 506, descriptorIndex := 392, attributes := #[] }, { accessFlags := 4120, nameIndex := 284, descriptorIndex := 285, attributes := #[] }])
  fields := #[{ name := "MIN_RADIX", type := .int, accessFlags := 25, slot := 0, constantValue := 0 }, { name := "MAX_RADIX", type := .int, accessFlags := 25, slot := 1, constantValue := 0 }, { name := "MIN_VALUE", type := .char, accessFlags := 25, slot := 2, constantValue := 0 }, { name := "MAX_VALUE", type := .char, accessFlags := 25, slot := 3, constantValue := 0 }, { name := "TYPE", type := (.object "java/lang/Class"), accessFlags := 25, slot := 4, constantValue := 0 }, { name := "UNASSIGNED", type := .byte, accessFlags := 25, slot := 5, constantValue := 0 }, { name := "UPPERCASE_LETTER", type := .byte, accessFlags := 25, slot := 6, constantValue := 0 }, { name := "LOWERCASE_LETTER", type := .byte, accessFlags := 25, slot := 7, constantValue := 0 }, { name := "TITLECASE_LETTER", type := .byte, accessFlags := 25, slot := 8, constantValue := 0 }, { name := "MODIFIER_LETTER", type := .byte, accessFlags := 25, slot := 9, constantValue := 0 }, { name := "OTHER_LETTER", type := .byte, accessFlags := 25, slot := 10, constantValue := 0 }, { name := "NON_SPACING_MARK", type := .byte, accessFlags := 25, slot := 11, constantValue := 0 }, { name := "ENCLOSING_MARK", type := .byte, accessFlags := 25, slot := 12, constantValue := 0 }, { name := "COMBINING_SPACING_MARK", type := .byte, accessFlags := 25, slot := 13, constantValue := 0 }, { name := "DECIMAL_DIGIT_NUMBER", type := .byte, accessFlags := 25, slot := 14, constantValue := 0 }, { name := "LETTER_NUMBER", type := .byte, accessFlags := 25, slot := 15, constantValue := 0 }, { name := "OTHER_NUMBER", type := .byte, accessFlags := 25, slot := 16, constantValue := 0 }, { name := "SPACE_SEPARATOR", type := .byte, accessFlags := 25, slot := 17, constantValue := 0 }, { name := "LINE_SEPARATOR", type := .byte, accessFlags := 25, slot := 18, constantValue := 0 }, { name := "PARAGRAPH_SEPARATOR", type := .byte, accessFlags := 25, slot := 19, constantValue := 0 }, { name := "CONTROL", type := .byte, accessFlags := 25, slot := 20, constantValue := 0 }, { name := "FORMAT", type := .byte, accessFlags := 25, slot := 21, constantValue := 0 }, { name := "PRIVATE_USE", type := .byte, accessFlags := 25, slot := 22, constantValue := 0 }, { name := "SURROGATE", type := .byte, accessFlags := 25, slot := 23, constantValue := 0 }, { name := "DASH_PUNCTUATION", type := .byte, accessFlags := 25, slot := 24, constantValue := 0 }, { name := "START_PUNCTUATION", type := .byte, accessFlags := 25, slot := 25, constantValue := 0 }, { name := "END_PUNCTUATION", type := .byte, accessFlags := 25, slot := 26, constantValue := 0 }, { name := "CONNECTOR_PUNCTUATION", type := .byte, accessFlags := 25, slot := 27, constantValue := 0 }, { name := "OTHER_PUNCTUATION", type := .byte, accessFlags := 25, slot := 28, constantValue := 0 }, { name := "MATH_SYMBOL", type := .byte, accessFlags := 25, slot := 29, constantValue := 0 }, { name := "CURRENCY_SYMBOL", type := .byte, accessFlags := 25, slot := 30, constantValue := 0 }, { name := "MODIFIER_SYMBOL", type := .byte, accessFlags := 25, slot := 31, constantValue := 0 }, { name := "OTHER_SYMBOL", type := .byte, accessFlags := 25, slot := 32, constantValue := 0 }, { name := "INITIAL_QUOTE_PUNCTUATION", type := .byte, accessFlags := 25, slot := 33, constantValue := 0 }, { name := "FINAL_QUOTE_PUNCTUATION", type := .byte, accessFlags := 25, slot := 34, constantValue := 0 }, { name := "ERROR", type := .int, accessFlags := 24, slot := 35, constantValue := 0 }, { name := "DIRECTIONALITY_UNDEFINED", type := .byte, accessFlags := 25, slot := 36, constantValue := 0 }, { name := "DIRECTIONALITY_LEFT_TO_RIGHT", type := .byte, accessFlags := 25, slot := 37, constantValue := 0 }, { name := "DIRECTIONALITY_RIGHT_TO_LEFT", type := .byte, accessFlags := 25, slot := 38, constantValue := 0 }, { name := "DIRECTIONALITY_RIGHT_TO_LEFT_ARABIC", type := .byte, accessFlags := 25, slot := 39, constantValue := 0 }, { name := "DIRECTIONALITY_EUROPEAN_NUMBER", type := .byte, accessFlags := 25, slot := 40, constantValue := 0 }, { name := "DIRECTIONALITY_EUROPEAN_NUMBER_SEPARATOR", type := .byte, accessFlags := 25, slot := 41, constantValue := 0 }, { name := "DIRECTIONALITY_EUROPEAN_NUMBER_TERMINATOR", type := .byte, accessFlags := 25, slot := 42, constantValue := 0 }, { name := "DIRECTIONALITY_ARABIC_NUMBER", type := .byte, accessFlags := 25, slot := 43, constantValue := 0 }, { name := "DIRECTIONALITY_COMMON_NUMBER_SEPARATOR", type := .byte, accessFlags := 25, slot := 44, constantValue := 0 }, { name := "DIRECTIONALITY_NONSPACING_MARK", type := .byte, accessFlags := 25, slot := 45, constantValue := 0 }, { name := "DIRECTIONALITY_BOUNDARY_NEUTRAL", type := .byte, accessFlags := 25, slot := 46, constantValue := 0 }, { name := "DIRECTIONALITY_PARAGRAPH_SEPARATOR", type := .byte, accessFlags := 25, slot := 47, constantValue := 0 }, { name := "DIRECTIONALITY_SEGMENT_SEPARATOR", type := .byte, accessFlags := 25, slot := 48, constantValue := 0 }, { name := "DIRECTIONALITY_WHITESPACE", type := .byte, accessFlags := 25, slot := 49, constantValue := 0 }, { name := "DIRECTIONALITY_OTHER_NEUTRALS", type := .byte, accessFlags := 25, slot := 50, constantValue := 0 }, { name := "DIRECTIONALITY_LEFT_TO_RIGHT_EMBEDDING", type := .byte, accessFlags := 25, slot := 51, constantValue := 0 }, { name := "DIRECTIONALITY_LEFT_TO_RIGHT_OVERRIDE", type := .byte, accessFlags := 25, slot := 52, constantValue := 0 }, { name := "DIRECTIONALITY_RIGHT_TO_LEFT_EMBEDDING", type := .byte, accessFlags := 25, slot := 53, constantValue := 0 }, { name := "DIRECTIONALITY_RIGHT_TO_LEFT_OVERRIDE", type := .byte, accessFlags := 25, slot := 54, constantValue := 0 }, { name := "DIRECTIONALITY_POP_DIRECTIONAL_FORMAT", type := .byte, accessFlags := 25, slot := 55, constantValue := 0 }, { name := "DIRECTIONALITY_LEFT_TO_RIGHT_ISOLATE", type := .byte, accessFlags := 25, slot := 56, constantValue := 0 }, { name := "DIRECTIONALITY_RIGHT_TO_LEFT_ISOLATE", type := .byte, accessFlags := 25, slot := 57, constantValue := 0 }, { name := "DIRECTIONALITY_FIRST_STRONG_ISOLATE", type := .byte, accessFlags := 25, slot := 58, constantValue := 0 }, { name := "DIRECTIONALITY_POP_DIRECTIONAL_ISOLATE", type := .byte, accessFlags := 25, slot := 59, constantValue := 0 }, { name := "MIN_HIGH_SURROGATE", type := .char, accessFlags := 25, slot := 60, constantValue := 0 }, { name := "MAX_HIGH_SURROGATE", type := .char, accessFlags := 25, slot := 61, constantValue := 0 }, { name := "MIN_LOW_SURROGATE", type := .char, accessFlags := 25, slot := 62, constantValue := 0 }, { name := "MAX_LOW_SURROGATE", type := .char, accessFlags := 25, slot := 63, constantValue := 0 }, { name := "MIN_SURROGATE", type := .char, accessFlags := 25, slot := 64, constantValue := 0 }, { name := "MAX_SURROGATE", type := .char, accessFlags := 25, slot := 65, constantValue := 0 }, { name := "MIN_SUPPLEMENTARY_CODE_POINT", type := .int, accessFlags := 25, slot := 66, constantValue := 0 }, { name := "MIN_CODE_POINT", type := .int, accessFlags := 25, slot := 67, constantValue := 0 }, { name := "MAX_CODE_POINT", type := .int, accessFlags := 25, slot := 68, constantValue := 0 }, { name := "value", type := .char, accessFlags := 18, slot := 0, constantValue := 0 }, { name := "serialVersionUID", type := .long, accessFlags := 26, slot := 69, constantValue := 0 }, { name := "SIZE", type := .int, accessFlags := 25, slot := 70, constantValue := 0 }, { name := "BYTES", type := .int, accessFlags := 25, slot := 71, constantValue := 0 }, { name := "$assertionsDisabled", type := .boolean, accessFlags := 4120, slot := 72, constantValue := 0 }]
  methods := #[k22m0, k22m1, k22m2]
  instanceTypes := #[.char]
  staticTypes := #[.int, .int, .char, .char, (.object "java/lang/Class"), .byte, .byte, .byte, .byte, .byte, .byte, .byte, .byte, .byte, .byte, .byte, .byte, .byte, .byte, .byte, .byte, .byte, .byte, .byte, .byte, .byte, .byte, .byte, .byte, .byte, .byte, .byte, .byte, .byte, .byte, .int, .byte, .byte, .byte, .byte, .byte, .byte, .byte, .byte, .byte, .byte, .byte, .byte, .byte, .byte, .byte, .byte, .byte, .byte, .byte, .byte, .byte, .byte, .byte, .byte, .char, .char, .char, .char, .char, .char, .int, .int, .int, .long, .int, .int, .boolean]
  resolved := Array.replicate 604 none
  statics := none }

def pool23 : Array CpInfo := pool [(6, .class_ 8), (1, u "java/lang/Object"), (0, u "<init>"), (0, u "()V"), (1, .class_ 14), (1, u "java/lang/StringUTF16"), (31, u "$assertionsDisabled"), (0, u "Z"), (13, u "HI_BYTE_SHIFT"), (0, u "I"), (2, u "LO_BYTE_SHIFT"), (51, u "compress"), (143, u "coderFromArrayLen"), (0, u "([BI)B"), (106, .class_ 371), (1, u "java/lang/StringUTF16$LinesSpliterator"), (58, u "MAX_LENGTH"), (32, u "([III)[B"), (163, .class_ 628), (0, u "java/lang/StringUTF16$CodePointsSpliterator"), (0, .class_ 630), (0, u "java/lang/StringUTF16$CharsSpliterator")] 4

def k23m0 : Method := { name := "<init>", desc := "()V", sig := { parameters := [], returnType := none }, accessFlags := 0, code := none }
def k23c1 : Code := { maxStack := 2, maxLocals := 2, code := jdk_52_method_15_code, exceptionTable := #[], attributes := #[] }
def k23m1 : Method := { name := "coderFromArrayLen", desc := "([BI)B", sig := { parameters := [(.array .byte), .int], returnType := some .byte }, accessFlags := 8, code := some k23c1 }
def k23c2 : Code := { maxStack := 5, maxLocals := 10, code := jdk_52_method_18_code, exceptionTable := #[], attributes := #[] }
def k23m2 : Method := { name := "compress", desc := "([III)[B", sig := { parameters := [(.array .int), .int, .int], returnType := some (.array .byte) }, accessFlags := 9, code := some k23c2 }
/-- java/lang/StringUTF16 -/
def k23 : Class := { plain "java/lang/StringUTF16" (some 0) with
  accessFlags := 48
  interfaces := #[]
  cf := some (fileOf pool23 12 #[.nestMembers #[627, 629, 369]] #[{ accessFlags := 0, nameIndex := 9, descriptorIndex := 10, attributes := #[] }, { accessFlags := 8, nameIndex := 261, descriptorIndex := 262, attributes := #[] }, { accessFlags := 9, nameIndex := 117, descriptorIndex := 463, attributes := #[] }] 48 6 #[] #[{ accessFlags := 26, nameIndex := 61, descriptorIndex := 62, attributes := #[] }, { accessFlags := 26, nameIndex := 65, descriptorIndex := 62, attributes := #[] }, { accessFlags := 24, nameIndex := 430, descriptorIndex := 62, attributes := #[] }, { accessFlags := 4120, nameIndex := 46, descriptorIndex := 47, attributes := #[] }])
  fields := #[{ name := "HI_BYTE_SHIFT", type := .int, accessFlags := 26, slot := 0, constantValue := 0 }, { name := "LO_BYTE_SHIFT", type := .int, accessFlags := 26, slot := 1, constantValue := 0 }, { name := "MAX_LENGTH", type := .int, accessFlags := 24, slot := 2, constantValue := 0 }, { name := "$assertionsDisabled", type := .boolean, accessFlags := 4120, slot := 3, constantValue := 0 }]
  methods := #[k23m0, k23m1, k23m2]
  instanceTypes := #[]
  staticTypes := #[.int, .int, .int, .boolean]
  resolved := Array.replicate 635 none
  statics := none }

def pool24 : Array CpInfo := pool [(1, .class_ 2), (0, u "java/lang/String"), (1, .class_ 6), (1, u "java/lang/Object"), (0, u "<init>"), (0, u "()V"), (0, .methodref 1 10), (0, .nameAndType 11 12), (0, u "checkIndex"), (0, u "(II)V"), (1, .class_ 16), (1, u "java/lang/StringLatin1"), (36, u "([BI)C"), (67, u "$assertionsDisabled"), (0, u "Z"), (98, .class_ 223), (1, u "java/lang/StringLatin1$LinesSpliterator"), (28, u "charAt"), (137, .class_ 391), (0, u "java/lang/StringLatin1$CharsSpliterator")] 3

def k24m0 : Method := { name := "<init>", desc := "()V", sig := { parameters := [], returnType := none }, accessFlags := 0, code := none }
def k24c1 : Code := { maxStack := 2, maxLocals := 2, code := jdk_43_method_2_code, exceptionTable := #[], attributes := #[] }
def k24m1 : Method := { name := "charAt", desc := "([BI)C", sig := { parameters := [(.array .byte), .int], returnType := some .char }, accessFlags := 9, code := some k24c1 }
/-- java/lang/StringLatin1 -/
def k24 : Class := { plain "java/lang/StringLatin1" (some 0) with
  accessFlags := 48
  interfaces := #[]
  cf := some (fileOf pool24 14 #[.nestMembers #[390, 221]] #[{ accessFlags := 0, nameIndex := 7, descriptorIndex := 8, attributes := #[] }, { accessFlags := 9, nameIndex := 252, descriptorIndex := 53, attributes := #[] }] 48 4 #[] #[{ accessFlags := 4120, nameIndex := 121, descriptorIndex := 122, attributes := #[] }])
  fields := #[{ name := "$assertionsDisabled", type := .boolean, accessFlags := 4120, slot := 0, constantValue := 0 }]
  methods := #[k24m0, k24m1]
  instanceTypes := #[]
  staticTypes := #[.boolean]
  resolved := Array.replicate 395 none
  statics := none }

def pool25 : Array CpInfo := pool [(9, u "<init>"), (6, .class_ 18), (1, u "java/lang/Object"), (0, u "()V"), (1, .class_ 23), (1, u "jdk/internal/util/ArraysSupport"), (0, u "LOG2_ARRAY_LONG_INDEX_SCALE"), (0, u "I"), (2, u "U"), (0, u "Ljdk/internal/misc/Unsafe;"), (8, u "BIG_ENDIAN"), (0, u "Z"), (8, u "LOG2_BYTE_BIT_SIZE"), (4, u "LOG2_ARRAY_INT_INDEX_SCALE"), (54, u "JLA"), (0, u "Ljdk/internal/access/JavaLangAccess;"), (11, u "LOG2_ARRAY_BOOLEAN_INDEX_SCALE"), (9, u "LOG2_ARRAY_BYTE_INDEX_SCALE"), (5, u "LOG2_ARRAY_CHAR_INDEX_SCALE"), (5, u "LOG2_ARRAY_SHORT_INDEX_SCALE"), (18, u "LOG2_ARRAY_FLOAT_INDEX_SCALE"), (24, u "LOG2_ARRAY_DOUBLE_INDEX_SCALE"), (89, u "T_BOOLEAN"), (2, u "T_CHAR"), (1, u "T_FLOAT"), (1, u "T_DOUBLE"), (1, u "T_BYTE"), (1, u "T_SHORT"), (1, u "T_INT"), (1, u "T_LONG"), (1, u "SOFT_MAX_ARRAY_LENGTH")] 83

def k25m0 : Method := { name := "<init>", desc := "()V", sig := { parameters := [], returnType := none }, accessFlags := 2, code := none }
/-- jdk/internal/util/ArraysSupport -/
def k25 : Class := { plain "jdk/internal/util/ArraysSupport" (some 0) with
  accessFlags := 33
  interfaces := #[]
  cf := some (fileOf pool25 21 #[] #[{ accessFlags := 2, nameIndex := 9, descriptorIndex := 19, attributes := #[] }] 33 16 #[] #[{ accessFlags := 24, nameIndex := 28, descriptorIndex := 29, attributes := #[] }, { accessFlags := 26, nameIndex := 38, descriptorIndex := 39, attributes := #[] }, { accessFlags := 25, nameIndex := 121, descriptorIndex := 25, attributes := #[] }, { accessFlags := 25, nameIndex := 131, descriptorIndex := 25, attributes := #[] }, { accessFlags := 25, nameIndex := 137, descriptorIndex := 25, attributes := #[] }, { accessFlags := 25, nameIndex := 143, descriptorIndex := 25, attributes := #[] }, { accessFlags := 25, nameIndex := 53, descriptorIndex := 25, attributes := #[] }, { accessFlags := 25, nameIndex := 24, descriptorIndex := 25, attributes := #[] }, { accessFlags := 25, nameIndex := 162, descriptorIndex := 25, attributes := #[] }, { accessFlags := 25, nameIndex := 187, descriptorIndex := 25, attributes := #[] }, { accessFlags := 26, nameIndex := 48, descriptorIndex := 25, attributes := #[] }, { accessFlags := 25, nameIndex := 277, descriptorIndex := 25, attributes := #[] }, { accessFlags := 25, nameIndex := 280, descriptorIndex := 25, attributes := #[] }, { accessFlags := 25, nameIndex := 282, descriptorIndex := 25, attributes := #[] }, { accessFlags := 25, nameIndex := 284, descriptorIndex := 25, attributes := #[] }, { accessFlags := 25, nameIndex := 286, descriptorIndex := 25, attributes := #[] }, { accessFlags := 25, nameIndex := 288, descriptorIndex := 25, attributes := #[] }, { accessFlags := 25, nameIndex := 290, descriptorIndex := 25, attributes := #[] }, { accessFlags := 25, nameIndex := 292, descriptorIndex := 25, attributes := #[] }, { accessFlags := 26, nameIndex := 108, descriptorIndex := 109, attributes := #[] }, { accessFlags := 25, nameIndex := 294, descriptorIndex := 25, attributes := #[] }])
  fields := #[{ name := "U", type := (.object "jdk/internal/misc/Unsafe"), accessFlags := 24, slot := 0, constantValue := 0 }, { name := "BIG_ENDIAN", type := .boolean, accessFlags := 26, slot := 1, constantValue := 0 }, { name := "LOG2_ARRAY_BOOLEAN_INDEX_SCALE", type := .int, accessFlags := 25, slot := 2, constantValue := 0 }, { name := "LOG2_ARRAY_BYTE_INDEX_SCALE", type := .int, accessFlags := 25, slot := 3, constantValue := 0 }, { name := "LOG2_ARRAY_CHAR_INDEX_SCALE", type := .int, accessFlags := 25, slot := 4, constantValue := 0 }, { name := "LOG2_ARRAY_SHORT_INDEX_SCALE", type := .int, accessFlags := 25, slot := 5, constantValue := 0 }, { name := "LOG2_ARRAY_INT_INDEX_SCALE", type := .int, accessFlags := 25, slot := 6, constantValue := 0 }, { name := "LOG2_ARRAY_LONG_INDEX_SCALE", type := .int, accessFlags := 25, slot := 7, constantValue := 0 }, { name := "LOG2_ARRAY_FLOAT_INDEX_SCALE", type := .int, accessFlags := 25, slot := 8, constantValue := 0 }, { name := "LOG2_ARRAY_DOUBLE_INDEX_SCALE", type := .int, accessFlags := 25, slot := 9, constantValue := 0 }, { name := "LOG2_BYTE_BIT_SIZE", type := .int, accessFlags := 26, slot := 10, constantValue := 0 }, { name := "T_BOOLEAN", type := .int, accessFlags := 25, slot := 11, constantValue := 0 }, { name := "T_CHAR", type := .int, accessFlags := 25, slot := 12, constantValue := 0 }, { name := "T_FLOAT", type := .int, accessFlags := 25, slot := 13, constantValue := 0 }, { name := "T_DOUBLE", type := .int, accessFlags := 25, slot := 14, constantValue := 0 }, { name := "T_BYTE", type := .int, accessFlags := 25, slot := 15, constantValue := 0 }, { name := "T_SHORT", type := .int, accessFlags := 25, slot := 16, constantValue := 0 }, { name := "T_INT", type := .int, accessFlags := 25, slot := 17, constantValue := 0 }, { name := "T_LONG", type := .int, accessFlags := 25, slot := 18, constantValue := 0 }, { name := "JLA", type := (.object "jdk/internal/access/JavaLangAccess"), accessFlags := 26, slot := 19, constantValue := 0 }, { name := "SOFT_MAX_ARRAY_LENGTH", type := .int, accessFlags := 25, slot := 20, constantValue := 0 }]
  methods := #[k25m0]
  instanceTypes := #[]
  staticTypes := #[(.object "jdk/internal/misc/Unsafe"), .boolean, .int, .int, .int, .int, .int, .int, .int, .int, .int, .int, .int, .int, .int, .int, .int, .int, .int, (.object "jdk/internal/access/JavaLangAccess"), .int]
  resolved := Array.replicate 378 none
  statics := none }

/-- the primitive byte -/
def k26 : Class := { plain "byte" none with kind := .primitive 'B', accessFlags := 0x411 }
/-- [B -/
def k27 : Class := { plain "[B" (some 0) with kind := .array 26 .byte, interfaces := #[16, 3], accessFlags := 1041 }

/-- the primitive int -/
def k28 : Class := { plain "int" none with kind := .primitive 'I', accessFlags := 0x411 }
/-- [I -/
def k29 : Class := { plain "[I" (some 0) with kind := .array 28 .int, interfaces := #[16, 3], accessFlags := 1041 }

/-- [Ljava/lang/Object; -/
def k30 : Class := { plain "[Ljava/lang/Object;" (some 0) with kind := .array 0 (.object "java/lang/Object"), interfaces := #[16, 3], accessFlags := 1041 }

/-- [[I -/
def k31 : Class := { plain "[[I" (some 0) with kind := .array 29 (.array .int), interfaces := #[16, 3], accessFlags := 1041 }

def heap : Heap := #[{ cls := 8, slots := #[.long 0, .int 1, .null, .int 0, .null, .int 0, .int 0], vm := .statics 8 },
  { cls := 19, slots := #[.null, .null, .null], vm := .statics 19 }]
def classes : Array Class := #[k0, k1, k2, k3, k4, k5, k6, k7, k8, k9, k10, k11, k12, k13, k14, k15, k16, k17, k18, k19, k20, k21, k22, k23, k24, k25, k26, k27, k28, k29, k30, k31]
def interned : List (Array UInt16 × Addr) := []
def slotsUsed : Nat := 10
def theMethod : MethodId := ⟨1, 2⟩
def args0 : Array Value := #[.int 1, .int 4, .int 1, .int 3, .int 2, .int 1]
def aboutOver (below : List Frame) : State where
  vm := { classes := classes, interned := interned.toArray }
  heap := heap
  slotsUsed := slotsUsed
  threads := #[{ frames := .invoking theMethod args0 :: below }]
def below0 : List Frame := [.native { method := ⟨0, 0⟩, args := #[] }]
def about1 : State := aboutOver below0
def p0 : Program := .bare "" "" ""
def e0 : Env := launch0.env 0 0 0
theorem w_frames : about1.frames = Frame.invoking theMethod args0 :: below0 := rfl
set_option maxRecDepth 65536 in
theorem w_args : argsFit about1.vm theMethod args0 = true := by decide +kernel
set_option maxRecDepth 65536 in
theorem w_heap : heapFits about1 = true := by decide +kernel
set_option maxRecDepth 65536 in
theorem w_runnable : about1.curStatus? = some .runnable := by decide +kernel
set_option maxRecDepth 65536 in
theorem w_alone : about1.alone = true := by decide +kernel
set_option maxRecDepth 65536 in
theorem w_named : about1.methodNamed? x = some theMethod := by decide +kernel
set_option maxRecDepth 65536 in
theorem w_hears : about1.hears theMethod below0 = true := by decide +kernel
set_option maxRecDepth 65536 in
theorem w_ripe : about1.ripe theMethod args0 below0 = true := by decide +kernel
theorem w_running : about1.status = .running := rfl
set_option maxRecDepth 65536 in
theorem w_room : about1.hasRoom e0.platform room_1 = true :=
  launch0.hasRoom_least _ room_1 (by decide +kernel) (by decide +kernel) (by decide +kernel) (by decide +kernel) (by decide +kernel) (by decide +kernel)
theorem allAtoms_all (ts : List Jvm.Cond) (a : Array Jvm.Value) (st : Jvm.State) : (allAtoms ts).before a st = ts.all (fun c => c.before a st) := by
  induction ts with
  | nil => rfl
  | cons c t ih =>
    show (Jvm.Cond.and c (allAtoms t)).before a st = _
    rw [Jvm.Cond.before_and, ih, List.all_cons]
def words1 : List Jvm.Cond := Jvm.Cond.code x code maxLocals ret :: tables_1
/-- a 'code' word, met by the world's own term for the bytes: nothing is compared byte by byte -/
theorem code_word {y : MethodName} {bytes : ByteArray} {mx : Nat} {rt : Option FieldType} {a : Array Value} {s : State} {m : MethodId} {meth : Method} {c : Code} (h1 : s.methodNamed? y = some m) (h2 : s.vm.method? m = some meth) (h3 : meth.code = some c) (h4 : c.code = bytes)
    (h5 : (c.maxLocals == mx && c.exceptionTable.isEmpty && decide (c.maxStack ≤ mostOperands) && decide (meth.sig.returnType = rt) && !meth.locks && decide (parseMethodDescriptor y.desc = some meth.sig)) = true) : (Jvm.Cond.code y bytes mx rt).before a s = true := by
  simp only [Bool.and_eq_true, beq_iff_eq, Bool.not_eq_true', decide_eq_true_eq] at h5
  obtain ⟨⟨⟨⟨⟨g1, g2⟩, g3⟩, g4⟩, g5⟩, g6⟩ := h5
  simp [Cond.before, Cond.holds, Cond.value, h1, h2, h3, h4, g1, g2, g3, g4, g5, g6]
def isCode : Jvm.Cond → Bool
  | .code _ _ _ _ => true
  | _ => false
theorem all_split {L : List Jvm.Cond} {P : Jvm.Cond → Bool} (h1 : L.all (fun c => isCode c || P c) = true) (h2 : ∀ c ∈ L.filter isCode, P c = true) : L.all P = true := by
  refine List.all_eq_true.mpr fun c hc => ?_
  have h := List.all_eq_true.mp h1 c hc
  rcases Bool.eq_false_or_eq_true (isCode c) with hi | hi
  · exact h2 c (List.mem_filter.mpr ⟨hc, hi⟩)
  · simpa [hi] using h
set_option maxRecDepth 65536 in
theorem w_c0 : (Jvm.Cond.code x code maxLocals ret).before args0 about1 = true := code_word (m := ⟨1, 2⟩) (meth := k1m2) (c := k1c2) (by decide +kernel) rfl rfl rfl (by decide +kernel)
set_option maxRecDepth 65536 in
theorem w_c1 : (Jvm.Cond.code ({ cls := "dev/treefold/text/Canvas", name := "<init>", desc := "(II)V" } : Jvm.MethodName) prog_104_method_1_code (3 : Nat) (Option.none : Option Jvm.ClassFile.FieldType)).before args0 about1 = true := code_word (m := ⟨2, 0⟩) (meth := k2m0) (c := k2c0) (by decide +kernel) rfl rfl rfl (by decide +kernel)
set_option maxRecDepth 65536 in
theorem w_c2 : (Jvm.Cond.code ({ cls := "java/lang/Object", name := "<init>", desc := "()V" } : Jvm.MethodName) object_method_1_code (1 : Nat) (Option.none : Option Jvm.ClassFile.FieldType)).before args0 about1 = true := code_word (m := ⟨0, 0⟩) (meth := k0m0) (c := k0c0) (by decide +kernel) rfl rfl rfl (by decide +kernel)
set_option maxRecDepth 65536 in
theorem w_c3 : (Jvm.Cond.code ({ cls := "dev/treefold/text/Canvas", name := "unclip", desc := "()V" } : Jvm.MethodName) prog_104_method_7_code (1 : Nat) (Option.none : Option Jvm.ClassFile.FieldType)).before args0 about1 = true := code_word (m := ⟨2, 4⟩) (meth := k2m4) (c := k2c4) (by decide +kernel) rfl rfl rfl (by decide +kernel)
set_option maxRecDepth 65536 in
theorem w_c4 : (Jvm.Cond.code ({ cls := "dev/treefold/text/Canvas", name := "clip", desc := "(IIII)V" } : Jvm.MethodName) prog_104_method_6_code (5 : Nat) (Option.none : Option Jvm.ClassFile.FieldType)).before args0 about1 = true := code_word (m := ⟨2, 3⟩) (meth := k2m3) (c := k2c3) (by decide +kernel) rfl rfl rfl (by decide +kernel)
set_option maxRecDepth 65536 in
theorem w_c5 : (Jvm.Cond.code ({ cls := "dev/treefold/text/Canvas", name := "write", desc := "(IILjava/lang/String;)V" } : Jvm.MethodName) prog_104_method_2_code (12 : Nat) (Option.none : Option Jvm.ClassFile.FieldType)).before args0 about1 = true := code_word (m := ⟨2, 1⟩) (meth := k2m1) (c := k2c1) (by decide +kernel) rfl rfl rfl (by decide +kernel)
set_option maxRecDepth 65536 in
theorem w_c6 : (Jvm.Cond.code ({ cls := "dev/treefold/text/Canvas", name := "lines", desc := "()Ljava/util/List;" } : Jvm.MethodName) prog_104_method_3_code (7 : Nat) (Option.some (Jvm.ClassFile.FieldType.object "java/util/List"))).before args0 about1 = true := code_word (m := ⟨2, 2⟩) (meth := k2m2) (c := k2c2) (by decide +kernel) rfl rfl rfl (by decide +kernel)
set_option maxRecDepth 65536 in
theorem w_c7 : (Jvm.Cond.code ({ cls := "java/util/ArrayList", name := "<init>", desc := "(I)V" } : Jvm.MethodName) jdk_38_method_1_code (2 : Nat) (Option.none : Option Jvm.ClassFile.FieldType)).before args0 about1 = true := code_word (m := ⟨17, 0⟩) (meth := k17m0) (c := k17c0) (by decide +kernel) rfl rfl rfl (by decide +kernel)
set_option maxRecDepth 65536 in
theorem w_c8 : (Jvm.Cond.code ({ cls := "java/util/AbstractList", name := "<init>", desc := "()V" } : Jvm.MethodName) jdk_39_method_1_code (1 : Nat) (Option.none : Option Jvm.ClassFile.FieldType)).before args0 about1 = true := code_word (m := ⟨14, 0⟩) (meth := k14m0) (c := k14c0) (by decide +kernel) rfl rfl rfl (by decide +kernel)
set_option maxRecDepth 65536 in
theorem w_c9 : (Jvm.Cond.code ({ cls := "java/util/AbstractCollection", name := "<init>", desc := "()V" } : Jvm.MethodName) jdk_22_method_1_code (1 : Nat) (Option.none : Option Jvm.ClassFile.FieldType)).before args0 about1 = true := code_word (m := ⟨11, 0⟩) (meth := k11m0) (c := k11c0) (by decide +kernel) rfl rfl rfl (by decide +kernel)
set_option maxRecDepth 65536 in
theorem w_c10 : (Jvm.Cond.code ({ cls := "java/util/ArrayList", name := "add", desc := "(Ljava/lang/Object;)Z" } : Jvm.MethodName) jdk_38_method_25_code (2 : Nat) (Option.some Jvm.ClassFile.FieldType.boolean)).before args0 about1 = true := code_word (m := ⟨17, 6⟩) (meth := k17m6) (c := k17c6) (by decide +kernel) rfl rfl rfl (by decide +kernel)
set_option maxRecDepth 65536 in
theorem w_c11 : (Jvm.Cond.code ({ cls := "java/util/ArrayList", name := "add", desc := "(Ljava/lang/Object;[Ljava/lang/Object;I)V" } : Jvm.MethodName) jdk_38_method_24_code (4 : Nat) (Option.none : Option Jvm.ClassFile.FieldType)).before args0 about1 = true := code_word (m := ⟨17, 5⟩) (meth := k17m5) (c := k17c5) (by decide +kernel) rfl rfl rfl (by decide +kernel)
set_option maxRecDepth 65536 in
theorem w_c12 : (Jvm.Cond.code ({ cls := "java/util/ArrayList", name := "size", desc := "()I" } : Jvm.MethodName) jdk_38_method_8_code (1 : Nat) (Option.some Jvm.ClassFile.FieldType.int)).before args0 about1 = true := code_word (m := ⟨17, 2⟩) (meth := k17m2) (c := k17c2) (by decide +kernel) rfl rfl rfl (by decide +kernel)
set_option maxRecDepth 65536 in
theorem w_c13 : (Jvm.Cond.code ({ cls := "java/util/ArrayList", name := "get", desc := "(I)Ljava/lang/Object;" } : Jvm.MethodName) jdk_38_method_20_code (2 : Nat) (Option.some (Jvm.ClassFile.FieldType.object "java/lang/Object"))).before args0 about1 = true := code_word (m := ⟨17, 4⟩) (meth := k17m4) (c := k17c4) (by decide +kernel) rfl rfl rfl (by decide +kernel)
set_option maxRecDepth 65536 in
theorem w_c14 : (Jvm.Cond.code ({ cls := "java/util/Objects", name := "checkIndex", desc := "(II)I" } : Jvm.MethodName) jdk_31_method_17_code (2 : Nat) (Option.some Jvm.ClassFile.FieldType.int)).before args0 about1 = true := code_word (m := ⟨18, 1⟩) (meth := k18m1) (c := k18c1) (by decide +kernel) rfl rfl rfl (by decide +kernel)
set_option maxRecDepth 65536 in
theorem w_c15 : (Jvm.Cond.code ({ cls := "jdk/internal/util/Preconditions", name := "checkIndex", desc := "(IILjava/util/function/BiFunction;)I" } : Jvm.MethodName) jdk_41_method_11_code (3 : Nat) (Option.some Jvm.ClassFile.FieldType.int)).before args0 about1 = true := code_word (m := ⟨19, 1⟩) (meth := k19m1) (c := k19c1) (by decide +kernel) rfl rfl rfl (by decide +kernel)
set_option maxRecDepth 65536 in
theorem w_c16 : (Jvm.Cond.code ({ cls := "java/util/ArrayList", name := "elementData", desc := "(I)Ljava/lang/Object;" } : Jvm.MethodName) jdk_38_method_18_code (2 : Nat) (Option.some (Jvm.ClassFile.FieldType.object "java/lang/Object"))).before args0 about1 = true := code_word (m := ⟨17, 3⟩) (meth := k17m3) (c := k17c3) (by decide +kernel) rfl rfl rfl (by decide +kernel)
set_option maxRecDepth 65536 in
theorem w_c17 : (Jvm.Cond.code ({ cls := "dev/treefold/text/CanvasClipPinLaw", name := "rowOk", desc := "(Ljava/lang/String;IIIZ)Z" } : Jvm.MethodName) method_2_code (5 : Nat) (Option.some Jvm.ClassFile.FieldType.boolean)).before args0 about1 = true := code_word (m := ⟨1, 1⟩) (meth := k1m1) (c := k1c1) (by decide +kernel) rfl rfl rfl (by decide +kernel)
set_option maxRecDepth 65536 in
theorem w_c18 : (Jvm.Cond.code ({ cls := "java/lang/String", name := "length", desc := "()I" } : Jvm.MethodName) jdk_42_method_54_code (1 : Nat) (Option.some Jvm.ClassFile.FieldType.int)).before args0 about1 = true := code_word (m := ⟨8, 2⟩) (meth := k8m2) (c := k8c2) (by decide +kernel) rfl rfl rfl (by decide +kernel)
set_option maxRecDepth 65536 in
theorem w_c19 : (Jvm.Cond.code ({ cls := "java/lang/String", name := "coder", desc := "()B" } : Jvm.MethodName) jdk_42_method_152_code (1 : Nat) (Option.some Jvm.ClassFile.FieldType.byte)).before args0 about1 = true := code_word (m := ⟨8, 7⟩) (meth := k8m7) (c := k8c7) (by decide +kernel) rfl rfl rfl (by decide +kernel)
set_option maxRecDepth 65536 in
theorem w_c20 : (Jvm.Cond.code ({ cls := "java/lang/Math", name := "max", desc := "(II)I" } : Jvm.MethodName) jdk_29_method_65_code (2 : Nat) (Option.some Jvm.ClassFile.FieldType.int)).before args0 about1 = true := code_word (m := ⟨20, 1⟩) (meth := k20m1) (c := k20c1) (by decide +kernel) rfl rfl rfl (by decide +kernel)
set_option maxRecDepth 65536 in
theorem w_c21 : (Jvm.Cond.code ({ cls := "java/lang/String", name := "codePointCount", desc := "(II)I" } : Jvm.MethodName) jdk_42_method_59_code (3 : Nat) (Option.some Jvm.ClassFile.FieldType.int)).before args0 about1 = true := code_word (m := ⟨8, 5⟩) (meth := k8m5) (c := k8c5) (by decide +kernel) rfl rfl rfl (by decide +kernel)
set_option maxRecDepth 65536 in
theorem w_c22 : (Jvm.Cond.code ({ cls := "java/util/Objects", name := "checkFromToIndex", desc := "(III)I" } : Jvm.MethodName) jdk_31_method_18_code (3 : Nat) (Option.some Jvm.ClassFile.FieldType.int)).before args0 about1 = true := code_word (m := ⟨18, 2⟩) (meth := k18m2) (c := k18c2) (by decide +kernel) rfl rfl rfl (by decide +kernel)
set_option maxRecDepth 65536 in
theorem w_c23 : (Jvm.Cond.code ({ cls := "jdk/internal/util/Preconditions", name := "checkFromToIndex", desc := "(IIILjava/util/function/BiFunction;)I" } : Jvm.MethodName) jdk_41_method_12_code (4 : Nat) (Option.some Jvm.ClassFile.FieldType.int)).before args0 about1 = true := code_word (m := ⟨19, 2⟩) (meth := k19m2) (c := k19c2) (by decide +kernel) rfl rfl rfl (by decide +kernel)
set_option maxRecDepth 65536 in
theorem w_c24 : (Jvm.Cond.code ({ cls := "java/lang/String", name := "isLatin1", desc := "()Z" } : Jvm.MethodName) jdk_42_method_154_code (1 : Nat) (Option.some Jvm.ClassFile.FieldType.boolean)).before args0 about1 = true := code_word (m := ⟨8, 8⟩) (meth := k8m8) (c := k8c8) (by decide +kernel) rfl rfl rfl (by decide +kernel)
set_option maxRecDepth 65536 in
theorem w_c25 : (Jvm.Cond.code ({ cls := "java/lang/Math", name := "min", desc := "(JJ)J" } : Jvm.MethodName) jdk_29_method_70_code (4 : Nat) (Option.some Jvm.ClassFile.FieldType.long)).before args0 about1 = true := code_word (m := ⟨20, 3⟩) (meth := k20m3) (c := k20c3) (by decide +kernel) rfl rfl rfl (by decide +kernel)
set_option maxRecDepth 65536 in
theorem w_c26 : (Jvm.Cond.code ({ cls := "dev/treefold/text/Canvas", name := "row", desc := "(II)[I" } : Jvm.MethodName) prog_104_method_9_code (6 : Nat) (Option.some (Jvm.ClassFile.FieldType.array Jvm.ClassFile.FieldType.int))).before args0 about1 = true := code_word (m := ⟨2, 6⟩) (meth := k2m6) (c := k2c6) (by decide +kernel) rfl rfl rfl (by decide +kernel)
set_option maxRecDepth 65536 in
theorem w_c27 : (Jvm.Cond.code ({ cls := "java/lang/Math", name := "max", desc := "(JJ)J" } : Jvm.MethodName) jdk_29_method_66_code (4 : Nat) (Option.some Jvm.ClassFile.FieldType.long)).before args0 about1 = true := code_word (m := ⟨20, 2⟩) (meth := k20m2) (c := k20c2) (by decide +kernel) rfl rfl rfl (by decide +kernel)
set_option maxRecDepth 65536 in
theorem w_c28 : (Jvm.Cond.code ({ cls := "java/util/Arrays", name := "fill", desc := "([IIII)V" } : Jvm.MethodName) jdk_65_method_104_code (5 : Nat) (Option.none : Option Jvm.ClassFile.FieldType)).before args0 about1 = true := code_word (m := ⟨21, 2⟩) (meth := k21m2) (c := k21c2) (by decide +kernel) rfl rfl rfl (by decide +kernel)
set_option maxRecDepth 65536 in
theorem w_c29 : (Jvm.Cond.code ({ cls := "java/util/Arrays", name := "rangeCheck", desc := "(III)V" } : Jvm.MethodName) jdk_65_method_30_code (3 : Nat) (Option.none : Option Jvm.ClassFile.FieldType)).before args0 about1 = true := code_word (m := ⟨21, 1⟩) (meth := k21m1) (c := k21c1) (by decide +kernel) rfl rfl rfl (by decide +kernel)
set_option maxRecDepth 65536 in
theorem w_c30 : (Jvm.Cond.code ({ cls := "java/lang/String", name := "offsetByCodePoints", desc := "(II)I" } : Jvm.MethodName) jdk_42_method_60_code (3 : Nat) (Option.some Jvm.ClassFile.FieldType.int)).before args0 about1 = true := code_word (m := ⟨8, 6⟩) (meth := k8m6) (c := k8c6) (by decide +kernel) rfl rfl rfl (by decide +kernel)
set_option maxRecDepth 65536 in
theorem w_c31 : (Jvm.Cond.code ({ cls := "java/lang/Character", name := "offsetByCodePoints", desc := "(Ljava/lang/CharSequence;II)I" } : Jvm.MethodName) jdk_89_method_36_code (6 : Nat) (Option.some Jvm.ClassFile.FieldType.int)).before args0 about1 = true := code_word (m := ⟨22, 1⟩) (meth := k22m1) (c := k22c1) (by decide +kernel) rfl rfl rfl (by decide +kernel)
set_option maxRecDepth 65536 in
theorem w_c32 : (Jvm.Cond.code ({ cls := "java/lang/String", name := "codePointAt", desc := "(I)I" } : Jvm.MethodName) jdk_42_method_57_code (3 : Nat) (Option.some Jvm.ClassFile.FieldType.int)).before args0 about1 = true := code_word (m := ⟨8, 4⟩) (meth := k8m4) (c := k8c4) (by decide +kernel) rfl rfl rfl (by decide +kernel)
set_option maxRecDepth 65536 in
theorem w_c33 : (Jvm.Cond.code ({ cls := "java/lang/String", name := "checkIndex", desc := "(II)V" } : Jvm.MethodName) jdk_42_method_155_code (2 : Nat) (Option.none : Option Jvm.ClassFile.FieldType)).before args0 about1 = true := code_word (m := ⟨8, 9⟩) (meth := k8m9) (c := k8c9) (by decide +kernel) rfl rfl rfl (by decide +kernel)
set_option maxRecDepth 65536 in
theorem w_c34 : (Jvm.Cond.code ({ cls := "java/lang/Character", name := "charCount", desc := "(I)I" } : Jvm.MethodName) jdk_89_method_18_code (1 : Nat) (Option.some Jvm.ClassFile.FieldType.int)).before args0 about1 = true := code_word (m := ⟨22, 0⟩) (meth := k22m0) (c := k22c0) (by decide +kernel) rfl rfl rfl (by decide +kernel)
set_option maxRecDepth 65536 in
theorem w_c35 : (Jvm.Cond.code ({ cls := "dev/treefold/text/Canvas", name := "showsAsBlank", desc := "(I)Z" } : Jvm.MethodName) prog_104_method_8_code (1 : Nat) (Option.some Jvm.ClassFile.FieldType.boolean)).before args0 about1 = true := code_word (m := ⟨2, 5⟩) (meth := k2m5) (c := k2c5) (by decide +kernel) rfl rfl rfl (by decide +kernel)
set_option maxRecDepth 65536 in
theorem w_c36 : (Jvm.Cond.code ({ cls := "java/lang/Character", name := "isISOControl", desc := "(I)Z" } : Jvm.MethodName) jdk_89_method_89_code (1 : Nat) (Option.some Jvm.ClassFile.FieldType.boolean)).before args0 about1 = true := code_word (m := ⟨22, 2⟩) (meth := k22m2) (c := k22c2) (by decide +kernel) rfl rfl rfl (by decide +kernel)
set_option maxRecDepth 65536 in
theorem w_c37 : (Jvm.Cond.code ({ cls := "java/lang/String", name := "<init>", desc := "([III)V" } : Jvm.MethodName) jdk_42_method_6_code (5 : Nat) (Option.none : Option Jvm.ClassFile.FieldType)).before args0 about1 = true := code_word (m := ⟨8, 1⟩) (meth := k8m1) (c := k8c1) (by decide +kernel) rfl rfl rfl (by decide +kernel)
set_option maxRecDepth 65536 in
theorem w_c38 : (Jvm.Cond.code ({ cls := "java/lang/String", name := "checkBoundsOffCount", desc := "(III)I" } : Jvm.MethodName) jdk_42_method_157_code (3 : Nat) (Option.some Jvm.ClassFile.FieldType.int)).before args0 about1 = true := code_word (m := ⟨8, 10⟩) (meth := k8m10) (c := k8c10) (by decide +kernel) rfl rfl rfl (by decide +kernel)
set_option maxRecDepth 65536 in
theorem w_c39 : (Jvm.Cond.code ({ cls := "jdk/internal/util/Preconditions", name := "checkFromIndexSize", desc := "(IIILjava/util/function/BiFunction;)I" } : Jvm.MethodName) jdk_41_method_13_code (4 : Nat) (Option.some Jvm.ClassFile.FieldType.int)).before args0 about1 = true := code_word (m := ⟨19, 3⟩) (meth := k19m3) (c := k19c3) (by decide +kernel) rfl rfl rfl (by decide +kernel)
set_option maxRecDepth 65536 in
theorem w_c40 : (Jvm.Cond.code ({ cls := "java/lang/StringUTF16", name := "compress", desc := "([III)[B" } : Jvm.MethodName) jdk_52_method_18_code (10 : Nat) (Option.some (Jvm.ClassFile.FieldType.array Jvm.ClassFile.FieldType.byte))).before args0 about1 = true := code_word (m := ⟨23, 2⟩) (meth := k23m2) (c := k23c2) (by decide +kernel) rfl rfl rfl (by decide +kernel)
set_option maxRecDepth 65536 in
theorem w_c41 : (Jvm.Cond.code ({ cls := "java/lang/StringUTF16", name := "coderFromArrayLen", desc := "([BI)B" } : Jvm.MethodName) jdk_52_method_15_code (2 : Nat) (Option.some Jvm.ClassFile.FieldType.byte)).before args0 about1 = true := code_word (m := ⟨23, 1⟩) (meth := k23m1) (c := k23c1) (by decide +kernel) rfl rfl rfl (by decide +kernel)
set_option maxRecDepth 65536 in
theorem w_c42 : (Jvm.Cond.code ({ cls := "java/lang/String", name := "charAt", desc := "(I)C" } : Jvm.MethodName) jdk_42_method_56_code (2 : Nat) (Option.some Jvm.ClassFile.FieldType.char)).before args0 about1 = true := code_word (m := ⟨8, 3⟩) (meth := k8m3) (c := k8c3) (by decide +kernel) rfl rfl rfl (by decide +kernel)
set_option maxRecDepth 65536 in
theorem w_c43 : (Jvm.Cond.code ({ cls := "java/lang/StringLatin1", name := "charAt", desc := "([BI)C" } : Jvm.MethodName) jdk_43_method_2_code (2 : Nat) (Option.some Jvm.ClassFile.FieldType.char)).before args0 about1 = true := code_word (m := ⟨24, 1⟩) (meth := k24m1) (c := k24c1) (by decide +kernel) rfl rfl rfl (by decide +kernel)
def codes1 : List Jvm.Cond := [Jvm.Cond.code x code maxLocals ret, Jvm.Cond.code ({ cls := "dev/treefold/text/Canvas", name := "<init>", desc := "(II)V" } : Jvm.MethodName) prog_104_method_1_code (3 : Nat) (Option.none : Option Jvm.ClassFile.FieldType), Jvm.Cond.code ({ cls := "java/lang/Object", name := "<init>", desc := "()V" } : Jvm.MethodName) object_method_1_code (1 : Nat) (Option.none : Option Jvm.ClassFile.FieldType), Jvm.Cond.code ({ cls := "dev/treefold/text/Canvas", name := "unclip", desc := "()V" } : Jvm.MethodName) prog_104_method_7_code (1 : Nat) (Option.none : Option Jvm.ClassFile.FieldType), Jvm.Cond.code ({ cls := "dev/treefold/text/Canvas", name := "clip", desc := "(IIII)V" } : Jvm.MethodName) prog_104_method_6_code (5 : Nat) (Option.none : Option Jvm.ClassFile.FieldType), Jvm.Cond.code ({ cls := "dev/treefold/text/Canvas", name := "write", desc := "(IILjava/lang/String;)V" } : Jvm.MethodName) prog_104_method_2_code (12 : Nat) (Option.none : Option Jvm.ClassFile.FieldType), Jvm.Cond.code ({ cls := "dev/treefold/text/Canvas", name := "lines", desc := "()Ljava/util/List;" } : Jvm.MethodName) prog_104_method_3_code (7 : Nat) (Option.some (Jvm.ClassFile.FieldType.object "java/util/List")), Jvm.Cond.code ({ cls := "java/util/ArrayList", name := "<init>", desc := "(I)V" } : Jvm.MethodName) jdk_38_method_1_code (2 : Nat) (Option.none : Option Jvm.ClassFile.FieldType), Jvm.Cond.code ({ cls := "java/util/AbstractList", name := "<init>", desc := "()V" } : Jvm.MethodName) jdk_39_method_1_code (1 : Nat) (Option.none : Option Jvm.ClassFile.FieldType), Jvm.Cond.code ({ cls := "java/util/AbstractCollection", name := "<init>", desc := "()V" } : Jvm.MethodName) jdk_22_method_1_code (1 : Nat) (Option.none : Option Jvm.ClassFile.FieldType), Jvm.Cond.code ({ cls := "java/util/ArrayList", name := "add", desc := "(Ljava/lang/Object;)Z" } : Jvm.MethodName) jdk_38_method_25_code (2 : Nat) (Option.some Jvm.ClassFile.FieldType.boolean), Jvm.Cond.code ({ cls := "java/util/ArrayList", name := "add", desc := "(Ljava/lang/Object;[Ljava/lang/Object;I)V" } : Jvm.MethodName) jdk_38_method_24_code (4 : Nat) (Option.none : Option Jvm.ClassFile.FieldType), Jvm.Cond.code ({ cls := "java/util/ArrayList", name := "size", desc := "()I" } : Jvm.MethodName) jdk_38_method_8_code (1 : Nat) (Option.some Jvm.ClassFile.FieldType.int), Jvm.Cond.code ({ cls := "java/util/ArrayList", name := "get", desc := "(I)Ljava/lang/Object;" } : Jvm.MethodName) jdk_38_method_20_code (2 : Nat) (Option.some (Jvm.ClassFile.FieldType.object "java/lang/Object")), Jvm.Cond.code ({ cls := "java/util/Objects", name := "checkIndex", desc := "(II)I" } : Jvm.MethodName) jdk_31_method_17_code (2 : Nat) (Option.some Jvm.ClassFile.FieldType.int), Jvm.Cond.code ({ cls := "jdk/internal/util/Preconditions", name := "checkIndex", desc := "(IILjava/util/function/BiFunction;)I" } : Jvm.MethodName) jdk_41_method_11_code (3 : Nat) (Option.some Jvm.ClassFile.FieldType.int), Jvm.Cond.code ({ cls := "java/util/ArrayList", name := "elementData", desc := "(I)Ljava/lang/Object;" } : Jvm.MethodName) jdk_38_method_18_code (2 : Nat) (Option.some (Jvm.ClassFile.FieldType.object "java/lang/Object")), Jvm.Cond.code ({ cls := "dev/treefold/text/CanvasClipPinLaw", name := "rowOk", desc := "(Ljava/lang/String;IIIZ)Z" } : Jvm.MethodName) method_2_code (5 : Nat) (Option.some Jvm.ClassFile.FieldType.boolean), Jvm.Cond.code ({ cls := "java/lang/String", name := "length", desc := "()I" } : Jvm.MethodName) jdk_42_method_54_code (1 : Nat) (Option.some Jvm.ClassFile.FieldType.int), Jvm.Cond.code ({ cls := "java/lang/String", name := "coder", desc := "()B" } : Jvm.MethodName) jdk_42_method_152_code (1 : Nat) (Option.some Jvm.ClassFile.FieldType.byte), Jvm.Cond.code ({ cls := "java/lang/Math", name := "max", desc := "(II)I" } : Jvm.MethodName) jdk_29_method_65_code (2 : Nat) (Option.some Jvm.ClassFile.FieldType.int), Jvm.Cond.code ({ cls := "java/lang/String", name := "codePointCount", desc := "(II)I" } : Jvm.MethodName) jdk_42_method_59_code (3 : Nat) (Option.some Jvm.ClassFile.FieldType.int), Jvm.Cond.code ({ cls := "java/util/Objects", name := "checkFromToIndex", desc := "(III)I" } : Jvm.MethodName) jdk_31_method_18_code (3 : Nat) (Option.some Jvm.ClassFile.FieldType.int), Jvm.Cond.code ({ cls := "jdk/internal/util/Preconditions", name := "checkFromToIndex", desc := "(IIILjava/util/function/BiFunction;)I" } : Jvm.MethodName) jdk_41_method_12_code (4 : Nat) (Option.some Jvm.ClassFile.FieldType.int), Jvm.Cond.code ({ cls := "java/lang/String", name := "isLatin1", desc := "()Z" } : Jvm.MethodName) jdk_42_method_154_code (1 : Nat) (Option.some Jvm.ClassFile.FieldType.boolean), Jvm.Cond.code ({ cls := "java/lang/Math", name := "min", desc := "(JJ)J" } : Jvm.MethodName) jdk_29_method_70_code (4 : Nat) (Option.some Jvm.ClassFile.FieldType.long), Jvm.Cond.code ({ cls := "dev/treefold/text/Canvas", name := "row", desc := "(II)[I" } : Jvm.MethodName) prog_104_method_9_code (6 : Nat) (Option.some (Jvm.ClassFile.FieldType.array Jvm.ClassFile.FieldType.int)), Jvm.Cond.code ({ cls := "java/lang/Math", name := "max", desc := "(JJ)J" } : Jvm.MethodName) jdk_29_method_66_code (4 : Nat) (Option.some Jvm.ClassFile.FieldType.long), Jvm.Cond.code ({ cls := "java/util/Arrays", name := "fill", desc := "([IIII)V" } : Jvm.MethodName) jdk_65_method_104_code (5 : Nat) (Option.none : Option Jvm.ClassFile.FieldType), Jvm.Cond.code ({ cls := "java/util/Arrays", name := "rangeCheck", desc := "(III)V" } : Jvm.MethodName) jdk_65_method_30_code (3 : Nat) (Option.none : Option Jvm.ClassFile.FieldType), Jvm.Cond.code ({ cls := "java/lang/String", name := "offsetByCodePoints", desc := "(II)I" } : Jvm.MethodName) jdk_42_method_60_code (3 : Nat) (Option.some Jvm.ClassFile.FieldType.int), Jvm.Cond.code ({ cls := "java/lang/Character", name := "offsetByCodePoints", desc := "(Ljava/lang/CharSequence;II)I" } : Jvm.MethodName) jdk_89_method_36_code (6 : Nat) (Option.some Jvm.ClassFile.FieldType.int), Jvm.Cond.code ({ cls := "java/lang/String", name := "codePointAt", desc := "(I)I" } : Jvm.MethodName) jdk_42_method_57_code (3 : Nat) (Option.some Jvm.ClassFile.FieldType.int), Jvm.Cond.code ({ cls := "java/lang/String", name := "checkIndex", desc := "(II)V" } : Jvm.MethodName) jdk_42_method_155_code (2 : Nat) (Option.none : Option Jvm.ClassFile.FieldType), Jvm.Cond.code ({ cls := "java/lang/Character", name := "charCount", desc := "(I)I" } : Jvm.MethodName) jdk_89_method_18_code (1 : Nat) (Option.some Jvm.ClassFile.FieldType.int), Jvm.Cond.code ({ cls := "dev/treefold/text/Canvas", name := "showsAsBlank", desc := "(I)Z" } : Jvm.MethodName) prog_104_method_8_code (1 : Nat) (Option.some Jvm.ClassFile.FieldType.boolean), Jvm.Cond.code ({ cls := "java/lang/Character", name := "isISOControl", desc := "(I)Z" } : Jvm.MethodName) jdk_89_method_89_code (1 : Nat) (Option.some Jvm.ClassFile.FieldType.boolean), Jvm.Cond.code ({ cls := "java/lang/String", name := "<init>", desc := "([III)V" } : Jvm.MethodName) jdk_42_method_6_code (5 : Nat) (Option.none : Option Jvm.ClassFile.FieldType), Jvm.Cond.code ({ cls := "java/lang/String", name := "checkBoundsOffCount", desc := "(III)I" } : Jvm.MethodName) jdk_42_method_157_code (3 : Nat) (Option.some Jvm.ClassFile.FieldType.int), Jvm.Cond.code ({ cls := "jdk/internal/util/Preconditions", name := "checkFromIndexSize", desc := "(IIILjava/util/function/BiFunction;)I" } : Jvm.MethodName) jdk_41_method_13_code (4 : Nat) (Option.some Jvm.ClassFile.FieldType.int), Jvm.Cond.code ({ cls := "java/lang/StringUTF16", name := "compress", desc := "([III)[B" } : Jvm.MethodName) jdk_52_method_18_code (10 : Nat) (Option.some (Jvm.ClassFile.FieldType.array Jvm.ClassFile.FieldType.byte)), Jvm.Cond.code ({ cls := "java/lang/StringUTF16", name := "coderFromArrayLen", desc := "([BI)B" } : Jvm.MethodName) jdk_52_method_15_code (2 : Nat) (Option.some Jvm.ClassFile.FieldType.byte), Jvm.Cond.code ({ cls := "java/lang/String", name := "charAt", desc := "(I)C" } : Jvm.MethodName) jdk_42_method_56_code (2 : Nat) (Option.some Jvm.ClassFile.FieldType.char), Jvm.Cond.code ({ cls := "java/lang/StringLatin1", name := "charAt", desc := "([BI)C" } : Jvm.MethodName) jdk_43_method_2_code (2 : Nat) (Option.some Jvm.ClassFile.FieldType.char)]
set_option maxRecDepth 65536 in
theorem codes_eq : words1.filter isCode = codes1 := rfl
theorem w_codes : ∀ c ∈ words1.filter isCode, c.before args0 about1 = true := by
  rw [codes_eq]
  intro c hc
  simp only [codes1, List.mem_cons, List.not_mem_nil, or_false] at hc
  rcases hc with rfl | rfl | rfl | rfl | rfl | rfl | rfl | rfl | rfl | rfl | rfl | rfl | rfl | rfl | rfl | rfl | rfl | rfl | rfl | rfl | rfl | rfl | rfl | rfl | rfl | rfl | rfl | rfl | rfl | rfl | rfl | rfl | rfl | rfl | rfl | rfl | rfl | rfl | rfl | rfl | rfl | rfl | rfl | rfl
  · exact w_c0
  · exact w_c1
  · exact w_c2
  · exact w_c3
  · exact w_c4
  · exact w_c5
  · exact w_c6
  · exact w_c7
  · exact w_c8
  · exact w_c9
  · exact w_c10
  · exact w_c11
  · exact w_c12
  · exact w_c13
  · exact w_c14
  · exact w_c15
  · exact w_c16
  · exact w_c17
  · exact w_c18
  · exact w_c19
  · exact w_c20
  · exact w_c21
  · exact w_c22
  · exact w_c23
  · exact w_c24
  · exact w_c25
  · exact w_c26
  · exact w_c27
  · exact w_c28
  · exact w_c29
  · exact w_c30
  · exact w_c31
  · exact w_c32
  · exact w_c33
  · exact w_c34
  · exact w_c35
  · exact w_c36
  · exact w_c37
  · exact w_c38
  · exact w_c39
  · exact w_c40
  · exact w_c41
  · exact w_c42
  · exact w_c43
set_option maxRecDepth 65536 in
theorem w_t1 : (words1.take 24).all (fun c => isCode c || c.before args0 about1) = true := by decide +kernel
set_option maxRecDepth 65536 in
theorem w_t2 : ((words1.drop 24).take 24).all (fun c => isCode c || c.before args0 about1) = true := by decide +kernel
set_option maxRecDepth 65536 in
theorem w_t3 : (((words1.drop 24).drop 24).take 24).all (fun c => isCode c || c.before args0 about1) = true := by decide +kernel
set_option maxRecDepth 65536 in
theorem w_t4 : ((((words1.drop 24).drop 24).drop 24).take 24).all (fun c => isCode c || c.before args0 about1) = true := by decide +kernel
set_option maxRecDepth 65536 in
theorem w_t5 : (((((words1.drop 24).drop 24).drop 24).drop 24).take 24).all (fun c => isCode c || c.before args0 about1) = true := by decide +kernel
set_option maxRecDepth 65536 in
theorem w_t6 : ((((((words1.drop 24).drop 24).drop 24).drop 24).drop 24).take 24).all (fun c => isCode c || c.before args0 about1) = true := by decide +kernel
set_option maxRecDepth 65536 in
theorem w_t7 : (((((((words1.drop 24).drop 24).drop 24).drop 24).drop 24).drop 24).take 24).all (fun c => isCode c || c.before args0 about1) = true := by decide +kernel
set_option maxRecDepth 65536 in
theorem w_t8 : ((((((((words1.drop 24).drop 24).drop 24).drop 24).drop 24).drop 24).drop 24).take 24).all (fun c => isCode c || c.before args0 about1) = true := by decide +kernel
set_option maxRecDepth 65536 in
theorem w_t9 : (((((((((words1.drop 24).drop 24).drop 24).drop 24).drop 24).drop 24).drop 24).drop 24).take 24).all (fun c => isCode c || c.before args0 about1) = true := by decide +kernel
set_option maxRecDepth 65536 in
theorem w_t10 : ((((((((((words1.drop 24).drop 24).drop 24).drop 24).drop 24).drop 24).drop 24).drop 24).drop 24).take 24).all (fun c => isCode c || c.before args0 about1) = true := by decide +kernel
set_option maxRecDepth 65536 in
theorem w_t11 : ((((((((((words1.drop 24).drop 24).drop 24).drop 24).drop 24).drop 24).drop 24).drop 24).drop 24).drop 24).all (fun c => isCode c || c.before args0 about1) = true := by decide +kernel
theorem w_tables : (allAtoms (Jvm.Cond.code x code maxLocals ret :: tables_1)).before args0 about1 = true := by
  rw [allAtoms_all]
  show words1.all (fun c => c.before args0 about1) = true
  refine all_split ?_ w_codes
  rw [← List.take_append_drop 24 words1, List.all_append, w_t1, ← List.take_append_drop 24 (words1.drop 24), List.all_append, w_t2, ← List.take_append_drop 24 ((words1.drop 24).drop 24), List.all_append, w_t3, ← List.take_append_drop 24 (((words1.drop 24).drop 24).drop 24), List.all_append, w_t4, ← List.take_append_drop 24 ((((words1.drop 24).drop 24).drop 24).drop 24), List.all_append, w_t5, ← List.take_append_drop 24 (((((words1.drop 24).drop 24).drop 24).drop 24).drop 24), List.all_append, w_t6, ← List.take_append_drop 24 ((((((words1.drop 24).drop 24).drop 24).drop 24).drop 24).drop 24), List.all_append, w_t7, ← List.take_append_drop 24 (((((((words1.drop 24).drop 24).drop 24).drop 24).drop 24).drop 24).drop 24), List.all_append, w_t8, ← List.take_append_drop 24 ((((((((words1.drop 24).drop 24).drop 24).drop 24).drop 24).drop 24).drop 24).drop 24), List.all_append, w_t9, ← List.take_append_drop 24 (((((((((words1.drop 24).drop 24).drop 24).drop 24).drop 24).drop 24).drop 24).drop 24).drop 24), List.all_append, w_t10, w_t11]
  rfl
set_option maxRecDepth 65536 in
theorem w_rest : rest_1_c.before args0 about1 = true := by decide +kernel
set_option maxRecDepth 65536 in
theorem w_case : (Jvm.Cond.and given_1 narrow_1).before args0 about1 = true := by decide +kernel
set_option maxRecDepth 65536 in
theorem w_consts : constsHeld consts_1 about1 := Jvm.Lit.constsHeldB_iff.mp (by decide +kernel)
theorem w_applies : (headSpec (Jvm.Cond.code x code maxLocals ret :: tables_1) room_1).applies x e0.platform about1 = true :=
  (Spec.applies_iff w_frames).mpr ⟨w_running, w_runnable, w_alone, w_named, w_hears, w_ripe, w_room, w_tables⟩
theorem atStart : AtStart classFile x code maxLocals ret World_1 tables_1 room_1 Calls_1 rest_1 Pre_1 launch0 p0 e0 about1 theMethod args0 below0 :=
  ⟨lists_1, trivial, launch0.admits_env _ _ _, launch0.least_env, fairChoices_fair.cas, fairChoices_fair.clock, w_frames, w_args, w_heap, w_applies, ⟨w_consts, trivial⟩, w_rest, w_case⟩
end start1
theorem witness_1 : WitnessClaimed_1 := ⟨start1.p0, start1.e0, start1.about1, start1.theMethod, start1.args0, start1.below0, start1.atStart⟩
end Jvm.Pilot.@@N@@
