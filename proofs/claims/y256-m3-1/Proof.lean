import JvmDerived
import JvmDerived.Pilot.@@N@@Statement
import JvmDerived.Pilot.@@N@@Code
set_option linter.unusedVariables false
set_option linter.unusedSimpArgs false
namespace Jvm.RoadKit
open Sem ClassFile Op Lib Jvm.Stand Jvm.Free Jvm.LawKit
section New
variable {p : Program} {l : Launch} {e : Env} {R : Room} {s : State} {m : MethodId} {args : Array Value} {below : List Frame} {meth : Method} {c : Code} {T : State} {locs : List Loc} {cells slots : Nat}
theorem retI (X : Stand p l e R s m args below meth c T locs cells slots) (hx : p.tables.exec = Jvm.exec) {pc : Nat} {Ls : Array Slot} {z : Int32} {rest : List Value} (hret : meth.sig.returnType = some .int) (hd : decode c.code pc = .ok (.ireturn, 1)) {fs : List Frame}
    (hl : ∀ (f : JFrame) (acts : List Action), f.method = m → f.locked = none → f.entered = [] → (doReturn e (T.setTop f) acts (some (.int z))).1 = T.setFrames fs) : Steps p.tables e below (T.setTop (mkF m pc Ls (.int z :: rest))) (T.setFrames fs) := by
  have hm' : T.vm.method? m = some meth := X.method'
  have hn : narrow .int (.int z) = .int z := rfl
  show Steps p.tables e below (T.setTop { method := m, pc := pc, locals := Ls, stack := _ :: rest, locked := none }) _
  jvm_step X.here [X.here.top, hx, hd, hm', hret, hn]
  first | (intro acts; rw [hl _ acts rfl rfl rfl]) | rw [hl _ _ rfl rfl rfl]
  exact Steps.refl _
end New
end Jvm.RoadKit
/- laws to paste: pair_says, chr8_lo8, lo8_mask, shr0 (cut by pick.py; bodies as the Statement names them) -/
namespace Jvm.Pilot.@@N@@
namespace StrChars
open Jvm Sem ClassFile Op Lib Jvm.Stand Jvm.Free.XT Jvm.Free.ALB Jvm.Free.JM Jvm.Free
open Jvm.Lib.Cold (StaticIs)
/-- the byte that i2b leaves of a char -/
def lo8 (x : Int32) : Int32 := x.toInt8.toInt32
/-- the byte, read back as charAt reads it, is the char -/
theorem lo8_mask {x : Int32} (h0 : ¬ x < 0) (h1 : ¬ 255 < x) : lo8 x &&& 255 = x := by
  have t : ∀ k : Fin 256, lo8 (Int32.ofNat k.val) &&& 255 = Int32.ofNat k.val := by decide +kernel
  rw [Int32.lt_iff_toInt_lt] at h0 h1
  have e0 : (0 : Int32).toInt = 0 := rfl
  have e1 : (255 : Int32).toInt = 255 := rfl
  obtain ⟨k, hk⟩ : ∃ k : Nat, x.toInt = k := ⟨x.toInt.toNat, by omega⟩
  have hx : x = Int32.ofNat k := Int32.toInt_inj.mp (by rw [hk, Int32.toInt_ofNat_small (by omega)])
  rw [hx]
  exact t ⟨k, by omega⟩
end StrChars
namespace StrChars
open Jvm Sem ClassFile Op Lib Jvm.Stand Jvm.Free.XT Jvm.Free.ALB Jvm.Free.JM Jvm.Free
open Jvm.Lib.Cold (StaticIs)
def hi8 (x : Int32) : Int32 := lo8 (x >>> ((8 : Int32) &&& 31))
/-- what StringUTF16.getChar makes of two bytes -/
def pairCh (u v : Int32) : Int32 := (((u &&& 255) <<< ((0 : Int32) &&& 31)) ||| ((v &&& 255) <<< ((8 : Int32) &&& 31))).toUInt32.toUInt16.toUInt32.toInt32
theorem shr0 (c : Int32) : c >>> ((0 : Int32) &&& 31) = c := by
  have e : ((0 : Int32) &&& 31) = 0 := by decide
  rw [e]
  apply Int32.toBitVec_inj.mp
  rw [Int32.toBitVec_shiftRight]
  have e1 : ((0 : Int32).toBitVec.smod 32) = 0#32 := by decide
  rw [e1, BitVec.sshiftRight_eq']
  exact BitVec.sshiftRight_zero
theorem lo8_and (x : Int32) : (lo8 x &&& 255).toBitVec.toNat = x.toBitVec.toNat % 256 := by
  have h : (lo8 x).toBitVec = (x.toBitVec.signExtend 8).signExtend 32 := by rw [lo8, Int8.toBitVec_toInt32, Int32.toBitVec_toInt8]
  rw [Int32.toBitVec_and, BitVec.toNat_and, h]
  have e : ((x.toBitVec.signExtend 8).signExtend 32).toNat % 256 = x.toBitVec.toNat % 256 := by
    rw [BitVec.toNat_signExtend]
    have hlt := x.toBitVec.isLt
    simp only [BitVec.toNat_setWidth, BitVec.toNat_signExtend]
    split <;> split <;> omega
  rw [← e]
  exact Nat.and_two_pow_sub_one_eq_mod _ 8
theorem pair_says {c : Int32} (h0 : ¬ c < 0) (h1 : ¬ 65535 < c) : pairCh (lo8 c) (hi8 c) = c := by
  rw [Int32.lt_iff_toInt_lt] at h0 h1
  have e0 : (0 : Int32).toInt = 0 := rfl
  have e1 : (65535 : Int32).toInt = 65535 := rfl
  have hc : c.toInt = c.toBitVec.toNat := by
    have := c.toBitVec.isLt
    have e : c.toInt = c.toBitVec.toInt := rfl
    rw [e] at h0 h1
    rw [e]
    rw [BitVec.toInt_eq_toNat_cond] at h0 h1 ⊢
    split at h0 <;> split <;> omega
  have hn : c.toBitVec.toNat < 65536 := by omega
  have a1 := lo8_and c
  have a2 : (hi8 c &&& 255).toBitVec.toNat = c.toBitVec.toNat / 256 := by
    rw [hi8, lo8_and]
    have e : ((8 : Int32) &&& 31) = 8 := by decide
    rw [e, Int32.toBitVec_shiftRight]
    have e2 : ((8 : Int32).toBitVec.smod 32) = 8#32 := by decide
    rw [e2, BitVec.sshiftRight_eq', BitVec.toNat_sshiftRight_of_msb_false (by rw [BitVec.msb_eq_false_iff_two_mul_lt]; omega)]
    show c.toBitVec.toNat >>> 8 % 256 = _
    rw [Nat.shiftRight_eq_div_pow]
    omega
  unfold pairCh
  apply Int32.toBitVec_inj.mp
  apply BitVec.eq_of_toNat_eq
  have f0 : ((0 : Int32) &&& 31) = 0 := by decide
  have f8 : ((8 : Int32) &&& 31) = 8 := by decide
  rw [f0, f8]
  have g : (((lo8 c &&& 255) <<< (0 : Int32)) ||| ((hi8 c &&& 255) <<< (8 : Int32))).toBitVec.toNat = c.toBitVec.toNat := by
    rw [Int32.toBitVec_or, Int32.toBitVec_shiftLeft, Int32.toBitVec_shiftLeft]
    have s0 : ((0 : Int32).toBitVec.smod 32) = 0#32 := by decide
    have s8 : ((8 : Int32).toBitVec.smod 32) = 8#32 := by decide
    rw [s0, s8, BitVec.toNat_or]
    simp only [BitVec.shiftLeft_eq', BitVec.toNat_shiftLeft, a1, a2]
    show (c.toBitVec.toNat % 256) <<< 0 % 2 ^ 32 ||| (c.toBitVec.toNat / 256) <<< 8 % 2 ^ 32 = _
    rw [Nat.shiftLeft_zero, Nat.mod_eq_of_lt (show c.toBitVec.toNat % 256 < 2 ^ 32 by omega), Nat.mod_eq_of_lt (show (c.toBitVec.toNat / 256) <<< 8 < 2 ^ 32 by rw [Nat.shiftLeft_eq]; omega), Nat.or_comm, ← Nat.shiftLeft_add_eq_or_of_lt (by omega), Nat.shiftLeft_eq]
    omega
  show BitVec.toNat (((((lo8 c &&& 255) <<< (0 : Int32)) ||| ((hi8 c &&& 255) <<< (8 : Int32))).toBitVec.setWidth 16).setWidth 32) = _
  rw [BitVec.toNat_setWidth, BitVec.toNat_setWidth, g]
  omega
end StrChars
namespace StrChars
open Jvm Sem ClassFile Op Lib Jvm.Stand Jvm.Free.XT Jvm.Free.ALB Jvm.Free.JM Jvm.Free
open Jvm.Lib.Cold (StaticIs)
/-- charAt's cast of a byte read back -/
def chr8 (u : Int32) : Int32 := (u &&& 255).toUInt32.toUInt16.toUInt32.toInt32
theorem chr8_lo8 {c : Int32} (h0 : ¬ c < 0) (h1 : ¬ 255 < c) : chr8 (lo8 c) = c := by
  have t : ∀ k : Fin 256, (Int32.ofNat k.val).toUInt32.toUInt16.toUInt32.toInt32 = Int32.ofNat k.val := by decide +kernel
  unfold chr8
  rw [lo8_mask h0 h1]
  rw [Int32.lt_iff_toInt_lt] at h0 h1
  have e0 : (0 : Int32).toInt = 0 := rfl
  have e1 : (255 : Int32).toInt = 255 := rfl
  obtain ⟨k, hk⟩ : ∃ k : Nat, c.toInt = k := ⟨c.toInt.toNat, by omega⟩
  have hx : c = Int32.ofNat k := Int32.toInt_inj.mp (by rw [hk, Int32.toInt_ofNat_small (by omega)])
  rw [hx]
  exact t ⟨k, by omega⟩
end StrChars
end Jvm.Pilot.@@N@@
namespace Jvm.Pilot.@@N@@
open Jvm Jvm.ClassFile Sem Op Lib Jvm.Free Jvm.Stand Jvm.LawKit Jvm.RoadKit Bundle Jvm.Pilot.@@N@@.Jvm.D
theorem tk {α : Type _} {L : List α} {y : α} (i : Nat) (h : L[i]? = some y) : y ∈ L := List.mem_of_getElem? h
abbrev Rm (a b c d : Nat) : Room := { frames := a, cells := b, slots := c, locals := d }
abbrev HW (a0 : Array Value) (Z : State) : Prop := ∀ d ∈ tables_1, d.before a0 Z = true
set_option maxRecDepth 65536
set_option maxHeartbeats 40000000
abbrev y_0 : MethodName := ⟨"jdk/internal/util/Preconditions", "checkIndex", "(IILjava/util/function/BiFunction;)I"⟩
abbrev y_1 : MethodName := ⟨"jdk/internal/util/Preconditions", "checkFromToIndex", "(IIILjava/util/function/BiFunction;)I"⟩
abbrev y_2 : MethodName := ⟨"jdk/internal/util/Preconditions", "checkFromIndexSize", "(IIILjava/util/function/BiFunction;)I"⟩
abbrev y_3 : MethodName := ⟨"java/lang/String", "checkIndex", "(II)V"⟩
abbrev y_4 : MethodName := ⟨"java/lang/String", "checkBoundsOffCount", "(III)I"⟩
abbrev y_5 : MethodName := ⟨"java/lang/String", "checkBoundsBeginEnd", "(III)V"⟩
abbrev y_6 : MethodName := ⟨"java/lang/StringUTF16", "length", "([B)I"⟩
abbrev y_7 : MethodName := ⟨"java/lang/StringUTF16", "checkIndex", "(I[B)V"⟩
abbrev y_8 : MethodName := ⟨"java/lang/StringUTF16", "checkBoundsOffCount", "(II[B)V"⟩
abbrev y_9 : MethodName := ⟨"java/lang/StringUTF16", "checkBoundsBeginEnd", "(II[B)V"⟩
abbrev y_10 : MethodName := ⟨"java/lang/StringUTF16", "putChar", "([BII)V"⟩
abbrev y_11 : MethodName := ⟨"java/lang/StringUTF16", "newBytesLength", "(I)I"⟩
abbrev y_12 : MethodName := ⟨"java/lang/StringUTF16", "newBytesFor", "(I)[B"⟩
abbrev y_13 : MethodName := ⟨"java/lang/String", "coder", "()B"⟩
abbrev y_14 : MethodName := ⟨"java/lang/String", "isLatin1", "()Z"⟩
abbrev y_15 : MethodName := ⟨"java/lang/String", "length", "()I"⟩
abbrev y_16 : MethodName := ⟨"java/lang/StringLatin1", "charAt", "([BI)C"⟩
abbrev y_17 : MethodName := ⟨"java/lang/StringUTF16", "getChar", "([BI)C"⟩
abbrev y_18 : MethodName := ⟨"java/lang/StringUTF16", "charAt", "([BI)C"⟩
abbrev y_19 : MethodName := ⟨"java/lang/String", "charAt", "(I)C"⟩
abbrev y_20 : MethodName := ⟨"java/lang/StringUTF16", "compress", "([CI[BII)I"⟩
abbrev y_21 : MethodName := ⟨"java/lang/StringUTF16", "toBytes", "([CII)[B"⟩
abbrev y_22 : MethodName := ⟨"java/lang/StringUTF16", "compress", "([CII)[B"⟩
abbrev y_23 : MethodName := ⟨"java/lang/StringUTF16", "coderFromArrayLen", "([BI)B"⟩
abbrev y_24 : MethodName := ⟨"java/lang/String", "<init>", "([CIILjava/lang/Void;)V"⟩
abbrev y_25 : MethodName := ⟨"java/lang/String", "<init>", "([C)V"⟩
abbrev y_26 : MethodName := ⟨"com/example/atomize/atomize/http/FieldValueReader", "<init>", "(Ljava/lang/String;Ljava/lang/String;Ljava/lang/String;)V"⟩
abbrev y_27 : MethodName := ⟨"com/example/atomize/atomize/http/FieldValueReader", "expect", "(C)V"⟩
abbrev y_28 : MethodName := ⟨"com/example/atomize/atomize/http/FieldValueReader", "nextElement", "()Z"⟩
abbrev y_29 : MethodName := ⟨"java/lang/Math", "max", "(II)I"⟩
abbrev y_30 : MethodName := ⟨"java/lang/Math", "min", "(II)I"⟩
abbrev y_31 : MethodName := ⟨"java/lang/StringLatin1", "canEncode", "(I)Z"⟩
abbrev y_32 : MethodName := ⟨"java/lang/StringLatin1", "indexOfChar", "([BIII)I"⟩
abbrev y_33 : MethodName := ⟨"java/lang/StringUTF16", "indexOfCharUnsafe", "([BIII)I"⟩
abbrev y_34 : MethodName := ⟨"java/lang/StringLatin1", "indexOf", "([BIII)I"⟩
abbrev y_35 : MethodName := ⟨"java/lang/StringUTF16", "indexOfChar", "([BIII)I"⟩
abbrev y_36 : MethodName := ⟨"java/lang/StringUTF16", "indexOf", "([BIII)I"⟩
abbrev y_37 : MethodName := ⟨"java/lang/String", "indexOf", "(II)I"⟩
abbrev y_38 : MethodName := ⟨"java/util/Arrays", "checkLength", "(II)V"⟩
abbrev y_39 : MethodName := ⟨"java/util/Arrays", "copyOfRangeByte", "([BII)[B"⟩
abbrev y_40 : MethodName := ⟨"java/util/Arrays", "copyOfRange", "([BII)[B"⟩
abbrev y_41 : MethodName := ⟨"java/lang/StringUTF16", "compress", "([BI[BII)I"⟩
abbrev y_42 : MethodName := ⟨"java/lang/StringUTF16", "compress", "([BII)[B"⟩
abbrev y_43 : MethodName := ⟨"java/lang/String", "<init>", "([BB)V"⟩
abbrev y_44 : MethodName := ⟨"java/lang/StringUTF16", "newString", "([BII)Ljava/lang/String;"⟩
abbrev y_45 : MethodName := ⟨"java/lang/StringLatin1", "newString", "([BII)Ljava/lang/String;"⟩
abbrev y_46 : MethodName := ⟨"java/lang/String", "substring", "(II)Ljava/lang/String;"⟩
abbrev y_47 : MethodName := ⟨"com/example/atomize/atomize/http/FieldValueReader", "upTo", "(CLjava/lang/String;)Ljava/lang/String;"⟩
abbrev y_48 : MethodName := ⟨"com/example/atomize/atomize/http/FieldValueReaderExpectPinLaw", "draw", "(I)C"⟩
theorem own_backSX {p : Program} {l : Launch} {e : Env} {R : Room} {s : State} {args : Array Value} {below : List Frame} {Z : State} {a0 : Array Value} {EL : List (String × Nat)} {h : Heap} {vm0 : Vm} {y : MethodName} {bytes : ByteArray} {maxL : Nat} {ret : Option FieldType} {rm : Room} {len W : Nat} {as' : Array Value} {Q : Option Value → Heap → List Loc → Prop} {x : Addr}
    (hM : MetFree l y (head1 [Cond.code y bytes maxL ret] rm) (fun a U => a = as' ∧ Z.Warmed39 U.vm ∧ U.heap = h ∧ CHv Z EL U.vm h ∧ Safe Z EL U.vm h x) (fun _ _ _ _ _ => True) (fun _ U o U' => ∃ v L, o = .returned v ∧ Q v U'.heap L ∧ CHr Z EL U.vm U.heap U'.vm U'.heap ∧ ReturnedEndW U o U' L rm.cells rm.slots))
    (hZ : Z.Warmed39 vm0) (wc : (Cond.code y bytes maxL ret).before a0 Z = true) (wz : (Cond.initialized y.cls).before a0 Z = true) (hf : rm.frames + 1 ≤ R.frames) (hl : W + (maxL + 11) + rm.locals ≤ R.locals) (hEL : EW Z a0 EL) (H : CHv Z EL vm0 h) (S : Safe Z EL vm0 h x) (hxl : x < h.size) :
    BackS l R p e below (s.setVm vm0) args y len W (fun A a => a = as' ∧ A.U.heap = h ∧ A.cells + rm.cells ≤ R.cells ∧ A.slots + rm.slots ≤ R.slots)
      (fun A _ v B => ∃ L, Q v B.U.heap L ∧ B.locs = A.locs ++ L ∧ B.cells = A.cells + rm.cells ∧ B.slots = A.slots + rm.slots ∧ CHr Z EL vm0 h B.U.vm B.U.heap) := by
  refine BackS.of_freeW (bytes := bytes) (maxL := maxL) (ret := ret) (E := fun _ first o t L k n => k = rm.cells ∧ n = rm.slots ∧ (∃ v, o = .returned v ∧ Q v t.heap L) ∧ CHr Z EL first.vm first.heap t.vm t.heap) hM hf hl ?_ ?_ (fun _ _ _ _ _ _ _ _ _ => trivial) ?_ ?_
  · intro m meth c A a Y hp
    have hU : Z.Warmed39 A.U.vm := wtrans (s := s.setVm vm0) hZ Y.warmed
    exact ⟨by show (Cond.and _ .tt).before a A.U = true; rw [Cond.before_and, mv hU wc]; rfl, mv hU wc, mv hU wz, hp.2.2.1, hp.2.2.2⟩
  · intro m meth c A a g mk Y hp
    have K := CHv.at Y hZ hEL H
    exact ⟨hp.1, wtrans (s := s.setVm vm0) hZ Y.warmed, hp.2.1, K.1, K.safe hxl S⟩
  · intro _ _ _ _ ⟨v, L, h1, h2, h3, h4⟩
    exact ⟨L, _, _, h4, rfl, rfl, ⟨v, h1, h2⟩, h3⟩
  · intro m meth c A a g mk v t L k n Y hp _ _ ⟨e1, e2, ⟨v', e3, e4⟩, e5⟩
    cases e3
    subst e1 e2
    refine ⟨L, e4, rfl, rfl, rfl, (CHv.at Y hZ hEL H).trans ?_⟩
    rw [← hp.2.1]
    exact e5
def own_es (Z : State) (h : Heap) (x : Addr) : Prop := ∃ (b : Addr) (k : ClassId), Exa Z h x "java/lang/String" ∧ Fld Z h x "java/lang/String" "coder" "B" (.int 0) ∧ Fld Z h x "java/lang/String" "value" "[B" (.ref b) ∧ Arv Z h b k .byte (0 : Int32) [] (.int 0)
theorem own_EW {Z : State} {a0 : Array Value} (hw : HW a0 Z) : EW Z a0 consts_1 := (EW.cons (hw _ (tk 39 rfl)) (by decide +kernel) (EW.cons (hw _ (tk 42 rfl)) (by decide +kernel) (EW.cons (hw _ (tk 92 rfl)) (by decide +kernel) (EW.cons (hw _ (tk 229 rfl)) (by decide +kernel) (EW.cons (hw _ (tk 228 rfl)) (by decide +kernel) EW.nil)))))
/-! numbers and lists -/
theorem own_priv {y : MethodName} {C : String} {a : Array Value} {s : State} (hy : y.cls ≠ "java/lang/invoke/MethodHandle" ∧ y.cls ≠ "java/lang/invoke/VarHandle") (w : (Jvm.Cond.selects C y y).before a s = true) (hp : (Jvm.Cond.privateMethod y).before a s = true) : (Jvm.Cond.selects y.cls y y).before a s = true := by
  obtain ⟨c, r, m, h1, h2, h3, h4, mk, h5, h6⟩ := Cond.selects_spec w
  have hc := findClass_of_methodNamed h3
  have h7 := State.methodFound?_of_named h3 hy
  obtain ⟨meth, hm⟩ : ∃ meth, s.vm.method? m = some meth := by
    cases q : s.vm.method? m with
    | some meth => exact ⟨meth, rfl⟩
    | none => simp [Cond.before, Cond.holds, Cond.value, h3, q] at hp
  have h8 := selectMethod_private (p := {}) (c := m.cls) hm (Cond.privateMethod_at hp m meth h3 hm)
  simp [Cond.before, Cond.holds, Cond.value, hc, h7, h3, h8, h5, h6]
theorem own_same {y z : MethodName} {C : String} {x : MethodName} {a : Array Value} {s : State} (hy : y.cls ≠ "java/lang/invoke/MethodHandle" ∧ y.cls ≠ "java/lang/invoke/VarHandle") (w : (Jvm.Cond.declares y).before a s = true) (v : (Jvm.Cond.selects C x z).before a s = true) (e : z.cls = y.cls) : (Jvm.Cond.sameMethod y.cls y.cls y.name y.desc).before a s = true := by
  obtain ⟨m, meth, h1, h2, h3, h4⟩ := Cond.declares_spec w
  have hc := findClass_of_methodNamed h1
  have h7 := State.methodFound?_of_named h1 hy
  obtain ⟨c, r, m', g1, g2, g3, g4, mk, g5, g6⟩ := Cond.selects_spec v
  have gc := findClass_of_methodNamed g3
  rw [e] at gc
  have e2 := Option.some.inj (hc.symm.trans gc)
  rw [← e2] at g5
  obtain ⟨yc, yn, yd⟩ := y
  simp [Cond.before, Cond.holds, Cond.value, hc, h7, h1, g5, g6]
def own_b0 (c : Int32) : Int32 := nar .byte ((c >>> ((0 : Int32) &&& 31)).toInt8.toInt32)
def own_b1 (c : Int32) : Int32 := nar .byte ((c >>> ((8 : Int32) &&& 31)).toInt8.toInt32)
/-- the bytes of the chars, low before high -/
def own_wide : List Int32 → List Value
  | [] => []
  | c :: cs => .int (own_b0 c) :: .int (own_b1 c) :: own_wide cs
def own_l8 (c : Int32) : Int32 := nar .byte (c.toInt8.toInt32)
def own_lat (cs : List Int32) : List Value := cs.map fun c => .int (own_l8 c)
theorem own_lat_len (cs : List Int32) : (own_lat cs).length = cs.length := by simp [own_lat]
theorem own_wide_len : ∀ cs : List Int32, (own_wide cs).length = 2 * cs.length
  | [] => rfl
  | c :: cs => by simp [own_wide, own_wide_len cs]; omega
theorem own_wide_app : ∀ (cs : List Int32) (c : Int32), own_wide (cs ++ [c]) = own_wide cs ++ [.int (own_b0 c), .int (own_b1 c)]
  | [], _ => rfl
  | d :: cs, c => by simp [own_wide, own_wide_app cs c]
theorem own_lat_app (cs : List Int32) (c : Int32) : own_lat (cs ++ [c]) = own_lat cs ++ [.int (own_l8 c)] := by simp [own_lat]
theorem own_set_lat (cs : List Int32) (c : Int32) (v : Value) (n : Nat) (hn : cs.length = n) : (own_lat cs ++ List.replicate 1 v).set n (.int (own_l8 c)) = own_lat (cs ++ [c]) := by
  subst hn
  rw [own_lat_app, List.set_append_right _ _ (by rw [own_lat_len]; exact Nat.le_refl _), own_lat_len, Nat.sub_self]; rfl
theorem own_set_w0 (cs : List Int32) (x v : Value) (n : Nat) (hn : 2 * cs.length = n) : (own_wide cs ++ List.replicate 2 v).set n x = own_wide cs ++ [x, v] := by
  subst hn
  rw [List.set_append_right _ _ (by rw [own_wide_len]; exact Nat.le_refl _), own_wide_len, Nat.sub_self]; rfl
theorem own_set_w1 (cs : List Int32) (x y v : Value) (n : Nat) (hn : 2 * cs.length + 1 = n) : (own_wide cs ++ [x, v]).set n y = own_wide cs ++ [x, y] := by
  subst hn
  rw [List.set_append_right _ _ (by rw [own_wide_len]; omega), own_wide_len, show 2 * cs.length + 1 - 2 * cs.length = 1 by omega]; rfl
theorem own_wide_at (d : Value) : ∀ (cs : List Int32) (j : Nat), j < cs.length → (own_wide cs).getD (2 * j) d = .int (own_b0 (cs.getD j 0)) ∧ (own_wide cs).getD (2 * j + 1) d = .int (own_b1 (cs.getD j 0))
  | [], j, h => absurd h (Nat.not_lt_zero j)
  | c :: cs, 0, _ => ⟨rfl, rfl⟩
  | c :: cs, j + 1, h => by
    have q := own_wide_at d cs j (by simpa using h)
    rw [show 2 * (j + 1) = 2 * j + 1 + 1 from by omega]
    simpa [own_wide] using q
theorem own_lat_at (d : Value) (cs : List Int32) (j : Nat) (h : j < cs.length) : (own_lat cs).getD j d = .int (own_l8 (cs.getD j 0)) := by
  simp [own_lat, List.getD_eq_getElem?_getD, h]
theorem own_nat {j : Nat} (h : j < 2 ^ 31) : (Int32.ofNat j).toInt = j := Int32.toInt_ofNat_of_lt h
theorem own_clamp {j : Nat} (h : j < 2 ^ 31) : (Int32.ofNat j).toNatClampNeg = j := by simp only [Int32.toNatClampNeg, own_nat h]; rfl
theorem own_add {i j : Nat} : Int32.ofNat i + Int32.ofNat j = Int32.ofNat (i + j) := by
  apply Int32.toBitVec_inj.mp
  show BitVec.ofNat 32 i + BitVec.ofNat 32 j = BitVec.ofNat 32 (i + j)
  rw [BitVec.ofNat_add]
theorem own_sub {i j : Nat} (h : j ≤ i) (hi : i < 2 ^ 31) : Int32.ofNat i - Int32.ofNat j = Int32.ofNat (i - j) := by
  have e : Int32.ofNat i = Int32.ofNat (i - j) + Int32.ofNat j := by rw [own_add, Nat.sub_add_cancel h]
  rw [e]
  simp
theorem own_lt {i j : Nat} (hi : i < 2 ^ 31) (hj : j < 2 ^ 31) : Int32.ofNat i < Int32.ofNat j ↔ i < j := by rw [Int32.lt_iff_toInt_lt, own_nat hi, own_nat hj]; omega
theorem own_eq {i j : Nat} (hi : i < 2 ^ 31) (hj : j < 2 ^ 31) : Int32.ofNat i = Int32.ofNat j ↔ i = j := ⟨fun h => by have := congrArg Int32.toInt h; rw [own_nat hi, own_nat hj] at this; omega, fun h => by rw [h]⟩
theorem own_n0 {i : Nat} (hi : i < 2 ^ 31) : ¬ Int32.ofNat i < (0 : Int32) := fun h => by rw [Int32.lt_iff_toInt_lt, own_nat hi] at h; have : (0 : Int32).toInt = 0 := rfl; omega
theorem own_shl {j : Nat} (h : j < 64) : (Int32.ofNat j <<< ((1 : Int32) &&& 31)) = Int32.ofNat (2 * j) := by
  have t : ∀ k : Fin 64, (Int32.ofNat k.val <<< ((1 : Int32) &&& 31)) = Int32.ofNat (2 * k.val) := by decide +kernel
  exact t ⟨j, h⟩
theorem own_shr {j : Nat} (h : j < 64) : (Int32.ofNat (2 * j) >>> ((1 : Int32) &&& 31)) = Int32.ofNat j := by
  have t : ∀ k : Fin 64, (Int32.ofNat (2 * k.val) >>> ((1 : Int32) &&& 31)) = Int32.ofNat k.val := by decide +kernel
  exact t ⟨j, h⟩
theorem own_shr0 {j : Nat} (h : j < 64) : (Int32.ofNat j >>> ((0 : Int32) &&& 31)) = Int32.ofNat j := by
  have t : ∀ k : Fin 64, (Int32.ofNat k.val >>> ((0 : Int32) &&& 31)) = Int32.ofNat k.val := by decide +kernel
  exact t ⟨j, h⟩
def own_ch (c : Int32) : Prop := ¬ c < 0 ∧ ¬ (65535 : Int32) < c
theorem own_i8 (x : Int8) : x.toInt32.toInt8 = x := by simp
theorem own_l8_eq (c : Int32) : own_l8 c = StrChars.lo8 c := by show (c.toInt8.toInt32).toInt8.toInt32 = _; rw [own_i8]; rfl
theorem own_b0_eq (c : Int32) : own_b0 c = StrChars.lo8 c := by show ((c >>> ((0 : Int32) &&& 31)).toInt8.toInt32).toInt8.toInt32 = _; rw [own_i8, StrChars.shr0]; rfl
theorem own_b1_eq (c : Int32) : own_b1 c = StrChars.hi8 c := by show ((c >>> ((8 : Int32) &&& 31)).toInt8.toInt32).toInt8.toInt32 = _; rw [own_i8]; rfl
theorem own_pair {c : Int32} (h : own_ch c) : ((((own_b0 c) &&& (255 : Int32)) <<< ((0 : Int32) &&& 31)) ||| (((own_b1 c) &&& (255 : Int32)) <<< ((8 : Int32) &&& 31))).toUInt32.toUInt16.toUInt32.toInt32 = c := by
  rw [own_b0_eq, own_b1_eq]; exact StrChars.pair_says h.1 h.2
theorem own_chr {c : Int32} (h0 : ¬ c < 0) (h1 : ¬ (255 : Int32) < c) : ((own_l8 c) &&& (255 : Int32)).toUInt32.toUInt16.toUInt32.toInt32 = c := by
  rw [own_l8_eq]; exact StrChars.chr8_lo8 h0 h1
theorem own_msk {c : Int32} (h0 : ¬ c < 0) (h1 : ¬ (255 : Int32) < c) : (own_l8 c) &&& (255 : Int32) = c := by
  rw [own_l8_eq]; exact StrChars.lo8_mask h0 h1
theorem own_narch (x : Int32) : own_ch (nar .char x) := by
  have h := fits_nar_char x
  simp only [fits, Bool.and_eq_true, decide_eq_true_eq] at h
  exact ⟨Int32.not_lt.mpr h.1, Int32.not_lt.mpr h.2⟩
theorem own_narc {c : Int32} (h : own_ch c) : nar .char c = c := by
  have q := own_pair h
  have e : ∀ x : Int32, nar .char (x.toUInt32.toUInt16.toUInt32.toInt32) = x.toUInt32.toUInt16.toUInt32.toInt32 := fun x => by
    show (x.toUInt32.toUInt16.toUInt32.toInt32).toUInt32.toUInt16.toUInt32.toInt32 = _
    have : (x.toUInt32.toUInt16.toUInt32.toInt32).toUInt32 = x.toUInt32.toUInt16.toUInt32 := rfl
    rw [this]
    have h2 : (x.toUInt32.toUInt16.toUInt32).toUInt16 = x.toUInt32.toUInt16 := UInt16.toUInt16_toUInt32 _
    rw [h2]
  rw [← q]; exact e _
theorem own_up {c : Int32} (h0 : ¬ c < 0) (h1 : ¬ (255 : Int32) < c) : own_ch c := ⟨h0, fun q => h1 (by rw [Int32.lt_iff_toInt_lt] at q ⊢; have e1 : (65535 : Int32).toInt = 65535 := rfl; have e2 : (255 : Int32).toInt = 255 := rfl; omega)⟩
/-- what the JDK's statics hold -/
def own_env (Z : State) (G1 : Int32) (G3 G4 : Value) : Prop := Sta Z Z.heap "java/lang/String" "COMPACT_STRINGS" "Z" (.int G1) ∧ ¬ (G1 = (0 : Int32)) ∧ Sta Z Z.heap "jdk/internal/util/Preconditions" "SIOOBE_FORMATTER" "Ljava/util/function/BiFunction;" G3 ∧ G3.isRef = true ∧ Sta Z Z.heap "java/lang/StringUTF16" "$assertionsDisabled" "Z" (.int 1) ∧ Sta Z Z.heap "java/lang/StringUTF16" "HI_BYTE_SHIFT" "I" (.int 0) ∧ Sta Z Z.heap "java/lang/StringUTF16" "LO_BYTE_SHIFT" "I" (.int 8)
def own_Q (Z : State) (r : Option Value) (h0 : Heap) (n0 : Nat) (v : Option Value) (h : Heap) (L : List Loc) : Prop := v = r ∧ Fr n0 L ∧ h = h0
theorem d16_0 : decode jdk_41_method_11_code 0 = .ok (.iload_n 0, 1) := by decide +kernel
theorem d16_1 : decode jdk_41_method_11_code 1 = .ok (.ifCond .lt 8, 3) := by decide +kernel
theorem d16_4 : decode jdk_41_method_11_code 4 = .ok (.iload_n 0, 1) := by decide +kernel
theorem d16_5 : decode jdk_41_method_11_code 5 = .ok (.iload_n 1, 1) := by decide +kernel
theorem d16_6 : decode jdk_41_method_11_code 6 = .ok (.if_icmp .lt 10, 3) := by decide +kernel
theorem d16_16 : decode jdk_41_method_11_code 16 = .ok (.iload_n 0, 1) := by decide +kernel
theorem d16_17 : decode jdk_41_method_11_code 17 = .ok (.ireturn, 1) := by decide +kernel
theorem pn_16 : plainName "jdk/internal/util/Preconditions" = true := by first | (simp [plainName, overriddenIn]; done) | decide +kernel
theorem ef_16_rrv (m : MethodId) (x0 : Int32) (x1 : Int32) (x2 : Value) (y2 : x2.isRef = true) : entryFrame m #[(.int x0), (.int x1), x2] 3 = mkF m 0 #[.val (.int x0), .val (.int x1), .val x2] [] := by rcases ref_cases y2 with rfl | ⟨z2, rfl⟩ <;> first | (simp [entryFrame, mkF, argsToLocals, Value.category]; done) | rfl
theorem rmPCI (l : Launch) (Z : State) (a0 : Array Value) (hw : HW a0 Z) (ws : List Jvm.Cond) (p1 : Int32) (p2 : Int32) (g : Value) (h0 : Heap) (n0 : Nat) (Z0 : n0 ≤ h0.size) (rg : g.isRef = true) (hc1 : ¬ (p1 < (0 : Int32))) (hc6 : p1 < p2) :
    MetFree l y_0 (head1 (Jvm.Cond.code y_0 jdk_41_method_11_code 3 (some .int) :: ws) (Rm 0 0 0 0)) (fun a_ U_ => a_ = #[(.int p1), (.int p2), g] ∧ Z.Warmed39 U_.vm ∧ U_.heap = h0) (fun _ _ _ _ _ => True) (fun _ U_ o_ U1_ => ∃ v_ L_, o_ = .returned v_ ∧ own_Q Z (some (.int p1)) h0 n0 v_ U1_.heap L_ ∧ FrameEnd U_ o_ U1_ L_ (Rm 0 0 0 0).cells (Rm 0 0 0 0).slots) := by
  refine MetFree.of_bodySF (plainFor_of_name pn_16) hisR ?_
  intro p e s m args below meth c s₁ Bd hml0 hP hK
  obtain ⟨rfl, hZ, hh⟩ := hP
  have hx := Bd.exec
  have hby := Bd.bytes
  have hml : c.maxLocals = 3 := hml0
  have hown : s.vm.findClass "jdk/internal/util/Preconditions" = some m.cls := findClass_of_methodNamed Bd.named
  have hnm := (name_of_methodNamed Bd.named Bd.method).1
  have X0 : Stand p l e (Rm 0 0 0 0) s m #[(.int p1), (.int p2), g] below meth c s₁ [] 0 0 := Stand.of_body Bd
  have e0 : s₁.heap = h0 := by rw [← hh, Bd.state]; rfl
  have N0 := Fr.nil n0
  have pre0 : ∀ tt, Steps p.tables e below (s₁.setTop (mkF m 0 #[.val (.int p1), .val (.int p2), .val g] [])) tt → Steps p.tables e below (s₁.setTop (entryFrame m #[(.int p1), (.int p2), g] 3)) tt := fun tt kk => castTop (ef_16_rrv m p1 p2 g rg) kk
  obtain ⟨fs, hr, hrun, hended, hW, hsame⟩ := X0.leave (v := some (.int p1)) (fun h => by rw [Bd.returns] at h; cases h)
  refine ⟨_, _, pre0 _ ?_, hrun, hended, _, _, rfl, ?_, ⟨_, rfl⟩, hW, hsame.mono (by decide) (by decide)⟩
  · show Steps _ _ _ (s₁.setTop (mkF m 0 #[.val (.int p1), .val (.int p2), .val g] [])) _
    refine XS.iloadN X0.here hx rfl (hb hby d16_0) rfl ?_
    refine XS.ifNo X0.here hx rfl (hb hby d16_1) rfl ((if0 _ _).trans (flt hc1).1) ?_
    refine XS.iloadN X0.here hx rfl (hb hby d16_4) rfl ?_
    refine XS.iloadN X0.here hx rfl (hb hby d16_5) rfl ?_
    refine XS.icmpYes X0.here hx rfl (pc0 := 6) (pc' := 16) rfl (hb hby d16_6) rfl (tlt hc6).1 (by decide) (by decide) ?_
    refine XS.iloadN X0.here hx rfl (hb hby d16_16) rfl ?_
    show Steps _ _ _ (s₁.setTop (mkF m 17 #[.val (.int p1), .val (.int p2), .val g] [(.int p1)])) _
    exact retI X0 hx Bd.returns (hb hby d16_17) hr
  · show own_Q Z (some (.int p1)) h0 n0 _ s₁.heap _
    rw [e0]
    exact ⟨rfl, N0, rfl⟩
theorem d26_0 : decode jdk_41_method_12_code 0 = .ok (.iload_n 0, 1) := by decide +kernel
theorem d26_1 : decode jdk_41_method_12_code 1 = .ok (.ifCond .lt 13, 3) := by decide +kernel
theorem d26_4 : decode jdk_41_method_12_code 4 = .ok (.iload_n 0, 1) := by decide +kernel
theorem d26_5 : decode jdk_41_method_12_code 5 = .ok (.iload_n 1, 1) := by decide +kernel
theorem d26_6 : decode jdk_41_method_12_code 6 = .ok (.if_icmp .gt 8, 3) := by decide +kernel
theorem d26_9 : decode jdk_41_method_12_code 9 = .ok (.iload_n 1, 1) := by decide +kernel
theorem d26_10 : decode jdk_41_method_12_code 10 = .ok (.iload_n 2, 1) := by decide +kernel
theorem d26_11 : decode jdk_41_method_12_code 11 = .ok (.if_icmp .le 11, 3) := by decide +kernel
theorem d26_22 : decode jdk_41_method_12_code 22 = .ok (.iload_n 0, 1) := by decide +kernel
theorem d26_23 : decode jdk_41_method_12_code 23 = .ok (.ireturn, 1) := by decide +kernel
theorem pn_26 : plainName "jdk/internal/util/Preconditions" = true := by first | (simp [plainName, overriddenIn]; done) | decide +kernel
theorem ef_26_rrrv (m : MethodId) (x0 : Int32) (x1 : Int32) (x2 : Int32) (x3 : Value) (y3 : x3.isRef = true) : entryFrame m #[(.int x0), (.int x1), (.int x2), x3] 4 = mkF m 0 #[.val (.int x0), .val (.int x1), .val (.int x2), .val x3] [] := by rcases ref_cases y3 with rfl | ⟨z3, rfl⟩ <;> first | (simp [entryFrame, mkF, argsToLocals, Value.category]; done) | rfl
theorem rmPFT (l : Launch) (Z : State) (a0 : Array Value) (hw : HW a0 Z) (ws : List Jvm.Cond) (p1 : Int32) (p2 : Int32) (p3 : Int32) (g : Value) (h0 : Heap) (n0 : Nat) (Z0 : n0 ≤ h0.size) (rg : g.isRef = true) (hc1 : ¬ (p1 < (0 : Int32))) (hc6 : ¬ (p2 < p1)) (hc11 : ¬ (p3 < p2)) :
    MetFree l y_1 (head1 (Jvm.Cond.code y_1 jdk_41_method_12_code 4 (some .int) :: ws) (Rm 0 0 0 0)) (fun a_ U_ => a_ = #[(.int p1), (.int p2), (.int p3), g] ∧ Z.Warmed39 U_.vm ∧ U_.heap = h0) (fun _ _ _ _ _ => True) (fun _ U_ o_ U1_ => ∃ v_ L_, o_ = .returned v_ ∧ own_Q Z (some (.int p1)) h0 n0 v_ U1_.heap L_ ∧ FrameEnd U_ o_ U1_ L_ (Rm 0 0 0 0).cells (Rm 0 0 0 0).slots) := by
  refine MetFree.of_bodySF (plainFor_of_name pn_26) hisR ?_
  intro p e s m args below meth c s₁ Bd hml0 hP hK
  obtain ⟨rfl, hZ, hh⟩ := hP
  have hx := Bd.exec
  have hby := Bd.bytes
  have hml : c.maxLocals = 4 := hml0
  have hown : s.vm.findClass "jdk/internal/util/Preconditions" = some m.cls := findClass_of_methodNamed Bd.named
  have hnm := (name_of_methodNamed Bd.named Bd.method).1
  have X0 : Stand p l e (Rm 0 0 0 0) s m #[(.int p1), (.int p2), (.int p3), g] below meth c s₁ [] 0 0 := Stand.of_body Bd
  have e0 : s₁.heap = h0 := by rw [← hh, Bd.state]; rfl
  have N0 := Fr.nil n0
  have pre0 : ∀ tt, Steps p.tables e below (s₁.setTop (mkF m 0 #[.val (.int p1), .val (.int p2), .val (.int p3), .val g] [])) tt → Steps p.tables e below (s₁.setTop (entryFrame m #[(.int p1), (.int p2), (.int p3), g] 4)) tt := fun tt kk => castTop (ef_26_rrrv m p1 p2 p3 g rg) kk
  obtain ⟨fs, hr, hrun, hended, hW, hsame⟩ := X0.leave (v := some (.int p1)) (fun h => by rw [Bd.returns] at h; cases h)
  refine ⟨_, _, pre0 _ ?_, hrun, hended, _, _, rfl, ?_, ⟨_, rfl⟩, hW, hsame.mono (by decide) (by decide)⟩
  · show Steps _ _ _ (s₁.setTop (mkF m 0 #[.val (.int p1), .val (.int p2), .val (.int p3), .val g] [])) _
    refine XS.iloadN X0.here hx rfl (hb hby d26_0) rfl ?_
    refine XS.ifNo X0.here hx rfl (hb hby d26_1) rfl ((if0 _ _).trans (flt hc1).1) ?_
    refine XS.iloadN X0.here hx rfl (hb hby d26_4) rfl ?_
    refine XS.iloadN X0.here hx rfl (hb hby d26_5) rfl ?_
    refine XS.icmpNo X0.here hx rfl (hb hby d26_6) rfl (flt hc6).2.2.1 ?_
    refine XS.iloadN X0.here hx rfl (hb hby d26_9) rfl ?_
    refine XS.iloadN X0.here hx rfl (hb hby d26_10) rfl ?_
    refine XS.icmpYes X0.here hx rfl (pc0 := 11) (pc' := 22) rfl (hb hby d26_11) rfl (flt hc11).2.2.2 (by decide) (by decide) ?_
    refine XS.iloadN X0.here hx rfl (hb hby d26_22) rfl ?_
    show Steps _ _ _ (s₁.setTop (mkF m 23 #[.val (.int p1), .val (.int p2), .val (.int p3), .val g] [(.int p1)])) _
    exact retI X0 hx Bd.returns (hb hby d26_23) hr
  · show own_Q Z (some (.int p1)) h0 n0 _ s₁.heap _
    rw [e0]
    exact ⟨rfl, N0, rfl⟩
theorem d48_0 : decode jdk_41_method_13_code 0 = .ok (.iload_n 2, 1) := by decide +kernel
theorem d48_1 : decode jdk_41_method_13_code 1 = .ok (.iload_n 0, 1) := by decide +kernel
theorem d48_2 : decode jdk_41_method_13_code 2 = .ok (.ior, 1) := by decide +kernel
theorem d48_3 : decode jdk_41_method_13_code 3 = .ok (.iload_n 1, 1) := by decide +kernel
theorem d48_4 : decode jdk_41_method_13_code 4 = .ok (.ior, 1) := by decide +kernel
theorem d48_5 : decode jdk_41_method_13_code 5 = .ok (.ifCond .lt 10, 3) := by decide +kernel
theorem d48_8 : decode jdk_41_method_13_code 8 = .ok (.iload_n 1, 1) := by decide +kernel
theorem d48_9 : decode jdk_41_method_13_code 9 = .ok (.iload_n 2, 1) := by decide +kernel
theorem d48_10 : decode jdk_41_method_13_code 10 = .ok (.iload_n 0, 1) := by decide +kernel
theorem d48_11 : decode jdk_41_method_13_code 11 = .ok (.isub, 1) := by decide +kernel
theorem d48_12 : decode jdk_41_method_13_code 12 = .ok (.if_icmp .le 11, 3) := by decide +kernel
theorem d48_23 : decode jdk_41_method_13_code 23 = .ok (.iload_n 0, 1) := by decide +kernel
theorem d48_24 : decode jdk_41_method_13_code 24 = .ok (.ireturn, 1) := by decide +kernel
theorem pn_48 : plainName "jdk/internal/util/Preconditions" = true := by first | (simp [plainName, overriddenIn]; done) | decide +kernel
theorem ef_48_rrrv (m : MethodId) (x0 : Int32) (x1 : Int32) (x2 : Int32) (x3 : Value) (y3 : x3.isRef = true) : entryFrame m #[(.int x0), (.int x1), (.int x2), x3] 4 = mkF m 0 #[.val (.int x0), .val (.int x1), .val (.int x2), .val x3] [] := by rcases ref_cases y3 with rfl | ⟨z3, rfl⟩ <;> first | (simp [entryFrame, mkF, argsToLocals, Value.category]; done) | rfl
theorem rmPFS (l : Launch) (Z : State) (a0 : Array Value) (hw : HW a0 Z) (ws : List Jvm.Cond) (p1 : Int32) (p2 : Int32) (p3 : Int32) (g : Value) (h0 : Heap) (n0 : Nat) (Z0 : n0 ≤ h0.size) (rg : g.isRef = true) (hc5 : ¬ (((p3 ||| p1) ||| p2) < (0 : Int32))) (hc12 : ¬ ((p3 - p1) < p2)) :
    MetFree l y_2 (head1 (Jvm.Cond.code y_2 jdk_41_method_13_code 4 (some .int) :: ws) (Rm 0 0 0 0)) (fun a_ U_ => a_ = #[(.int p1), (.int p2), (.int p3), g] ∧ Z.Warmed39 U_.vm ∧ U_.heap = h0) (fun _ _ _ _ _ => True) (fun _ U_ o_ U1_ => ∃ v_ L_, o_ = .returned v_ ∧ own_Q Z (some (.int p1)) h0 n0 v_ U1_.heap L_ ∧ FrameEnd U_ o_ U1_ L_ (Rm 0 0 0 0).cells (Rm 0 0 0 0).slots) := by
  refine MetFree.of_bodySF (plainFor_of_name pn_48) hisR ?_
  intro p e s m args below meth c s₁ Bd hml0 hP hK
  obtain ⟨rfl, hZ, hh⟩ := hP
  have hx := Bd.exec
  have hby := Bd.bytes
  have hml : c.maxLocals = 4 := hml0
  have hown : s.vm.findClass "jdk/internal/util/Preconditions" = some m.cls := findClass_of_methodNamed Bd.named
  have hnm := (name_of_methodNamed Bd.named Bd.method).1
  have X0 : Stand p l e (Rm 0 0 0 0) s m #[(.int p1), (.int p2), (.int p3), g] below meth c s₁ [] 0 0 := Stand.of_body Bd
  have e0 : s₁.heap = h0 := by rw [← hh, Bd.state]; rfl
  have N0 := Fr.nil n0
  have pre0 : ∀ tt, Steps p.tables e below (s₁.setTop (mkF m 0 #[.val (.int p1), .val (.int p2), .val (.int p3), .val g] [])) tt → Steps p.tables e below (s₁.setTop (entryFrame m #[(.int p1), (.int p2), (.int p3), g] 4)) tt := fun tt kk => castTop (ef_48_rrrv m p1 p2 p3 g rg) kk
  obtain ⟨fs, hr, hrun, hended, hW, hsame⟩ := X0.leave (v := some (.int p1)) (fun h => by rw [Bd.returns] at h; cases h)
  refine ⟨_, _, pre0 _ ?_, hrun, hended, _, _, rfl, ?_, ⟨_, rfl⟩, hW, hsame.mono (by decide) (by decide)⟩
  · show Steps _ _ _ (s₁.setTop (mkF m 0 #[.val (.int p1), .val (.int p2), .val (.int p3), .val g] [])) _
    refine XS.iloadN X0.here hx rfl (hb hby d48_0) rfl ?_
    refine XS.iloadN X0.here hx rfl (hb hby d48_1) rfl ?_
    refine XS.ior X0.here hx rfl (hb hby d48_2) rfl ?_
    refine XS.iloadN X0.here hx rfl (hb hby d48_3) rfl ?_
    refine XS.ior X0.here hx rfl (hb hby d48_4) rfl ?_
    refine XS.ifNo X0.here hx rfl (hb hby d48_5) rfl ((if0 _ _).trans (flt hc5).1) ?_
    refine XS.iloadN X0.here hx rfl (hb hby d48_8) rfl ?_
    refine XS.iloadN X0.here hx rfl (hb hby d48_9) rfl ?_
    refine XS.iloadN X0.here hx rfl (hb hby d48_10) rfl ?_
    refine XS.isub X0.here hx rfl (hb hby d48_11) rfl ?_
    refine XS.icmpYes X0.here hx rfl (pc0 := 12) (pc' := 23) rfl (hb hby d48_12) rfl (flt hc12).2.2.2 (by decide) (by decide) ?_
    show Steps _ _ _ (s₁.setTop (mkF m 23 #[.val (.int p1), .val (.int p2), .val (.int p3), .val g] [])) _
    refine XS.iloadN X0.here hx rfl (hb hby d48_23) rfl ?_
    show Steps _ _ _ (s₁.setTop (mkF m 24 #[.val (.int p1), .val (.int p2), .val (.int p3), .val g] [(.int p1)])) _
    exact retI X0 hx Bd.returns (hb hby d48_24) hr
  · show own_Q Z (some (.int p1)) h0 n0 _ s₁.heap _
    rw [e0]
    exact ⟨rfl, N0, rfl⟩
theorem d15_0 : decode jdk_42_method_155_code 0 = .ok (.iload_n 0, 1) := by decide +kernel
theorem d15_1 : decode jdk_42_method_155_code 1 = .ok (.iload_n 1, 1) := by decide +kernel
theorem d15_2 : decode jdk_42_method_155_code 2 = .ok (.getstatic 1053, 3) := by decide +kernel
theorem pd__IILjava_util_function_BiFunction__I : parseMethodDescriptor "(IILjava/util/function/BiFunction;)I" = some ⟨[.int, .int, (.object "java/util/function/BiFunction")], some .int⟩ := by decide +kernel
theorem d15_5 : decode jdk_42_method_155_code 5 = .ok (.invokestatic 1059, 3) := by decide +kernel
theorem d15_8 : decode jdk_42_method_155_code 8 = .ok (.pop, 1) := by decide +kernel
theorem d15_9 : decode jdk_42_method_155_code 9 = .ok (.return_, 1) := by decide +kernel
theorem pn_15 : plainName "java/lang/String" = true := by first | (simp [plainName, overriddenIn]; done) | decide +kernel
theorem ef_15_rr (m : MethodId) (x0 : Int32) (x1 : Int32) : entryFrame m #[(.int x0), (.int x1)] 2 = mkF m 0 #[.val (.int x0), .val (.int x1)] [] := by first | (simp [entryFrame, mkF, argsToLocals, Value.category]; done) | rfl
theorem rmSCI (l : Launch) (Z : State) (a0 : Array Value) (hw : HW a0 Z) (ws : List Jvm.Cond) (G1 : Int32) (G3 : Value) (G4 : Value) (p1 : Int32) (p2 : Int32) (h0 : Heap) (n0 : Nat) (Z0 : n0 ≤ h0.size) (EN : own_env Z G1 G3 G4) (X00 : Old Z n0 h0) (hi0 : ¬ (p1 < (0 : Int32))) (hi1 : p1 < p2) :
    MetFree l y_3 (head1 (Jvm.Cond.code y_3 jdk_42_method_155_code 2 none :: ws) (Rm 1 0 0 14)) (fun a_ U_ => a_ = #[(.int p1), (.int p2)] ∧ Z.Warmed39 U_.vm ∧ U_.heap = h0) (fun _ _ _ _ _ => True) (fun _ U_ o_ U1_ => ∃ v_ L_, o_ = .returned v_ ∧ own_Q Z none h0 n0 v_ U1_.heap L_ ∧ FrameEnd U_ o_ U1_ L_ (Rm 1 0 0 14).cells (Rm 1 0 0 14).slots) := by
  refine MetFree.of_bodySF (plainFor_of_name pn_15) hisR ?_
  intro p e s m args below meth c s₁ Bd hml0 hP hK
  obtain ⟨rfl, hZ, hh⟩ := hP
  have hx := Bd.exec
  have hby := Bd.bytes
  have hml : c.maxLocals = 2 := hml0
  have hown : s.vm.findClass "java/lang/String" = some m.cls := findClass_of_methodNamed Bd.named
  have hnm := (name_of_methodNamed Bd.named Bd.method).1
  have X0 : Stand p l e (Rm 1 0 0 14) s m #[(.int p1), (.int p2)] below meth c s₁ [] 0 0 := Stand.of_body Bd
  have e0 : s₁.heap = h0 := by rw [← hh, Bd.state]; rfl
  have N0 := Fr.nil n0
  have pre0 : ∀ tt, Steps p.tables e below (s₁.setTop (mkF m 0 #[.val (.int p1), .val (.int p2)] [])) tt → Steps p.tables e below (s₁.setTop (entryFrame m #[(.int p1), (.int p2)] 2)) tt := fun tt kk => castTop (ef_15_rr m p1 p2) kk
  have EN0 := EN
  obtain ⟨O2, P5, O4, rG3, O6, O7, O8⟩ := EN
  obtain ⟨T1, X1, e1, st1⟩ := getS2 X0 hx hZ hown (host := "") (Or.inl (hw _ (tk 87 rfl))) Via.refl e0 (Sta.ext X00.2 O4) (g := (mkF m 2 #[.val (.int p1), .val (.int p2)] [(.int p2), (.int p1)])) rfl (hb hby d15_2)
  obtain ⟨_, _, ⟨T2, L2, k2, n2⟩, -, X2, ⟨Lc2, hQ2, l2, y2, z2⟩, st2⟩ := Jvm.LawKit.callS X1 hx (y := y_0) hown (mvT hZ (hw _ (tk 89 rfl))) (mvT hZ (hw _ (tk 90 rfl))) (mvT hZ (hw _ (tk 88 rfl))) (mvT hZ (hw _ (tk 91 rfl))) (by decide) (backOf (W := 0) (rmPCI l Z a0 hw [] p1 p2 G3 h0 n0 Z0 rG3 hi0 hi1) hZ (hw _ (tk 91 rfl)) (hw _ (tk 88 rfl)) (by decide) (by decide)) (g := (mkF m 5 #[.val (.int p1), .val (.int p2)] [G3, (.int p2), (.int p1)])) rfl (by rw [hml]; rfl) (argsL := [(.int p1), (.int p2), G3]) (rest := []) (lenOf pd__IILjava_util_function_BiFunction__I rfl) rfl (by show 2 * 0 + _ ≤ _; exact Nat.le_of_eq rfl) (hb hby d15_5) (fun _ _ => ⟨rfl, e1, (by decide : 0 + 0 ≤ _), (by decide : 0 + 0 ≤ _)⟩)
  dsimp only [Pt.U, Pt.locs, Pt.cells, Pt.slots] at X2 l2 y2 z2 st2 hQ2
  subst l2 y2 z2
  obtain ⟨rfl, Nq2, eq2⟩ := hQ2
  have N2 := Fr.app N0 Nq2
  obtain ⟨fs, hr, hrun, hended, hW, hsame⟩ := X2.leave (v := none) (fun _ => rfl)
  refine ⟨_, _, pre0 _ ?_, hrun, hended, _, _, rfl, ?_, ⟨_, rfl⟩, hW, hsame.mono (by decide) (by decide)⟩
  · show Steps _ _ _ (s₁.setTop (mkF m 0 #[.val (.int p1), .val (.int p2)] [])) _
    refine XS.iloadN X0.here hx rfl (hb hby d15_0) rfl ?_
    refine XS.iloadN X0.here hx rfl (hb hby d15_1) rfl ?_
    show Steps _ _ _ (s₁.setTop (mkF m 2 #[.val (.int p1), .val (.int p2)] [(.int p2), (.int p1)])) _
    refine st1 _ ?_
    show Steps _ _ _ (T1.setTop (mkF m 5 #[.val (.int p1), .val (.int p2)] [G3, (.int p2), (.int p1)])) _
    refine st2 _ ?_
    show Steps _ _ _ (T2.setTop (mkF m 8 #[.val (.int p1), .val (.int p2)] [(.int p1)])) _
    refine XS.pop X2.here hx rfl (hb hby d15_8) rfl rfl ?_
    show Steps _ _ _ (T2.setTop (mkF m 9 #[.val (.int p1), .val (.int p2)] [])) _
    exact X2.returnOut hx Bd.returns (hb hby d15_9) hr
  · show own_Q Z none h0 n0 _ T2.heap _
    rw [eq2]
    exact ⟨rfl, N2, rfl⟩
theorem d47_0 : decode jdk_42_method_157_code 0 = .ok (.iload_n 0, 1) := by decide +kernel
theorem d47_1 : decode jdk_42_method_157_code 1 = .ok (.iload_n 1, 1) := by decide +kernel
theorem d47_2 : decode jdk_42_method_157_code 2 = .ok (.iload_n 2, 1) := by decide +kernel
theorem d47_3 : decode jdk_42_method_157_code 3 = .ok (.getstatic 1053, 3) := by decide +kernel
theorem pd__IIILjava_util_function_BiFunction__I : parseMethodDescriptor "(IIILjava/util/function/BiFunction;)I" = some ⟨[.int, .int, .int, (.object "java/util/function/BiFunction")], some .int⟩ := by decide +kernel
theorem d47_6 : decode jdk_42_method_157_code 6 = .ok (.invokestatic 1065, 3) := by decide +kernel
theorem d47_9 : decode jdk_42_method_157_code 9 = .ok (.ireturn, 1) := by decide +kernel
theorem pn_47 : plainName "java/lang/String" = true := by first | (simp [plainName, overriddenIn]; done) | decide +kernel
theorem ef_47_rrr (m : MethodId) (x0 : Int32) (x1 : Int32) (x2 : Int32) : entryFrame m #[(.int x0), (.int x1), (.int x2)] 3 = mkF m 0 #[.val (.int x0), .val (.int x1), .val (.int x2)] [] := by first | (simp [entryFrame, mkF, argsToLocals, Value.category]; done) | rfl
theorem rmSOC (l : Launch) (Z : State) (a0 : Array Value) (hw : HW a0 Z) (ws : List Jvm.Cond) (G1 : Int32) (G3 : Value) (G4 : Value) (p1 : Int32) (p2 : Int32) (p3 : Int32) (h0 : Heap) (n0 : Nat) (Z0 : n0 ≤ h0.size) (EN : own_env Z G1 G3 G4) (X00 : Old Z n0 h0) (hi0 : ¬ (((p3 ||| p1) ||| p2) < (0 : Int32))) (hi1 : ¬ ((p3 - p1) < p2)) :
    MetFree l y_4 (head1 (Jvm.Cond.code y_4 jdk_42_method_157_code 3 (some .int) :: ws) (Rm 1 0 0 15)) (fun a_ U_ => a_ = #[(.int p1), (.int p2), (.int p3)] ∧ Z.Warmed39 U_.vm ∧ U_.heap = h0) (fun _ _ _ _ _ => True) (fun _ U_ o_ U1_ => ∃ v_ L_, o_ = .returned v_ ∧ own_Q Z (some (.int p1)) h0 n0 v_ U1_.heap L_ ∧ FrameEnd U_ o_ U1_ L_ (Rm 1 0 0 15).cells (Rm 1 0 0 15).slots) := by
  refine MetFree.of_bodySF (plainFor_of_name pn_47) hisR ?_
  intro p e s m args below meth c s₁ Bd hml0 hP hK
  obtain ⟨rfl, hZ, hh⟩ := hP
  have hx := Bd.exec
  have hby := Bd.bytes
  have hml : c.maxLocals = 3 := hml0
  have hown : s.vm.findClass "java/lang/String" = some m.cls := findClass_of_methodNamed Bd.named
  have hnm := (name_of_methodNamed Bd.named Bd.method).1
  have X0 : Stand p l e (Rm 1 0 0 15) s m #[(.int p1), (.int p2), (.int p3)] below meth c s₁ [] 0 0 := Stand.of_body Bd
  have e0 : s₁.heap = h0 := by rw [← hh, Bd.state]; rfl
  have N0 := Fr.nil n0
  have pre0 : ∀ tt, Steps p.tables e below (s₁.setTop (mkF m 0 #[.val (.int p1), .val (.int p2), .val (.int p3)] [])) tt → Steps p.tables e below (s₁.setTop (entryFrame m #[(.int p1), (.int p2), (.int p3)] 3)) tt := fun tt kk => castTop (ef_47_rrr m p1 p2 p3) kk
  have EN0 := EN
  obtain ⟨O2, P5, O4, rG3, O6, O7, O8⟩ := EN
  obtain ⟨T1, X1, e1, st1⟩ := getS2 X0 hx hZ hown (host := "") (Or.inl (hw _ (tk 87 rfl))) Via.refl e0 (Sta.ext X00.2 O4) (g := (mkF m 3 #[.val (.int p1), .val (.int p2), .val (.int p3)] [(.int p3), (.int p2), (.int p1)])) rfl (hb hby d47_3)
  obtain ⟨_, _, ⟨T2, L2, k2, n2⟩, -, X2, ⟨Lc2, hQ2, l2, y2, z2⟩, st2⟩ := Jvm.LawKit.callS X1 hx (y := y_2) hown (mvT hZ (hw _ (tk 214 rfl))) (mvT hZ (hw _ (tk 215 rfl))) (mvT hZ (hw _ (tk 88 rfl))) (mvT hZ (hw _ (tk 216 rfl))) (by decide) (backOf (W := 0) (rmPFS l Z a0 hw [] p1 p2 p3 G3 h0 n0 Z0 rG3 hi0 hi1) hZ (hw _ (tk 216 rfl)) (hw _ (tk 88 rfl)) (by decide) (by decide)) (g := (mkF m 6 #[.val (.int p1), .val (.int p2), .val (.int p3)] [G3, (.int p3), (.int p2), (.int p1)])) rfl (by rw [hml]; rfl) (argsL := [(.int p1), (.int p2), (.int p3), G3]) (rest := []) (lenOf pd__IIILjava_util_function_BiFunction__I rfl) rfl (by show 2 * 0 + _ ≤ _; exact Nat.le_of_eq rfl) (hb hby d47_6) (fun _ _ => ⟨rfl, e1, (by decide : 0 + 0 ≤ _), (by decide : 0 + 0 ≤ _)⟩)
  dsimp only [Pt.U, Pt.locs, Pt.cells, Pt.slots] at X2 l2 y2 z2 st2 hQ2
  subst l2 y2 z2
  obtain ⟨rfl, Nq2, eq2⟩ := hQ2
  have N2 := Fr.app N0 Nq2
  obtain ⟨fs, hr, hrun, hended, hW, hsame⟩ := X2.leave (v := some (.int p1)) (fun h => by rw [Bd.returns] at h; cases h)
  refine ⟨_, _, pre0 _ ?_, hrun, hended, _, _, rfl, ?_, ⟨_, rfl⟩, hW, hsame.mono (by decide) (by decide)⟩
  · show Steps _ _ _ (s₁.setTop (mkF m 0 #[.val (.int p1), .val (.int p2), .val (.int p3)] [])) _
    refine XS.iloadN X0.here hx rfl (hb hby d47_0) rfl ?_
    refine XS.iloadN X0.here hx rfl (hb hby d47_1) rfl ?_
    refine XS.iloadN X0.here hx rfl (hb hby d47_2) rfl ?_
    show Steps _ _ _ (s₁.setTop (mkF m 3 #[.val (.int p1), .val (.int p2), .val (.int p3)] [(.int p3), (.int p2), (.int p1)])) _
    refine st1 _ ?_
    show Steps _ _ _ (T1.setTop (mkF m 6 #[.val (.int p1), .val (.int p2), .val (.int p3)] [G3, (.int p3), (.int p2), (.int p1)])) _
    refine st2 _ ?_
    show Steps _ _ _ (T2.setTop (mkF m 9 #[.val (.int p1), .val (.int p2), .val (.int p3)] [(.int p1)])) _
    exact retI X2 hx Bd.returns (hb hby d47_9) hr
  · show own_Q Z (some (.int p1)) h0 n0 _ T2.heap _
    rw [eq2]
    exact ⟨rfl, N2, rfl⟩
theorem d25_0 : decode jdk_42_method_158_code 0 = .ok (.iload_n 0, 1) := by decide +kernel
theorem d25_1 : decode jdk_42_method_158_code 1 = .ok (.iload_n 1, 1) := by decide +kernel
theorem d25_2 : decode jdk_42_method_158_code 2 = .ok (.iload_n 2, 1) := by decide +kernel
theorem d25_3 : decode jdk_42_method_158_code 3 = .ok (.getstatic 1053, 3) := by decide +kernel
theorem d25_6 : decode jdk_42_method_158_code 6 = .ok (.invokestatic 1062, 3) := by decide +kernel
theorem d25_9 : decode jdk_42_method_158_code 9 = .ok (.pop, 1) := by decide +kernel
theorem d25_10 : decode jdk_42_method_158_code 10 = .ok (.return_, 1) := by decide +kernel
theorem pn_25 : plainName "java/lang/String" = true := by first | (simp [plainName, overriddenIn]; done) | decide +kernel
theorem ef_25_rrr (m : MethodId) (x0 : Int32) (x1 : Int32) (x2 : Int32) : entryFrame m #[(.int x0), (.int x1), (.int x2)] 3 = mkF m 0 #[.val (.int x0), .val (.int x1), .val (.int x2)] [] := by first | (simp [entryFrame, mkF, argsToLocals, Value.category]; done) | rfl
theorem rmSBE (l : Launch) (Z : State) (a0 : Array Value) (hw : HW a0 Z) (ws : List Jvm.Cond) (G1 : Int32) (G3 : Value) (G4 : Value) (p1 : Int32) (p2 : Int32) (p3 : Int32) (h0 : Heap) (n0 : Nat) (Z0 : n0 ≤ h0.size) (EN : own_env Z G1 G3 G4) (X00 : Old Z n0 h0) (hi0 : ¬ (p1 < (0 : Int32))) (hi1 : ¬ (p2 < p1)) (hi2 : ¬ (p3 < p2)) :
    MetFree l y_5 (head1 (Jvm.Cond.code y_5 jdk_42_method_158_code 3 none :: ws) (Rm 1 0 0 15)) (fun a_ U_ => a_ = #[(.int p1), (.int p2), (.int p3)] ∧ Z.Warmed39 U_.vm ∧ U_.heap = h0) (fun _ _ _ _ _ => True) (fun _ U_ o_ U1_ => ∃ v_ L_, o_ = .returned v_ ∧ own_Q Z none h0 n0 v_ U1_.heap L_ ∧ FrameEnd U_ o_ U1_ L_ (Rm 1 0 0 15).cells (Rm 1 0 0 15).slots) := by
  refine MetFree.of_bodySF (plainFor_of_name pn_25) hisR ?_
  intro p e s m args below meth c s₁ Bd hml0 hP hK
  obtain ⟨rfl, hZ, hh⟩ := hP
  have hx := Bd.exec
  have hby := Bd.bytes
  have hml : c.maxLocals = 3 := hml0
  have hown : s.vm.findClass "java/lang/String" = some m.cls := findClass_of_methodNamed Bd.named
  have hnm := (name_of_methodNamed Bd.named Bd.method).1
  have X0 : Stand p l e (Rm 1 0 0 15) s m #[(.int p1), (.int p2), (.int p3)] below meth c s₁ [] 0 0 := Stand.of_body Bd
  have e0 : s₁.heap = h0 := by rw [← hh, Bd.state]; rfl
  have N0 := Fr.nil n0
  have pre0 : ∀ tt, Steps p.tables e below (s₁.setTop (mkF m 0 #[.val (.int p1), .val (.int p2), .val (.int p3)] [])) tt → Steps p.tables e below (s₁.setTop (entryFrame m #[(.int p1), (.int p2), (.int p3)] 3)) tt := fun tt kk => castTop (ef_25_rrr m p1 p2 p3) kk
  have EN0 := EN
  obtain ⟨O2, P5, O4, rG3, O6, O7, O8⟩ := EN
  obtain ⟨T1, X1, e1, st1⟩ := getS2 X0 hx hZ hown (host := "") (Or.inl (hw _ (tk 87 rfl))) Via.refl e0 (Sta.ext X00.2 O4) (g := (mkF m 3 #[.val (.int p1), .val (.int p2), .val (.int p3)] [(.int p3), (.int p2), (.int p1)])) rfl (hb hby d25_3)
  obtain ⟨_, _, ⟨T2, L2, k2, n2⟩, -, X2, ⟨Lc2, hQ2, l2, y2, z2⟩, st2⟩ := Jvm.LawKit.callS X1 hx (y := y_1) hown (mvT hZ (hw _ (tk 128 rfl))) (mvT hZ (hw _ (tk 129 rfl))) (mvT hZ (hw _ (tk 88 rfl))) (mvT hZ (hw _ (tk 130 rfl))) (by decide) (backOf (W := 0) (rmPFT l Z a0 hw [] p1 p2 p3 G3 h0 n0 Z0 rG3 hi0 hi1 hi2) hZ (hw _ (tk 130 rfl)) (hw _ (tk 88 rfl)) (by decide) (by decide)) (g := (mkF m 6 #[.val (.int p1), .val (.int p2), .val (.int p3)] [G3, (.int p3), (.int p2), (.int p1)])) rfl (by rw [hml]; rfl) (argsL := [(.int p1), (.int p2), (.int p3), G3]) (rest := []) (lenOf pd__IIILjava_util_function_BiFunction__I rfl) rfl (by show 2 * 0 + _ ≤ _; exact Nat.le_of_eq rfl) (hb hby d25_6) (fun _ _ => ⟨rfl, e1, (by decide : 0 + 0 ≤ _), (by decide : 0 + 0 ≤ _)⟩)
  dsimp only [Pt.U, Pt.locs, Pt.cells, Pt.slots] at X2 l2 y2 z2 st2 hQ2
  subst l2 y2 z2
  obtain ⟨rfl, Nq2, eq2⟩ := hQ2
  have N2 := Fr.app N0 Nq2
  obtain ⟨fs, hr, hrun, hended, hW, hsame⟩ := X2.leave (v := none) (fun _ => rfl)
  refine ⟨_, _, pre0 _ ?_, hrun, hended, _, _, rfl, ?_, ⟨_, rfl⟩, hW, hsame.mono (by decide) (by decide)⟩
  · show Steps _ _ _ (s₁.setTop (mkF m 0 #[.val (.int p1), .val (.int p2), .val (.int p3)] [])) _
    refine XS.iloadN X0.here hx rfl (hb hby d25_0) rfl ?_
    refine XS.iloadN X0.here hx rfl (hb hby d25_1) rfl ?_
    refine XS.iloadN X0.here hx rfl (hb hby d25_2) rfl ?_
    show Steps _ _ _ (s₁.setTop (mkF m 3 #[.val (.int p1), .val (.int p2), .val (.int p3)] [(.int p3), (.int p2), (.int p1)])) _
    refine st1 _ ?_
    show Steps _ _ _ (T1.setTop (mkF m 6 #[.val (.int p1), .val (.int p2), .val (.int p3)] [G3, (.int p3), (.int p2), (.int p1)])) _
    refine st2 _ ?_
    show Steps _ _ _ (T2.setTop (mkF m 9 #[.val (.int p1), .val (.int p2), .val (.int p3)] [(.int p1)])) _
    refine XS.pop X2.here hx rfl (hb hby d25_9) rfl rfl ?_
    show Steps _ _ _ (T2.setTop (mkF m 10 #[.val (.int p1), .val (.int p2), .val (.int p3)] [])) _
    exact X2.returnOut hx Bd.returns (hb hby d25_10) hr
  · show own_Q Z none h0 n0 _ T2.heap _
    rw [eq2]
    exact ⟨rfl, N2, rfl⟩
theorem d41_0 : decode jdk_52_method_6_code 0 = .ok (.aload_n 0, 1) := by decide +kernel
theorem d41_1 : decode jdk_52_method_6_code 1 = .ok (.arraylength, 1) := by decide +kernel
theorem d41_2 : decode jdk_52_method_6_code 2 = .ok (.iconst 1, 1) := by decide +kernel
theorem d41_3 : decode jdk_52_method_6_code 3 = .ok (.ishr, 1) := by decide +kernel
theorem d41_4 : decode jdk_52_method_6_code 4 = .ok (.ireturn, 1) := by decide +kernel
theorem pn_41 : plainName "java/lang/StringUTF16" = true := by first | (simp [plainName, overriddenIn]; done) | decide +kernel
theorem ef_41_r (m : MethodId) (x0 : Addr) : entryFrame m #[(.ref x0)] 1 = mkF m 0 #[.val (.ref x0)] [] := by first | (simp [entryFrame, mkF, argsToLocals, Value.category]; done) | rfl
theorem rmULN (l : Launch) (Z : State) (a0 : Array Value) (hw : HW a0 Z) (ws : List Jvm.Cond) (t : Addr) (k : ClassId) (M : Nat) (vs : List Value) (h0 : Heap) (n0 : Nat) (Z0 : n0 ≤ h0.size) (V_t : Arv Z h0 t k .byte (Int32.ofNat (2 * M)) vs (.int 0)) (hM : M < 64) :
    MetFree l y_6 (head1 (Jvm.Cond.code y_6 jdk_52_method_6_code 1 (some .int) :: ws) (Rm 0 0 0 0)) (fun a_ U_ => a_ = #[(.ref t)] ∧ Z.Warmed39 U_.vm ∧ U_.heap = h0) (fun _ _ _ _ _ => True) (fun _ U_ o_ U1_ => ∃ v_ L_, o_ = .returned v_ ∧ own_Q Z (some (.int (Int32.ofNat M))) h0 n0 v_ U1_.heap L_ ∧ FrameEnd U_ o_ U1_ L_ (Rm 0 0 0 0).cells (Rm 0 0 0 0).slots) := by
  refine MetFree.of_bodySF (plainFor_of_name pn_41) hisR ?_
  intro p e s m args below meth c s₁ Bd hml0 hP hK
  obtain ⟨rfl, hZ, hh⟩ := hP
  have hx := Bd.exec
  have hby := Bd.bytes
  have hml : c.maxLocals = 1 := hml0
  have hown : s.vm.findClass "java/lang/StringUTF16" = some m.cls := findClass_of_methodNamed Bd.named
  have hnm := (name_of_methodNamed Bd.named Bd.method).1
  have X0 : Stand p l e (Rm 0 0 0 0) s m #[(.ref t)] below meth c s₁ [] 0 0 := Stand.of_body Bd
  have e0 : s₁.heap = h0 := by rw [← hh, Bd.state]; rfl
  have N0 := Fr.nil n0
  have pre0 : ∀ tt, Steps p.tables e below (s₁.setTop (mkF m 0 #[.val (.ref t)] [])) tt → Steps p.tables e below (s₁.setTop (entryFrame m #[(.ref t)] 1)) tt := fun tt kk => castTop (ef_41_r m t) kk
  obtain ⟨c1, Ar1, -, S1, M1, -, -⟩ := id V_t
  obtain ⟨fs, hr, hrun, hended, hW, hsame⟩ := X0.leave (v := some (.int (Int32.ofNat M))) (fun h => by rw [Bd.returns] at h; cases h)
  refine ⟨_, _, pre0 _ ?_, hrun, hended, _, _, rfl, ?_, ⟨_, rfl⟩, hW, hsame.mono (by decide) (by decide)⟩
  · show Steps _ _ _ (s₁.setTop (mkF m 0 #[.val (.ref t)] [])) _
    refine XS.aloadN X0.here hx rfl (hb hby d41_0) rfl rfl ?_
    show Steps _ _ _ (s₁.setTop (mkF m 1 #[.val (.ref t)] [(.ref t)])) _
    refine X0.arraylength hx (by rw [e0]; exact Ar1.1) (State.isArrayOf_alike hZ.alike Ar1.2.1) (g := (mkF m 1 #[.val (.ref t)] [(.ref t)])) rfl rfl (hb hby d41_1) _ ?_
    rw [len_of S1 M1]
    show Steps _ _ _ (s₁.setTop (mkF m 2 #[.val (.ref t)] [(.int (Int32.ofNat (2 * M)))])) _
    refine XS.iconst X0.here hx rfl (hb hby d41_2) ?_
    refine XS.ishr X0.here hx rfl (hb hby d41_3) rfl ?_
    show Steps _ _ _ (s₁.setTop (mkF m 4 #[.val (.ref t)] [(.int ((Int32.ofNat (2 * M)) >>> ((1 : Int32) &&& 31)))])) _
    rw [(own_shr hM)]
    show Steps _ _ _ (s₁.setTop (mkF m 4 #[.val (.ref t)] [(.int (Int32.ofNat M))])) _
    exact retI X0 hx Bd.returns (hb hby d41_4) hr
  · show own_Q Z (some (.int (Int32.ofNat M))) h0 n0 _ s₁.heap _
    rw [e0]
    exact ⟨rfl, N0, rfl⟩
theorem d50_0 : decode jdk_52_method_91_code 0 = .ok (.iload_n 0, 1) := by decide +kernel
theorem d50_1 : decode jdk_52_method_91_code 1 = .ok (.aload_n 1, 1) := by decide +kernel
theorem pd___B_I : parseMethodDescriptor "([B)I" = some ⟨[(.array .byte)], some .int⟩ := by decide +kernel
theorem d50_2 : decode jdk_52_method_91_code 2 = .ok (.invokestatic 48, 3) := by decide +kernel
theorem pd__II_V : parseMethodDescriptor "(II)V" = some ⟨[.int, .int], none⟩ := by decide +kernel
theorem d50_5 : decode jdk_52_method_91_code 5 = .ok (.invokestatic 414, 3) := by decide +kernel
theorem d50_8 : decode jdk_52_method_91_code 8 = .ok (.return_, 1) := by decide +kernel
theorem pn_50 : plainName "java/lang/StringUTF16" = true := by first | (simp [plainName, overriddenIn]; done) | decide +kernel
theorem ef_50_rr (m : MethodId) (x0 : Int32) (x1 : Addr) : entryFrame m #[(.int x0), (.ref x1)] 2 = mkF m 0 #[.val (.int x0), .val (.ref x1)] [] := by first | (simp [entryFrame, mkF, argsToLocals, Value.category]; done) | rfl
theorem rmUCI (l : Launch) (Z : State) (a0 : Array Value) (hw : HW a0 Z) (ws : List Jvm.Cond) (G1 : Int32) (G3 : Value) (G4 : Value) (p1 : Int32) (t : Addr) (k : ClassId) (M : Nat) (vs : List Value) (h0 : Heap) (n0 : Nat) (Z0 : n0 ≤ h0.size) (EN : own_env Z G1 G3 G4) (X00 : Old Z n0 h0) (hi0 : ¬ (p1 < (0 : Int32))) (hi1 : p1 < (Int32.ofNat M)) (V_t : Arv Z h0 t k .byte (Int32.ofNat (2 * M)) vs (.int 0)) (hM : M < 64) :
    MetFree l y_7 (head1 (Jvm.Cond.code y_7 jdk_52_method_91_code 2 none :: ws) (Rm 2 0 0 27)) (fun a_ U_ => a_ = #[(.int p1), (.ref t)] ∧ Z.Warmed39 U_.vm ∧ U_.heap = h0) (fun _ _ _ _ _ => True) (fun _ U_ o_ U1_ => ∃ v_ L_, o_ = .returned v_ ∧ own_Q Z none h0 n0 v_ U1_.heap L_ ∧ FrameEnd U_ o_ U1_ L_ (Rm 2 0 0 27).cells (Rm 2 0 0 27).slots) := by
  refine MetFree.of_bodySF (plainFor_of_name pn_50) hisR ?_
  intro p e s m args below meth c s₁ Bd hml0 hP hK
  obtain ⟨rfl, hZ, hh⟩ := hP
  have hx := Bd.exec
  have hby := Bd.bytes
  have hml : c.maxLocals = 2 := hml0
  have hown : s.vm.findClass "java/lang/StringUTF16" = some m.cls := findClass_of_methodNamed Bd.named
  have hnm := (name_of_methodNamed Bd.named Bd.method).1
  have X0 : Stand p l e (Rm 2 0 0 27) s m #[(.int p1), (.ref t)] below meth c s₁ [] 0 0 := Stand.of_body Bd
  have e0 : s₁.heap = h0 := by rw [← hh, Bd.state]; rfl
  have N0 := Fr.nil n0
  have pre0 : ∀ tt, Steps p.tables e below (s₁.setTop (mkF m 0 #[.val (.int p1), .val (.ref t)] [])) tt → Steps p.tables e below (s₁.setTop (entryFrame m #[(.int p1), (.ref t)] 2)) tt := fun tt kk => castTop (ef_50_rr m p1 t) kk
  have EN0 := EN
  obtain ⟨O2, P5, O4, rG3, O6, O7, O8⟩ := EN
  obtain ⟨_, _, ⟨T1, L1, k1, n1⟩, -, X1, ⟨Lc1, hQ1, l1, y1, z1⟩, st1⟩ := Jvm.LawKit.callS X0 hx (y := y_6) hown (mvT hZ (hw _ (tk 191 rfl))) (mvT hZ (hw _ (tk 192 rfl))) (mvT hZ (hw _ (tk 23 rfl))) (mvT hZ (hw _ (tk 193 rfl))) (by decide) (backOf (W := 1) (rmULN l Z a0 hw [] t k M vs h0 n0 Z0 V_t hM) hZ (hw _ (tk 193 rfl)) (hw _ (tk 23 rfl)) (by decide) (by decide)) (g := (mkF m 2 #[.val (.int p1), .val (.ref t)] [(.ref t), (.int p1)])) rfl (by rw [hml]; rfl) (argsL := [(.ref t)]) (rest := [(.int p1)]) (lenOf pd___B_I rfl) rfl (by show 2 * 0 + _ ≤ _; exact Nat.le_of_eq rfl) (hb hby d50_2) (fun _ _ => ⟨rfl, e0, (by decide : 0 + 0 ≤ _), (by decide : 0 + 0 ≤ _)⟩)
  dsimp only [Pt.U, Pt.locs, Pt.cells, Pt.slots] at X1 l1 y1 z1 st1 hQ1
  subst l1 y1 z1
  obtain ⟨rfl, Nq1, eq1⟩ := hQ1
  have N1 := Fr.app N0 Nq1
  obtain ⟨_, _, ⟨T2, L2, k2, n2⟩, -, X2, ⟨Lc2, hQ2, l2, y2, z2⟩, st2⟩ := Jvm.LawKit.callS X1 hx (y := y_3) hown (mvT hZ (hw _ (tk 227 rfl))) (mvT hZ (hw _ (tk 85 rfl))) (mvT hZ (hw _ (tk 9 rfl))) (mvT hZ (hw _ (tk 86 rfl))) (by decide) (backOf (W := 0) (rmSCI l Z a0 hw [] G1 G3 G4 p1 (Int32.ofNat M) h0 n0 Z0 EN0 X00 hi0 hi1) hZ (hw _ (tk 86 rfl)) (hw _ (tk 9 rfl)) (by decide) (by decide)) (g := (mkF m 5 #[.val (.int p1), .val (.ref t)] [(.int (Int32.ofNat M)), (.int p1)])) rfl (by rw [hml]; rfl) (argsL := [(.int p1), (.int (Int32.ofNat M))]) (rest := []) (lenOf pd__II_V rfl) rfl (by show 2 * 0 + _ ≤ _; exact Nat.le_of_eq rfl) (hb hby d50_5) (fun _ _ => ⟨rfl, eq1, (by decide : 0 + 0 ≤ _), (by decide : 0 + 0 ≤ _)⟩)
  dsimp only [Pt.U, Pt.locs, Pt.cells, Pt.slots] at X2 l2 y2 z2 st2 hQ2
  subst l2 y2 z2
  obtain ⟨rfl, Nq2, eq2⟩ := hQ2
  have N2 := Fr.app N1 Nq2
  obtain ⟨fs, hr, hrun, hended, hW, hsame⟩ := X2.leave (v := none) (fun _ => rfl)
  refine ⟨_, _, pre0 _ ?_, hrun, hended, _, _, rfl, ?_, ⟨_, rfl⟩, hW, hsame.mono (by decide) (by decide)⟩
  · show Steps _ _ _ (s₁.setTop (mkF m 0 #[.val (.int p1), .val (.ref t)] [])) _
    refine XS.iloadN X0.here hx rfl (hb hby d50_0) rfl ?_
    refine XS.aloadN X0.here hx rfl (hb hby d50_1) rfl rfl ?_
    show Steps _ _ _ (s₁.setTop (mkF m 2 #[.val (.int p1), .val (.ref t)] [(.ref t), (.int p1)])) _
    refine st1 _ ?_
    show Steps _ _ _ (T1.setTop (mkF m 5 #[.val (.int p1), .val (.ref t)] [(.int (Int32.ofNat M)), (.int p1)])) _
    refine st2 _ ?_
    show Steps _ _ _ (T2.setTop (mkF m 8 #[.val (.int p1), .val (.ref t)] [])) _
    exact X2.returnOut hx Bd.returns (hb hby d50_8) hr
  · show own_Q Z none h0 n0 _ T2.heap _
    rw [eq2]
    exact ⟨rfl, N2, rfl⟩
theorem d46_0 : decode jdk_52_method_94_code 0 = .ok (.iload_n 0, 1) := by decide +kernel
theorem d46_1 : decode jdk_52_method_94_code 1 = .ok (.iload_n 1, 1) := by decide +kernel
theorem d46_2 : decode jdk_52_method_94_code 2 = .ok (.aload_n 2, 1) := by decide +kernel
theorem d46_3 : decode jdk_52_method_94_code 3 = .ok (.invokestatic 48, 3) := by decide +kernel
theorem pd__III_I : parseMethodDescriptor "(III)I" = some ⟨[.int, .int, .int], some .int⟩ := by decide +kernel
theorem d46_6 : decode jdk_52_method_94_code 6 = .ok (.invokestatic 419, 3) := by decide +kernel
theorem d46_9 : decode jdk_52_method_94_code 9 = .ok (.pop, 1) := by decide +kernel
theorem d46_10 : decode jdk_52_method_94_code 10 = .ok (.return_, 1) := by decide +kernel
theorem pn_46 : plainName "java/lang/StringUTF16" = true := by first | (simp [plainName, overriddenIn]; done) | decide +kernel
theorem ef_46_rrr (m : MethodId) (x0 : Int32) (x1 : Int32) (x2 : Addr) : entryFrame m #[(.int x0), (.int x1), (.ref x2)] 3 = mkF m 0 #[.val (.int x0), .val (.int x1), .val (.ref x2)] [] := by first | (simp [entryFrame, mkF, argsToLocals, Value.category]; done) | rfl
theorem rmUOC (l : Launch) (Z : State) (a0 : Array Value) (hw : HW a0 Z) (ws : List Jvm.Cond) (G1 : Int32) (G3 : Value) (G4 : Value) (p1 : Int32) (p2 : Int32) (t : Addr) (k : ClassId) (M : Nat) (vs : List Value) (h0 : Heap) (n0 : Nat) (Z0 : n0 ≤ h0.size) (EN : own_env Z G1 G3 G4) (X00 : Old Z n0 h0) (hi0 : ¬ ((((Int32.ofNat M) ||| p1) ||| p2) < (0 : Int32))) (hi1 : ¬ (((Int32.ofNat M) - p1) < p2)) (V_t : Arv Z h0 t k .byte (Int32.ofNat (2 * M)) vs (.int 0)) (hM : M < 64) :
    MetFree l y_8 (head1 (Jvm.Cond.code y_8 jdk_52_method_94_code 3 none :: ws) (Rm 2 0 0 29)) (fun a_ U_ => a_ = #[(.int p1), (.int p2), (.ref t)] ∧ Z.Warmed39 U_.vm ∧ U_.heap = h0) (fun _ _ _ _ _ => True) (fun _ U_ o_ U1_ => ∃ v_ L_, o_ = .returned v_ ∧ own_Q Z none h0 n0 v_ U1_.heap L_ ∧ FrameEnd U_ o_ U1_ L_ (Rm 2 0 0 29).cells (Rm 2 0 0 29).slots) := by
  refine MetFree.of_bodySF (plainFor_of_name pn_46) hisR ?_
  intro p e s m args below meth c s₁ Bd hml0 hP hK
  obtain ⟨rfl, hZ, hh⟩ := hP
  have hx := Bd.exec
  have hby := Bd.bytes
  have hml : c.maxLocals = 3 := hml0
  have hown : s.vm.findClass "java/lang/StringUTF16" = some m.cls := findClass_of_methodNamed Bd.named
  have hnm := (name_of_methodNamed Bd.named Bd.method).1
  have X0 : Stand p l e (Rm 2 0 0 29) s m #[(.int p1), (.int p2), (.ref t)] below meth c s₁ [] 0 0 := Stand.of_body Bd
  have e0 : s₁.heap = h0 := by rw [← hh, Bd.state]; rfl
  have N0 := Fr.nil n0
  have pre0 : ∀ tt, Steps p.tables e below (s₁.setTop (mkF m 0 #[.val (.int p1), .val (.int p2), .val (.ref t)] [])) tt → Steps p.tables e below (s₁.setTop (entryFrame m #[(.int p1), (.int p2), (.ref t)] 3)) tt := fun tt kk => castTop (ef_46_rrr m p1 p2 t) kk
  have EN0 := EN
  obtain ⟨O2, P5, O4, rG3, O6, O7, O8⟩ := EN
  obtain ⟨_, _, ⟨T1, L1, k1, n1⟩, -, X1, ⟨Lc1, hQ1, l1, y1, z1⟩, st1⟩ := Jvm.LawKit.callS X0 hx (y := y_6) hown (mvT hZ (hw _ (tk 191 rfl))) (mvT hZ (hw _ (tk 192 rfl))) (mvT hZ (hw _ (tk 23 rfl))) (mvT hZ (hw _ (tk 193 rfl))) (by decide) (backOf (W := 2) (rmULN l Z a0 hw [] t k M vs h0 n0 Z0 V_t hM) hZ (hw _ (tk 193 rfl)) (hw _ (tk 23 rfl)) (by decide) (by decide)) (g := (mkF m 3 #[.val (.int p1), .val (.int p2), .val (.ref t)] [(.ref t), (.int p2), (.int p1)])) rfl (by rw [hml]; rfl) (argsL := [(.ref t)]) (rest := [(.int p2), (.int p1)]) (lenOf pd___B_I rfl) rfl (by show 2 * 0 + _ ≤ _; exact Nat.le_of_eq rfl) (hb hby d46_3) (fun _ _ => ⟨rfl, e0, (by decide : 0 + 0 ≤ _), (by decide : 0 + 0 ≤ _)⟩)
  dsimp only [Pt.U, Pt.locs, Pt.cells, Pt.slots] at X1 l1 y1 z1 st1 hQ1
  subst l1 y1 z1
  obtain ⟨rfl, Nq1, eq1⟩ := hQ1
  have N1 := Fr.app N0 Nq1
  obtain ⟨_, _, ⟨T2, L2, k2, n2⟩, -, X2, ⟨Lc2, hQ2, l2, y2, z2⟩, st2⟩ := Jvm.LawKit.callS X1 hx (y := y_4) hown (mvT hZ (hw _ (tk 211 rfl))) (mvT hZ (hw _ (tk 212 rfl))) (mvT hZ (hw _ (tk 9 rfl))) (mvT hZ (hw _ (tk 213 rfl))) (by decide) (backOf (W := 0) (rmSOC l Z a0 hw [] G1 G3 G4 p1 p2 (Int32.ofNat M) h0 n0 Z0 EN0 X00 hi0 hi1) hZ (hw _ (tk 213 rfl)) (hw _ (tk 9 rfl)) (by decide) (by decide)) (g := (mkF m 6 #[.val (.int p1), .val (.int p2), .val (.ref t)] [(.int (Int32.ofNat M)), (.int p2), (.int p1)])) rfl (by rw [hml]; rfl) (argsL := [(.int p1), (.int p2), (.int (Int32.ofNat M))]) (rest := []) (lenOf pd__III_I rfl) rfl (by show 2 * 0 + _ ≤ _; exact Nat.le_of_eq rfl) (hb hby d46_6) (fun _ _ => ⟨rfl, eq1, (by decide : 0 + 0 ≤ _), (by decide : 0 + 0 ≤ _)⟩)
  dsimp only [Pt.U, Pt.locs, Pt.cells, Pt.slots] at X2 l2 y2 z2 st2 hQ2
  subst l2 y2 z2
  obtain ⟨rfl, Nq2, eq2⟩ := hQ2
  have N2 := Fr.app N1 Nq2
  obtain ⟨fs, hr, hrun, hended, hW, hsame⟩ := X2.leave (v := none) (fun _ => rfl)
  refine ⟨_, _, pre0 _ ?_, hrun, hended, _, _, rfl, ?_, ⟨_, rfl⟩, hW, hsame.mono (by decide) (by decide)⟩
  · show Steps _ _ _ (s₁.setTop (mkF m 0 #[.val (.int p1), .val (.int p2), .val (.ref t)] [])) _
    refine XS.iloadN X0.here hx rfl (hb hby d46_0) rfl ?_
    refine XS.iloadN X0.here hx rfl (hb hby d46_1) rfl ?_
    refine XS.aloadN X0.here hx rfl (hb hby d46_2) rfl rfl ?_
    show Steps _ _ _ (s₁.setTop (mkF m 3 #[.val (.int p1), .val (.int p2), .val (.ref t)] [(.ref t), (.int p2), (.int p1)])) _
    refine st1 _ ?_
    show Steps _ _ _ (T1.setTop (mkF m 6 #[.val (.int p1), .val (.int p2), .val (.ref t)] [(.int (Int32.ofNat M)), (.int p2), (.int p1)])) _
    refine st2 _ ?_
    show Steps _ _ _ (T2.setTop (mkF m 9 #[.val (.int p1), .val (.int p2), .val (.ref t)] [(.int p1)])) _
    refine XS.pop X2.here hx rfl (hb hby d46_9) rfl rfl ?_
    show Steps _ _ _ (T2.setTop (mkF m 10 #[.val (.int p1), .val (.int p2), .val (.ref t)] [])) _
    exact X2.returnOut hx Bd.returns (hb hby d46_10) hr
  · show own_Q Z none h0 n0 _ T2.heap _
    rw [eq2]
    exact ⟨rfl, N2, rfl⟩
theorem d40_0 : decode jdk_52_method_93_code 0 = .ok (.iload_n 0, 1) := by decide +kernel
theorem d40_1 : decode jdk_52_method_93_code 1 = .ok (.iload_n 1, 1) := by decide +kernel
theorem d40_2 : decode jdk_52_method_93_code 2 = .ok (.aload_n 2, 1) := by decide +kernel
theorem d40_3 : decode jdk_52_method_93_code 3 = .ok (.invokestatic 48, 3) := by decide +kernel
theorem pd__III_V : parseMethodDescriptor "(III)V" = some ⟨[.int, .int, .int], none⟩ := by decide +kernel
theorem d40_6 : decode jdk_52_method_93_code 6 = .ok (.invokestatic 241, 3) := by decide +kernel
theorem d40_9 : decode jdk_52_method_93_code 9 = .ok (.return_, 1) := by decide +kernel
theorem pn_40 : plainName "java/lang/StringUTF16" = true := by first | (simp [plainName, overriddenIn]; done) | decide +kernel
theorem ef_40_rrr (m : MethodId) (x0 : Int32) (x1 : Int32) (x2 : Addr) : entryFrame m #[(.int x0), (.int x1), (.ref x2)] 3 = mkF m 0 #[.val (.int x0), .val (.int x1), .val (.ref x2)] [] := by first | (simp [entryFrame, mkF, argsToLocals, Value.category]; done) | rfl
theorem rmUBE (l : Launch) (Z : State) (a0 : Array Value) (hw : HW a0 Z) (ws : List Jvm.Cond) (G1 : Int32) (G3 : Value) (G4 : Value) (p1 : Int32) (p2 : Int32) (t : Addr) (k : ClassId) (M : Nat) (vs : List Value) (h0 : Heap) (n0 : Nat) (Z0 : n0 ≤ h0.size) (EN : own_env Z G1 G3 G4) (X00 : Old Z n0 h0) (hi0 : ¬ (p1 < (0 : Int32))) (hi1 : ¬ (p2 < p1)) (hi2 : ¬ ((Int32.ofNat M) < p2)) (V_t : Arv Z h0 t k .byte (Int32.ofNat (2 * M)) vs (.int 0)) (hM : M < 64) :
    MetFree l y_9 (head1 (Jvm.Cond.code y_9 jdk_52_method_93_code 3 none :: ws) (Rm 2 0 0 29)) (fun a_ U_ => a_ = #[(.int p1), (.int p2), (.ref t)] ∧ Z.Warmed39 U_.vm ∧ U_.heap = h0) (fun _ _ _ _ _ => True) (fun _ U_ o_ U1_ => ∃ v_ L_, o_ = .returned v_ ∧ own_Q Z none h0 n0 v_ U1_.heap L_ ∧ FrameEnd U_ o_ U1_ L_ (Rm 2 0 0 29).cells (Rm 2 0 0 29).slots) := by
  refine MetFree.of_bodySF (plainFor_of_name pn_40) hisR ?_
  intro p e s m args below meth c s₁ Bd hml0 hP hK
  obtain ⟨rfl, hZ, hh⟩ := hP
  have hx := Bd.exec
  have hby := Bd.bytes
  have hml : c.maxLocals = 3 := hml0
  have hown : s.vm.findClass "java/lang/StringUTF16" = some m.cls := findClass_of_methodNamed Bd.named
  have hnm := (name_of_methodNamed Bd.named Bd.method).1
  have X0 : Stand p l e (Rm 2 0 0 29) s m #[(.int p1), (.int p2), (.ref t)] below meth c s₁ [] 0 0 := Stand.of_body Bd
  have e0 : s₁.heap = h0 := by rw [← hh, Bd.state]; rfl
  have N0 := Fr.nil n0
  have pre0 : ∀ tt, Steps p.tables e below (s₁.setTop (mkF m 0 #[.val (.int p1), .val (.int p2), .val (.ref t)] [])) tt → Steps p.tables e below (s₁.setTop (entryFrame m #[(.int p1), (.int p2), (.ref t)] 3)) tt := fun tt kk => castTop (ef_40_rrr m p1 p2 t) kk
  have EN0 := EN
  obtain ⟨O2, P5, O4, rG3, O6, O7, O8⟩ := EN
  obtain ⟨_, _, ⟨T1, L1, k1, n1⟩, -, X1, ⟨Lc1, hQ1, l1, y1, z1⟩, st1⟩ := Jvm.LawKit.callS X0 hx (y := y_6) hown (mvT hZ (hw _ (tk 191 rfl))) (mvT hZ (hw _ (tk 192 rfl))) (mvT hZ (hw _ (tk 23 rfl))) (mvT hZ (hw _ (tk 193 rfl))) (by decide) (backOf (W := 2) (rmULN l Z a0 hw [] t k M vs h0 n0 Z0 V_t hM) hZ (hw _ (tk 193 rfl)) (hw _ (tk 23 rfl)) (by decide) (by decide)) (g := (mkF m 3 #[.val (.int p1), .val (.int p2), .val (.ref t)] [(.ref t), (.int p2), (.int p1)])) rfl (by rw [hml]; rfl) (argsL := [(.ref t)]) (rest := [(.int p2), (.int p1)]) (lenOf pd___B_I rfl) rfl (by show 2 * 0 + _ ≤ _; exact Nat.le_of_eq rfl) (hb hby d40_3) (fun _ _ => ⟨rfl, e0, (by decide : 0 + 0 ≤ _), (by decide : 0 + 0 ≤ _)⟩)
  dsimp only [Pt.U, Pt.locs, Pt.cells, Pt.slots] at X1 l1 y1 z1 st1 hQ1
  subst l1 y1 z1
  obtain ⟨rfl, Nq1, eq1⟩ := hQ1
  have N1 := Fr.app N0 Nq1
  obtain ⟨_, _, ⟨T2, L2, k2, n2⟩, -, X2, ⟨Lc2, hQ2, l2, y2, z2⟩, st2⟩ := Jvm.LawKit.callS X1 hx (y := y_5) hown (mvT hZ (hw _ (tk 194 rfl))) (mvT hZ (hw _ (tk 126 rfl))) (mvT hZ (hw _ (tk 9 rfl))) (mvT hZ (hw _ (tk 127 rfl))) (by decide) (backOf (W := 0) (rmSBE l Z a0 hw [] G1 G3 G4 p1 p2 (Int32.ofNat M) h0 n0 Z0 EN0 X00 hi0 hi1 hi2) hZ (hw _ (tk 127 rfl)) (hw _ (tk 9 rfl)) (by decide) (by decide)) (g := (mkF m 6 #[.val (.int p1), .val (.int p2), .val (.ref t)] [(.int (Int32.ofNat M)), (.int p2), (.int p1)])) rfl (by rw [hml]; rfl) (argsL := [(.int p1), (.int p2), (.int (Int32.ofNat M))]) (rest := []) (lenOf pd__III_V rfl) rfl (by show 2 * 0 + _ ≤ _; exact Nat.le_of_eq rfl) (hb hby d40_6) (fun _ _ => ⟨rfl, eq1, (by decide : 0 + 0 ≤ _), (by decide : 0 + 0 ≤ _)⟩)
  dsimp only [Pt.U, Pt.locs, Pt.cells, Pt.slots] at X2 l2 y2 z2 st2 hQ2
  subst l2 y2 z2
  obtain ⟨rfl, Nq2, eq2⟩ := hQ2
  have N2 := Fr.app N1 Nq2
  obtain ⟨fs, hr, hrun, hended, hW, hsame⟩ := X2.leave (v := none) (fun _ => rfl)
  refine ⟨_, _, pre0 _ ?_, hrun, hended, _, _, rfl, ?_, ⟨_, rfl⟩, hW, hsame.mono (by decide) (by decide)⟩
  · show Steps _ _ _ (s₁.setTop (mkF m 0 #[.val (.int p1), .val (.int p2), .val (.ref t)] [])) _
    refine XS.iloadN X0.here hx rfl (hb hby d40_0) rfl ?_
    refine XS.iloadN X0.here hx rfl (hb hby d40_1) rfl ?_
    refine XS.aloadN X0.here hx rfl (hb hby d40_2) rfl rfl ?_
    show Steps _ _ _ (s₁.setTop (mkF m 3 #[.val (.int p1), .val (.int p2), .val (.ref t)] [(.ref t), (.int p2), (.int p1)])) _
    refine st1 _ ?_
    show Steps _ _ _ (T1.setTop (mkF m 6 #[.val (.int p1), .val (.int p2), .val (.ref t)] [(.int (Int32.ofNat M)), (.int p2), (.int p1)])) _
    refine st2 _ ?_
    show Steps _ _ _ (T2.setTop (mkF m 9 #[.val (.int p1), .val (.int p2), .val (.ref t)] [])) _
    exact X2.returnOut hx Bd.returns (hb hby d40_9) hr
  · show own_Q Z none h0 n0 _ T2.heap _
    rw [eq2]
    exact ⟨rfl, N2, rfl⟩
def own_QW (Z : State) (t : Addr) (k : ClassId) (cs : List Int32) (h0 : Heap) (n0 : Nat) (v : Option Value) (h : Heap) (L : List Loc) : Prop := v = none ∧ Fr n0 L ∧ Keep h0 h [t] ∧ Arv Z h t k .byte (Int32.ofNat (2 * 4)) (own_wide cs) (.int 0)
theorem own_ca (as : List Int32) (o : Nat) (h : o < 2 ^ 31) : (as.map Value.int).getD (Int32.ofNat o).toNatClampNeg (.int 0) = .int (as.getD o 0) := by
  rw [own_clamp h]
  simp only [List.getD_eq_getElem?_getD, List.getElem?_map]
  cases as[o]? <;> rfl
theorem own_in {j n : Nat} (h : j < n) (hn : n < 2 ^ 31) : ¬ (Int32.ofNat j) < (0 : Int32) ∧ (Int32.ofNat j) < (Int32.ofNat n) := ⟨own_n0 (by omega), (own_lt (by omega) hn).mpr h⟩
theorem own_succ (j : Nat) : (Int32.ofNat j) + (1 : Int32) = Int32.ofNat (j + 1) := own_add (i := j) (j := 1)
theorem d36_0 : decode jdk_52_method_4_code 0 = .ok (.getstatic 44, 3) := by decide +kernel
theorem d36_3 : decode jdk_52_method_4_code 3 = .ok (.ifCond .ne 25, 3) := by decide +kernel
theorem d36_28 : decode jdk_52_method_4_code 28 = .ok (.iload_n 1, 1) := by decide +kernel
theorem d36_29 : decode jdk_52_method_4_code 29 = .ok (.iconst 1, 1) := by decide +kernel
theorem d36_30 : decode jdk_52_method_4_code 30 = .ok (.ishl, 1) := by decide +kernel
theorem d36_31 : decode jdk_52_method_4_code 31 = .ok (.istore_n 1, 1) := by decide +kernel
theorem d36_32 : decode jdk_52_method_4_code 32 = .ok (.aload_n 0, 1) := by decide +kernel
theorem d36_33 : decode jdk_52_method_4_code 33 = .ok (.iload_n 1, 1) := by decide +kernel
theorem d36_34 : decode jdk_52_method_4_code 34 = .ok (.iinc 1 1, 3) := by decide +kernel
theorem d36_37 : decode jdk_52_method_4_code 37 = .ok (.iload_n 2, 1) := by decide +kernel
theorem d36_38 : decode jdk_52_method_4_code 38 = .ok (.getstatic 59, 3) := by decide +kernel
theorem d36_41 : decode jdk_52_method_4_code 41 = .ok (.ishr, 1) := by decide +kernel
theorem d36_42 : decode jdk_52_method_4_code 42 = .ok (.i2b, 1) := by decide +kernel
theorem d36_43 : decode jdk_52_method_4_code 43 = .ok (.bastore, 1) := by decide +kernel
theorem d36_44 : decode jdk_52_method_4_code 44 = .ok (.aload_n 0, 1) := by decide +kernel
theorem d36_45 : decode jdk_52_method_4_code 45 = .ok (.iload_n 1, 1) := by decide +kernel
theorem d36_46 : decode jdk_52_method_4_code 46 = .ok (.iload_n 2, 1) := by decide +kernel
theorem d36_47 : decode jdk_52_method_4_code 47 = .ok (.getstatic 63, 3) := by decide +kernel
theorem d36_50 : decode jdk_52_method_4_code 50 = .ok (.ishr, 1) := by decide +kernel
theorem d36_51 : decode jdk_52_method_4_code 51 = .ok (.i2b, 1) := by decide +kernel
theorem d36_52 : decode jdk_52_method_4_code 52 = .ok (.bastore, 1) := by decide +kernel
theorem d36_53 : decode jdk_52_method_4_code 53 = .ok (.return_, 1) := by decide +kernel
theorem pn_36 : plainName "java/lang/StringUTF16" = true := by first | (simp [plainName, overriddenIn]; done) | decide +kernel
theorem ef_36_rrr (m : MethodId) (x0 : Addr) (x1 : Int32) (x2 : Int32) : entryFrame m #[(.ref x0), (.int x1), (.int x2)] 3 = mkF m 0 #[.val (.ref x0), .val (.int x1), .val (.int x2)] [] := by first | (simp [entryFrame, mkF, argsToLocals, Value.category]; done) | rfl
theorem rmPUT (l : Launch) (Z : State) (a0 : Array Value) (hw : HW a0 Z) (ws : List Jvm.Cond) (G1 : Int32) (G3 : Value) (G4 : Value) (t : Addr) (k : ClassId) (cs : List Int32) (j : Nat) (ch : Int32) (h0 : Heap) (n0 : Nat) (Z0 : n0 ≤ h0.size) (EN : own_env Z G1 G3 G4) (X00 : Old Z n0 h0) (V_t : Arv Z h0 t k .byte (Int32.ofNat (2 * 4)) (own_wide cs) (.int 0)) (hcs : cs.length = j) (hj : j < 4) (g_t : n0 ≤ t) :
    MetFree l y_10 (head1 (Jvm.Cond.code y_10 jdk_52_method_4_code 3 none :: ws) (Rm 0 0 0 0)) (fun a_ U_ => a_ = #[(.ref t), (.int (Int32.ofNat j)), (.int ch)] ∧ Z.Warmed39 U_.vm ∧ U_.heap = h0) (fun _ _ _ _ _ => True) (fun _ U_ o_ U1_ => ∃ v_ L_, o_ = .returned v_ ∧ own_QW Z t k (cs ++ [ch]) h0 n0 v_ U1_.heap L_ ∧ FrameEnd U_ o_ U1_ L_ (Rm 0 0 0 0).cells (Rm 0 0 0 0).slots) := by
  refine MetFree.of_bodySF (plainFor_of_name pn_36) hisR ?_
  intro p e s m args below meth c s₁ Bd hml0 hP hK
  obtain ⟨rfl, hZ, hh⟩ := hP
  have hx := Bd.exec
  have hby := Bd.bytes
  have hml : c.maxLocals = 3 := hml0
  have hown : s.vm.findClass "java/lang/StringUTF16" = some m.cls := findClass_of_methodNamed Bd.named
  have hnm := (name_of_methodNamed Bd.named Bd.method).1
  have X0 : Stand p l e (Rm 0 0 0 0) s m #[(.ref t), (.int (Int32.ofNat j)), (.int ch)] below meth c s₁ [] 0 0 := Stand.of_body Bd
  have e0 : s₁.heap = h0 := by rw [← hh, Bd.state]; rfl
  have N0 := Fr.nil n0
  have pre0 : ∀ tt, Steps p.tables e below (s₁.setTop (mkF m 0 #[.val (.ref t), .val (.int (Int32.ofNat j)), .val (.int ch)] [])) tt → Steps p.tables e below (s₁.setTop (entryFrame m #[(.ref t), (.int (Int32.ofNat j)), (.int ch)] 3)) tt := fun tt kk => castTop (ef_36_rrr m t (Int32.ofNat j) ch) kk
  have EN0 := EN
  obtain ⟨O2, P5, O4, rG3, O6, O7, O8⟩ := EN
  obtain ⟨T1, X1, e1, st1⟩ := getS2 X0 hx hZ hown (host := "") (Or.inl (hw _ (tk 173 rfl))) Via.refl e0 (Sta.ext X00.2 O6) (g := (mkF m 0 #[.val (.ref t), .val (.int (Int32.ofNat j)), .val (.int ch)] [])) rfl (hb hby d36_0)
  obtain ⟨T2, X2, e2, st2⟩ := getS2 X1 hx hZ hown (host := "") (Or.inl (hw _ (tk 174 rfl))) Via.refl e1 (Sta.ext X00.2 O7) (g := (mkF m 38 #[.val (.ref t), .val (.int ((Int32.ofNat (2 * j)) + (1 : Int32))), .val (.int ch)] [(.int ch), (.int (Int32.ofNat (2 * j))), (.ref t)])) rfl (hb hby d36_38)
  obtain ⟨c3, Ar3, q3, S3, M3, H3, Gz3⟩ := id (V_t.pad (pad_rep (own_wide cs) (.int 0) 2))
  have hin3 := inb_of (j := (Int32.ofNat (2 * j))) S3 (own_in (by omega) (by decide))
  obtain ⟨T3, h3, X3, e3, W3, st3⟩ := stB X2 hx hZ e2 Ar3 (j := (Int32.ofNat (2 * j))) hin3 (g := (mkF m 43 #[.val (.ref t), .val (.int ((Int32.ofNat (2 * j)) + (1 : Int32))), .val (.int ch)] [(.int ((ch >>> ((0 : Int32) &&& 31)).toInt8.toInt32)), (.int (Int32.ofNat (2 * j))), (.ref t)])) rfl rfl (hb hby d36_43)
  have V3 : Arv Z h3 t k .byte (Int32.ofNat (2 * 4)) (own_wide cs ++ [(.int (own_b0 ch)), (.int 0)]) (.int 0) := (by rw [← own_set_w0 cs (.int (own_b0 ch)) (.int 0) (2 * j) (by omega)]; exact Arv.set Ar3 q3 S3 M3 H3 Gz3 (fits_nar_byte _) W3 (2 * j) (own_clamp (by omega)) (by rw [List.length_append, own_wide_len]; simp; omega))
  have N3 := Fr.snoc X3 N0 g_t
  have f5 := (X00.wr W3 g_t)
  obtain ⟨T4, X4, e4, st4⟩ := getS2 X3 hx hZ hown (host := "") (Or.inl (hw _ (tk 175 rfl))) Via.refl e3 (Sta.ext f5.2 O8) (g := (mkF m 47 #[.val (.ref t), .val (.int (Int32.ofNat (2 * j + 1))), .val (.int ch)] [(.int ch), (.int (Int32.ofNat (2 * j + 1))), (.ref t)])) rfl (hb hby d36_47)
  obtain ⟨c6, Ar6, q6, S6, M6, H6, Gz6⟩ := id V3
  have hin6 := inb_of (j := (Int32.ofNat (2 * j + 1))) S6 (own_in (by omega) (by decide))
  obtain ⟨T6, h6, X6, e6, W6, st6⟩ := stB X4 hx hZ e4 Ar6 (j := (Int32.ofNat (2 * j + 1))) hin6 (g := (mkF m 52 #[.val (.ref t), .val (.int (Int32.ofNat (2 * j + 1))), .val (.int ch)] [(.int ((ch >>> ((8 : Int32) &&& 31)).toInt8.toInt32)), (.int (Int32.ofNat (2 * j + 1))), (.ref t)])) rfl rfl (hb hby d36_52)
  have V6 : Arv Z h6 t k .byte (Int32.ofNat (2 * 4)) (own_wide (cs ++ [ch])) (.int 0) := (by rw [← (own_set_w1 cs (.int (own_b0 ch)) (.int (own_b1 ch)) (.int 0) (2 * j + 1) (by omega)).trans (own_wide_app cs ch).symm]; exact Arv.set Ar6 q6 S6 M6 H6 Gz6 (fits_nar_byte _) W6 (2 * j + 1) (own_clamp (by omega)) (by rw [List.length_append, own_wide_len]; simp; omega))
  have N6 := Fr.snoc X6 N3 g_t
  obtain ⟨fs, hr, hrun, hended, hW, hsame⟩ := X6.leave (v := none) (fun _ => rfl)
  refine ⟨_, _, pre0 _ ?_, hrun, hended, _, _, rfl, ?_, ⟨_, rfl⟩, hW, hsame.mono (by decide) (by decide)⟩
  · show Steps _ _ _ (s₁.setTop (mkF m 0 #[.val (.ref t), .val (.int (Int32.ofNat j)), .val (.int ch)] [])) _
    refine st1 _ ?_
    show Steps _ _ _ (T1.setTop (mkF m 3 #[.val (.ref t), .val (.int (Int32.ofNat j)), .val (.int ch)] [(.int 1)])) _
    refine XS.ifYes X1.here hx rfl (pc0 := 3) (pc' := 28) rfl (hb hby d36_3) rfl ((if0 _ _).trans (feq (by decide : ¬ ((1 : Int32) = (0 : Int32)))).2) (by decide) (by decide) ?_
    refine XS.iloadN X1.here hx rfl (hb hby d36_28) rfl ?_
    refine XS.iconst X1.here hx rfl (hb hby d36_29) ?_
    refine XS.ishl X1.here hx rfl (hb hby d36_30) rfl ?_
    show Steps _ _ _ (T1.setTop (mkF m 31 #[.val (.ref t), .val (.int (Int32.ofNat j)), .val (.int ch)] [(.int ((Int32.ofNat j) <<< ((1 : Int32) &&& 31)))])) _
    rw [(own_shl (j := j) (by omega))]
    show Steps _ _ _ (T1.setTop (mkF m 31 #[.val (.ref t), .val (.int (Int32.ofNat j)), .val (.int ch)] [(.int (Int32.ofNat (2 * j)))])) _
    refine XS.istoreN X1.here hx rfl (hb hby d36_31) rfl (l' := #[.val (.ref t), .val (.int (Int32.ofNat (2 * j))), .val (.int ch)]) rfl ?_
    refine XS.aloadN X1.here hx rfl (hb hby d36_32) rfl rfl ?_
    refine XS.iloadN X1.here hx rfl (hb hby d36_33) rfl ?_
    refine XS.iinc X1.here hx rfl (hb hby d36_34) rfl (l' := #[.val (.ref t), .val (.int ((Int32.ofNat (2 * j)) + (1 : Int32))), .val (.int ch)]) rfl ?_
    refine XS.iloadN X1.here hx rfl (hb hby d36_37) rfl ?_
    show Steps _ _ _ (T1.setTop (mkF m 38 #[.val (.ref t), .val (.int ((Int32.ofNat (2 * j)) + (1 : Int32))), .val (.int ch)] [(.int ch), (.int (Int32.ofNat (2 * j))), (.ref t)])) _
    refine st2 _ ?_
    show Steps _ _ _ (T2.setTop (mkF m 41 #[.val (.ref t), .val (.int ((Int32.ofNat (2 * j)) + (1 : Int32))), .val (.int ch)] [(.int 0), (.int ch), (.int (Int32.ofNat (2 * j))), (.ref t)])) _
    refine XS.ishr X2.here hx rfl (hb hby d36_41) rfl ?_
    refine XS.i2b X2.here hx rfl (hb hby d36_42) rfl ?_
    show Steps _ _ _ (T2.setTop (mkF m 43 #[.val (.ref t), .val (.int ((Int32.ofNat (2 * j)) + (1 : Int32))), .val (.int ch)] [(.int ((ch >>> ((0 : Int32) &&& 31)).toInt8.toInt32)), (.int (Int32.ofNat (2 * j))), (.ref t)])) _
    refine st3 _ ?_
    show Steps _ _ _ (T3.setTop (mkF m 44 #[.val (.ref t), .val (.int ((Int32.ofNat (2 * j)) + (1 : Int32))), .val (.int ch)] [])) _
    refine XS.aloadN X3.here hx rfl (hb hby d36_44) rfl rfl ?_
    refine XS.iloadN X3.here hx rfl (hb hby d36_45) rfl ?_
    show Steps _ _ _ (T3.setTop (mkF m 46 #[.val (.ref t), .val (.int ((Int32.ofNat (2 * j)) + (1 : Int32))), .val (.int ch)] [(.int ((Int32.ofNat (2 * j)) + (1 : Int32))), (.ref t)])) _
    rw [own_succ]
    show Steps _ _ _ (T3.setTop (mkF m 46 #[.val (.ref t), .val (.int (Int32.ofNat (2 * j + 1))), .val (.int ch)] [(.int (Int32.ofNat (2 * j + 1))), (.ref t)])) _
    refine XS.iloadN X3.here hx rfl (hb hby d36_46) rfl ?_
    show Steps _ _ _ (T3.setTop (mkF m 47 #[.val (.ref t), .val (.int (Int32.ofNat (2 * j + 1))), .val (.int ch)] [(.int ch), (.int (Int32.ofNat (2 * j + 1))), (.ref t)])) _
    refine st4 _ ?_
    show Steps _ _ _ (T4.setTop (mkF m 50 #[.val (.ref t), .val (.int (Int32.ofNat (2 * j + 1))), .val (.int ch)] [(.int 8), (.int ch), (.int (Int32.ofNat (2 * j + 1))), (.ref t)])) _
    refine XS.ishr X4.here hx rfl (hb hby d36_50) rfl ?_
    refine XS.i2b X4.here hx rfl (hb hby d36_51) rfl ?_
    show Steps _ _ _ (T4.setTop (mkF m 52 #[.val (.ref t), .val (.int (Int32.ofNat (2 * j + 1))), .val (.int ch)] [(.int ((ch >>> ((8 : Int32) &&& 31)).toInt8.toInt32)), (.int (Int32.ofNat (2 * j + 1))), (.ref t)])) _
    refine st6 _ ?_
    show Steps _ _ _ (T6.setTop (mkF m 53 #[.val (.ref t), .val (.int (Int32.ofNat (2 * j + 1))), .val (.int ch)] [])) _
    exact X6.returnOut hx Bd.returns (hb hby d36_53) hr
  · show own_QW Z t k (cs ++ [ch]) h0 n0 _ T6.heap _
    rw [e6]
    exact ⟨rfl, N6, (((Keep.refl h0 [t]).wr W3 (Or.inl (tk 0 rfl))).wr W6 (Or.inl (tk 0 rfl))), V6⟩
theorem d35_0 : decode jdk_52_method_3_code 0 = .ok (.iload_n 0, 1) := by decide +kernel
theorem d35_1 : decode jdk_52_method_3_code 1 = .ok (.ifCond .ge 11, 3) := by decide +kernel
theorem d35_12 : decode jdk_52_method_3_code 12 = .ok (.iload_n 0, 1) := by decide +kernel
theorem d35_13 : decode jdk_52_method_3_code 13 = .ok (.ldc 20, 2) := by decide +kernel
theorem d35_15 : decode jdk_52_method_3_code 15 = .ok (.if_icmp .lt 40, 3) := by decide +kernel
theorem d35_55 : decode jdk_52_method_3_code 55 = .ok (.iload_n 0, 1) := by decide +kernel
theorem d35_56 : decode jdk_52_method_3_code 56 = .ok (.iconst 1, 1) := by decide +kernel
theorem d35_57 : decode jdk_52_method_3_code 57 = .ok (.ishl, 1) := by decide +kernel
theorem d35_58 : decode jdk_52_method_3_code 58 = .ok (.ireturn, 1) := by decide +kernel
theorem pn_35 : plainName "java/lang/StringUTF16" = true := by first | (simp [plainName, overriddenIn]; done) | decide +kernel
theorem ef_35_r (m : MethodId) (x0 : Int32) : entryFrame m #[(.int x0)] 1 = mkF m 0 #[.val (.int x0)] [] := by first | (simp [entryFrame, mkF, argsToLocals, Value.category]; done) | rfl
theorem rmNBL (l : Launch) (Z : State) (a0 : Array Value) (hw : HW a0 Z) (ws : List Jvm.Cond)  (h0 : Heap) (n0 : Nat) (Z0 : n0 ≤ h0.size) :
    MetFree l y_11 (head1 (Jvm.Cond.code y_11 jdk_52_method_3_code 1 (some .int) :: ws) (Rm 0 0 0 0)) (fun a_ U_ => a_ = #[(.int 4)] ∧ Z.Warmed39 U_.vm ∧ U_.heap = h0) (fun _ _ _ _ _ => True) (fun _ U_ o_ U1_ => ∃ v_ L_, o_ = .returned v_ ∧ own_Q Z (some (.int (Int32.ofNat (2 * 4)))) h0 n0 v_ U1_.heap L_ ∧ FrameEnd U_ o_ U1_ L_ (Rm 0 0 0 0).cells (Rm 0 0 0 0).slots) := by
  refine MetFree.of_bodySF (plainFor_of_name pn_35) hisR ?_
  intro p e s m args below meth c s₁ Bd hml0 hP hK
  obtain ⟨rfl, hZ, hh⟩ := hP
  have hx := Bd.exec
  have hby := Bd.bytes
  have hml : c.maxLocals = 1 := hml0
  have hown : s.vm.findClass "java/lang/StringUTF16" = some m.cls := findClass_of_methodNamed Bd.named
  have hnm := (name_of_methodNamed Bd.named Bd.method).1
  have X0 : Stand p l e (Rm 0 0 0 0) s m #[(.int 4)] below meth c s₁ [] 0 0 := Stand.of_body Bd
  have e0 : s₁.heap = h0 := by rw [← hh, Bd.state]; rfl
  have N0 := Fr.nil n0
  have pre0 : ∀ tt, Steps p.tables e below (s₁.setTop (mkF m 0 #[.val (.int 4)] [])) tt → Steps p.tables e below (s₁.setTop (entryFrame m #[(.int 4)] 1)) tt := fun tt kk => castTop (ef_35_r m (4 : Int32)) kk
  obtain ⟨fs, hr, hrun, hended, hW, hsame⟩ := X0.leave (v := some (.int (Int32.ofNat (2 * 4)))) (fun h => by rw [Bd.returns] at h; cases h)
  refine ⟨_, _, pre0 _ ?_, hrun, hended, _, _, rfl, ?_, ⟨_, rfl⟩, hW, hsame.mono (by decide) (by decide)⟩
  · show Steps _ _ _ (s₁.setTop (mkF m 0 #[.val (.int 4)] [])) _
    refine XS.iloadN X0.here hx rfl (hb hby d35_0) rfl ?_
    refine XS.ifYes X0.here hx rfl (pc0 := 1) (pc' := 12) rfl (hb hby d35_1) rfl ((if0 _ _).trans (flt (by decide : ¬ ((4 : Int32) < (0 : Int32)))).2.1) (by decide) (by decide) ?_
    refine XS.iloadN X0.here hx rfl (hb hby d35_12) rfl ?_
    show Steps _ _ _ (s₁.setTop (mkF m 13 #[.val (.int 4)] [(.int 4)])) _
    refine X0.ldcInt hx hown (mvT hZ (hw _ (tk 169 rfl))) (g := (mkF m 13 #[.val (.int 4)] [(.int 4)])) rfl (hb hby d35_13) _ ?_
    show Steps _ _ _ (s₁.setTop (mkF m 15 #[.val (.int 4)] [(.int 1073741823), (.int 4)])) _
    refine XS.icmpYes X0.here hx rfl (pc0 := 15) (pc' := 55) rfl (hb hby d35_15) rfl (tlt (by decide : (4 : Int32) < (1073741823 : Int32))).1 (by decide) (by decide) ?_
    refine XS.iloadN X0.here hx rfl (hb hby d35_55) rfl ?_
    refine XS.iconst X0.here hx rfl (hb hby d35_56) ?_
    refine XS.ishl X0.here hx rfl (hb hby d35_57) rfl ?_
    show Steps _ _ _ (s₁.setTop (mkF m 58 #[.val (.int 4)] [(.int ((4 : Int32) <<< ((1 : Int32) &&& 31)))])) _
    rw [(by decide : ((4 : Int32) <<< ((1 : Int32) &&& 31)) = (Int32.ofNat (2 * 4)))]
    show Steps _ _ _ (s₁.setTop (mkF m 58 #[.val (.int 4)] [(.int (Int32.ofNat (2 * 4)))])) _
    exact retI X0 hx Bd.returns (hb hby d35_58) hr
  · show own_Q Z (some (.int (Int32.ofNat (2 * 4)))) h0 n0 _ s₁.heap _
    rw [e0]
    exact ⟨rfl, N0, rfl⟩
def own_QN (Z : State) (h0 : Heap) (n0 : Nat) (v : Option Value) (h : Heap) (L : List Loc) : Prop := ∃ (t : Addr) (k : ClassId), v = some (.ref t) ∧ Fr n0 L ∧ n0 ≤ t ∧ h0.size ≤ t ∧ Keep h0 h [] ∧ Arv Z h t k .byte (Int32.ofNat (2 * 4)) (own_wide []) (.int 0)
theorem d34_0 : decode jdk_52_method_2_code 0 = .ok (.iload_n 0, 1) := by decide +kernel
theorem pd__I_I : parseMethodDescriptor "(I)I" = some ⟨[.int], some .int⟩ := by decide +kernel
theorem d34_1 : decode jdk_52_method_2_code 1 = .ok (.invokestatic 11, 3) := by decide +kernel
theorem d34_4 : decode jdk_52_method_2_code 4 = .ok (.newarray .byte, 2) := by decide +kernel
theorem d34_6 : decode jdk_52_method_2_code 6 = .ok (.areturn, 1) := by decide +kernel
theorem pn_34 : plainName "java/lang/StringUTF16" = true := by first | (simp [plainName, overriddenIn]; done) | decide +kernel
theorem ef_34_r (m : MethodId) (x0 : Int32) : entryFrame m #[(.int x0)] 1 = mkF m 0 #[.val (.int x0)] [] := by first | (simp [entryFrame, mkF, argsToLocals, Value.category]; done) | rfl
theorem rmNBF (l : Launch) (Z : State) (a0 : Array Value) (hw : HW a0 Z) (ws : List Jvm.Cond)  (h0 : Heap) (n0 : Nat) (Z0 : n0 ≤ h0.size) :
    MetFree l y_12 (head1 (Jvm.Cond.code y_12 jdk_52_method_2_code 1 (some (.array .byte)) :: ws) (Rm 1 1 8 12)) (fun a_ U_ => a_ = #[(.int 4)] ∧ Z.Warmed39 U_.vm ∧ U_.heap = h0) (fun _ _ _ _ _ => True) (fun _ U_ o_ U1_ => ∃ v_ L_, o_ = .returned v_ ∧ own_QN Z  h0 n0 v_ U1_.heap L_ ∧ FrameEnd U_ o_ U1_ L_ (Rm 1 1 8 12).cells (Rm 1 1 8 12).slots) := by
  refine MetFree.of_bodySF (plainFor_of_name pn_34) hisR ?_
  intro p e s m args below meth c s₁ Bd hml0 hP hK
  obtain ⟨rfl, hZ, hh⟩ := hP
  have hx := Bd.exec
  have hby := Bd.bytes
  have hml : c.maxLocals = 1 := hml0
  have hown : s.vm.findClass "java/lang/StringUTF16" = some m.cls := findClass_of_methodNamed Bd.named
  have hnm := (name_of_methodNamed Bd.named Bd.method).1
  have X0 : Stand p l e (Rm 1 1 8 12) s m #[(.int 4)] below meth c s₁ [] 0 0 := Stand.of_body Bd
  have e0 : s₁.heap = h0 := by rw [← hh, Bd.state]; rfl
  have N0 := Fr.nil n0
  have pre0 : ∀ tt, Steps p.tables e below (s₁.setTop (mkF m 0 #[.val (.int 4)] [])) tt → Steps p.tables e below (s₁.setTop (entryFrame m #[(.int 4)] 1)) tt := fun tt kk => castTop (ef_34_r m (4 : Int32)) kk
  obtain ⟨_, _, ⟨T1, L1, k1, n1⟩, -, X1, ⟨Lc1, hQ1, l1, y1, z1⟩, st1⟩ := Jvm.LawKit.callS X0 hx (y := y_11) hown (mvT hZ (hw _ (tk 166 rfl))) (mvT hZ (hw _ (tk 167 rfl))) (mvT hZ (hw _ (tk 23 rfl))) (mvT hZ (hw _ (tk 168 rfl))) (by decide) (backOf (W := 0) (rmNBL l Z a0 hw []  h0 n0 Z0 ) hZ (hw _ (tk 168 rfl)) (hw _ (tk 23 rfl)) (by decide) (by decide)) (g := (mkF m 1 #[.val (.int 4)] [(.int 4)])) rfl (by rw [hml]; rfl) (argsL := [(.int 4)]) (rest := []) (lenOf pd__I_I rfl) rfl (by show 2 * 0 + _ ≤ _; exact Nat.le_of_eq rfl) (hb hby d34_1) (fun _ _ => ⟨rfl, e0, (by decide : 0 + 0 ≤ _), (by decide : 0 + 0 ≤ _)⟩)
  dsimp only [Pt.U, Pt.locs, Pt.cells, Pt.slots] at X1 l1 y1 z1 st1 hQ1
  subst l1 y1 z1
  obtain ⟨rfl, Nq1, eq1⟩ := hQ1
  have N1 := Fr.app N0 Nq1
  obtain ⟨T2, h2, k2, X2, e2, E2, A2, st2⟩ := newP X1 hx hZ (hw _ (tk 25 rfl)) eq1 (g := (mkF m 4 #[.val (.int 4)] [(.int (Int32.ofNat (2 * 4)))])) rfl (hb hby d34_4) rfl (by decide) (cap := 8) (by decide) (by decide) (by decide) (by decide)
  obtain ⟨b2, g2⟩ : ∃ z, z = h0.size := ⟨_, rfl⟩
  rw [← g2] at A2 st2
  have g_b2 : n0 ≤ b2 := Nat.le_trans Z0 (Nat.le_of_eq g2.symm)
  have sz_b2 : h0.size ≤ b2 := Nat.le_trans (Nat.le_refl _) (Nat.le_of_eq g2.symm)
  have V2 : Arv Z h2 b2 k2 .byte (Int32.ofNat (2 * 4)) (own_wide []) (.int 0) := Arv.new A2 (by decide)
  obtain ⟨fs, hr, hrun, hended, hW, hsame⟩ := X2.leave (v := some (.ref b2)) (fun h => by rw [Bd.returns] at h; cases h)
  refine ⟨_, _, pre0 _ ?_, hrun, hended, _, _, rfl, ?_, ⟨_, rfl⟩, hW, hsame.mono (by decide) (by decide)⟩
  · show Steps _ _ _ (s₁.setTop (mkF m 0 #[.val (.int 4)] [])) _
    refine XS.iloadN X0.here hx rfl (hb hby d34_0) rfl ?_
    show Steps _ _ _ (s₁.setTop (mkF m 1 #[.val (.int 4)] [(.int 4)])) _
    refine st1 _ ?_
    show Steps _ _ _ (T1.setTop (mkF m 4 #[.val (.int 4)] [(.int (Int32.ofNat (2 * 4)))])) _
    refine st2 _ ?_
    show Steps _ _ _ (T2.setTop (mkF m 6 #[.val (.int 4)] [(.ref b2)])) _
    jvm_step X2.here [X2.here.top, hx, (hb hby d34_6), X2.method', Bd.returns, Value.isRef, FieldType.isReference]
    first | (intro acts; rw [hr _ acts rfl rfl rfl]) | rw [hr _ _ rfl rfl rfl]
    exact Steps.refl _
  · show own_QN Z  h0 n0 _ T2.heap _
    rw [e2]
    exact ⟨b2, k2, rfl, N1, g_b2, sz_b2, ((Keep.refl h0 []).ext E2), V2⟩
def own_l1 (cs : List Int32) : Prop := ∀ c ∈ cs, ¬ c < 0 ∧ ¬ (255 : Int32) < c
theorem own_l1_at {cs : List Int32} (h : own_l1 cs) {i : Nat} (hi : i < cs.length) : ¬ cs.getD i 0 < 0 ∧ ¬ (255 : Int32) < cs.getD i 0 := by
  have e : cs.getD i 0 = cs[i] := by simp [List.getD_eq_getElem?_getD, hi]
  rw [e]; exact h _ (List.getElem_mem _)
theorem own_take1 (cs : List Int32) (i : Nat) (h : i < cs.length) : cs.take i ++ [cs.getD i 0] = cs.take (i + 1) := by
  rw [List.take_add_one]
  simp [List.getD_eq_getElem?_getD, h]
theorem own_la (cs : List Int32) (i : Nat) (h : i < cs.length) (hb : i < 2 ^ 31) : (own_lat cs).getD (Int32.ofNat i).toNatClampNeg (.int 0) = .int (own_l8 (cs.getD i 0)) := by
  rw [own_clamp hb]; exact own_lat_at _ cs i h
theorem own_atch {as : List Int32} (hc : ∀ c ∈ as, own_ch c) {i : Nat} (hi : i < as.length) : own_ch (as.getD i 0) := by
  have e : as.getD i 0 = as[i] := by simp [List.getD_eq_getElem?_getD, hi]
  rw [e]; exact hc _ (List.getElem_mem _)
def own_st (Z : State) (h : Heap) (x : Addr) (cs : List Int32) : Prop := ∃ (t : Addr) (k : ClassId), Exa Z h x "java/lang/String" ∧ Fld Z h x "java/lang/String" "value" "[B" (.ref t) ∧ ((Fld Z h x "java/lang/String" "coder" "B" (.int 0) ∧ Arv Z h t k .byte (Int32.ofNat cs.length) (own_lat cs) (.int 0) ∧ own_l1 cs) ∨ (Fld Z h x "java/lang/String" "coder" "B" (.int 1) ∧ Arv Z h t k .byte (Int32.ofNat (2 * cs.length)) (own_wide cs) (.int 0)))
def own_QS (Z : State) (x : Addr) (cs : List Int32) (h0 : Heap) (n0 : Nat) (v : Option Value) (h : Heap) (L : List Loc) : Prop := v = none ∧ Fr n0 L ∧ Keep h0 h [x] ∧ own_st Z h x cs
def own_QZ (Z : State) (cs : List Int32) (h0 : Heap) (n0 : Nat) (v : Option Value) (h : Heap) (L : List Loc) : Prop := ∃ x : Addr, v = some (.ref x) ∧ Fr n0 L ∧ h0.size ≤ x ∧ Keep h0 h [] ∧ own_st Z h x cs
theorem own_wa0 (cs : List Int32) (j : Nat) (h : j < cs.length) (hb : cs.length < 64) : (own_wide cs).getD (Int32.ofNat (2 * j)).toNatClampNeg (.int 0) = .int (own_b0 (cs.getD j 0)) := by
  rw [own_clamp (by omega)]; exact (own_wide_at _ cs j h).1
theorem own_wa1 (cs : List Int32) (j : Nat) (h : j < cs.length) (hb : cs.length < 64) : (own_wide cs).getD (Int32.ofNat (2 * j + 1)).toNatClampNeg (.int 0) = .int (own_b1 (cs.getD j 0)) := by
  rw [own_clamp (by omega)]; exact (own_wide_at _ cs j h).2
theorem own_i2c {c : Int32} (h : own_ch c) : c.toUInt32.toUInt16.toUInt32.toInt32 = c := own_narc h
theorem own_some {x y : Int32} (h : x = y) : (some (Value.int x)) = some (.int y) := by rw [h]
theorem d11_0 : decode jdk_42_method_152_code 0 = .ok (.getstatic 38, 3) := by decide +kernel
theorem d11_3 : decode jdk_42_method_152_code 3 = .ok (.ifCond .eq 10, 3) := by decide +kernel
theorem d11_6 : decode jdk_42_method_152_code 6 = .ok (.aload_n 0, 1) := by decide +kernel
theorem d11_7 : decode jdk_42_method_152_code 7 = .ok (.getfield 15, 3) := by decide +kernel
theorem d11_10 : decode jdk_42_method_152_code 10 = .ok (.goto 4, 3) := by decide +kernel
theorem d11_14 : decode jdk_42_method_152_code 14 = .ok (.ireturn, 1) := by decide +kernel
theorem pn_11 : plainName "java/lang/String" = true := by first | (simp [plainName, overriddenIn]; done) | decide +kernel
theorem ef_11_r (m : MethodId) (x0 : Addr) : entryFrame m #[(.ref x0)] 1 = mkF m 0 #[.val (.ref x0)] [] := by first | (simp [entryFrame, mkF, argsToLocals, Value.category]; done) | rfl
theorem rmCD0 (l : Launch) (Z : State) (a0 : Array Value) (hw : HW a0 Z) (ws : List Jvm.Cond) (G1 : Int32) (G3 : Value) (G4 : Value) (x : Addr) (h0 : Heap) (n0 : Nat) (Z0 : n0 ≤ h0.size) (EN : own_env Z G1 G3 G4) (X00 : Old Z n0 h0) (E_x : Exa Z h0 x "java/lang/String") (F_coder_x : Fld Z h0 x "java/lang/String" "coder" "B" (.int 0)) :
    MetFree l y_13 (head1 (Jvm.Cond.code y_13 jdk_42_method_152_code 1 (some .byte) :: ws) (Rm 0 0 0 0)) (fun a_ U_ => a_ = #[(.ref x)] ∧ Z.Warmed39 U_.vm ∧ U_.heap = h0) (fun _ _ _ _ _ => True) (fun _ U_ o_ U1_ => ∃ v_ L_, o_ = .returned v_ ∧ own_Q Z (some (.int 0)) h0 n0 v_ U1_.heap L_ ∧ FrameEnd U_ o_ U1_ L_ (Rm 0 0 0 0).cells (Rm 0 0 0 0).slots) := by
  refine MetFree.of_bodySF (plainFor_of_name pn_11) hisR ?_
  intro p e s m args below meth c s₁ Bd hml0 hP hK
  obtain ⟨rfl, hZ, hh⟩ := hP
  have hx := Bd.exec
  have hby := Bd.bytes
  have hml : c.maxLocals = 1 := hml0
  have hown : s.vm.findClass "java/lang/String" = some m.cls := findClass_of_methodNamed Bd.named
  have hnm := (name_of_methodNamed Bd.named Bd.method).1
  have X0 : Stand p l e (Rm 0 0 0 0) s m #[(.ref x)] below meth c s₁ [] 0 0 := Stand.of_body Bd
  have e0 : s₁.heap = h0 := by rw [← hh, Bd.state]; rfl
  have N0 := Fr.nil n0
  have pre0 : ∀ tt, Steps p.tables e below (s₁.setTop (mkF m 0 #[.val (.ref x)] [])) tt → Steps p.tables e below (s₁.setTop (entryFrame m #[(.ref x)] 1)) tt := fun tt kk => castTop (ef_11_r m x) kk
  have EN0 := EN
  obtain ⟨O2, P5, O4, rG3, O6, O7, O8⟩ := EN
  obtain ⟨T1, X1, e1, st1⟩ := getS2 X0 hx hZ hown (host := "") (Or.inl (hw _ (tk 20 rfl))) Via.refl e0 (Sta.ext X00.2 O2) (g := (mkF m 0 #[.val (.ref x)] [])) rfl (hb hby d11_0)
  obtain ⟨T2, X2, e2, st2⟩ := getF X1 hx hZ hown (host := "") (Or.inl (hw _ (tk 32 rfl))) Via.refl e1 F_coder_x (g := (mkF m 7 #[.val (.ref x)] [(.ref x)])) rfl rfl (hb hby d11_7)
  obtain ⟨fs, hr, hrun, hended, hW, hsame⟩ := X2.leave (v := some (.int 0)) (fun h => by rw [Bd.returns] at h; cases h)
  refine ⟨_, _, pre0 _ ?_, hrun, hended, _, _, rfl, ?_, ⟨_, rfl⟩, hW, hsame.mono (by decide) (by decide)⟩
  · show Steps _ _ _ (s₁.setTop (mkF m 0 #[.val (.ref x)] [])) _
    refine st1 _ ?_
    show Steps _ _ _ (T1.setTop (mkF m 3 #[.val (.ref x)] [(.int G1)])) _
    refine XS.ifNo X1.here hx rfl (hb hby d11_3) rfl ((if0 _ _).trans (feq P5).1) ?_
    refine XS.aloadN X1.here hx rfl (hb hby d11_6) rfl rfl ?_
    show Steps _ _ _ (T1.setTop (mkF m 7 #[.val (.ref x)] [(.ref x)])) _
    refine st2 _ ?_
    show Steps _ _ _ (T2.setTop (mkF m 10 #[.val (.ref x)] [(.int 0)])) _
    refine XS.goto X2.here hx rfl (pc0 := 10) (pc' := 14) rfl (hb hby d11_10) (by decide) (by decide) ?_
    show Steps _ _ _ (T2.setTop (mkF m 14 #[.val (.ref x)] [(.int 0)])) _
    exact retN X2 hx (t := .byte) Bd.returns (by simp) (hb hby d11_14) hr
  · show own_Q Z (some (.int 0)) h0 n0 _ T2.heap _
    rw [e2]
    exact ⟨rfl, N0, rfl⟩
theorem d13_0 : decode jdk_42_method_154_code 0 = .ok (.getstatic 38, 3) := by decide +kernel
theorem d13_3 : decode jdk_42_method_154_code 3 = .ok (.ifCond .eq 14, 3) := by decide +kernel
theorem d13_6 : decode jdk_42_method_154_code 6 = .ok (.aload_n 0, 1) := by decide +kernel
theorem d13_7 : decode jdk_42_method_154_code 7 = .ok (.getfield 15, 3) := by decide +kernel
theorem d13_10 : decode jdk_42_method_154_code 10 = .ok (.ifCond .ne 7, 3) := by decide +kernel
theorem d13_13 : decode jdk_42_method_154_code 13 = .ok (.iconst 1, 1) := by decide +kernel
theorem d13_14 : decode jdk_42_method_154_code 14 = .ok (.goto 4, 3) := by decide +kernel
theorem d13_18 : decode jdk_42_method_154_code 18 = .ok (.ireturn, 1) := by decide +kernel
theorem pn_13 : plainName "java/lang/String" = true := by first | (simp [plainName, overriddenIn]; done) | decide +kernel
theorem ef_13_r (m : MethodId) (x0 : Addr) : entryFrame m #[(.ref x0)] 1 = mkF m 0 #[.val (.ref x0)] [] := by first | (simp [entryFrame, mkF, argsToLocals, Value.category]; done) | rfl
theorem rmSL0 (l : Launch) (Z : State) (a0 : Array Value) (hw : HW a0 Z) (ws : List Jvm.Cond) (G1 : Int32) (G3 : Value) (G4 : Value) (x : Addr) (h0 : Heap) (n0 : Nat) (Z0 : n0 ≤ h0.size) (EN : own_env Z G1 G3 G4) (X00 : Old Z n0 h0) (E_x : Exa Z h0 x "java/lang/String") (F_coder_x : Fld Z h0 x "java/lang/String" "coder" "B" (.int 0)) :
    MetFree l y_14 (head1 (Jvm.Cond.code y_14 jdk_42_method_154_code 1 (some .boolean) :: ws) (Rm 0 0 0 0)) (fun a_ U_ => a_ = #[(.ref x)] ∧ Z.Warmed39 U_.vm ∧ U_.heap = h0) (fun _ _ _ _ _ => True) (fun _ U_ o_ U1_ => ∃ v_ L_, o_ = .returned v_ ∧ own_Q Z (some (.int 1)) h0 n0 v_ U1_.heap L_ ∧ FrameEnd U_ o_ U1_ L_ (Rm 0 0 0 0).cells (Rm 0 0 0 0).slots) := by
  refine MetFree.of_bodySF (plainFor_of_name pn_13) hisR ?_
  intro p e s m args below meth c s₁ Bd hml0 hP hK
  obtain ⟨rfl, hZ, hh⟩ := hP
  have hx := Bd.exec
  have hby := Bd.bytes
  have hml : c.maxLocals = 1 := hml0
  have hown : s.vm.findClass "java/lang/String" = some m.cls := findClass_of_methodNamed Bd.named
  have hnm := (name_of_methodNamed Bd.named Bd.method).1
  have X0 : Stand p l e (Rm 0 0 0 0) s m #[(.ref x)] below meth c s₁ [] 0 0 := Stand.of_body Bd
  have e0 : s₁.heap = h0 := by rw [← hh, Bd.state]; rfl
  have N0 := Fr.nil n0
  have pre0 : ∀ tt, Steps p.tables e below (s₁.setTop (mkF m 0 #[.val (.ref x)] [])) tt → Steps p.tables e below (s₁.setTop (entryFrame m #[(.ref x)] 1)) tt := fun tt kk => castTop (ef_13_r m x) kk
  have EN0 := EN
  obtain ⟨O2, P5, O4, rG3, O6, O7, O8⟩ := EN
  obtain ⟨T1, X1, e1, st1⟩ := getS2 X0 hx hZ hown (host := "") (Or.inl (hw _ (tk 20 rfl))) Via.refl e0 (Sta.ext X00.2 O2) (g := (mkF m 0 #[.val (.ref x)] [])) rfl (hb hby d13_0)
  obtain ⟨T2, X2, e2, st2⟩ := getF X1 hx hZ hown (host := "") (Or.inl (hw _ (tk 32 rfl))) Via.refl e1 F_coder_x (g := (mkF m 7 #[.val (.ref x)] [(.ref x)])) rfl rfl (hb hby d13_7)
  obtain ⟨fs, hr, hrun, hended, hW, hsame⟩ := X2.leave (v := some (.int 1)) (fun h => by rw [Bd.returns] at h; cases h)
  refine ⟨_, _, pre0 _ ?_, hrun, hended, _, _, rfl, ?_, ⟨_, rfl⟩, hW, hsame.mono (by decide) (by decide)⟩
  · show Steps _ _ _ (s₁.setTop (mkF m 0 #[.val (.ref x)] [])) _
    refine st1 _ ?_
    show Steps _ _ _ (T1.setTop (mkF m 3 #[.val (.ref x)] [(.int G1)])) _
    refine XS.ifNo X1.here hx rfl (hb hby d13_3) rfl ((if0 _ _).trans (feq P5).1) ?_
    refine XS.aloadN X1.here hx rfl (hb hby d13_6) rfl rfl ?_
    show Steps _ _ _ (T1.setTop (mkF m 7 #[.val (.ref x)] [(.ref x)])) _
    refine st2 _ ?_
    show Steps _ _ _ (T2.setTop (mkF m 10 #[.val (.ref x)] [(.int 0)])) _
    refine XS.ifNo X2.here hx rfl (hb hby d13_10) rfl ((if0 _ _).trans (teq (by decide : (0 : Int32) = (0 : Int32))).2) ?_
    refine XS.iconst X2.here hx rfl (hb hby d13_13) ?_
    refine XS.goto X2.here hx rfl (pc0 := 14) (pc' := 18) rfl (hb hby d13_14) (by decide) (by decide) ?_
    show Steps _ _ _ (T2.setTop (mkF m 18 #[.val (.ref x)] [(.int 1)])) _
    exact retN X2 hx (t := .boolean) Bd.returns (by simp) (hb hby d13_18) hr
  · show own_Q Z (some (.int 1)) h0 n0 _ T2.heap _
    rw [e2]
    exact ⟨rfl, N0, rfl⟩
theorem rmCD1 (l : Launch) (Z : State) (a0 : Array Value) (hw : HW a0 Z) (ws : List Jvm.Cond) (G1 : Int32) (G3 : Value) (G4 : Value) (x : Addr) (h0 : Heap) (n0 : Nat) (Z0 : n0 ≤ h0.size) (EN : own_env Z G1 G3 G4) (X00 : Old Z n0 h0) (E_x : Exa Z h0 x "java/lang/String") (F_coder_x : Fld Z h0 x "java/lang/String" "coder" "B" (.int 1)) :
    MetFree l y_13 (head1 (Jvm.Cond.code y_13 jdk_42_method_152_code 1 (some .byte) :: ws) (Rm 0 0 0 0)) (fun a_ U_ => a_ = #[(.ref x)] ∧ Z.Warmed39 U_.vm ∧ U_.heap = h0) (fun _ _ _ _ _ => True) (fun _ U_ o_ U1_ => ∃ v_ L_, o_ = .returned v_ ∧ own_Q Z (some (.int 1)) h0 n0 v_ U1_.heap L_ ∧ FrameEnd U_ o_ U1_ L_ (Rm 0 0 0 0).cells (Rm 0 0 0 0).slots) := by
  refine MetFree.of_bodySF (plainFor_of_name pn_11) hisR ?_
  intro p e s m args below meth c s₁ Bd hml0 hP hK
  obtain ⟨rfl, hZ, hh⟩ := hP
  have hx := Bd.exec
  have hby := Bd.bytes
  have hml : c.maxLocals = 1 := hml0
  have hown : s.vm.findClass "java/lang/String" = some m.cls := findClass_of_methodNamed Bd.named
  have hnm := (name_of_methodNamed Bd.named Bd.method).1
  have X0 : Stand p l e (Rm 0 0 0 0) s m #[(.ref x)] below meth c s₁ [] 0 0 := Stand.of_body Bd
  have e0 : s₁.heap = h0 := by rw [← hh, Bd.state]; rfl
  have N0 := Fr.nil n0
  have pre0 : ∀ tt, Steps p.tables e below (s₁.setTop (mkF m 0 #[.val (.ref x)] [])) tt → Steps p.tables e below (s₁.setTop (entryFrame m #[(.ref x)] 1)) tt := fun tt kk => castTop (ef_11_r m x) kk
  have EN0 := EN
  obtain ⟨O2, P5, O4, rG3, O6, O7, O8⟩ := EN
  obtain ⟨T1, X1, e1, st1⟩ := getS2 X0 hx hZ hown (host := "") (Or.inl (hw _ (tk 20 rfl))) Via.refl e0 (Sta.ext X00.2 O2) (g := (mkF m 0 #[.val (.ref x)] [])) rfl (hb hby d11_0)
  obtain ⟨T2, X2, e2, st2⟩ := getF X1 hx hZ hown (host := "") (Or.inl (hw _ (tk 32 rfl))) Via.refl e1 F_coder_x (g := (mkF m 7 #[.val (.ref x)] [(.ref x)])) rfl rfl (hb hby d11_7)
  obtain ⟨fs, hr, hrun, hended, hW, hsame⟩ := X2.leave (v := some (.int 1)) (fun h => by rw [Bd.returns] at h; cases h)
  refine ⟨_, _, pre0 _ ?_, hrun, hended, _, _, rfl, ?_, ⟨_, rfl⟩, hW, hsame.mono (by decide) (by decide)⟩
  · show Steps _ _ _ (s₁.setTop (mkF m 0 #[.val (.ref x)] [])) _
    refine st1 _ ?_
    show Steps _ _ _ (T1.setTop (mkF m 3 #[.val (.ref x)] [(.int G1)])) _
    refine XS.ifNo X1.here hx rfl (hb hby d11_3) rfl ((if0 _ _).trans (feq P5).1) ?_
    refine XS.aloadN X1.here hx rfl (hb hby d11_6) rfl rfl ?_
    show Steps _ _ _ (T1.setTop (mkF m 7 #[.val (.ref x)] [(.ref x)])) _
    refine st2 _ ?_
    show Steps _ _ _ (T2.setTop (mkF m 10 #[.val (.ref x)] [(.int 1)])) _
    refine XS.goto X2.here hx rfl (pc0 := 10) (pc' := 14) rfl (hb hby d11_10) (by decide) (by decide) ?_
    show Steps _ _ _ (T2.setTop (mkF m 14 #[.val (.ref x)] [(.int 1)])) _
    exact retN X2 hx (t := .byte) Bd.returns (by simp) (hb hby d11_14) hr
  · show own_Q Z (some (.int 1)) h0 n0 _ T2.heap _
    rw [e2]
    exact ⟨rfl, N0, rfl⟩
theorem d13_17 : decode jdk_42_method_154_code 17 = .ok (.iconst 0, 1) := by decide +kernel
theorem rmSL1 (l : Launch) (Z : State) (a0 : Array Value) (hw : HW a0 Z) (ws : List Jvm.Cond) (G1 : Int32) (G3 : Value) (G4 : Value) (x : Addr) (h0 : Heap) (n0 : Nat) (Z0 : n0 ≤ h0.size) (EN : own_env Z G1 G3 G4) (X00 : Old Z n0 h0) (E_x : Exa Z h0 x "java/lang/String") (F_coder_x : Fld Z h0 x "java/lang/String" "coder" "B" (.int 1)) :
    MetFree l y_14 (head1 (Jvm.Cond.code y_14 jdk_42_method_154_code 1 (some .boolean) :: ws) (Rm 0 0 0 0)) (fun a_ U_ => a_ = #[(.ref x)] ∧ Z.Warmed39 U_.vm ∧ U_.heap = h0) (fun _ _ _ _ _ => True) (fun _ U_ o_ U1_ => ∃ v_ L_, o_ = .returned v_ ∧ own_Q Z (some (.int 0)) h0 n0 v_ U1_.heap L_ ∧ FrameEnd U_ o_ U1_ L_ (Rm 0 0 0 0).cells (Rm 0 0 0 0).slots) := by
  refine MetFree.of_bodySF (plainFor_of_name pn_13) hisR ?_
  intro p e s m args below meth c s₁ Bd hml0 hP hK
  obtain ⟨rfl, hZ, hh⟩ := hP
  have hx := Bd.exec
  have hby := Bd.bytes
  have hml : c.maxLocals = 1 := hml0
  have hown : s.vm.findClass "java/lang/String" = some m.cls := findClass_of_methodNamed Bd.named
  have hnm := (name_of_methodNamed Bd.named Bd.method).1
  have X0 : Stand p l e (Rm 0 0 0 0) s m #[(.ref x)] below meth c s₁ [] 0 0 := Stand.of_body Bd
  have e0 : s₁.heap = h0 := by rw [← hh, Bd.state]; rfl
  have N0 := Fr.nil n0
  have pre0 : ∀ tt, Steps p.tables e below (s₁.setTop (mkF m 0 #[.val (.ref x)] [])) tt → Steps p.tables e below (s₁.setTop (entryFrame m #[(.ref x)] 1)) tt := fun tt kk => castTop (ef_13_r m x) kk
  have EN0 := EN
  obtain ⟨O2, P5, O4, rG3, O6, O7, O8⟩ := EN
  obtain ⟨T1, X1, e1, st1⟩ := getS2 X0 hx hZ hown (host := "") (Or.inl (hw _ (tk 20 rfl))) Via.refl e0 (Sta.ext X00.2 O2) (g := (mkF m 0 #[.val (.ref x)] [])) rfl (hb hby d13_0)
  obtain ⟨T2, X2, e2, st2⟩ := getF X1 hx hZ hown (host := "") (Or.inl (hw _ (tk 32 rfl))) Via.refl e1 F_coder_x (g := (mkF m 7 #[.val (.ref x)] [(.ref x)])) rfl rfl (hb hby d13_7)
  obtain ⟨fs, hr, hrun, hended, hW, hsame⟩ := X2.leave (v := some (.int 0)) (fun h => by rw [Bd.returns] at h; cases h)
  refine ⟨_, _, pre0 _ ?_, hrun, hended, _, _, rfl, ?_, ⟨_, rfl⟩, hW, hsame.mono (by decide) (by decide)⟩
  · show Steps _ _ _ (s₁.setTop (mkF m 0 #[.val (.ref x)] [])) _
    refine st1 _ ?_
    show Steps _ _ _ (T1.setTop (mkF m 3 #[.val (.ref x)] [(.int G1)])) _
    refine XS.ifNo X1.here hx rfl (hb hby d13_3) rfl ((if0 _ _).trans (feq P5).1) ?_
    refine XS.aloadN X1.here hx rfl (hb hby d13_6) rfl rfl ?_
    show Steps _ _ _ (T1.setTop (mkF m 7 #[.val (.ref x)] [(.ref x)])) _
    refine st2 _ ?_
    show Steps _ _ _ (T2.setTop (mkF m 10 #[.val (.ref x)] [(.int 1)])) _
    refine XS.ifYes X2.here hx rfl (pc0 := 10) (pc' := 17) rfl (hb hby d13_10) rfl ((if0 _ _).trans (feq (by decide : ¬ ((1 : Int32) = (0 : Int32)))).2) (by decide) (by decide) ?_
    refine XS.iconst X2.here hx rfl (hb hby d13_17) ?_
    show Steps _ _ _ (T2.setTop (mkF m 18 #[.val (.ref x)] [(.int 0)])) _
    exact retN X2 hx (t := .boolean) Bd.returns (by simp) (hb hby d13_18) hr
  · show own_Q Z (some (.int 0)) h0 n0 _ T2.heap _
    rw [e2]
    exact ⟨rfl, N0, rfl⟩
theorem d10_0 : decode jdk_42_method_54_code 0 = .ok (.aload_n 0, 1) := by decide +kernel
theorem d10_1 : decode jdk_42_method_54_code 1 = .ok (.getfield 9, 3) := by decide +kernel
theorem d10_4 : decode jdk_42_method_54_code 4 = .ok (.arraylength, 1) := by decide +kernel
theorem d10_5 : decode jdk_42_method_54_code 5 = .ok (.aload_n 0, 1) := by decide +kernel
theorem pd___B : parseMethodDescriptor "()B" = some ⟨[], some .byte⟩ := by decide +kernel
theorem d10_6 : decode jdk_42_method_54_code 6 = .ok (.invokevirtual 335, 3) := by decide +kernel
theorem d10_9 : decode jdk_42_method_54_code 9 = .ok (.ishr, 1) := by decide +kernel
theorem d10_10 : decode jdk_42_method_54_code 10 = .ok (.ireturn, 1) := by decide +kernel
theorem pn_10 : plainName "java/lang/String" = true := by first | (simp [plainName, overriddenIn]; done) | decide +kernel
theorem ef_10_r (m : MethodId) (x0 : Addr) : entryFrame m #[(.ref x0)] 1 = mkF m 0 #[.val (.ref x0)] [] := by first | (simp [entryFrame, mkF, argsToLocals, Value.category]; done) | rfl
theorem rmLEl (l : Launch) (Z : State) (a0 : Array Value) (hw : HW a0 Z) (ws : List Jvm.Cond) (G1 : Int32) (G3 : Value) (G4 : Value) (x : Addr) (t : Addr) (k : ClassId) (cs : List Int32) (h0 : Heap) (n0 : Nat) (Z0 : n0 ≤ h0.size) (EN : own_env Z G1 G3 G4) (X00 : Old Z n0 h0) (E_x : Exa Z h0 x "java/lang/String") (F_value_x : Fld Z h0 x "java/lang/String" "value" "[B" (.ref t)) (F_coder_x : Fld Z h0 x "java/lang/String" "coder" "B" (.int 0)) (V_t : Arv Z h0 t k .byte (Int32.ofNat cs.length) (own_lat cs) (.int 0)) (hl : own_l1 cs) (hlen : cs.length ≤ 15) :
    MetFree l y_15 (head1 (Jvm.Cond.code y_15 jdk_42_method_54_code 1 (some .int) :: ws) (Rm 1 0 0 13)) (fun a_ U_ => a_ = #[(.ref x)] ∧ Z.Warmed39 U_.vm ∧ U_.heap = h0) (fun _ _ _ _ _ => True) (fun _ U_ o_ U1_ => ∃ v_ L_, o_ = .returned v_ ∧ own_Q Z (some (.int (Int32.ofNat cs.length))) h0 n0 v_ U1_.heap L_ ∧ FrameEnd U_ o_ U1_ L_ (Rm 1 0 0 13).cells (Rm 1 0 0 13).slots) := by
  refine MetFree.of_bodySF (plainFor_of_name pn_10) hisR ?_
  intro p e s m args below meth c s₁ Bd hml0 hP hK
  obtain ⟨rfl, hZ, hh⟩ := hP
  have hx := Bd.exec
  have hby := Bd.bytes
  have hml : c.maxLocals = 1 := hml0
  have hown : s.vm.findClass "java/lang/String" = some m.cls := findClass_of_methodNamed Bd.named
  have hnm := (name_of_methodNamed Bd.named Bd.method).1
  have X0 : Stand p l e (Rm 1 0 0 13) s m #[(.ref x)] below meth c s₁ [] 0 0 := Stand.of_body Bd
  have e0 : s₁.heap = h0 := by rw [← hh, Bd.state]; rfl
  have N0 := Fr.nil n0
  have pre0 : ∀ tt, Steps p.tables e below (s₁.setTop (mkF m 0 #[.val (.ref x)] [])) tt → Steps p.tables e below (s₁.setTop (entryFrame m #[(.ref x)] 1)) tt := fun tt kk => castTop (ef_10_r m x) kk
  have EN0 := EN
  obtain ⟨O2, P5, O4, rG3, O6, O7, O8⟩ := EN
  obtain ⟨T1, X1, e1, st1⟩ := getF X0 hx hZ hown (host := "") (Or.inl (hw _ (tk 34 rfl))) Via.refl e0 F_value_x (g := (mkF m 1 #[.val (.ref x)] [(.ref x)])) rfl rfl (hb hby d10_1)
  obtain ⟨c2, Ar2, -, S2, M2, -, -⟩ := id V_t
  obtain ⟨cq3, kq3, q3a, q3b, q3c⟩ := isOf hZ e1 E_x
  obtain ⟨_, _, ⟨T3, L3, k3, n3⟩, -, X3, ⟨Lc3, hQ3, l3, y3, z3⟩, st3⟩ := X1.virtualBack hx (y := y_13) (z := y_13) hown (mvT hZ (hw _ (tk 65 rfl))) (mvT hZ (hw _ (tk 66 rfl))) (notFace_of_selects (args := #[]) (mvT hZ (hw _ (tk 68 rfl)))) (mvT hZ (hw _ (tk 68 rfl))) (mvT hZ (hw _ (tk 67 rfl))) (by decide) (backOf (W := 1) (rmCD0 l Z a0 hw [] G1 G3 G4 x h0 n0 Z0 EN0 X00 E_x F_coder_x) hZ (hw _ (tk 69 rfl)) (hw _ (tk 9 rfl)) (by decide) (by decide)) q3a q3c (g := (mkF m 6 #[.val (.ref x)] [(.ref x), (.int (Int32.ofNat cs.length))])) rfl (by rw [hml]; rfl) (Steps.refl _) (argsL := []) (rest := [(.int (Int32.ofNat cs.length))]) (lenOf pd___B rfl) rfl (by show 2 * 0 + _ ≤ _; exact Nat.le_of_eq rfl) (hb hby d10_6) (fun _ _ => ⟨rfl, e1, (by decide : 0 + 0 ≤ _), (by decide : 0 + 0 ≤ _)⟩)
  dsimp only [Pt.U, Pt.locs, Pt.cells, Pt.slots] at X3 l3 y3 z3 st3 hQ3
  subst l3 y3 z3
  obtain ⟨rfl, Nq3, eq3⟩ := hQ3
  have N3 := Fr.app N0 Nq3
  obtain ⟨fs, hr, hrun, hended, hW, hsame⟩ := X3.leave (v := some (.int (Int32.ofNat cs.length))) (fun h => by rw [Bd.returns] at h; cases h)
  refine ⟨_, _, pre0 _ ?_, hrun, hended, _, _, rfl, ?_, ⟨_, rfl⟩, hW, hsame.mono (by decide) (by decide)⟩
  · show Steps _ _ _ (s₁.setTop (mkF m 0 #[.val (.ref x)] [])) _
    refine XS.aloadN X0.here hx rfl (hb hby d10_0) rfl rfl ?_
    show Steps _ _ _ (s₁.setTop (mkF m 1 #[.val (.ref x)] [(.ref x)])) _
    refine st1 _ ?_
    show Steps _ _ _ (T1.setTop (mkF m 4 #[.val (.ref x)] [(.ref t)])) _
    refine X1.arraylength hx (by rw [e1]; exact Ar2.1) (State.isArrayOf_alike hZ.alike Ar2.2.1) (g := (mkF m 4 #[.val (.ref x)] [(.ref t)])) rfl rfl (hb hby d10_4) _ ?_
    rw [len_of S2 M2]
    show Steps _ _ _ (T1.setTop (mkF m 5 #[.val (.ref x)] [(.int (Int32.ofNat cs.length))])) _
    refine XS.aloadN X1.here hx rfl (hb hby d10_5) rfl rfl ?_
    show Steps _ _ _ (T1.setTop (mkF m 6 #[.val (.ref x)] [(.ref x), (.int (Int32.ofNat cs.length))])) _
    refine st3.trans ?_
    show Steps _ _ _ (T3.setTop (mkF m 9 #[.val (.ref x)] [(.int 0), (.int (Int32.ofNat cs.length))])) _
    refine XS.ishr X3.here hx rfl (hb hby d10_9) rfl ?_
    show Steps _ _ _ (T3.setTop (mkF m 10 #[.val (.ref x)] [(.int ((Int32.ofNat cs.length) >>> ((0 : Int32) &&& 31)))])) _
    rw [(own_shr0 (by omega))]
    show Steps _ _ _ (T3.setTop (mkF m 10 #[.val (.ref x)] [(.int (Int32.ofNat cs.length))])) _
    exact retI X3 hx Bd.returns (hb hby d10_10) hr
  · show own_Q Z (some (.int (Int32.ofNat cs.length))) h0 n0 _ T3.heap _
    rw [eq3]
    exact ⟨rfl, N3, rfl⟩
theorem rmLEw (l : Launch) (Z : State) (a0 : Array Value) (hw : HW a0 Z) (ws : List Jvm.Cond) (G1 : Int32) (G3 : Value) (G4 : Value) (x : Addr) (t : Addr) (k : ClassId) (cs : List Int32) (h0 : Heap) (n0 : Nat) (Z0 : n0 ≤ h0.size) (EN : own_env Z G1 G3 G4) (X00 : Old Z n0 h0) (E_x : Exa Z h0 x "java/lang/String") (F_value_x : Fld Z h0 x "java/lang/String" "value" "[B" (.ref t)) (F_coder_x : Fld Z h0 x "java/lang/String" "coder" "B" (.int 1)) (V_t : Arv Z h0 t k .byte (Int32.ofNat (2 * cs.length)) (own_wide cs) (.int 0)) (hlen : cs.length ≤ 15) :
    MetFree l y_15 (head1 (Jvm.Cond.code y_15 jdk_42_method_54_code 1 (some .int) :: ws) (Rm 1 0 0 13)) (fun a_ U_ => a_ = #[(.ref x)] ∧ Z.Warmed39 U_.vm ∧ U_.heap = h0) (fun _ _ _ _ _ => True) (fun _ U_ o_ U1_ => ∃ v_ L_, o_ = .returned v_ ∧ own_Q Z (some (.int (Int32.ofNat cs.length))) h0 n0 v_ U1_.heap L_ ∧ FrameEnd U_ o_ U1_ L_ (Rm 1 0 0 13).cells (Rm 1 0 0 13).slots) := by
  refine MetFree.of_bodySF (plainFor_of_name pn_10) hisR ?_
  intro p e s m args below meth c s₁ Bd hml0 hP hK
  obtain ⟨rfl, hZ, hh⟩ := hP
  have hx := Bd.exec
  have hby := Bd.bytes
  have hml : c.maxLocals = 1 := hml0
  have hown : s.vm.findClass "java/lang/String" = some m.cls := findClass_of_methodNamed Bd.named
  have hnm := (name_of_methodNamed Bd.named Bd.method).1
  have X0 : Stand p l e (Rm 1 0 0 13) s m #[(.ref x)] below meth c s₁ [] 0 0 := Stand.of_body Bd
  have e0 : s₁.heap = h0 := by rw [← hh, Bd.state]; rfl
  have N0 := Fr.nil n0
  have pre0 : ∀ tt, Steps p.tables e below (s₁.setTop (mkF m 0 #[.val (.ref x)] [])) tt → Steps p.tables e below (s₁.setTop (entryFrame m #[(.ref x)] 1)) tt := fun tt kk => castTop (ef_10_r m x) kk
  have EN0 := EN
  obtain ⟨O2, P5, O4, rG3, O6, O7, O8⟩ := EN
  obtain ⟨T1, X1, e1, st1⟩ := getF X0 hx hZ hown (host := "") (Or.inl (hw _ (tk 34 rfl))) Via.refl e0 F_value_x (g := (mkF m 1 #[.val (.ref x)] [(.ref x)])) rfl rfl (hb hby d10_1)
  obtain ⟨c2, Ar2, -, S2, M2, -, -⟩ := id V_t
  obtain ⟨cq3, kq3, q3a, q3b, q3c⟩ := isOf hZ e1 E_x
  obtain ⟨_, _, ⟨T3, L3, k3, n3⟩, -, X3, ⟨Lc3, hQ3, l3, y3, z3⟩, st3⟩ := X1.virtualBack hx (y := y_13) (z := y_13) hown (mvT hZ (hw _ (tk 65 rfl))) (mvT hZ (hw _ (tk 66 rfl))) (notFace_of_selects (args := #[]) (mvT hZ (hw _ (tk 68 rfl)))) (mvT hZ (hw _ (tk 68 rfl))) (mvT hZ (hw _ (tk 67 rfl))) (by decide) (backOf (W := 1) (rmCD1 l Z a0 hw [] G1 G3 G4 x h0 n0 Z0 EN0 X00 E_x F_coder_x) hZ (hw _ (tk 69 rfl)) (hw _ (tk 9 rfl)) (by decide) (by decide)) q3a q3c (g := (mkF m 6 #[.val (.ref x)] [(.ref x), (.int (Int32.ofNat (2 * cs.length)))])) rfl (by rw [hml]; rfl) (Steps.refl _) (argsL := []) (rest := [(.int (Int32.ofNat (2 * cs.length)))]) (lenOf pd___B rfl) rfl (by show 2 * 0 + _ ≤ _; exact Nat.le_of_eq rfl) (hb hby d10_6) (fun _ _ => ⟨rfl, e1, (by decide : 0 + 0 ≤ _), (by decide : 0 + 0 ≤ _)⟩)
  dsimp only [Pt.U, Pt.locs, Pt.cells, Pt.slots] at X3 l3 y3 z3 st3 hQ3
  subst l3 y3 z3
  obtain ⟨rfl, Nq3, eq3⟩ := hQ3
  have N3 := Fr.app N0 Nq3
  obtain ⟨fs, hr, hrun, hended, hW, hsame⟩ := X3.leave (v := some (.int (Int32.ofNat cs.length))) (fun h => by rw [Bd.returns] at h; cases h)
  refine ⟨_, _, pre0 _ ?_, hrun, hended, _, _, rfl, ?_, ⟨_, rfl⟩, hW, hsame.mono (by decide) (by decide)⟩
  · show Steps _ _ _ (s₁.setTop (mkF m 0 #[.val (.ref x)] [])) _
    refine XS.aloadN X0.here hx rfl (hb hby d10_0) rfl rfl ?_
    show Steps _ _ _ (s₁.setTop (mkF m 1 #[.val (.ref x)] [(.ref x)])) _
    refine st1 _ ?_
    show Steps _ _ _ (T1.setTop (mkF m 4 #[.val (.ref x)] [(.ref t)])) _
    refine X1.arraylength hx (by rw [e1]; exact Ar2.1) (State.isArrayOf_alike hZ.alike Ar2.2.1) (g := (mkF m 4 #[.val (.ref x)] [(.ref t)])) rfl rfl (hb hby d10_4) _ ?_
    rw [len_of S2 M2]
    show Steps _ _ _ (T1.setTop (mkF m 5 #[.val (.ref x)] [(.int (Int32.ofNat (2 * cs.length)))])) _
    refine XS.aloadN X1.here hx rfl (hb hby d10_5) rfl rfl ?_
    show Steps _ _ _ (T1.setTop (mkF m 6 #[.val (.ref x)] [(.ref x), (.int (Int32.ofNat (2 * cs.length)))])) _
    refine st3.trans ?_
    show Steps _ _ _ (T3.setTop (mkF m 9 #[.val (.ref x)] [(.int 1), (.int (Int32.ofNat (2 * cs.length)))])) _
    refine XS.ishr X3.here hx rfl (hb hby d10_9) rfl ?_
    show Steps _ _ _ (T3.setTop (mkF m 10 #[.val (.ref x)] [(.int ((Int32.ofNat (2 * cs.length)) >>> ((1 : Int32) &&& 31)))])) _
    rw [(own_shr (by omega))]
    show Steps _ _ _ (T3.setTop (mkF m 10 #[.val (.ref x)] [(.int (Int32.ofNat cs.length))])) _
    exact retI X3 hx Bd.returns (hb hby d10_10) hr
  · show own_Q Z (some (.int (Int32.ofNat cs.length))) h0 n0 _ T3.heap _
    rw [eq3]
    exact ⟨rfl, N3, rfl⟩
theorem rmLE (l : Launch) (Z : State) (a0 : Array Value) (hw : HW a0 Z) (ws : List Jvm.Cond) (G1 : Int32) (G3 G4 : Value) (x : Addr) (cs : List Int32) (h0 : Heap) (n0 : Nat) (Z0 : n0 ≤ h0.size) (EN : own_env Z G1 G3 G4) (X00 : Old Z n0 h0) (S : own_st Z h0 x cs) (hlen : cs.length ≤ 15) :
    MetFree l y_15 (head1 (Jvm.Cond.code y_15 jdk_42_method_54_code 1 (some .int) :: ws) (Rm 1 0 0 13)) (fun a_ U_ => a_ = #[(.ref x)] ∧ Z.Warmed39 U_.vm ∧ U_.heap = h0) (fun _ _ _ _ _ => True) (fun _ U_ o_ U1_ => ∃ v_ L_, o_ = .returned v_ ∧ own_Q Z (some (.int (Int32.ofNat cs.length))) h0 n0 v_ U1_.heap L_ ∧ FrameEnd U_ o_ U1_ L_ (Rm 1 0 0 13).cells (Rm 1 0 0 13).slots) := by
  obtain ⟨t, k, S1, S2, ⟨S3, S4, S5⟩ | ⟨S3, S4⟩⟩ := S
  · exact rmLEl l Z a0 hw ws G1 G3 G4 x t k cs h0 n0 Z0 EN X00 S1 S2 S3 S4 S5 hlen
  · exact rmLEw l Z a0 hw ws G1 G3 G4 x t k cs h0 n0 Z0 EN X00 S1 S2 S3 S4 hlen
theorem d14_0 : decode jdk_43_method_2_code 0 = .ok (.iload_n 1, 1) := by decide +kernel
theorem d14_1 : decode jdk_43_method_2_code 1 = .ok (.aload_n 0, 1) := by decide +kernel
theorem d14_2 : decode jdk_43_method_2_code 2 = .ok (.arraylength, 1) := by decide +kernel
theorem d14_3 : decode jdk_43_method_2_code 3 = .ok (.invokestatic 9, 3) := by decide +kernel
theorem d14_6 : decode jdk_43_method_2_code 6 = .ok (.aload_n 0, 1) := by decide +kernel
theorem d14_7 : decode jdk_43_method_2_code 7 = .ok (.iload_n 1, 1) := by decide +kernel
theorem d14_8 : decode jdk_43_method_2_code 8 = .ok (.baload, 1) := by decide +kernel
theorem d14_9 : decode jdk_43_method_2_code 9 = .ok (.sipush 255, 3) := by decide +kernel
theorem d14_12 : decode jdk_43_method_2_code 12 = .ok (.iand, 1) := by decide +kernel
theorem d14_13 : decode jdk_43_method_2_code 13 = .ok (.i2c, 1) := by decide +kernel
theorem d14_14 : decode jdk_43_method_2_code 14 = .ok (.ireturn, 1) := by decide +kernel
theorem pn_14 : plainName "java/lang/StringLatin1" = true := by first | (simp [plainName, overriddenIn]; done) | decide +kernel
theorem ef_14_rr (m : MethodId) (x0 : Addr) (x1 : Int32) : entryFrame m #[(.ref x0), (.int x1)] 2 = mkF m 0 #[.val (.ref x0), .val (.int x1)] [] := by first | (simp [entryFrame, mkF, argsToLocals, Value.category]; done) | rfl
theorem rmLCA (l : Launch) (Z : State) (a0 : Array Value) (hw : HW a0 Z) (ws : List Jvm.Cond) (G1 : Int32) (G3 : Value) (G4 : Value) (t : Addr) (k : ClassId) (cs : List Int32) (i : Nat) (h0 : Heap) (n0 : Nat) (Z0 : n0 ≤ h0.size) (EN : own_env Z G1 G3 G4) (X00 : Old Z n0 h0) (V_t : Arv Z h0 t k .byte (Int32.ofNat cs.length) (own_lat cs) (.int 0)) (hl : own_l1 cs) (hlen : cs.length ≤ 15) (hi : i < cs.length) :
    MetFree l y_16 (head1 (Jvm.Cond.code y_16 jdk_43_method_2_code 2 (some .char) :: ws) (Rm 2 0 0 27)) (fun a_ U_ => a_ = #[(.ref t), (.int (Int32.ofNat i))] ∧ Z.Warmed39 U_.vm ∧ U_.heap = h0) (fun _ _ _ _ _ => True) (fun _ U_ o_ U1_ => ∃ v_ L_, o_ = .returned v_ ∧ own_Q Z (some (.int (cs.getD i 0))) h0 n0 v_ U1_.heap L_ ∧ FrameEnd U_ o_ U1_ L_ (Rm 2 0 0 27).cells (Rm 2 0 0 27).slots) := by
  refine MetFree.of_bodySF (plainFor_of_name pn_14) hisR ?_
  intro p e s m args below meth c s₁ Bd hml0 hP hK
  obtain ⟨rfl, hZ, hh⟩ := hP
  have hx := Bd.exec
  have hby := Bd.bytes
  have hml : c.maxLocals = 2 := hml0
  have hown : s.vm.findClass "java/lang/StringLatin1" = some m.cls := findClass_of_methodNamed Bd.named
  have hnm := (name_of_methodNamed Bd.named Bd.method).1
  have X0 : Stand p l e (Rm 2 0 0 27) s m #[(.ref t), (.int (Int32.ofNat i))] below meth c s₁ [] 0 0 := Stand.of_body Bd
  have e0 : s₁.heap = h0 := by rw [← hh, Bd.state]; rfl
  have N0 := Fr.nil n0
  have pre0 : ∀ tt, Steps p.tables e below (s₁.setTop (mkF m 0 #[.val (.ref t), .val (.int (Int32.ofNat i))] [])) tt → Steps p.tables e below (s₁.setTop (entryFrame m #[(.ref t), (.int (Int32.ofNat i))] 2)) tt := fun tt kk => castTop (ef_14_rr m t (Int32.ofNat i)) kk
  have EN0 := EN
  obtain ⟨O2, P5, O4, rG3, O6, O7, O8⟩ := EN
  have CH : own_ch (cs.getD i 0) := own_up (own_l1_at hl hi).1 (own_l1_at hl hi).2
  obtain ⟨c1, Ar1, -, S1, M1, -, -⟩ := id V_t
  obtain ⟨_, _, ⟨T2, L2, k2, n2⟩, -, X2, ⟨Lc2, hQ2, l2, y2, z2⟩, st2⟩ := Jvm.LawKit.callS X0 hx (y := y_3) hown (mvT hZ (hw _ (tk 84 rfl))) (mvT hZ (hw _ (tk 85 rfl))) (mvT hZ (hw _ (tk 9 rfl))) (mvT hZ (hw _ (tk 86 rfl))) (by decide) (backOf (W := 0) (rmSCI l Z a0 hw [] G1 G3 G4 (Int32.ofNat i) (Int32.ofNat cs.length) h0 n0 Z0 EN0 X00 (own_in hi (by omega)).1 (own_in hi (by omega)).2) hZ (hw _ (tk 86 rfl)) (hw _ (tk 9 rfl)) (by decide) (by decide)) (g := (mkF m 3 #[.val (.ref t), .val (.int (Int32.ofNat i))] [(.int (Int32.ofNat cs.length)), (.int (Int32.ofNat i))])) rfl (by rw [hml]; rfl) (argsL := [(.int (Int32.ofNat i)), (.int (Int32.ofNat cs.length))]) (rest := []) (lenOf pd__II_V rfl) rfl (by show 2 * 0 + _ ≤ _; exact Nat.le_of_eq rfl) (hb hby d14_3) (fun _ _ => ⟨rfl, e0, (by decide : 0 + 0 ≤ _), (by decide : 0 + 0 ≤ _)⟩)
  dsimp only [Pt.U, Pt.locs, Pt.cells, Pt.slots] at X2 l2 y2 z2 st2 hQ2
  subst l2 y2 z2
  obtain ⟨rfl, Nq2, eq2⟩ := hQ2
  have N2 := Fr.app N0 Nq2
  obtain ⟨c3, Ar3, -, S3, M3, H3, -⟩ := id V_t
  have hin3 := inb_of (j := (Int32.ofNat i)) S3 (own_in hi (by omega))
  obtain ⟨fs, hr, hrun, hended, hW, hsame⟩ := X2.leave (v := some (.int (nar .char (cs.getD i 0)))) (fun h => by rw [Bd.returns] at h; cases h)
  refine ⟨_, _, pre0 _ ?_, hrun, hended, _, _, rfl, ?_, ⟨_, rfl⟩, hW, hsame.mono (by decide) (by decide)⟩
  · show Steps _ _ _ (s₁.setTop (mkF m 0 #[.val (.ref t), .val (.int (Int32.ofNat i))] [])) _
    refine XS.iloadN X0.here hx rfl (hb hby d14_0) rfl ?_
    refine XS.aloadN X0.here hx rfl (hb hby d14_1) rfl rfl ?_
    show Steps _ _ _ (s₁.setTop (mkF m 2 #[.val (.ref t), .val (.int (Int32.ofNat i))] [(.ref t), (.int (Int32.ofNat i))])) _
    refine X0.arraylength hx (by rw [e0]; exact Ar1.1) (State.isArrayOf_alike hZ.alike Ar1.2.1) (g := (mkF m 2 #[.val (.ref t), .val (.int (Int32.ofNat i))] [(.ref t), (.int (Int32.ofNat i))])) rfl rfl (hb hby d14_2) _ ?_
    rw [len_of S1 M1]
    show Steps _ _ _ (s₁.setTop (mkF m 3 #[.val (.ref t), .val (.int (Int32.ofNat i))] [(.int (Int32.ofNat cs.length)), (.int (Int32.ofNat i))])) _
    refine st2 _ ?_
    show Steps _ _ _ (T2.setTop (mkF m 6 #[.val (.ref t), .val (.int (Int32.ofNat i))] [])) _
    refine XS.aloadN X2.here hx rfl (hb hby d14_6) rfl rfl ?_
    refine XS.iloadN X2.here hx rfl (hb hby d14_7) rfl ?_
    show Steps _ _ _ (T2.setTop (mkF m 8 #[.val (.ref t), .val (.int (Int32.ofNat i))] [(.int (Int32.ofNat i)), (.ref t)])) _
    refine X2.baloadBytes hx (j := (Int32.ofNat i)) (v := (.int (own_l8 (cs.getD i 0)))) (by rw [eq2]; exact Ar3.1) (State.isArrayOf_alike hZ.alike Ar3.2.1) Ar3.2.2 hin3 (H3.at hin3 (own_la cs i hi (by omega))) (g := (mkF m 8 #[.val (.ref t), .val (.int (Int32.ofNat i))] [(.int (Int32.ofNat i)), (.ref t)])) rfl rfl (hb hby d14_8) _ ?_
    show Steps _ _ _ (T2.setTop (mkF m 9 #[.val (.ref t), .val (.int (Int32.ofNat i))] [(.int (own_l8 (cs.getD i 0)))])) _
    refine XS.sipush X2.here hx rfl (hb hby d14_9) ?_
    refine XS.iand X2.here hx rfl (hb hby d14_12) rfl ?_
    show Steps _ _ _ (T2.setTop (mkF m 13 #[.val (.ref t), .val (.int (Int32.ofNat i))] [(.int ((own_l8 (cs.getD i 0)) &&& (255 : Int32)))])) _
    rw [(own_msk (own_l1_at hl hi).1 (own_l1_at hl hi).2)]
    show Steps _ _ _ (T2.setTop (mkF m 13 #[.val (.ref t), .val (.int (Int32.ofNat i))] [(.int (cs.getD i 0))])) _
    refine XS.i2c X2.here hx rfl (hb hby d14_13) rfl ?_
    show Steps _ _ _ (T2.setTop (mkF m 14 #[.val (.ref t), .val (.int (Int32.ofNat i))] [(.int ((cs.getD i 0).toUInt32.toUInt16.toUInt32.toInt32))])) _
    rw [(own_i2c (c := (cs.getD i 0)) CH)]
    show Steps _ _ _ (T2.setTop (mkF m 14 #[.val (.ref t), .val (.int (Int32.ofNat i))] [(.int (cs.getD i 0))])) _
    exact retN X2 hx (t := .char) Bd.returns (by simp) (hb hby d14_14) hr
  · show own_Q Z (some (.int (cs.getD i 0))) h0 n0 _ T2.heap _
    rw [eq2]
    exact ⟨own_some (own_narc CH), N2, rfl⟩
theorem d37_0 : decode jdk_52_method_5_code 0 = .ok (.getstatic 44, 3) := by decide +kernel
theorem d37_3 : decode jdk_52_method_5_code 3 = .ok (.ifCond .ne 25, 3) := by decide +kernel
theorem d37_28 : decode jdk_52_method_5_code 28 = .ok (.iload_n 1, 1) := by decide +kernel
theorem d37_29 : decode jdk_52_method_5_code 29 = .ok (.iconst 1, 1) := by decide +kernel
theorem d37_30 : decode jdk_52_method_5_code 30 = .ok (.ishl, 1) := by decide +kernel
theorem d37_31 : decode jdk_52_method_5_code 31 = .ok (.istore_n 1, 1) := by decide +kernel
theorem d37_32 : decode jdk_52_method_5_code 32 = .ok (.aload_n 0, 1) := by decide +kernel
theorem d37_33 : decode jdk_52_method_5_code 33 = .ok (.iload_n 1, 1) := by decide +kernel
theorem d37_34 : decode jdk_52_method_5_code 34 = .ok (.iinc 1 1, 3) := by decide +kernel
theorem d37_37 : decode jdk_52_method_5_code 37 = .ok (.baload, 1) := by decide +kernel
theorem d37_38 : decode jdk_52_method_5_code 38 = .ok (.sipush 255, 3) := by decide +kernel
theorem d37_41 : decode jdk_52_method_5_code 41 = .ok (.iand, 1) := by decide +kernel
theorem d37_42 : decode jdk_52_method_5_code 42 = .ok (.getstatic 59, 3) := by decide +kernel
theorem d37_45 : decode jdk_52_method_5_code 45 = .ok (.ishl, 1) := by decide +kernel
theorem d37_46 : decode jdk_52_method_5_code 46 = .ok (.aload_n 0, 1) := by decide +kernel
theorem d37_47 : decode jdk_52_method_5_code 47 = .ok (.iload_n 1, 1) := by decide +kernel
theorem d37_48 : decode jdk_52_method_5_code 48 = .ok (.baload, 1) := by decide +kernel
theorem d37_49 : decode jdk_52_method_5_code 49 = .ok (.sipush 255, 3) := by decide +kernel
theorem d37_52 : decode jdk_52_method_5_code 52 = .ok (.iand, 1) := by decide +kernel
theorem d37_53 : decode jdk_52_method_5_code 53 = .ok (.getstatic 63, 3) := by decide +kernel
theorem d37_56 : decode jdk_52_method_5_code 56 = .ok (.ishl, 1) := by decide +kernel
theorem d37_57 : decode jdk_52_method_5_code 57 = .ok (.ior, 1) := by decide +kernel
theorem d37_58 : decode jdk_52_method_5_code 58 = .ok (.i2c, 1) := by decide +kernel
theorem d37_59 : decode jdk_52_method_5_code 59 = .ok (.ireturn, 1) := by decide +kernel
theorem pn_37 : plainName "java/lang/StringUTF16" = true := by first | (simp [plainName, overriddenIn]; done) | decide +kernel
theorem ef_37_rr (m : MethodId) (x0 : Addr) (x1 : Int32) : entryFrame m #[(.ref x0), (.int x1)] 2 = mkF m 0 #[.val (.ref x0), .val (.int x1)] [] := by first | (simp [entryFrame, mkF, argsToLocals, Value.category]; done) | rfl
theorem rmGC (l : Launch) (Z : State) (a0 : Array Value) (hw : HW a0 Z) (ws : List Jvm.Cond) (G1 : Int32) (G3 : Value) (G4 : Value) (t : Addr) (k : ClassId) (cs : List Int32) (i : Nat) (h0 : Heap) (n0 : Nat) (Z0 : n0 ≤ h0.size) (EN : own_env Z G1 G3 G4) (X00 : Old Z n0 h0) (V_t : Arv Z h0 t k .byte (Int32.ofNat (2 * cs.length)) (own_wide cs) (.int 0)) (CH : own_ch (cs.getD i 0)) (hlen : cs.length ≤ 15) (hi : i < cs.length) :
    MetFree l y_17 (head1 (Jvm.Cond.code y_17 jdk_52_method_5_code 2 (some .char) :: ws) (Rm 0 0 0 0)) (fun a_ U_ => a_ = #[(.ref t), (.int (Int32.ofNat i))] ∧ Z.Warmed39 U_.vm ∧ U_.heap = h0) (fun _ _ _ _ _ => True) (fun _ U_ o_ U1_ => ∃ v_ L_, o_ = .returned v_ ∧ own_Q Z (some (.int (cs.getD i 0))) h0 n0 v_ U1_.heap L_ ∧ FrameEnd U_ o_ U1_ L_ (Rm 0 0 0 0).cells (Rm 0 0 0 0).slots) := by
  refine MetFree.of_bodySF (plainFor_of_name pn_37) hisR ?_
  intro p e s m args below meth c s₁ Bd hml0 hP hK
  obtain ⟨rfl, hZ, hh⟩ := hP
  have hx := Bd.exec
  have hby := Bd.bytes
  have hml : c.maxLocals = 2 := hml0
  have hown : s.vm.findClass "java/lang/StringUTF16" = some m.cls := findClass_of_methodNamed Bd.named
  have hnm := (name_of_methodNamed Bd.named Bd.method).1
  have X0 : Stand p l e (Rm 0 0 0 0) s m #[(.ref t), (.int (Int32.ofNat i))] below meth c s₁ [] 0 0 := Stand.of_body Bd
  have e0 : s₁.heap = h0 := by rw [← hh, Bd.state]; rfl
  have N0 := Fr.nil n0
  have pre0 : ∀ tt, Steps p.tables e below (s₁.setTop (mkF m 0 #[.val (.ref t), .val (.int (Int32.ofNat i))] [])) tt → Steps p.tables e below (s₁.setTop (entryFrame m #[(.ref t), (.int (Int32.ofNat i))] 2)) tt := fun tt kk => castTop (ef_37_rr m t (Int32.ofNat i)) kk
  have EN0 := EN
  obtain ⟨O2, P5, O4, rG3, O6, O7, O8⟩ := EN
  obtain ⟨T1, X1, e1, st1⟩ := getS2 X0 hx hZ hown (host := "") (Or.inl (hw _ (tk 173 rfl))) Via.refl e0 (Sta.ext X00.2 O6) (g := (mkF m 0 #[.val (.ref t), .val (.int (Int32.ofNat i))] [])) rfl (hb hby d37_0)
  obtain ⟨c2, Ar2, -, S2, M2, H2, -⟩ := id V_t
  have hin2 := inb_of (j := (Int32.ofNat (2 * i))) S2 (own_in (by omega) (by omega))
  obtain ⟨T3, X3, e3, st3⟩ := getS2 X1 hx hZ hown (host := "") (Or.inl (hw _ (tk 174 rfl))) Via.refl e1 (Sta.ext X00.2 O7) (g := (mkF m 42 #[.val (.ref t), .val (.int ((Int32.ofNat (2 * i)) + (1 : Int32)))] [(.int ((own_b0 (cs.getD i 0)) &&& (255 : Int32)))])) rfl (hb hby d37_42)
  obtain ⟨c4, Ar4, -, S4, M4, H4, -⟩ := id V_t
  have hin4 := inb_of (j := (Int32.ofNat (2 * i + 1))) S4 (own_in (by omega) (by omega))
  obtain ⟨T5, X5, e5, st5⟩ := getS2 X3 hx hZ hown (host := "") (Or.inl (hw _ (tk 175 rfl))) Via.refl e3 (Sta.ext X00.2 O8) (g := (mkF m 53 #[.val (.ref t), .val (.int (Int32.ofNat (2 * i + 1)))] [(.int ((own_b1 (cs.getD i 0)) &&& (255 : Int32))), (.int (((own_b0 (cs.getD i 0)) &&& (255 : Int32)) <<< ((0 : Int32) &&& 31)))])) rfl (hb hby d37_53)
  obtain ⟨fs, hr, hrun, hended, hW, hsame⟩ := X5.leave (v := some (.int (nar .char (cs.getD i 0)))) (fun h => by rw [Bd.returns] at h; cases h)
  refine ⟨_, _, pre0 _ ?_, hrun, hended, _, _, rfl, ?_, ⟨_, rfl⟩, hW, hsame.mono (by decide) (by decide)⟩
  · show Steps _ _ _ (s₁.setTop (mkF m 0 #[.val (.ref t), .val (.int (Int32.ofNat i))] [])) _
    refine st1 _ ?_
    show Steps _ _ _ (T1.setTop (mkF m 3 #[.val (.ref t), .val (.int (Int32.ofNat i))] [(.int 1)])) _
    refine XS.ifYes X1.here hx rfl (pc0 := 3) (pc' := 28) rfl (hb hby d37_3) rfl ((if0 _ _).trans (feq (by decide : ¬ ((1 : Int32) = (0 : Int32)))).2) (by decide) (by decide) ?_
    refine XS.iloadN X1.here hx rfl (hb hby d37_28) rfl ?_
    refine XS.iconst X1.here hx rfl (hb hby d37_29) ?_
    refine XS.ishl X1.here hx rfl (hb hby d37_30) rfl ?_
    show Steps _ _ _ (T1.setTop (mkF m 31 #[.val (.ref t), .val (.int (Int32.ofNat i))] [(.int ((Int32.ofNat i) <<< ((1 : Int32) &&& 31)))])) _
    rw [(own_shl (by omega))]
    show Steps _ _ _ (T1.setTop (mkF m 31 #[.val (.ref t), .val (.int (Int32.ofNat i))] [(.int (Int32.ofNat (2 * i)))])) _
    refine XS.istoreN X1.here hx rfl (hb hby d37_31) rfl (l' := #[.val (.ref t), .val (.int (Int32.ofNat (2 * i)))]) rfl ?_
    refine XS.aloadN X1.here hx rfl (hb hby d37_32) rfl rfl ?_
    refine XS.iloadN X1.here hx rfl (hb hby d37_33) rfl ?_
    refine XS.iinc X1.here hx rfl (hb hby d37_34) rfl (l' := #[.val (.ref t), .val (.int ((Int32.ofNat (2 * i)) + (1 : Int32)))]) rfl ?_
    show Steps _ _ _ (T1.setTop (mkF m 37 #[.val (.ref t), .val (.int ((Int32.ofNat (2 * i)) + (1 : Int32)))] [(.int (Int32.ofNat (2 * i))), (.ref t)])) _
    refine X1.baloadBytes hx (j := (Int32.ofNat (2 * i))) (v := (.int (own_b0 (cs.getD i 0)))) (by rw [e1]; exact Ar2.1) (State.isArrayOf_alike hZ.alike Ar2.2.1) Ar2.2.2 hin2 (H2.at hin2 (own_wa0 cs i hi (by omega))) (g := (mkF m 37 #[.val (.ref t), .val (.int ((Int32.ofNat (2 * i)) + (1 : Int32)))] [(.int (Int32.ofNat (2 * i))), (.ref t)])) rfl rfl (hb hby d37_37) _ ?_
    show Steps _ _ _ (T1.setTop (mkF m 38 #[.val (.ref t), .val (.int ((Int32.ofNat (2 * i)) + (1 : Int32)))] [(.int (own_b0 (cs.getD i 0)))])) _
    refine XS.sipush X1.here hx rfl (hb hby d37_38) ?_
    refine XS.iand X1.here hx rfl (hb hby d37_41) rfl ?_
    show Steps _ _ _ (T1.setTop (mkF m 42 #[.val (.ref t), .val (.int ((Int32.ofNat (2 * i)) + (1 : Int32)))] [(.int ((own_b0 (cs.getD i 0)) &&& (255 : Int32)))])) _
    refine st3 _ ?_
    show Steps _ _ _ (T3.setTop (mkF m 45 #[.val (.ref t), .val (.int ((Int32.ofNat (2 * i)) + (1 : Int32)))] [(.int 0), (.int ((own_b0 (cs.getD i 0)) &&& (255 : Int32)))])) _
    refine XS.ishl X3.here hx rfl (hb hby d37_45) rfl ?_
    refine XS.aloadN X3.here hx rfl (hb hby d37_46) rfl rfl ?_
    refine XS.iloadN X3.here hx rfl (hb hby d37_47) rfl ?_
    show Steps _ _ _ (T3.setTop (mkF m 48 #[.val (.ref t), .val (.int ((Int32.ofNat (2 * i)) + (1 : Int32)))] [(.int ((Int32.ofNat (2 * i)) + (1 : Int32))), (.ref t), (.int (((own_b0 (cs.getD i 0)) &&& (255 : Int32)) <<< ((0 : Int32) &&& 31)))])) _
    rw [(own_succ (2 * i))]
    show Steps _ _ _ (T3.setTop (mkF m 48 #[.val (.ref t), .val (.int (Int32.ofNat (2 * i + 1)))] [(.int (Int32.ofNat (2 * i + 1))), (.ref t), (.int (((own_b0 (cs.getD i 0)) &&& (255 : Int32)) <<< ((0 : Int32) &&& 31)))])) _
    refine X3.baloadBytes hx (j := (Int32.ofNat (2 * i + 1))) (v := (.int (own_b1 (cs.getD i 0)))) (by rw [e3]; exact Ar4.1) (State.isArrayOf_alike hZ.alike Ar4.2.1) Ar4.2.2 hin4 (H4.at hin4 (own_wa1 cs i hi (by omega))) (g := (mkF m 48 #[.val (.ref t), .val (.int (Int32.ofNat (2 * i + 1)))] [(.int (Int32.ofNat (2 * i + 1))), (.ref t), (.int (((own_b0 (cs.getD i 0)) &&& (255 : Int32)) <<< ((0 : Int32) &&& 31)))])) rfl rfl (hb hby d37_48) _ ?_
    show Steps _ _ _ (T3.setTop (mkF m 49 #[.val (.ref t), .val (.int (Int32.ofNat (2 * i + 1)))] [(.int (own_b1 (cs.getD i 0))), (.int (((own_b0 (cs.getD i 0)) &&& (255 : Int32)) <<< ((0 : Int32) &&& 31)))])) _
    refine XS.sipush X3.here hx rfl (hb hby d37_49) ?_
    refine XS.iand X3.here hx rfl (hb hby d37_52) rfl ?_
    show Steps _ _ _ (T3.setTop (mkF m 53 #[.val (.ref t), .val (.int (Int32.ofNat (2 * i + 1)))] [(.int ((own_b1 (cs.getD i 0)) &&& (255 : Int32))), (.int (((own_b0 (cs.getD i 0)) &&& (255 : Int32)) <<< ((0 : Int32) &&& 31)))])) _
    refine st5 _ ?_
    show Steps _ _ _ (T5.setTop (mkF m 56 #[.val (.ref t), .val (.int (Int32.ofNat (2 * i + 1)))] [(.int 8), (.int ((own_b1 (cs.getD i 0)) &&& (255 : Int32))), (.int (((own_b0 (cs.getD i 0)) &&& (255 : Int32)) <<< ((0 : Int32) &&& 31)))])) _
    refine XS.ishl X5.here hx rfl (hb hby d37_56) rfl ?_
    refine XS.ior X5.here hx rfl (hb hby d37_57) rfl ?_
    refine XS.i2c X5.here hx rfl (hb hby d37_58) rfl ?_
    show Steps _ _ _ (T5.setTop (mkF m 59 #[.val (.ref t), .val (.int (Int32.ofNat (2 * i + 1)))] [(.int (((((own_b0 (cs.getD i 0)) &&& (255 : Int32)) <<< ((0 : Int32) &&& 31)) ||| (((own_b1 (cs.getD i 0)) &&& (255 : Int32)) <<< ((8 : Int32) &&& 31))).toUInt32.toUInt16.toUInt32.toInt32))])) _
    rw [(own_pair CH)]
    show Steps _ _ _ (T5.setTop (mkF m 59 #[.val (.ref t), .val (.int (Int32.ofNat (2 * i + 1)))] [(.int (cs.getD i 0))])) _
    exact retN X5 hx (t := .char) Bd.returns (by simp) (hb hby d37_59) hr
  · show own_Q Z (some (.int (cs.getD i 0))) h0 n0 _ T5.heap _
    rw [e5]
    exact ⟨own_some (own_narc CH), N0, rfl⟩
theorem d49_0 : decode jdk_52_method_83_code 0 = .ok (.iload_n 1, 1) := by decide +kernel
theorem d49_1 : decode jdk_52_method_83_code 1 = .ok (.aload_n 0, 1) := by decide +kernel
theorem pd__I_B_V : parseMethodDescriptor "(I[B)V" = some ⟨[.int, (.array .byte)], none⟩ := by decide +kernel
theorem d49_2 : decode jdk_52_method_83_code 2 = .ok (.invokestatic 67, 3) := by decide +kernel
theorem d49_5 : decode jdk_52_method_83_code 5 = .ok (.aload_n 0, 1) := by decide +kernel
theorem d49_6 : decode jdk_52_method_83_code 6 = .ok (.iload_n 1, 1) := by decide +kernel
theorem pd___BI_C : parseMethodDescriptor "([BI)C" = some ⟨[(.array .byte), .int], some .char⟩ := by decide +kernel
theorem d49_7 : decode jdk_52_method_83_code 7 = .ok (.invokestatic 71, 3) := by decide +kernel
theorem d49_10 : decode jdk_52_method_83_code 10 = .ok (.ireturn, 1) := by decide +kernel
theorem pn_49 : plainName "java/lang/StringUTF16" = true := by first | (simp [plainName, overriddenIn]; done) | decide +kernel
theorem ef_49_rr (m : MethodId) (x0 : Addr) (x1 : Int32) : entryFrame m #[(.ref x0), (.int x1)] 2 = mkF m 0 #[.val (.ref x0), .val (.int x1)] [] := by first | (simp [entryFrame, mkF, argsToLocals, Value.category]; done) | rfl
theorem rmUCA (l : Launch) (Z : State) (a0 : Array Value) (hw : HW a0 Z) (ws : List Jvm.Cond) (G1 : Int32) (G3 : Value) (G4 : Value) (t : Addr) (k : ClassId) (cs : List Int32) (i : Nat) (h0 : Heap) (n0 : Nat) (Z0 : n0 ≤ h0.size) (EN : own_env Z G1 G3 G4) (X00 : Old Z n0 h0) (V_t : Arv Z h0 t k .byte (Int32.ofNat (2 * cs.length)) (own_wide cs) (.int 0)) (CH : own_ch (cs.getD i 0)) (hlen : cs.length ≤ 15) (hi : i < cs.length) :
    MetFree l y_18 (head1 (Jvm.Cond.code y_18 jdk_52_method_83_code 2 (some .char) :: ws) (Rm 3 0 0 40)) (fun a_ U_ => a_ = #[(.ref t), (.int (Int32.ofNat i))] ∧ Z.Warmed39 U_.vm ∧ U_.heap = h0) (fun _ _ _ _ _ => True) (fun _ U_ o_ U1_ => ∃ v_ L_, o_ = .returned v_ ∧ own_Q Z (some (.int (cs.getD i 0))) h0 n0 v_ U1_.heap L_ ∧ FrameEnd U_ o_ U1_ L_ (Rm 3 0 0 40).cells (Rm 3 0 0 40).slots) := by
  refine MetFree.of_bodySF (plainFor_of_name pn_49) hisR ?_
  intro p e s m args below meth c s₁ Bd hml0 hP hK
  obtain ⟨rfl, hZ, hh⟩ := hP
  have hx := Bd.exec
  have hby := Bd.bytes
  have hml : c.maxLocals = 2 := hml0
  have hown : s.vm.findClass "java/lang/StringUTF16" = some m.cls := findClass_of_methodNamed Bd.named
  have hnm := (name_of_methodNamed Bd.named Bd.method).1
  have X0 : Stand p l e (Rm 3 0 0 40) s m #[(.ref t), (.int (Int32.ofNat i))] below meth c s₁ [] 0 0 := Stand.of_body Bd
  have e0 : s₁.heap = h0 := by rw [← hh, Bd.state]; rfl
  have N0 := Fr.nil n0
  have pre0 : ∀ tt, Steps p.tables e below (s₁.setTop (mkF m 0 #[.val (.ref t), .val (.int (Int32.ofNat i))] [])) tt → Steps p.tables e below (s₁.setTop (entryFrame m #[(.ref t), (.int (Int32.ofNat i))] 2)) tt := fun tt kk => castTop (ef_49_rr m t (Int32.ofNat i)) kk
  have EN0 := EN
  obtain ⟨O2, P5, O4, rG3, O6, O7, O8⟩ := EN
  obtain ⟨_, _, ⟨T1, L1, k1, n1⟩, -, X1, ⟨Lc1, hQ1, l1, y1, z1⟩, st1⟩ := Jvm.LawKit.callS X0 hx (y := y_7) hown (mvT hZ (hw _ (tk 224 rfl))) (mvT hZ (hw _ (tk 225 rfl))) (mvT hZ (hw _ (tk 23 rfl))) (mvT hZ (hw _ (tk 226 rfl))) (by decide) (backOf (W := 0) (rmUCI l Z a0 hw [] G1 G3 G4 (Int32.ofNat i) t k cs.length (own_wide cs) h0 n0 Z0 EN0 X00 (own_in hi (by omega)).1 (own_in hi (by omega)).2 V_t (by omega)) hZ (hw _ (tk 226 rfl)) (hw _ (tk 23 rfl)) (by decide) (by decide)) (g := (mkF m 2 #[.val (.ref t), .val (.int (Int32.ofNat i))] [(.ref t), (.int (Int32.ofNat i))])) rfl (by rw [hml]; rfl) (argsL := [(.int (Int32.ofNat i)), (.ref t)]) (rest := []) (lenOf pd__I_B_V rfl) rfl (by show 2 * 0 + _ ≤ _; exact Nat.le_of_eq rfl) (hb hby d49_2) (fun _ _ => ⟨rfl, e0, (by decide : 0 + 0 ≤ _), (by decide : 0 + 0 ≤ _)⟩)
  dsimp only [Pt.U, Pt.locs, Pt.cells, Pt.slots] at X1 l1 y1 z1 st1 hQ1
  subst l1 y1 z1
  obtain ⟨rfl, Nq1, eq1⟩ := hQ1
  have N1 := Fr.app N0 Nq1
  obtain ⟨_, _, ⟨T2, L2, k2, n2⟩, -, X2, ⟨Lc2, hQ2, l2, y2, z2⟩, st2⟩ := Jvm.LawKit.callS X1 hx (y := y_17) hown (mvT hZ (hw _ (tk 176 rfl))) (mvT hZ (hw _ (tk 177 rfl))) (mvT hZ (hw _ (tk 23 rfl))) (mvT hZ (hw _ (tk 178 rfl))) (by decide) (backOf (W := 0) (rmGC l Z a0 hw [] G1 G3 G4 t k cs i h0 n0 Z0 EN0 X00 V_t CH hlen hi) hZ (hw _ (tk 178 rfl)) (hw _ (tk 23 rfl)) (by decide) (by decide)) (g := (mkF m 7 #[.val (.ref t), .val (.int (Int32.ofNat i))] [(.int (Int32.ofNat i)), (.ref t)])) rfl (by rw [hml]; rfl) (argsL := [(.ref t), (.int (Int32.ofNat i))]) (rest := []) (lenOf pd___BI_C rfl) rfl (by show 2 * 0 + _ ≤ _; exact Nat.le_of_eq rfl) (hb hby d49_7) (fun _ _ => ⟨rfl, eq1, (by decide : 0 + 0 ≤ _), (by decide : 0 + 0 ≤ _)⟩)
  dsimp only [Pt.U, Pt.locs, Pt.cells, Pt.slots] at X2 l2 y2 z2 st2 hQ2
  subst l2 y2 z2
  obtain ⟨rfl, Nq2, eq2⟩ := hQ2
  have N2 := Fr.app N1 Nq2
  obtain ⟨fs, hr, hrun, hended, hW, hsame⟩ := X2.leave (v := some (.int (nar .char (cs.getD i 0)))) (fun h => by rw [Bd.returns] at h; cases h)
  refine ⟨_, _, pre0 _ ?_, hrun, hended, _, _, rfl, ?_, ⟨_, rfl⟩, hW, hsame.mono (by decide) (by decide)⟩
  · show Steps _ _ _ (s₁.setTop (mkF m 0 #[.val (.ref t), .val (.int (Int32.ofNat i))] [])) _
    refine XS.iloadN X0.here hx rfl (hb hby d49_0) rfl ?_
    refine XS.aloadN X0.here hx rfl (hb hby d49_1) rfl rfl ?_
    show Steps _ _ _ (s₁.setTop (mkF m 2 #[.val (.ref t), .val (.int (Int32.ofNat i))] [(.ref t), (.int (Int32.ofNat i))])) _
    refine st1 _ ?_
    show Steps _ _ _ (T1.setTop (mkF m 5 #[.val (.ref t), .val (.int (Int32.ofNat i))] [])) _
    refine XS.aloadN X1.here hx rfl (hb hby d49_5) rfl rfl ?_
    refine XS.iloadN X1.here hx rfl (hb hby d49_6) rfl ?_
    show Steps _ _ _ (T1.setTop (mkF m 7 #[.val (.ref t), .val (.int (Int32.ofNat i))] [(.int (Int32.ofNat i)), (.ref t)])) _
    refine st2 _ ?_
    show Steps _ _ _ (T2.setTop (mkF m 10 #[.val (.ref t), .val (.int (Int32.ofNat i))] [(.int (cs.getD i 0))])) _
    exact retN X2 hx (t := .char) Bd.returns (by simp) (hb hby d49_10) hr
  · show own_Q Z (some (.int (cs.getD i 0))) h0 n0 _ T2.heap _
    rw [eq2]
    exact ⟨own_some (own_narc CH), N2, rfl⟩
theorem d12_0 : decode jdk_42_method_56_code 0 = .ok (.aload_n 0, 1) := by decide +kernel
theorem pd___Z : parseMethodDescriptor "()Z" = some ⟨[], some .boolean⟩ := by decide +kernel
theorem d12_1 : decode jdk_42_method_56_code 1 = .ok (.invokevirtual 492, 3) := by decide +kernel
theorem d12_4 : decode jdk_42_method_56_code 4 = .ok (.ifCond .eq 12, 3) := by decide +kernel
theorem d12_7 : decode jdk_42_method_56_code 7 = .ok (.aload_n 0, 1) := by decide +kernel
theorem d12_8 : decode jdk_42_method_56_code 8 = .ok (.getfield 9, 3) := by decide +kernel
theorem d12_11 : decode jdk_42_method_56_code 11 = .ok (.iload_n 1, 1) := by decide +kernel
theorem d12_12 : decode jdk_42_method_56_code 12 = .ok (.invokestatic 495, 3) := by decide +kernel
theorem d12_15 : decode jdk_42_method_56_code 15 = .ok (.ireturn, 1) := by decide +kernel
theorem pn_12 : plainName "java/lang/String" = true := by first | (simp [plainName, overriddenIn]; done) | decide +kernel
theorem ef_12_rr (m : MethodId) (x0 : Addr) (x1 : Int32) : entryFrame m #[(.ref x0), (.int x1)] 2 = mkF m 0 #[.val (.ref x0), .val (.int x1)] [] := by first | (simp [entryFrame, mkF, argsToLocals, Value.category]; done) | rfl
theorem rmCAl (l : Launch) (Z : State) (a0 : Array Value) (hw : HW a0 Z) (ws : List Jvm.Cond) (G1 : Int32) (G3 : Value) (G4 : Value) (x : Addr) (t : Addr) (k : ClassId) (cs : List Int32) (i : Nat) (h0 : Heap) (n0 : Nat) (Z0 : n0 ≤ h0.size) (EN : own_env Z G1 G3 G4) (X00 : Old Z n0 h0) (E_x : Exa Z h0 x "java/lang/String") (F_value_x : Fld Z h0 x "java/lang/String" "value" "[B" (.ref t)) (F_coder_x : Fld Z h0 x "java/lang/String" "coder" "B" (.int 0)) (V_t : Arv Z h0 t k .byte (Int32.ofNat cs.length) (own_lat cs) (.int 0)) (hl : own_l1 cs) (hlen : cs.length ≤ 15) (hi : i < cs.length) :
    MetFree l y_19 (head1 (Jvm.Cond.code y_19 jdk_42_method_56_code 2 (some .char) :: ws) (Rm 4 0 0 53)) (fun a_ U_ => a_ = #[(.ref x), (.int (Int32.ofNat i))] ∧ Z.Warmed39 U_.vm ∧ U_.heap = h0) (fun _ _ _ _ _ => True) (fun _ U_ o_ U1_ => ∃ v_ L_, o_ = .returned v_ ∧ own_Q Z (some (.int (cs.getD i 0))) h0 n0 v_ U1_.heap L_ ∧ FrameEnd U_ o_ U1_ L_ (Rm 4 0 0 53).cells (Rm 4 0 0 53).slots) := by
  refine MetFree.of_bodySF (plainFor_of_name pn_12) hisR ?_
  intro p e s m args below meth c s₁ Bd hml0 hP hK
  obtain ⟨rfl, hZ, hh⟩ := hP
  have hx := Bd.exec
  have hby := Bd.bytes
  have hml : c.maxLocals = 2 := hml0
  have hown : s.vm.findClass "java/lang/String" = some m.cls := findClass_of_methodNamed Bd.named
  have hnm := (name_of_methodNamed Bd.named Bd.method).1
  have X0 : Stand p l e (Rm 4 0 0 53) s m #[(.ref x), (.int (Int32.ofNat i))] below meth c s₁ [] 0 0 := Stand.of_body Bd
  have e0 : s₁.heap = h0 := by rw [← hh, Bd.state]; rfl
  have N0 := Fr.nil n0
  have pre0 : ∀ tt, Steps p.tables e below (s₁.setTop (mkF m 0 #[.val (.ref x), .val (.int (Int32.ofNat i))] [])) tt → Steps p.tables e below (s₁.setTop (entryFrame m #[(.ref x), (.int (Int32.ofNat i))] 2)) tt := fun tt kk => castTop (ef_12_rr m x (Int32.ofNat i)) kk
  have EN0 := EN
  obtain ⟨O2, P5, O4, rG3, O6, O7, O8⟩ := EN
  have CH : own_ch (cs.getD i 0) := own_up (own_l1_at hl hi).1 (own_l1_at hl hi).2
  obtain ⟨cq1, kq1, q1a, q1b, q1c⟩ := isOf hZ e0 E_x
  obtain ⟨_, _, ⟨T1, L1, k1, n1⟩, -, X1, ⟨Lc1, hQ1, l1, y1, z1⟩, st1⟩ := X0.virtualBack hx (y := y_14) (z := y_14) hown (mvT hZ (hw _ (tk 75 rfl))) (mvT hZ (hw _ (tk 76 rfl))) (notFace_of_selects (args := #[]) (mvT hZ (hw _ (tk 78 rfl)))) (mvT hZ (hw _ (tk 78 rfl))) (mvT hZ (hw _ (tk 77 rfl))) (by decide) (backOf (W := 0) (rmSL0 l Z a0 hw [] G1 G3 G4 x h0 n0 Z0 EN0 X00 E_x F_coder_x) hZ (hw _ (tk 79 rfl)) (hw _ (tk 9 rfl)) (by decide) (by decide)) q1a q1c (g := (mkF m 1 #[.val (.ref x), .val (.int (Int32.ofNat i))] [(.ref x)])) rfl (by rw [hml]; rfl) (Steps.refl _) (argsL := []) (rest := []) (lenOf pd___Z rfl) rfl (by show 2 * 0 + _ ≤ _; exact Nat.le_of_eq rfl) (hb hby d12_1) (fun _ _ => ⟨rfl, e0, (by decide : 0 + 0 ≤ _), (by decide : 0 + 0 ≤ _)⟩)
  dsimp only [Pt.U, Pt.locs, Pt.cells, Pt.slots] at X1 l1 y1 z1 st1 hQ1
  subst l1 y1 z1
  obtain ⟨rfl, Nq1, eq1⟩ := hQ1
  have N1 := Fr.app N0 Nq1
  obtain ⟨T2, X2, e2, st2⟩ := getF X1 hx hZ hown (host := "") (Or.inl (hw _ (tk 34 rfl))) Via.refl eq1 F_value_x (g := (mkF m 8 #[.val (.ref x), .val (.int (Int32.ofNat i))] [(.ref x)])) rfl rfl (hb hby d12_8)
  obtain ⟨_, _, ⟨T3, L3, k3, n3⟩, -, X3, ⟨Lc3, hQ3, l3, y3, z3⟩, st3⟩ := Jvm.LawKit.callS X2 hx (y := y_16) hown (mvT hZ (hw _ (tk 80 rfl))) (mvT hZ (hw _ (tk 81 rfl))) (mvT hZ (hw _ (tk 82 rfl))) (mvT hZ (hw _ (tk 83 rfl))) (by decide) (backOf (W := 0) (rmLCA l Z a0 hw [] G1 G3 G4 t k cs i h0 n0 Z0 EN0 X00 V_t hl hlen hi) hZ (hw _ (tk 83 rfl)) (hw _ (tk 82 rfl)) (by decide) (by decide)) (g := (mkF m 12 #[.val (.ref x), .val (.int (Int32.ofNat i))] [(.int (Int32.ofNat i)), (.ref t)])) rfl (by rw [hml]; rfl) (argsL := [(.ref t), (.int (Int32.ofNat i))]) (rest := []) (lenOf pd___BI_C rfl) rfl (by show 2 * 0 + _ ≤ _; exact Nat.le_of_eq rfl) (hb hby d12_12) (fun _ _ => ⟨rfl, e2, (by decide : 0 + 0 ≤ _), (by decide : 0 + 0 ≤ _)⟩)
  dsimp only [Pt.U, Pt.locs, Pt.cells, Pt.slots] at X3 l3 y3 z3 st3 hQ3
  subst l3 y3 z3
  obtain ⟨rfl, Nq3, eq3⟩ := hQ3
  have N3 := Fr.app N1 Nq3
  obtain ⟨fs, hr, hrun, hended, hW, hsame⟩ := X3.leave (v := some (.int (nar .char (cs.getD i 0)))) (fun h => by rw [Bd.returns] at h; cases h)
  refine ⟨_, _, pre0 _ ?_, hrun, hended, _, _, rfl, ?_, ⟨_, rfl⟩, hW, hsame.mono (by decide) (by decide)⟩
  · show Steps _ _ _ (s₁.setTop (mkF m 0 #[.val (.ref x), .val (.int (Int32.ofNat i))] [])) _
    refine XS.aloadN X0.here hx rfl (hb hby d12_0) rfl rfl ?_
    show Steps _ _ _ (s₁.setTop (mkF m 1 #[.val (.ref x), .val (.int (Int32.ofNat i))] [(.ref x)])) _
    refine st1.trans ?_
    show Steps _ _ _ (T1.setTop (mkF m 4 #[.val (.ref x), .val (.int (Int32.ofNat i))] [(.int 1)])) _
    refine XS.ifNo X1.here hx rfl (hb hby d12_4) rfl ((if0 _ _).trans (feq (by decide : ¬ ((1 : Int32) = (0 : Int32)))).1) ?_
    refine XS.aloadN X1.here hx rfl (hb hby d12_7) rfl rfl ?_
    show Steps _ _ _ (T1.setTop (mkF m 8 #[.val (.ref x), .val (.int (Int32.ofNat i))] [(.ref x)])) _
    refine st2 _ ?_
    show Steps _ _ _ (T2.setTop (mkF m 11 #[.val (.ref x), .val (.int (Int32.ofNat i))] [(.ref t)])) _
    refine XS.iloadN X2.here hx rfl (hb hby d12_11) rfl ?_
    show Steps _ _ _ (T2.setTop (mkF m 12 #[.val (.ref x), .val (.int (Int32.ofNat i))] [(.int (Int32.ofNat i)), (.ref t)])) _
    refine st3 _ ?_
    show Steps _ _ _ (T3.setTop (mkF m 15 #[.val (.ref x), .val (.int (Int32.ofNat i))] [(.int (cs.getD i 0))])) _
    exact retN X3 hx (t := .char) Bd.returns (by simp) (hb hby d12_15) hr
  · show own_Q Z (some (.int (cs.getD i 0))) h0 n0 _ T3.heap _
    rw [eq3]
    exact ⟨own_some (own_narc CH), N3, rfl⟩
theorem d12_16 : decode jdk_42_method_56_code 16 = .ok (.aload_n 0, 1) := by decide +kernel
theorem d12_17 : decode jdk_42_method_56_code 17 = .ok (.getfield 9, 3) := by decide +kernel
theorem d12_20 : decode jdk_42_method_56_code 20 = .ok (.iload_n 1, 1) := by decide +kernel
theorem d12_21 : decode jdk_42_method_56_code 21 = .ok (.invokestatic 498, 3) := by decide +kernel
theorem d12_24 : decode jdk_42_method_56_code 24 = .ok (.ireturn, 1) := by decide +kernel
theorem rmCAw (l : Launch) (Z : State) (a0 : Array Value) (hw : HW a0 Z) (ws : List Jvm.Cond) (G1 : Int32) (G3 : Value) (G4 : Value) (x : Addr) (t : Addr) (k : ClassId) (cs : List Int32) (i : Nat) (h0 : Heap) (n0 : Nat) (Z0 : n0 ≤ h0.size) (EN : own_env Z G1 G3 G4) (X00 : Old Z n0 h0) (E_x : Exa Z h0 x "java/lang/String") (F_value_x : Fld Z h0 x "java/lang/String" "value" "[B" (.ref t)) (F_coder_x : Fld Z h0 x "java/lang/String" "coder" "B" (.int 1)) (V_t : Arv Z h0 t k .byte (Int32.ofNat (2 * cs.length)) (own_wide cs) (.int 0)) (hlen : cs.length ≤ 15) (CH : own_ch (cs.getD i 0)) (hi : i < cs.length) :
    MetFree l y_19 (head1 (Jvm.Cond.code y_19 jdk_42_method_56_code 2 (some .char) :: ws) (Rm 4 0 0 53)) (fun a_ U_ => a_ = #[(.ref x), (.int (Int32.ofNat i))] ∧ Z.Warmed39 U_.vm ∧ U_.heap = h0) (fun _ _ _ _ _ => True) (fun _ U_ o_ U1_ => ∃ v_ L_, o_ = .returned v_ ∧ own_Q Z (some (.int (cs.getD i 0))) h0 n0 v_ U1_.heap L_ ∧ FrameEnd U_ o_ U1_ L_ (Rm 4 0 0 53).cells (Rm 4 0 0 53).slots) := by
  refine MetFree.of_bodySF (plainFor_of_name pn_12) hisR ?_
  intro p e s m args below meth c s₁ Bd hml0 hP hK
  obtain ⟨rfl, hZ, hh⟩ := hP
  have hx := Bd.exec
  have hby := Bd.bytes
  have hml : c.maxLocals = 2 := hml0
  have hown : s.vm.findClass "java/lang/String" = some m.cls := findClass_of_methodNamed Bd.named
  have hnm := (name_of_methodNamed Bd.named Bd.method).1
  have X0 : Stand p l e (Rm 4 0 0 53) s m #[(.ref x), (.int (Int32.ofNat i))] below meth c s₁ [] 0 0 := Stand.of_body Bd
  have e0 : s₁.heap = h0 := by rw [← hh, Bd.state]; rfl
  have N0 := Fr.nil n0
  have pre0 : ∀ tt, Steps p.tables e below (s₁.setTop (mkF m 0 #[.val (.ref x), .val (.int (Int32.ofNat i))] [])) tt → Steps p.tables e below (s₁.setTop (entryFrame m #[(.ref x), (.int (Int32.ofNat i))] 2)) tt := fun tt kk => castTop (ef_12_rr m x (Int32.ofNat i)) kk
  have EN0 := EN
  obtain ⟨O2, P5, O4, rG3, O6, O7, O8⟩ := EN
  obtain ⟨cq1, kq1, q1a, q1b, q1c⟩ := isOf hZ e0 E_x
  obtain ⟨_, _, ⟨T1, L1, k1, n1⟩, -, X1, ⟨Lc1, hQ1, l1, y1, z1⟩, st1⟩ := X0.virtualBack hx (y := y_14) (z := y_14) hown (mvT hZ (hw _ (tk 75 rfl))) (mvT hZ (hw _ (tk 76 rfl))) (notFace_of_selects (args := #[]) (mvT hZ (hw _ (tk 78 rfl)))) (mvT hZ (hw _ (tk 78 rfl))) (mvT hZ (hw _ (tk 77 rfl))) (by decide) (backOf (W := 0) (rmSL1 l Z a0 hw [] G1 G3 G4 x h0 n0 Z0 EN0 X00 E_x F_coder_x) hZ (hw _ (tk 79 rfl)) (hw _ (tk 9 rfl)) (by decide) (by decide)) q1a q1c (g := (mkF m 1 #[.val (.ref x), .val (.int (Int32.ofNat i))] [(.ref x)])) rfl (by rw [hml]; rfl) (Steps.refl _) (argsL := []) (rest := []) (lenOf pd___Z rfl) rfl (by show 2 * 0 + _ ≤ _; exact Nat.le_of_eq rfl) (hb hby d12_1) (fun _ _ => ⟨rfl, e0, (by decide : 0 + 0 ≤ _), (by decide : 0 + 0 ≤ _)⟩)
  dsimp only [Pt.U, Pt.locs, Pt.cells, Pt.slots] at X1 l1 y1 z1 st1 hQ1
  subst l1 y1 z1
  obtain ⟨rfl, Nq1, eq1⟩ := hQ1
  have N1 := Fr.app N0 Nq1
  obtain ⟨T2, X2, e2, st2⟩ := getF X1 hx hZ hown (host := "") (Or.inl (hw _ (tk 34 rfl))) Via.refl eq1 F_value_x (g := (mkF m 17 #[.val (.ref x), .val (.int (Int32.ofNat i))] [(.ref x)])) rfl rfl (hb hby d12_17)
  obtain ⟨_, _, ⟨T3, L3, k3, n3⟩, -, X3, ⟨Lc3, hQ3, l3, y3, z3⟩, st3⟩ := Jvm.LawKit.callS X2 hx (y := y_18) hown (mvT hZ (hw _ (tk 221 rfl))) (mvT hZ (hw _ (tk 222 rfl))) (mvT hZ (hw _ (tk 23 rfl))) (mvT hZ (hw _ (tk 223 rfl))) (by decide) (backOf (W := 0) (rmUCA l Z a0 hw [] G1 G3 G4 t k cs i h0 n0 Z0 EN0 X00 V_t CH hlen hi) hZ (hw _ (tk 223 rfl)) (hw _ (tk 23 rfl)) (by decide) (by decide)) (g := (mkF m 21 #[.val (.ref x), .val (.int (Int32.ofNat i))] [(.int (Int32.ofNat i)), (.ref t)])) rfl (by rw [hml]; rfl) (argsL := [(.ref t), (.int (Int32.ofNat i))]) (rest := []) (lenOf pd___BI_C rfl) rfl (by show 2 * 0 + _ ≤ _; exact Nat.le_of_eq rfl) (hb hby d12_21) (fun _ _ => ⟨rfl, e2, (by decide : 0 + 0 ≤ _), (by decide : 0 + 0 ≤ _)⟩)
  dsimp only [Pt.U, Pt.locs, Pt.cells, Pt.slots] at X3 l3 y3 z3 st3 hQ3
  subst l3 y3 z3
  obtain ⟨rfl, Nq3, eq3⟩ := hQ3
  have N3 := Fr.app N1 Nq3
  obtain ⟨fs, hr, hrun, hended, hW, hsame⟩ := X3.leave (v := some (.int (nar .char (cs.getD i 0)))) (fun h => by rw [Bd.returns] at h; cases h)
  refine ⟨_, _, pre0 _ ?_, hrun, hended, _, _, rfl, ?_, ⟨_, rfl⟩, hW, hsame.mono (by decide) (by decide)⟩
  · show Steps _ _ _ (s₁.setTop (mkF m 0 #[.val (.ref x), .val (.int (Int32.ofNat i))] [])) _
    refine XS.aloadN X0.here hx rfl (hb hby d12_0) rfl rfl ?_
    show Steps _ _ _ (s₁.setTop (mkF m 1 #[.val (.ref x), .val (.int (Int32.ofNat i))] [(.ref x)])) _
    refine st1.trans ?_
    show Steps _ _ _ (T1.setTop (mkF m 4 #[.val (.ref x), .val (.int (Int32.ofNat i))] [(.int 0)])) _
    refine XS.ifYes X1.here hx rfl (pc0 := 4) (pc' := 16) rfl (hb hby d12_4) rfl ((if0 _ _).trans (teq (by decide : (0 : Int32) = (0 : Int32))).1) (by decide) (by decide) ?_
    refine XS.aloadN X1.here hx rfl (hb hby d12_16) rfl rfl ?_
    show Steps _ _ _ (T1.setTop (mkF m 17 #[.val (.ref x), .val (.int (Int32.ofNat i))] [(.ref x)])) _
    refine st2 _ ?_
    show Steps _ _ _ (T2.setTop (mkF m 20 #[.val (.ref x), .val (.int (Int32.ofNat i))] [(.ref t)])) _
    refine XS.iloadN X2.here hx rfl (hb hby d12_20) rfl ?_
    show Steps _ _ _ (T2.setTop (mkF m 21 #[.val (.ref x), .val (.int (Int32.ofNat i))] [(.int (Int32.ofNat i)), (.ref t)])) _
    refine st3 _ ?_
    show Steps _ _ _ (T3.setTop (mkF m 24 #[.val (.ref x), .val (.int (Int32.ofNat i))] [(.int (cs.getD i 0))])) _
    exact retN X3 hx (t := .char) Bd.returns (by simp) (hb hby d12_24) hr
  · show own_Q Z (some (.int (cs.getD i 0))) h0 n0 _ T3.heap _
    rw [eq3]
    exact ⟨own_some (own_narc CH), N3, rfl⟩
theorem rmCA (l : Launch) (Z : State) (a0 : Array Value) (hw : HW a0 Z) (ws : List Jvm.Cond) (G1 : Int32) (G3 G4 : Value) (x : Addr) (cs : List Int32) (i : Nat) (h0 : Heap) (n0 : Nat) (Z0 : n0 ≤ h0.size) (EN : own_env Z G1 G3 G4) (X00 : Old Z n0 h0) (S : own_st Z h0 x cs) (hlen : cs.length ≤ 15) (hc : ∀ c ∈ cs, own_ch c) (hi : i < cs.length) :
    MetFree l y_19 (head1 (Jvm.Cond.code y_19 jdk_42_method_56_code 2 (some .char) :: ws) (Rm 4 0 0 53)) (fun a_ U_ => a_ = #[(.ref x), (.int (Int32.ofNat i))] ∧ Z.Warmed39 U_.vm ∧ U_.heap = h0) (fun _ _ _ _ _ => True) (fun _ U_ o_ U1_ => ∃ v_ L_, o_ = .returned v_ ∧ own_Q Z (some (.int (cs.getD i 0))) h0 n0 v_ U1_.heap L_ ∧ FrameEnd U_ o_ U1_ L_ (Rm 4 0 0 53).cells (Rm 4 0 0 53).slots) := by
  obtain ⟨t, k, S1, S2, ⟨S3, S4, S5⟩ | ⟨S3, S4⟩⟩ := S
  · exact rmCAl l Z a0 hw ws G1 G3 G4 x t k cs i h0 n0 Z0 EN X00 S1 S2 S3 S4 S5 hlen hi
  · exact rmCAw l Z a0 hw ws G1 G3 G4 x t k cs i h0 n0 Z0 EN X00 S1 S2 S3 S4 hlen (own_atch hc hi) hi
theorem own_st_exa {Z : State} {h : Heap} {x : Addr} {cs : List Int32} (S : own_st Z h x cs) : Exa Z h x "java/lang/String" := S.choose_spec.choose_spec.1
theorem own_st_ext {Z : State} {h h' : Heap} {x : Addr} {cs : List Int32} (S : own_st Z h x cs) (E : Ext h h') : own_st Z h' x cs := by
  obtain ⟨t, k, S1, S2, ⟨S3, S4, S5⟩ | ⟨S3, S4⟩⟩ := S
  · exact ⟨t, k, S1.ext E, S2.ext E, Or.inl ⟨S3.ext E, S4.ext E, S5⟩⟩
  · exact ⟨t, k, S1.ext E, S2.ext E, Or.inr ⟨S3.ext E, S4.ext E⟩⟩
theorem own_st_keep {Z : State} {h h' : Heap} {x : Addr} {cs : List Int32} (S : own_st Z h x cs) (K : Keep h h' []) : own_st Z h' x cs := by
  obtain ⟨t, k, S1, S2, ⟨S3, S4, S5⟩ | ⟨S3, S4⟩⟩ := S
  · exact ⟨t, k, S1.keep K, S2.keep K nin0, Or.inl ⟨S3.keep K nin0, S4.keep K nin0, S5⟩⟩
  · exact ⟨t, k, S1.keep K, S2.keep K nin0, Or.inr ⟨S3.keep K nin0, S4.keep K nin0⟩⟩
theorem own_st_keepR {Z : State} {a0 : Array Value} {h h' : Heap} {x r : Addr} {C : String} {n : Nat} {cs : List Int32} (S : own_st Z h x cs) (K : Keep h h' [r]) (E : Exa Z h r C) (hC : "java/lang/String" ≠ C) (wi : (Jvm.Cond.instantiable C n).before a0 Z = true) : own_st Z h' x cs := by
  obtain ⟨t, k, S1, S2, S3⟩ := S
  have n1 : x ≠ r := Exa.ne S1 E hC
  have n2 : t ≠ r := by
    rcases S3 with ⟨-, S4, -⟩ | ⟨-, S4⟩ <;> exact Ne.symm (Exa.neArv E S4 wi)
  rcases S3 with ⟨S3, S4, S5⟩ | ⟨S3, S4⟩
  · exact ⟨t, k, S1.keep K, S2.keep K (ninS n1 nin0), Or.inl ⟨S3.keep K (ninS n1 nin0), S4.keep K (ninS n2 nin0), S5⟩⟩
  · exact ⟨t, k, S1.keep K, S2.keep K (ninS n1 nin0), Or.inr ⟨S3.keep K (ninS n1 nin0), S4.keep K (ninS n2 nin0)⟩⟩
theorem own_os6 {ar t : Addr} {x1 x3 x4 x5 v : Int32} {s6 : Slot} (h : One s6) : storeLocals #[.val (.ref ar), .val (.int x1), .val (.ref t), .val (.int x3), .val (.int x4), .val (.int x5), s6] 6 (.int v) = some #[.val (.ref ar), .val (.int x1), .val (.ref t), .val (.int x3), .val (.int x4), .val (.int x5), .val (.int v)] := by
  rcases h with rfl | ⟨w, rfl, hw⟩
  · rfl
  · cases w <;> first | rfl | (simp [Value.category] at hw)
theorem own_slt {cs : List Int32} {i : Nat} (h : i < cs.length) : (own_lat (cs.take i) ++ List.replicate 1 (Value.int (0 : Int32))).set i (Value.int (own_l8 (cs.getD i 0))) = own_lat (cs.take (i + 1)) := by
  rw [own_set_lat (cs.take i) (cs.getD i 0) _ i (by rw [List.length_take]; omega), own_take1 cs i h]
theorem own_lt4 {i : Nat} (h : i < 4) : (Int32.ofNat i) < (4 : Int32) := (own_lt (j := 4) (by omega) (by omega)).mpr h
theorem own_ne4 {i : Nat} (h : i < 4) : ¬ ((Int32.ofNat i) = (4 : Int32)) := fun q => by have := (own_eq (j := 4) (by omega) (by omega)).mp q; omega
theorem own_in4 {i : Nat} (h : i < 4) : ¬ (Int32.ofNat i) < (0 : Int32) ∧ (Int32.ofNat i) < (4 : Int32) := ⟨own_n0 (by omega), own_lt4 h⟩
def own_QCC (Z : State) (t : Addr) (k : ClassId) (as : List Int32) (n : Nat) (h0 : Heap) (n0 : Nat) (v : Option Value) (h : Heap) (L : List Loc) : Prop := v = some (.int (Int32.ofNat n)) ∧ Fr n0 L ∧ Keep h0 h [t] ∧ Arv Z h t k .byte (4 : Int32) (own_lat (as.take n)) (.int 0)
theorem own_neA {Z : State} {h : Heap} {a b : Addr} {k k' : ClassId} {ty ty' : FieldType} {n n' : Int32} {vs vs' : List Value} {d d' : Value} (F : Arv Z h a k ty n vs d) (G : Arv Z h b k' ty' n' vs' d') (hn : ty ≠ ty') : a ≠ b := by
  rintro rfl
  obtain ⟨c, A, -⟩ := F
  obtain ⟨c', A', -⟩ := G
  cases A.1.symm.trans A'.1
  obtain ⟨-, q, q1, comp, q2⟩ := A.2.1
  obtain ⟨-, r, r1, comp', r2⟩ := A'.2.1
  cases q1.symm.trans r1
  rw [q2] at r2
  cases r2
  exact hn rfl
theorem d6_0 : decode jdk_52_method_21_code 0 = .ok (.iconst 0, 1) := by decide +kernel
theorem d6_1 : decode jdk_52_method_21_code 1 = .ok (.istore 5, 2) := by decide +kernel
theorem d6_3 : decode jdk_52_method_21_code 3 = .ok (.iload 5, 2) := by decide +kernel
theorem d6_5 : decode jdk_52_method_21_code 5 = .ok (.iload 4, 2) := by decide +kernel
theorem d6_7 : decode jdk_52_method_21_code 7 = .ok (.if_icmp .ge 37, 3) := by decide +kernel
theorem d6_44 : decode jdk_52_method_21_code 44 = .ok (.iload 4, 2) := by decide +kernel
theorem d6_46 : decode jdk_52_method_21_code 46 = .ok (.ireturn, 1) := by decide +kernel
theorem pn_6 : plainName "java/lang/StringUTF16" = true := by first | (simp [plainName, overriddenIn]; done) | decide +kernel
theorem ef_6_rrrrr (m : MethodId) (x0 : Addr) (x1 : Int32) (x2 : Addr) (x3 : Int32) (x4 : Int32) : entryFrame m #[(.ref x0), (.int x1), (.ref x2), (.int x3), (.int x4)] 7 = mkF m 0 #[.val (.ref x0), .val (.int x1), .val (.ref x2), .val (.int x3), .val (.int x4), .unset, .unset] [] := by first | (simp [entryFrame, mkF, argsToLocals, Value.category]; done) | rfl
theorem d6_10 : decode jdk_52_method_21_code 10 = .ok (.aload_n 0, 1) := by decide +kernel
theorem d6_11 : decode jdk_52_method_21_code 11 = .ok (.iload_n 1, 1) := by decide +kernel
theorem d6_12 : decode jdk_52_method_21_code 12 = .ok (.caload, 1) := by decide +kernel
theorem d6_13 : decode jdk_52_method_21_code 13 = .ok (.istore 6, 2) := by decide +kernel
theorem d6_15 : decode jdk_52_method_21_code 15 = .ok (.iload 6, 2) := by decide +kernel
theorem d6_17 : decode jdk_52_method_21_code 17 = .ok (.sipush 255, 3) := by decide +kernel
theorem d6_20 : decode jdk_52_method_21_code 20 = .ok (.if_icmp .le 6, 3) := by decide +kernel
theorem d6_23 : decode jdk_52_method_21_code 23 = .ok (.iload 5, 2) := by decide +kernel
theorem d6_25 : decode jdk_52_method_21_code 25 = .ok (.ireturn, 1) := by decide +kernel
theorem d6_26 : decode jdk_52_method_21_code 26 = .ok (.aload_n 2, 1) := by decide +kernel
theorem d6_27 : decode jdk_52_method_21_code 27 = .ok (.iload_n 3, 1) := by decide +kernel
theorem d6_28 : decode jdk_52_method_21_code 28 = .ok (.iload 6, 2) := by decide +kernel
theorem d6_30 : decode jdk_52_method_21_code 30 = .ok (.i2b, 1) := by decide +kernel
theorem d6_31 : decode jdk_52_method_21_code 31 = .ok (.bastore, 1) := by decide +kernel
theorem d6_32 : decode jdk_52_method_21_code 32 = .ok (.iinc 1 1, 3) := by decide +kernel
theorem d6_35 : decode jdk_52_method_21_code 35 = .ok (.iinc 3 1, 3) := by decide +kernel
theorem d6_38 : decode jdk_52_method_21_code 38 = .ok (.iinc 5 1, 3) := by decide +kernel
theorem d6_41 : decode jdk_52_method_21_code 41 = .ok (.goto (-38), 3) := by decide +kernel
theorem tnCC {p : Program} {l : Launch} {e : Env} {s : State} {m : MethodId} {args : Array Value} {below : List Frame} {meth : Method} {c : Code} {s₁ : State} {L0 : List Loc} {Z : State} {a0 : Array Value} (ar : Addr) (ka : ClassId) (as : List Int32) (t : Addr) (k : ClassId) (i : Nat) (s6 : Slot) (h0 : Heap) (n0 : Nat) (X0 : Stand p l e (Rm 0 0 0 0) s m args below meth c s₁ L0 0 0) (hx : p.tables.exec = Jvm.exec) (hZ : Z.Warmed39 s.vm) (hw : HW a0 Z) (hby : c.code = jdk_52_method_21_code) (hml : c.maxLocals = 7) (hown : s.vm.findClass "java/lang/StringUTF16" = some m.cls) (e0 : s₁.heap = h0) (N0 : Fr n0 L0) (Z0 : n0 ≤ h0.size) (V_ar : Arv Z h0 ar ka .char (4 : Int32) (as.map Value.int) (.int 0)) (V_t : Arv Z h0 t k .byte (4 : Int32) (own_lat (as.take i)) (.int 0)) (g_t : n0 ≤ t) (h4 : as.length = 4) (hi : i < 4) (hq : ¬ ((255 : Int32) < (as.getD i 0))) (h6 : One s6) :
    ∃ (T' : State) (h' : Heap) (L' : List Loc) , Stand p l e (Rm 0 0 0 0) s m args below meth c T' L' 0 0 ∧ T'.heap = h' ∧ Fr n0 L' ∧ n0 ≤ h'.size ∧ Keep h0 h' [t] ∧ Arv Z h' t k .byte (4 : Int32) (own_lat (as.take (i + 1))) (.int 0) ∧ Arv Z h' ar ka .char (4 : Int32) (as.map Value.int) (.int 0) ∧ 
      ∀ target, Steps p.tables e below (T'.setTop (mkF m 3 #[.val (.ref ar), .val (.int (Int32.ofNat (i + 1))), .val (.ref t), .val (.int (Int32.ofNat (i + 1))), .val (.int 4), .val (.int (Int32.ofNat (i + 1))), .val (.int (as.getD i 0))] [])) target → Steps p.tables e below (s₁.setTop (mkF m 3 #[.val (.ref ar), .val (.int (Int32.ofNat i)), .val (.ref t), .val (.int (Int32.ofNat i)), .val (.int 4), .val (.int (Int32.ofNat i)), s6] [])) target := by
  obtain ⟨c1, Ar1, -, S1, M1, H1, -⟩ := id V_ar
  have hin1 := inb_of (j := (Int32.ofNat i)) S1 (own_in4 (by omega))
  obtain ⟨c2, Ar2, q2, S2, M2, H2, Gz2⟩ := id (V_t.pad (pad_rep (own_lat (as.take i)) (.int 0) 1))
  have hin2 := inb_of (j := (Int32.ofNat i)) S2 (own_in4 hi)
  obtain ⟨T2, h2, X2, e2, W2, st2⟩ := stB X0 hx hZ e0 Ar2 (j := (Int32.ofNat i)) hin2 (g := (mkF m 31 #[.val (.ref ar), .val (.int (Int32.ofNat i)), .val (.ref t), .val (.int (Int32.ofNat i)), .val (.int 4), .val (.int (Int32.ofNat i)), .val (.int (as.getD i 0))] [(.int ((as.getD i 0).toInt8.toInt32)), (.int (Int32.ofNat i)), (.ref t)])) rfl rfl (hb hby d6_31)
  have V2 : Arv Z h2 t k .byte (4 : Int32) (own_lat (as.take (i + 1))) (.int 0) := (by rw [← (own_slt (by omega))]; exact Arv.set Ar2 q2 S2 M2 H2 Gz2 (fits_nar_byte _) W2 i (own_clamp (by omega)) (by rw [List.length_append, own_lat_len, List.length_take]; simp; omega))
  have N2 := Fr.snoc X2 N0 g_t
  have f3 := (V_ar.other W2 (own_neA V_ar V_t nofun))
  refine ⟨T2, h2, _, X2, e2, N2, (Nat.le_trans Z0 (Keep.of_wr W2).1), ((Keep.refl h0 [t]).wr W2 (Or.inl (tk 0 rfl))), V2, f3, fun target kt => ?_⟩
  show Steps _ _ _ (s₁.setTop (mkF m 3 #[.val (.ref ar), .val (.int (Int32.ofNat i)), .val (.ref t), .val (.int (Int32.ofNat i)), .val (.int 4), .val (.int (Int32.ofNat i)), s6] [])) _
  refine XS.iload X0.here hx rfl (hb hby d6_3) rfl ?_
  refine XS.iload X0.here hx rfl (hb hby d6_5) rfl ?_
  refine XS.icmpNo X0.here hx rfl (hb hby d6_7) rfl (tlt (own_lt4 hi)).2.1 ?_
  refine XS.aloadN X0.here hx rfl (hb hby d6_10) rfl rfl ?_
  refine XS.iloadN X0.here hx rfl (hb hby d6_11) rfl ?_
  show Steps _ _ _ (s₁.setTop (mkF m 12 #[.val (.ref ar), .val (.int (Int32.ofNat i)), .val (.ref t), .val (.int (Int32.ofNat i)), .val (.int 4), .val (.int (Int32.ofNat i)), s6] [(.int (Int32.ofNat i)), (.ref ar)])) _
  refine X0.caload hx (j := (Int32.ofNat i)) (v := (.int (as.getD i 0))) (by rw [e0]; exact Ar1.1) (State.isArrayOf_alike hZ.alike Ar1.2.1) Ar1.2.2 hin1 (H1.at hin1 (own_ca as i (by omega))) (g := (mkF m 12 #[.val (.ref ar), .val (.int (Int32.ofNat i)), .val (.ref t), .val (.int (Int32.ofNat i)), .val (.int 4), .val (.int (Int32.ofNat i)), s6] [(.int (Int32.ofNat i)), (.ref ar)])) rfl rfl (hb hby d6_12) _ ?_
  show Steps _ _ _ (s₁.setTop (mkF m 13 #[.val (.ref ar), .val (.int (Int32.ofNat i)), .val (.ref t), .val (.int (Int32.ofNat i)), .val (.int 4), .val (.int (Int32.ofNat i)), s6] [(.int (as.getD i 0))])) _
  refine XS.istore X0.here hx rfl (hb hby d6_13) rfl (l' := #[.val (.ref ar), .val (.int (Int32.ofNat i)), .val (.ref t), .val (.int (Int32.ofNat i)), .val (.int 4), .val (.int (Int32.ofNat i)), .val (.int (as.getD i 0))]) (own_os6 h6) ?_
  refine XS.iload X0.here hx rfl (hb hby d6_15) rfl ?_
  refine XS.sipush X0.here hx rfl (hb hby d6_17) ?_
  refine XS.icmpYes X0.here hx rfl (pc0 := 20) (pc' := 26) rfl (hb hby d6_20) rfl (flt hq).2.2.2 (by decide) (by decide) ?_
  refine XS.aloadN X0.here hx rfl (hb hby d6_26) rfl rfl ?_
  refine XS.iloadN X0.here hx rfl (hb hby d6_27) rfl ?_
  refine XS.iload X0.here hx rfl (hb hby d6_28) rfl ?_
  refine XS.i2b X0.here hx rfl (hb hby d6_30) rfl ?_
  show Steps _ _ _ (s₁.setTop (mkF m 31 #[.val (.ref ar), .val (.int (Int32.ofNat i)), .val (.ref t), .val (.int (Int32.ofNat i)), .val (.int 4), .val (.int (Int32.ofNat i)), .val (.int (as.getD i 0))] [(.int ((as.getD i 0).toInt8.toInt32)), (.int (Int32.ofNat i)), (.ref t)])) _
  refine st2 _ ?_
  show Steps _ _ _ (T2.setTop (mkF m 32 #[.val (.ref ar), .val (.int (Int32.ofNat i)), .val (.ref t), .val (.int (Int32.ofNat i)), .val (.int 4), .val (.int (Int32.ofNat i)), .val (.int (as.getD i 0))] [])) _
  refine XS.iinc X2.here hx rfl (hb hby d6_32) rfl (l' := #[.val (.ref ar), .val (.int ((Int32.ofNat i) + (1 : Int32))), .val (.ref t), .val (.int (Int32.ofNat i)), .val (.int 4), .val (.int (Int32.ofNat i)), .val (.int (as.getD i 0))]) rfl ?_
  refine XS.iinc X2.here hx rfl (hb hby d6_35) rfl (l' := #[.val (.ref ar), .val (.int ((Int32.ofNat i) + (1 : Int32))), .val (.ref t), .val (.int ((Int32.ofNat i) + (1 : Int32))), .val (.int 4), .val (.int (Int32.ofNat i)), .val (.int (as.getD i 0))]) rfl ?_
  refine XS.iinc X2.here hx rfl (hb hby d6_38) rfl (l' := #[.val (.ref ar), .val (.int ((Int32.ofNat i) + (1 : Int32))), .val (.ref t), .val (.int ((Int32.ofNat i) + (1 : Int32))), .val (.int 4), .val (.int ((Int32.ofNat i) + (1 : Int32))), .val (.int (as.getD i 0))]) rfl ?_
  refine XS.goto X2.here hx rfl (pc0 := 41) (pc' := 3) rfl (hb hby d6_41) (by decide) (by decide) ?_
  show Steps _ _ _ (T2.setTop (mkF m 3 #[.val (.ref ar), .val (.int ((Int32.ofNat i) + (1 : Int32))), .val (.ref t), .val (.int ((Int32.ofNat i) + (1 : Int32))), .val (.int 4), .val (.int ((Int32.ofNat i) + (1 : Int32))), .val (.int (as.getD i 0))] [])) _
  rw [(own_succ i)]
  show Steps _ _ _ (T2.setTop (mkF m 3 #[.val (.ref ar), .val (.int (Int32.ofNat (i + 1))), .val (.ref t), .val (.int (Int32.ofNat (i + 1))), .val (.int 4), .val (.int (Int32.ofNat (i + 1))), .val (.int (as.getD i 0))] [])) _
  exact kt
theorem lpCC {p : Program} {l : Launch} {e : Env} {s : State} {m : MethodId} {args : Array Value} {below : List Frame} {meth : Method} {c : Code} {Z : State} {a0 : Array Value} (ar : Addr) (ka : ClassId) (as : List Int32) (t : Addr) (k : ClassId) (n0 : Nat) (hx : p.tables.exec = Jvm.exec) (hZ : Z.Warmed39 s.vm) (hw : HW a0 Z) (hby : c.code = jdk_52_method_21_code) (hml : c.maxLocals = 7) (hown : s.vm.findClass "java/lang/StringUTF16" = some m.cls) (g_t : n0 ≤ t) (h4 : as.length = 4) (n : Nat) (hn : n ≤ 4) (hq : ∀ i, i < n → ¬ ((255 : Int32) < (as.getD i 0))) :
    ∀ (q : Nat) (s₁ : State) (L0 : List Loc) (h0 : Heap) (i : Nat) (s6 : Slot) (X0 : Stand p l e (Rm 0 0 0 0) s m args below meth c s₁ L0 0 0) (e0 : s₁.heap = h0) (N0 : Fr n0 L0) (Z0 : n0 ≤ h0.size) (V_ar : Arv Z h0 ar ka .char (4 : Int32) (as.map Value.int) (.int 0)) (V_t : Arv Z h0 t k .byte (4 : Int32) (own_lat (as.take i)) (.int 0)) (h6 : One s6) (hi : i + q = n),
    ∃ (T' : State) (h' : Heap) (L' : List Loc) (s9 : Slot), Stand p l e (Rm 0 0 0 0) s m args below meth c T' L' 0 0 ∧ T'.heap = h' ∧ Fr n0 L' ∧ n0 ≤ h'.size ∧ Keep h0 h' [t] ∧ Arv Z h' t k .byte (4 : Int32) (own_lat (as.take n)) (.int 0) ∧ Arv Z h' ar ka .char (4 : Int32) (as.map Value.int) (.int 0) ∧ One s9 ∧
      ∀ target, Steps p.tables e below (T'.setTop (mkF m 3 #[.val (.ref ar), .val (.int (Int32.ofNat n)), .val (.ref t), .val (.int (Int32.ofNat n)), .val (.int 4), .val (.int (Int32.ofNat n)), s9] [])) target → Steps p.tables e below (s₁.setTop (mkF m 3 #[.val (.ref ar), .val (.int (Int32.ofNat i)), .val (.ref t), .val (.int (Int32.ofNat i)), .val (.int 4), .val (.int (Int32.ofNat i)), s6] [])) target := by
  intro q
  induction q with
  | zero =>
    intro s₁ L0 h0 i s6 X0 e0 N0 Z0 V_ar V_t h6 hi
    obtain rfl : i = n := by omega
    exact ⟨s₁, h0, L0, s6, X0, e0, N0, Z0, Keep.refl _ _, V_t, V_ar, h6, fun _ kt => kt⟩
  | succ q ih =>
    intro s₁ L0 h0 i s6 X0 e0 N0 Z0 V_ar V_t h6 hi
    obtain ⟨T1, h1, L1, X1, f1, N1, Z1, K1, V1, A1, st1⟩ := tnCC ar ka as t k i s6 h0 n0 X0 hx hZ hw hby hml hown e0 N0 Z0 V_ar V_t g_t h4 (by omega) (hq i (by omega)) h6
    obtain ⟨T2, h2, L2, s9, X2, f2, N2, Z2, K2, V2, A2, h9, st2⟩ := ih T1 L1 h1 (i + 1) _ X1 f1 N1 Z1 A1 V1 (One.val (w := .int _) rfl) (by omega)
    exact ⟨T2, h2, L2, s9, X2, f2, N2, Z2, K1.trans K2 (fun x hx => Or.inl hx), V2, A2, h9, fun target kt => st1 _ (st2 _ kt)⟩
theorem rmCCL (l : Launch) (Z : State) (a0 : Array Value) (hw : HW a0 Z) (ws : List Jvm.Cond) (ar : Addr) (ka : ClassId) (as : List Int32) (t : Addr) (k : ClassId) (h0 : Heap) (n0 : Nat) (Z0 : n0 ≤ h0.size) (V_ar : Arv Z h0 ar ka .char (4 : Int32) (as.map Value.int) (.int 0)) (V_t : Arv Z h0 t k .byte (4 : Int32) (own_lat (as.take 0)) (.int 0)) (g_t : n0 ≤ t) (h4 : as.length = 4) (hq : ∀ i, i < 4 → ¬ ((255 : Int32) < (as.getD i 0))) :
    MetFree l y_20 (head1 (Jvm.Cond.code y_20 jdk_52_method_21_code 7 (some .int) :: ws) (Rm 0 0 0 0)) (fun a_ U_ => a_ = #[(.ref ar), (.int 0), (.ref t), (.int 0), (.int 4)] ∧ Z.Warmed39 U_.vm ∧ U_.heap = h0) (fun _ _ _ _ _ => True) (fun _ U_ o_ U1_ => ∃ v_ L_, o_ = .returned v_ ∧ own_QCC Z t k as 4 h0 n0 v_ U1_.heap L_ ∧ FrameEnd U_ o_ U1_ L_ (Rm 0 0 0 0).cells (Rm 0 0 0 0).slots) := by
  refine MetFree.of_bodySF (plainFor_of_name pn_6) hisR ?_
  intro p e s m args below meth c s₁ Bd hml0 hP hK
  obtain ⟨rfl, hZ, hh⟩ := hP
  have hx := Bd.exec
  have hby := Bd.bytes
  have hml : c.maxLocals = 7 := hml0
  have hown : s.vm.findClass "java/lang/StringUTF16" = some m.cls := findClass_of_methodNamed Bd.named
  have hnm := (name_of_methodNamed Bd.named Bd.method).1
  have X0 : Stand p l e (Rm 0 0 0 0) s m #[(.ref ar), (.int 0), (.ref t), (.int 0), (.int 4)] below meth c s₁ [] 0 0 := Stand.of_body Bd
  have e0 : s₁.heap = h0 := by rw [← hh, Bd.state]; rfl
  have N0 := Fr.nil n0
  have pre0 : ∀ tt, Steps p.tables e below (s₁.setTop (mkF m 0 #[.val (.ref ar), .val (.int 0), .val (.ref t), .val (.int 0), .val (.int 4), .unset, .unset] [])) tt → Steps p.tables e below (s₁.setTop (entryFrame m #[(.ref ar), (.int 0), (.ref t), (.int 0), (.int 4)] 7)) tt := fun tt kk => castTop (ef_6_rrrrr m ar (0 : Int32) t (0 : Int32) (4 : Int32)) kk
  obtain ⟨T9, h9, L9, s9, X9, e9, N9, Z9, K9, V9, A9, h6, st9⟩ := lpCC ar ka as t k n0 hx hZ hw hby hml hown g_t h4 4 (by omega) hq 4 s₁ _ h0 0 .unset X0 e0 N0 Z0 V_ar V_t One.u (by omega)
  obtain ⟨fs, hr, hrun, hended, hW, hsame⟩ := X9.leave (v := some (.int 4)) (fun h => by rw [Bd.returns] at h; cases h)
  refine ⟨_, _, pre0 _ ?_, hrun, hended, _, _, rfl, ?_, ⟨_, rfl⟩, hW, hsame.mono (by decide) (by decide)⟩
  · show Steps _ _ _ (s₁.setTop (mkF m 0 #[.val (.ref ar), .val (.int 0), .val (.ref t), .val (.int 0), .val (.int 4), .unset, .unset] [])) _
    refine XS.iconst X0.here hx rfl (hb hby d6_0) ?_
    refine XS.istore X0.here hx rfl (hb hby d6_1) rfl (l' := #[.val (.ref ar), .val (.int 0), .val (.ref t), .val (.int 0), .val (.int 4), .val (.int 0), .unset]) rfl ?_
    show Steps _ _ _ (s₁.setTop (mkF m 3 #[.val (.ref ar), .val (.int (Int32.ofNat 0)), .val (.ref t), .val (.int (Int32.ofNat 0)), .val (.int 4), .val (.int (Int32.ofNat 0)), .unset] [])) _
    refine st9 _ ?_
    show Steps _ _ _ (T9.setTop (mkF m 3 #[.val (.ref ar), .val (.int (Int32.ofNat 4)), .val (.ref t), .val (.int (Int32.ofNat 4)), .val (.int 4), .val (.int (Int32.ofNat 4)), s9] [])) _
    refine XS.iload X9.here hx rfl (hb hby d6_3) rfl ?_
    refine XS.iload X9.here hx rfl (hb hby d6_5) rfl ?_
    refine XS.icmpYes X9.here hx rfl (pc0 := 7) (pc' := 44) rfl (hb hby d6_7) rfl (flt (by decide)).2.1 (by decide) (by decide) ?_
    refine XS.iload X9.here hx rfl (hb hby d6_44) rfl ?_
    show Steps _ _ _ (T9.setTop (mkF m 46 #[.val (.ref ar), .val (.int (Int32.ofNat 4)), .val (.ref t), .val (.int (Int32.ofNat 4)), .val (.int 4), .val (.int (Int32.ofNat 4)), s9] [(.int 4)])) _
    exact retI X9 hx Bd.returns (hb hby d6_46) hr
  · show own_QCC Z t k as 4 h0 n0 _ T9.heap _
    rw [e9]
    exact ⟨rfl, N9, ((Keep.refl h0 [t]).trans K9 (allS (P := fun zz => zz ∈ [t] ∨ h0.size ≤ zz) (Or.inl (tk 0 rfl)) all0)), V9⟩
theorem rmCCU (l : Launch) (Z : State) (a0 : Array Value) (hw : HW a0 Z) (ws : List Jvm.Cond) (ar : Addr) (ka : ClassId) (as : List Int32) (t : Addr) (k : ClassId) (n : Nat) (h0 : Heap) (n0 : Nat) (Z0 : n0 ≤ h0.size) (V_ar : Arv Z h0 ar ka .char (4 : Int32) (as.map Value.int) (.int 0)) (V_t : Arv Z h0 t k .byte (4 : Int32) (own_lat (as.take 0)) (.int 0)) (g_t : n0 ≤ t) (h4 : as.length = 4) (hq : ∀ i, i < n → ¬ ((255 : Int32) < (as.getD i 0))) (hn : n < 4) (hbg : (255 : Int32) < (as.getD n 0)) :
    MetFree l y_20 (head1 (Jvm.Cond.code y_20 jdk_52_method_21_code 7 (some .int) :: ws) (Rm 0 0 0 0)) (fun a_ U_ => a_ = #[(.ref ar), (.int 0), (.ref t), (.int 0), (.int 4)] ∧ Z.Warmed39 U_.vm ∧ U_.heap = h0) (fun _ _ _ _ _ => True) (fun _ U_ o_ U1_ => ∃ v_ L_, o_ = .returned v_ ∧ own_QCC Z t k as n h0 n0 v_ U1_.heap L_ ∧ FrameEnd U_ o_ U1_ L_ (Rm 0 0 0 0).cells (Rm 0 0 0 0).slots) := by
  refine MetFree.of_bodySF (plainFor_of_name pn_6) hisR ?_
  intro p e s m args below meth c s₁ Bd hml0 hP hK
  obtain ⟨rfl, hZ, hh⟩ := hP
  have hx := Bd.exec
  have hby := Bd.bytes
  have hml : c.maxLocals = 7 := hml0
  have hown : s.vm.findClass "java/lang/StringUTF16" = some m.cls := findClass_of_methodNamed Bd.named
  have hnm := (name_of_methodNamed Bd.named Bd.method).1
  have X0 : Stand p l e (Rm 0 0 0 0) s m #[(.ref ar), (.int 0), (.ref t), (.int 0), (.int 4)] below meth c s₁ [] 0 0 := Stand.of_body Bd
  have e0 : s₁.heap = h0 := by rw [← hh, Bd.state]; rfl
  have N0 := Fr.nil n0
  have pre0 : ∀ tt, Steps p.tables e below (s₁.setTop (mkF m 0 #[.val (.ref ar), .val (.int 0), .val (.ref t), .val (.int 0), .val (.int 4), .unset, .unset] [])) tt → Steps p.tables e below (s₁.setTop (entryFrame m #[(.ref ar), (.int 0), (.ref t), (.int 0), (.int 4)] 7)) tt := fun tt kk => castTop (ef_6_rrrrr m ar (0 : Int32) t (0 : Int32) (4 : Int32)) kk
  obtain ⟨T9, h9, L9, s9, X9, e9, N9, Z9, K9, V9, A9, h6, st9⟩ := lpCC ar ka as t k n0 hx hZ hw hby hml hown g_t h4 n (by omega) hq n s₁ _ h0 0 .unset X0 e0 N0 Z0 V_ar V_t One.u (by omega)
  obtain ⟨c21, Ar21, -, S21, M21, H21, -⟩ := id A9
  have hin21 := inb_of (j := (Int32.ofNat n)) S21 (own_in4 (by omega))
  obtain ⟨fs, hr, hrun, hended, hW, hsame⟩ := X9.leave (v := some (.int (Int32.ofNat n))) (fun h => by rw [Bd.returns] at h; cases h)
  refine ⟨_, _, pre0 _ ?_, hrun, hended, _, _, rfl, ?_, ⟨_, rfl⟩, hW, hsame.mono (by decide) (by decide)⟩
  · show Steps _ _ _ (s₁.setTop (mkF m 0 #[.val (.ref ar), .val (.int 0), .val (.ref t), .val (.int 0), .val (.int 4), .unset, .unset] [])) _
    refine XS.iconst X0.here hx rfl (hb hby d6_0) ?_
    refine XS.istore X0.here hx rfl (hb hby d6_1) rfl (l' := #[.val (.ref ar), .val (.int 0), .val (.ref t), .val (.int 0), .val (.int 4), .val (.int 0), .unset]) rfl ?_
    show Steps _ _ _ (s₁.setTop (mkF m 3 #[.val (.ref ar), .val (.int (Int32.ofNat 0)), .val (.ref t), .val (.int (Int32.ofNat 0)), .val (.int 4), .val (.int (Int32.ofNat 0)), .unset] [])) _
    refine st9 _ ?_
    show Steps _ _ _ (T9.setTop (mkF m 3 #[.val (.ref ar), .val (.int (Int32.ofNat n)), .val (.ref t), .val (.int (Int32.ofNat n)), .val (.int 4), .val (.int (Int32.ofNat n)), s9] [])) _
    refine XS.iload X9.here hx rfl (hb hby d6_3) rfl ?_
    refine XS.iload X9.here hx rfl (hb hby d6_5) rfl ?_
    refine XS.icmpNo X9.here hx rfl (hb hby d6_7) rfl (tlt (own_lt4 hn)).2.1 ?_
    refine XS.aloadN X9.here hx rfl (hb hby d6_10) rfl rfl ?_
    refine XS.iloadN X9.here hx rfl (hb hby d6_11) rfl ?_
    show Steps _ _ _ (T9.setTop (mkF m 12 #[.val (.ref ar), .val (.int (Int32.ofNat n)), .val (.ref t), .val (.int (Int32.ofNat n)), .val (.int 4), .val (.int (Int32.ofNat n)), s9] [(.int (Int32.ofNat n)), (.ref ar)])) _
    refine X9.caload hx (j := (Int32.ofNat n)) (v := (.int (as.getD n 0))) (by rw [e9]; exact Ar21.1) (State.isArrayOf_alike hZ.alike Ar21.2.1) Ar21.2.2 hin21 (H21.at hin21 (own_ca as n (by omega))) (g := (mkF m 12 #[.val (.ref ar), .val (.int (Int32.ofNat n)), .val (.ref t), .val (.int (Int32.ofNat n)), .val (.int 4), .val (.int (Int32.ofNat n)), s9] [(.int (Int32.ofNat n)), (.ref ar)])) rfl rfl (hb hby d6_12) _ ?_
    show Steps _ _ _ (T9.setTop (mkF m 13 #[.val (.ref ar), .val (.int (Int32.ofNat n)), .val (.ref t), .val (.int (Int32.ofNat n)), .val (.int 4), .val (.int (Int32.ofNat n)), s9] [(.int (as.getD n 0))])) _
    refine XS.istore X9.here hx rfl (hb hby d6_13) rfl (l' := #[.val (.ref ar), .val (.int (Int32.ofNat n)), .val (.ref t), .val (.int (Int32.ofNat n)), .val (.int 4), .val (.int (Int32.ofNat n)), .val (.int (as.getD n 0))]) (own_os6 h6) ?_
    refine XS.iload X9.here hx rfl (hb hby d6_15) rfl ?_
    refine XS.sipush X9.here hx rfl (hb hby d6_17) ?_
    refine XS.icmpNo X9.here hx rfl (hb hby d6_20) rfl (tlt hbg).2.2.2 ?_
    refine XS.iload X9.here hx rfl (hb hby d6_23) rfl ?_
    show Steps _ _ _ (T9.setTop (mkF m 25 #[.val (.ref ar), .val (.int (Int32.ofNat n)), .val (.ref t), .val (.int (Int32.ofNat n)), .val (.int 4), .val (.int (Int32.ofNat n)), .val (.int (as.getD n 0))] [(.int (Int32.ofNat n))])) _
    exact retI X9 hx Bd.returns (hb hby d6_25) hr
  · show own_QCC Z t k as n h0 n0 _ T9.heap _
    rw [e9]
    exact ⟨rfl, N9, ((Keep.refl h0 [t]).trans K9 (allS (P := fun zz => zz ∈ [t] ∨ h0.size ≤ zz) (Or.inl (tk 0 rfl)) all0)), V9⟩
def own_QB (Z : State) (as : List Int32) (h0 : Heap) (n0 : Nat) (v : Option Value) (h : Heap) (L : List Loc) : Prop := ∃ (t : Addr) (k : ClassId), v = some (.ref t) ∧ Fr n0 L ∧ n0 ≤ t ∧ h0.size ≤ t ∧ Keep h0 h [] ∧ Arv Z h t k .byte (Int32.ofNat (2 * as.length)) (own_wide as) (.int 0)
theorem d33_0 : decode jdk_52_method_14_code 0 = .ok (.iload_n 2, 1) := by decide +kernel
theorem pd__I__B : parseMethodDescriptor "(I)[B" = some ⟨[.int], some (.array .byte)⟩ := by decide +kernel
theorem d33_1 : decode jdk_52_method_14_code 1 = .ok (.invokestatic 107, 3) := by decide +kernel
theorem d33_4 : decode jdk_52_method_14_code 4 = .ok (.astore_n 3, 1) := by decide +kernel
theorem d33_5 : decode jdk_52_method_14_code 5 = .ok (.iconst 0, 1) := by decide +kernel
theorem d33_6 : decode jdk_52_method_14_code 6 = .ok (.istore 4, 2) := by decide +kernel
theorem d33_8 : decode jdk_52_method_14_code 8 = .ok (.iload 4, 2) := by decide +kernel
theorem d33_10 : decode jdk_52_method_14_code 10 = .ok (.iload_n 2, 1) := by decide +kernel
theorem d33_11 : decode jdk_52_method_14_code 11 = .ok (.if_icmp .ge 21, 3) := by decide +kernel
theorem d33_32 : decode jdk_52_method_14_code 32 = .ok (.aload_n 3, 1) := by decide +kernel
theorem d33_33 : decode jdk_52_method_14_code 33 = .ok (.areturn, 1) := by decide +kernel
theorem pn_33 : plainName "java/lang/StringUTF16" = true := by first | (simp [plainName, overriddenIn]; done) | decide +kernel
theorem ef_33_rrr (m : MethodId) (x0 : Addr) (x1 : Int32) (x2 : Int32) : entryFrame m #[(.ref x0), (.int x1), (.int x2)] 5 = mkF m 0 #[.val (.ref x0), .val (.int x1), .val (.int x2), .unset, .unset] [] := by first | (simp [entryFrame, mkF, argsToLocals, Value.category]; done) | rfl
theorem d33_14 : decode jdk_52_method_14_code 14 = .ok (.aload_n 3, 1) := by decide +kernel
theorem d33_15 : decode jdk_52_method_14_code 15 = .ok (.iload 4, 2) := by decide +kernel
theorem d33_17 : decode jdk_52_method_14_code 17 = .ok (.aload_n 0, 1) := by decide +kernel
theorem d33_18 : decode jdk_52_method_14_code 18 = .ok (.iload_n 1, 1) := by decide +kernel
theorem d33_19 : decode jdk_52_method_14_code 19 = .ok (.caload, 1) := by decide +kernel
theorem pd___BII_V : parseMethodDescriptor "([BII)V" = some ⟨[(.array .byte), .int, .int], none⟩ := by decide +kernel
theorem d33_20 : decode jdk_52_method_14_code 20 = .ok (.invokestatic 111, 3) := by decide +kernel
theorem d33_23 : decode jdk_52_method_14_code 23 = .ok (.iinc 1 1, 3) := by decide +kernel
theorem d33_26 : decode jdk_52_method_14_code 26 = .ok (.iinc 4 1, 3) := by decide +kernel
theorem d33_29 : decode jdk_52_method_14_code 29 = .ok (.goto (-21), 3) := by decide +kernel
theorem tnTB {p : Program} {l : Launch} {e : Env} {s : State} {m : MethodId} {args : Array Value} {below : List Frame} {meth : Method} {c : Code} {s₁ : State} {L0 : List Loc} {Z : State} {a0 : Array Value} (G1 : Int32) (G3 : Value) (G4 : Value) (ar : Addr) (ka : ClassId) (as : List Int32) (t : Addr) (k : ClassId) (i : Nat) (h0 : Heap) (n0 : Nat) (X0 : Stand p l e (Rm 2 1 8 24) s m args below meth c s₁ L0 1 8) (hx : p.tables.exec = Jvm.exec) (hZ : Z.Warmed39 s.vm) (hw : HW a0 Z) (hby : c.code = jdk_52_method_14_code) (hml : c.maxLocals = 5) (hown : s.vm.findClass "java/lang/StringUTF16" = some m.cls) (e0 : s₁.heap = h0) (N0 : Fr n0 L0) (Z0 : n0 ≤ h0.size) (EN : own_env Z G1 G3 G4) (X00 : Old Z n0 h0) (V_ar : Arv Z h0 ar ka .char (4 : Int32) (as.map Value.int) (.int 0)) (V_t : Arv Z h0 t k .byte (Int32.ofNat (2 * 4)) (own_wide (as.take i)) (.int 0)) (g_t : n0 ≤ t) (h4 : as.length = 4) (hi : i < 4) :
    ∃ (T' : State) (h' : Heap) (L' : List Loc) , Stand p l e (Rm 2 1 8 24) s m args below meth c T' L' 1 8 ∧ T'.heap = h' ∧ Fr n0 L' ∧ n0 ≤ h'.size ∧ Old Z n0 h' ∧ Keep h0 h' [t] ∧ Arv Z h' t k .byte (Int32.ofNat (2 * 4)) (own_wide (as.take (i + 1))) (.int 0) ∧ Arv Z h' ar ka .char (4 : Int32) (as.map Value.int) (.int 0) ∧ 
      ∀ target, Steps p.tables e below (T'.setTop (mkF m 8 #[.val (.ref ar), .val (.int (Int32.ofNat (i + 1))), .val (.int 4), .val (.ref t), .val (.int (Int32.ofNat (i + 1)))] [])) target → Steps p.tables e below (s₁.setTop (mkF m 8 #[.val (.ref ar), .val (.int (Int32.ofNat i)), .val (.int 4), .val (.ref t), .val (.int (Int32.ofNat i))] [])) target := by
  have EN0 := EN
  obtain ⟨O2, P5, O4, rG3, O6, O7, O8⟩ := EN
  obtain ⟨c1, Ar1, -, S1, M1, H1, -⟩ := id V_ar
  have hin1 := inb_of (j := (Int32.ofNat i)) S1 (own_in4 (by omega))
  obtain ⟨_, _, ⟨T2, L2, k2, n2⟩, -, X2, ⟨Lc2, hQ2, l2, y2, z2⟩, st2⟩ := Jvm.LawKit.callS X0 hx (y := y_10) hown (mvT hZ (hw _ (tk 170 rfl))) (mvT hZ (hw _ (tk 171 rfl))) (mvT hZ (hw _ (tk 23 rfl))) (mvT hZ (hw _ (tk 172 rfl))) (by decide) (backOf (W := 0) (rmPUT l Z a0 hw [] G1 G3 G4 t k (as.take i) i (as.getD i 0) h0 n0 Z0 EN0 X00 V_t (by rw [List.length_take]; omega) hi g_t) hZ (hw _ (tk 172 rfl)) (hw _ (tk 23 rfl)) (by decide) (by decide)) (g := (mkF m 20 #[.val (.ref ar), .val (.int (Int32.ofNat i)), .val (.int 4), .val (.ref t), .val (.int (Int32.ofNat i))] [(.int (as.getD i 0)), (.int (Int32.ofNat i)), (.ref t)])) rfl (by rw [hml]; rfl) (argsL := [(.ref t), (.int (Int32.ofNat i)), (.int (as.getD i 0))]) (rest := []) (lenOf pd___BII_V rfl) rfl (by show 2 * 0 + _ ≤ _; exact Nat.le_of_eq rfl) (hb hby d33_20) (fun _ _ => ⟨rfl, e0, (by decide : 1 + 0 ≤ _), (by decide : 8 + 0 ≤ _)⟩)
  dsimp only [Pt.U, Pt.locs, Pt.cells, Pt.slots] at X2 l2 y2 z2 st2 hQ2
  subst l2 y2 z2
  obtain ⟨rfl, Nq2, Kq2, Vq2⟩ := hQ2
  have N2 := Fr.app N0 Nq2
  have f3 := (X00.keep Kq2 (allS g_t all0))
  have f4 := (V_ar.keep Kq2 (ninS (own_neA V_ar V_t nofun) nin0))
  refine ⟨T2, T2.heap, _, X2, rfl, N2, (Nat.le_trans Z0 Kq2.1), f3, ((Keep.refl h0 [t]).trans Kq2 (allS (P := fun zz => zz ∈ [t] ∨ h0.size ≤ zz) (Or.inl (tk 0 rfl)) all0)), (by rw [← own_take1 as i (by omega)]; exact Vq2), f4, fun target kt => ?_⟩
  show Steps _ _ _ (s₁.setTop (mkF m 8 #[.val (.ref ar), .val (.int (Int32.ofNat i)), .val (.int 4), .val (.ref t), .val (.int (Int32.ofNat i))] [])) _
  refine XS.iload X0.here hx rfl (hb hby d33_8) rfl ?_
  refine XS.iloadN X0.here hx rfl (hb hby d33_10) rfl ?_
  refine XS.icmpNo X0.here hx rfl (hb hby d33_11) rfl (tlt (own_lt4 hi)).2.1 ?_
  refine XS.aloadN X0.here hx rfl (hb hby d33_14) rfl rfl ?_
  refine XS.iload X0.here hx rfl (hb hby d33_15) rfl ?_
  refine XS.aloadN X0.here hx rfl (hb hby d33_17) rfl rfl ?_
  refine XS.iloadN X0.here hx rfl (hb hby d33_18) rfl ?_
  show Steps _ _ _ (s₁.setTop (mkF m 19 #[.val (.ref ar), .val (.int (Int32.ofNat i)), .val (.int 4), .val (.ref t), .val (.int (Int32.ofNat i))] [(.int (Int32.ofNat i)), (.ref ar), (.int (Int32.ofNat i)), (.ref t)])) _
  refine X0.caload hx (j := (Int32.ofNat i)) (v := (.int (as.getD i 0))) (by rw [e0]; exact Ar1.1) (State.isArrayOf_alike hZ.alike Ar1.2.1) Ar1.2.2 hin1 (H1.at hin1 (own_ca as i (by omega))) (g := (mkF m 19 #[.val (.ref ar), .val (.int (Int32.ofNat i)), .val (.int 4), .val (.ref t), .val (.int (Int32.ofNat i))] [(.int (Int32.ofNat i)), (.ref ar), (.int (Int32.ofNat i)), (.ref t)])) rfl rfl (hb hby d33_19) _ ?_
  show Steps _ _ _ (s₁.setTop (mkF m 20 #[.val (.ref ar), .val (.int (Int32.ofNat i)), .val (.int 4), .val (.ref t), .val (.int (Int32.ofNat i))] [(.int (as.getD i 0)), (.int (Int32.ofNat i)), (.ref t)])) _
  refine st2 _ ?_
  show Steps _ _ _ (T2.setTop (mkF m 23 #[.val (.ref ar), .val (.int (Int32.ofNat i)), .val (.int 4), .val (.ref t), .val (.int (Int32.ofNat i))] [])) _
  refine XS.iinc X2.here hx rfl (hb hby d33_23) rfl (l' := #[.val (.ref ar), .val (.int ((Int32.ofNat i) + (1 : Int32))), .val (.int 4), .val (.ref t), .val (.int (Int32.ofNat i))]) rfl ?_
  refine XS.iinc X2.here hx rfl (hb hby d33_26) rfl (l' := #[.val (.ref ar), .val (.int ((Int32.ofNat i) + (1 : Int32))), .val (.int 4), .val (.ref t), .val (.int ((Int32.ofNat i) + (1 : Int32)))]) rfl ?_
  refine XS.goto X2.here hx rfl (pc0 := 29) (pc' := 8) rfl (hb hby d33_29) (by decide) (by decide) ?_
  show Steps _ _ _ (T2.setTop (mkF m 8 #[.val (.ref ar), .val (.int ((Int32.ofNat i) + (1 : Int32))), .val (.int 4), .val (.ref t), .val (.int ((Int32.ofNat i) + (1 : Int32)))] [])) _
  rw [(own_succ i)]
  show Steps _ _ _ (T2.setTop (mkF m 8 #[.val (.ref ar), .val (.int (Int32.ofNat (i + 1))), .val (.int 4), .val (.ref t), .val (.int (Int32.ofNat (i + 1)))] [])) _
  exact kt
theorem lpTB {p : Program} {l : Launch} {e : Env} {s : State} {m : MethodId} {args : Array Value} {below : List Frame} {meth : Method} {c : Code} {Z : State} {a0 : Array Value} (G1 : Int32) (G3 G4 : Value) (ar : Addr) (ka : ClassId) (as : List Int32) (t : Addr) (k : ClassId) (n0 : Nat) (hx : p.tables.exec = Jvm.exec) (hZ : Z.Warmed39 s.vm) (hw : HW a0 Z) (hby : c.code = jdk_52_method_14_code) (hml : c.maxLocals = 5) (hown : s.vm.findClass "java/lang/StringUTF16" = some m.cls) (EN : own_env Z G1 G3 G4) (g_t : n0 ≤ t) (h4 : as.length = 4) :
    ∀ (q : Nat) (s₁ : State) (L0 : List Loc) (h0 : Heap) (i : Nat) (X0 : Stand p l e (Rm 2 1 8 24) s m args below meth c s₁ L0 1 8) (e0 : s₁.heap = h0) (N0 : Fr n0 L0) (Z0 : n0 ≤ h0.size) (X00 : Old Z n0 h0) (V_ar : Arv Z h0 ar ka .char (4 : Int32) (as.map Value.int) (.int 0)) (V_t : Arv Z h0 t k .byte (Int32.ofNat (2 * 4)) (own_wide (as.take i)) (.int 0)) (hi : i + q = 4),
    ∃ (T' : State) (h' : Heap) (L' : List Loc), Stand p l e (Rm 2 1 8 24) s m args below meth c T' L' 1 8 ∧ T'.heap = h' ∧ Fr n0 L' ∧ n0 ≤ h'.size ∧ Keep h0 h' [t] ∧ Arv Z h' t k .byte (Int32.ofNat (2 * 4)) (own_wide (as.take 4)) (.int 0) ∧
      ∀ target, Steps p.tables e below (T'.setTop (mkF m 8 #[.val (.ref ar), .val (.int (Int32.ofNat 4)), .val (.int 4), .val (.ref t), .val (.int (Int32.ofNat 4))] [])) target → Steps p.tables e below (s₁.setTop (mkF m 8 #[.val (.ref ar), .val (.int (Int32.ofNat i)), .val (.int 4), .val (.ref t), .val (.int (Int32.ofNat i))] [])) target := by
  intro q
  induction q with
  | zero =>
    intro s₁ L0 h0 i X0 e0 N0 Z0 X00 V_ar V_t hi
    obtain rfl : i = 4 := by omega
    exact ⟨s₁, h0, L0, X0, e0, N0, Z0, Keep.refl _ _, V_t, fun _ kt => kt⟩
  | succ q ih =>
    intro s₁ L0 h0 i X0 e0 N0 Z0 X00 V_ar V_t hi
    obtain ⟨T1, h1, L1, X1, f1, N1, Z1, O1, K1, V1, A1, st1⟩ := tnTB G1 G3 G4 ar ka as t k i h0 n0 X0 hx hZ hw hby hml hown e0 N0 Z0 EN X00 V_ar V_t g_t h4 (by omega)
    obtain ⟨T2, h2, L2, X2, f2, N2, Z2, K2, V2, st2⟩ := ih T1 L1 h1 (i + 1) X1 f1 N1 Z1 O1 A1 V1 (by omega)
    exact ⟨T2, h2, L2, X2, f2, N2, Z2, K1.trans K2 (fun x hx => Or.inl hx), V2, fun target kt => st1 _ (st2 _ kt)⟩
theorem rmTB (l : Launch) (Z : State) (a0 : Array Value) (hw : HW a0 Z) (ws : List Jvm.Cond) (G1 : Int32) (G3 : Value) (G4 : Value) (ar : Addr) (ka : ClassId) (as : List Int32) (h0 : Heap) (n0 : Nat) (Z0 : n0 ≤ h0.size) (EN : own_env Z G1 G3 G4) (X00 : Old Z n0 h0) (V_ar : Arv Z h0 ar ka .char (4 : Int32) (as.map Value.int) (.int 0)) (h4 : as.length = 4) :
    MetFree l y_21 (head1 (Jvm.Cond.code y_21 jdk_52_method_14_code 5 (some (.array .byte)) :: ws) (Rm 2 1 8 24)) (fun a_ U_ => a_ = #[(.ref ar), (.int 0), (.int 4)] ∧ Z.Warmed39 U_.vm ∧ U_.heap = h0) (fun _ _ _ _ _ => True) (fun _ U_ o_ U1_ => ∃ v_ L_, o_ = .returned v_ ∧ own_QB Z as h0 n0 v_ U1_.heap L_ ∧ FrameEnd U_ o_ U1_ L_ (Rm 2 1 8 24).cells (Rm 2 1 8 24).slots) := by
  refine MetFree.of_bodySF (plainFor_of_name pn_33) hisR ?_
  intro p e s m args below meth c s₁ Bd hml0 hP hK
  obtain ⟨rfl, hZ, hh⟩ := hP
  have hx := Bd.exec
  have hby := Bd.bytes
  have hml : c.maxLocals = 5 := hml0
  have hown : s.vm.findClass "java/lang/StringUTF16" = some m.cls := findClass_of_methodNamed Bd.named
  have hnm := (name_of_methodNamed Bd.named Bd.method).1
  have X0 : Stand p l e (Rm 2 1 8 24) s m #[(.ref ar), (.int 0), (.int 4)] below meth c s₁ [] 0 0 := Stand.of_body Bd
  have e0 : s₁.heap = h0 := by rw [← hh, Bd.state]; rfl
  have N0 := Fr.nil n0
  have pre0 : ∀ tt, Steps p.tables e below (s₁.setTop (mkF m 0 #[.val (.ref ar), .val (.int 0), .val (.int 4), .unset, .unset] [])) tt → Steps p.tables e below (s₁.setTop (entryFrame m #[(.ref ar), (.int 0), (.int 4)] 5)) tt := fun tt kk => castTop (ef_33_rrr m ar (0 : Int32) (4 : Int32)) kk
  have EN0 := EN
  obtain ⟨O2, P5, O4, rG3, O6, O7, O8⟩ := EN
  obtain ⟨_, _, ⟨T1, L1, k1, n1⟩, -, X1, ⟨Lc1, hQ1, l1, y1, z1⟩, st1⟩ := Jvm.LawKit.callS X0 hx (y := y_12) hown (mvT hZ (hw _ (tk 163 rfl))) (mvT hZ (hw _ (tk 164 rfl))) (mvT hZ (hw _ (tk 23 rfl))) (mvT hZ (hw _ (tk 165 rfl))) (by decide) (backOf (W := 0) (rmNBF l Z a0 hw [] h0 n0 Z0) hZ (hw _ (tk 165 rfl)) (hw _ (tk 23 rfl)) (by decide) (by decide)) (g := (mkF m 1 #[.val (.ref ar), .val (.int 0), .val (.int 4), .unset, .unset] [(.int 4)])) rfl (by rw [hml]; rfl) (argsL := [(.int 4)]) (rest := []) (lenOf pd__I__B rfl) rfl (by show 2 * 0 + _ ≤ _; exact Nat.le_of_eq rfl) (hb hby d33_1) (fun _ _ => ⟨rfl, e0, (by decide : 0 + 1 ≤ _), (by decide : 0 + 8 ≤ _)⟩)
  dsimp only [Pt.U, Pt.locs, Pt.cells, Pt.slots] at X1 l1 y1 z1 st1 hQ1
  subst l1 y1 z1
  obtain ⟨t1, k1q, rfl, Nq1, gt1, sq1, Kq1, V1q⟩ := hQ1
  have N1 := Fr.app N0 Nq1
  have szt1 : h0.size ≤ t1 := Nat.le_trans (Nat.le_refl _) sq1
  have f2 := (X00.keep Kq1 all0)
  have f3 := (V_ar.keep Kq1 nin0)
  obtain ⟨T9, h9, L9, X9, e9, N9, Z9, K9, V9, st9⟩ := lpTB G1 G3 G4 ar ka as t1 k1q n0 hx hZ hw hby hml hown EN0 gt1 h4 4 T1 _ T1.heap 0 X1 rfl N1 (Nat.le_trans Z0 Kq1.1) f2 f3 V1q (by omega)
  have V9b : Arv Z h9 t1 k1q .byte (Int32.ofNat (2 * as.length)) (own_wide as) (.int 0) := by rw [h4]; rw [List.take_of_length_le (by omega)] at V9; exact V9
  obtain ⟨fs, hr, hrun, hended, hW, hsame⟩ := X9.leave (v := some (.ref t1)) (fun h => by rw [Bd.returns] at h; cases h)
  refine ⟨_, _, pre0 _ ?_, hrun, hended, _, _, rfl, ?_, ⟨_, rfl⟩, hW, hsame.mono (by decide) (by decide)⟩
  · show Steps _ _ _ (s₁.setTop (mkF m 0 #[.val (.ref ar), .val (.int 0), .val (.int 4), .unset, .unset] [])) _
    refine XS.iloadN X0.here hx rfl (hb hby d33_0) rfl ?_
    show Steps _ _ _ (s₁.setTop (mkF m 1 #[.val (.ref ar), .val (.int 0), .val (.int 4), .unset, .unset] [(.int 4)])) _
    refine st1 _ ?_
    show Steps _ _ _ (T1.setTop (mkF m 4 #[.val (.ref ar), .val (.int 0), .val (.int 4), .unset, .unset] [(.ref t1)])) _
    refine XS.astoreN X1.here hx rfl (hb hby d33_4) rfl rfl (l' := #[.val (.ref ar), .val (.int 0), .val (.int 4), .val (.ref t1), .unset]) rfl ?_
    refine XS.iconst X1.here hx rfl (hb hby d33_5) ?_
    refine XS.istore X1.here hx rfl (hb hby d33_6) rfl (l' := #[.val (.ref ar), .val (.int 0), .val (.int 4), .val (.ref t1), .val (.int 0)]) rfl ?_
    show Steps _ _ _ (T1.setTop (mkF m 8 #[.val (.ref ar), .val (.int (Int32.ofNat 0)), .val (.int 4), .val (.ref t1), .val (.int (Int32.ofNat 0))] [])) _
    refine st9 _ ?_
    show Steps _ _ _ (T9.setTop (mkF m 8 #[.val (.ref ar), .val (.int (Int32.ofNat 4)), .val (.int 4), .val (.ref t1), .val (.int (Int32.ofNat 4))] [])) _
    refine XS.iload X9.here hx rfl (hb hby d33_8) rfl ?_
    refine XS.iloadN X9.here hx rfl (hb hby d33_10) rfl ?_
    refine XS.icmpYes X9.here hx rfl (pc0 := 11) (pc' := 32) rfl (hb hby d33_11) rfl (flt (by decide)).2.1 (by decide) (by decide) ?_
    refine XS.aloadN X9.here hx rfl (hb hby d33_32) rfl rfl ?_
    show Steps _ _ _ (T9.setTop (mkF m 33 #[.val (.ref ar), .val (.int (Int32.ofNat 4)), .val (.int 4), .val (.ref t1), .val (.int (Int32.ofNat 4))] [(.ref t1)])) _
    jvm_step X9.here [X9.here.top, hx, (hb hby d33_33), X9.method', Bd.returns, Value.isRef, FieldType.isReference]
    first | (intro acts; rw [hr _ acts rfl rfl rfl]) | rw [hr _ _ rfl rfl rfl]
    exact Steps.refl _
  · show own_QB Z as h0 n0 _ T9.heap _
    rw [e9]
    exact ⟨t1, k1q, rfl, N9, gt1, szt1, (((Keep.refl h0 []).trans Kq1 all0).trans K9 (allS (P := fun zz => zz ∈ ([] : List Addr) ∨ h0.size ≤ zz) (Or.inr szt1) all0)), V9b⟩
def own_QD2 (Z : State) (N : Int32) (vs : List Value) (h0 : Heap) (n0 : Nat) (v : Option Value) (h : Heap) (L : List Loc) : Prop := ∃ (t : Addr) (k : ClassId), v = some (.ref t) ∧ Fr n0 L ∧ n0 ≤ t ∧ h0.size ≤ t ∧ Keep h0 h [] ∧ Arv Z h t k .byte N vs (.int 0)
theorem d5_0 : decode jdk_52_method_16_code 0 = .ok (.iload_n 2, 1) := by decide +kernel
theorem d5_1 : decode jdk_52_method_16_code 1 = .ok (.newarray .byte, 2) := by decide +kernel
theorem d5_3 : decode jdk_52_method_16_code 3 = .ok (.astore_n 3, 1) := by decide +kernel
theorem d5_4 : decode jdk_52_method_16_code 4 = .ok (.aload_n 0, 1) := by decide +kernel
theorem d5_5 : decode jdk_52_method_16_code 5 = .ok (.iload_n 1, 1) := by decide +kernel
theorem d5_6 : decode jdk_52_method_16_code 6 = .ok (.aload_n 3, 1) := by decide +kernel
theorem d5_7 : decode jdk_52_method_16_code 7 = .ok (.iconst 0, 1) := by decide +kernel
theorem d5_8 : decode jdk_52_method_16_code 8 = .ok (.iload_n 2, 1) := by decide +kernel
theorem pd___CI_BII_I : parseMethodDescriptor "([CI[BII)I" = some ⟨[(.array .char), .int, (.array .byte), .int, .int], some .int⟩ := by decide +kernel
theorem d5_9 : decode jdk_52_method_16_code 9 = .ok (.invokestatic 115, 3) := by decide +kernel
theorem d5_12 : decode jdk_52_method_16_code 12 = .ok (.istore 4, 2) := by decide +kernel
theorem d5_14 : decode jdk_52_method_16_code 14 = .ok (.iload 4, 2) := by decide +kernel
theorem d5_16 : decode jdk_52_method_16_code 16 = .ok (.iload_n 2, 1) := by decide +kernel
theorem d5_17 : decode jdk_52_method_16_code 17 = .ok (.if_icmp .eq 40, 3) := by decide +kernel
theorem d5_57 : decode jdk_52_method_16_code 57 = .ok (.aload_n 3, 1) := by decide +kernel
theorem d5_58 : decode jdk_52_method_16_code 58 = .ok (.areturn, 1) := by decide +kernel
theorem pn_5 : plainName "java/lang/StringUTF16" = true := by first | (simp [plainName, overriddenIn]; done) | decide +kernel
theorem ef_5_rrr (m : MethodId) (x0 : Addr) (x1 : Int32) (x2 : Int32) : entryFrame m #[(.ref x0), (.int x1), (.int x2)] 6 = mkF m 0 #[.val (.ref x0), .val (.int x1), .val (.int x2), .unset, .unset, .unset] [] := by first | (simp [entryFrame, mkF, argsToLocals, Value.category]; done) | rfl
theorem rmCDLc (l : Launch) (Z : State) (a0 : Array Value) (hw : HW a0 Z) (ws : List Jvm.Cond) (G1 : Int32) (G3 : Value) (G4 : Value) (ar : Addr) (ka : ClassId) (as : List Int32) (h0 : Heap) (n0 : Nat) (Z0 : n0 ≤ h0.size) (EN : own_env Z G1 G3 G4) (X00 : Old Z n0 h0) (V_ar : Arv Z h0 ar ka .char (4 : Int32) (as.map Value.int) (.int 0)) (h4 : as.length = 4) (hc : ∀ c ∈ as, own_ch c) (hq : ∀ i, i < 4 → ¬ ((255 : Int32) < (as.getD i 0))) :
    MetFree l y_22 (head1 (Jvm.Cond.code y_22 jdk_52_method_16_code 6 (some (.array .byte)) :: ws) (Rm 1 1 4 18)) (fun a_ U_ => a_ = #[(.ref ar), (.int 0), (.int 4)] ∧ Z.Warmed39 U_.vm ∧ U_.heap = h0) (fun _ _ _ _ _ => True) (fun _ U_ o_ U1_ => ∃ v_ L_, o_ = .returned v_ ∧ own_QD2 Z (4 : Int32) (own_lat as) h0 n0 v_ U1_.heap L_ ∧ FrameEnd U_ o_ U1_ L_ (Rm 1 1 4 18).cells (Rm 1 1 4 18).slots) := by
  refine MetFree.of_bodySF (plainFor_of_name pn_5) hisR ?_
  intro p e s m args below meth c s₁ Bd hml0 hP hK
  obtain ⟨rfl, hZ, hh⟩ := hP
  have hx := Bd.exec
  have hby := Bd.bytes
  have hml : c.maxLocals = 6 := hml0
  have hown : s.vm.findClass "java/lang/StringUTF16" = some m.cls := findClass_of_methodNamed Bd.named
  have hnm := (name_of_methodNamed Bd.named Bd.method).1
  have X0 : Stand p l e (Rm 1 1 4 18) s m #[(.ref ar), (.int 0), (.int 4)] below meth c s₁ [] 0 0 := Stand.of_body Bd
  have e0 : s₁.heap = h0 := by rw [← hh, Bd.state]; rfl
  have N0 := Fr.nil n0
  have pre0 : ∀ tt, Steps p.tables e below (s₁.setTop (mkF m 0 #[.val (.ref ar), .val (.int 0), .val (.int 4), .unset, .unset, .unset] [])) tt → Steps p.tables e below (s₁.setTop (entryFrame m #[(.ref ar), (.int 0), (.int 4)] 6)) tt := fun tt kk => castTop (ef_5_rrr m ar (0 : Int32) (4 : Int32)) kk
  have EN0 := EN
  obtain ⟨O2, P5, O4, rG3, O6, O7, O8⟩ := EN
  obtain ⟨T1, h1, k1, X1, e1, E1, A1, st1⟩ := newP X0 hx hZ (hw _ (tk 25 rfl)) e0 (g := (mkF m 1 #[.val (.ref ar), .val (.int 0), .val (.int 4), .unset, .unset, .unset] [(.int 4)])) rfl (hb hby d5_1) rfl (by decide) (cap := 4) (by decide) (by decide) (by decide) (by decide)
  obtain ⟨b1, g1⟩ : ∃ z, z = h0.size := ⟨_, rfl⟩
  rw [← g1] at A1 st1
  have g_b1 : n0 ≤ b1 := Nat.le_trans Z0 (Nat.le_of_eq g1.symm)
  have sz_b1 : h0.size ≤ b1 := Nat.le_trans (Nat.le_refl _) (Nat.le_of_eq g1.symm)
  have V1 : Arv Z h1 b1 k1 .byte (4 : Int32) (own_lat (as.take 0)) (.int 0) := Arv.new A1 (by decide)
  have f3 := (V_ar.ext E1)
  obtain ⟨_, _, ⟨T2, L2, k2, n2⟩, -, X2, ⟨Lc2, hQ2, l2, y2, z2⟩, st2⟩ := Jvm.LawKit.callS X1 hx (y := y_20) hown (mvT hZ (hw _ (tk 26 rfl))) (mvT hZ (hw _ (tk 27 rfl))) (mvT hZ (hw _ (tk 23 rfl))) (mvT hZ (hw _ (tk 28 rfl))) (by decide) (backOf (W := 0) (rmCCL l Z a0 hw [] ar ka as b1 k1 h1 n0 (Nat.le_trans Z0 E1.1) f3 V1 g_b1 h4 hq) hZ (hw _ (tk 28 rfl)) (hw _ (tk 23 rfl)) (by decide) (by decide)) (g := (mkF m 9 #[.val (.ref ar), .val (.int 0), .val (.int 4), .val (.ref b1), .unset, .unset] [(.int 4), (.int 0), (.ref b1), (.int 0), (.ref ar)])) rfl (by rw [hml]; rfl) (argsL := [(.ref ar), (.int 0), (.ref b1), (.int 0), (.int 4)]) (rest := []) (lenOf pd___CI_BII_I rfl) rfl (by show 2 * 0 + _ ≤ _; exact Nat.le_of_eq rfl) (hb hby d5_9) (fun _ _ => ⟨rfl, e1, (by decide : 1 + 0 ≤ _), (by decide : 4 + 0 ≤ _)⟩)
  dsimp only [Pt.U, Pt.locs, Pt.cells, Pt.slots] at X2 l2 y2 z2 st2 hQ2
  subst l2 y2 z2
  obtain ⟨rfl, Nq2, Kq2, Vq2⟩ := hQ2
  have N2 := Fr.app N0 Nq2
  obtain ⟨fs, hr, hrun, hended, hW, hsame⟩ := X2.leave (v := some (.ref b1)) (fun h => by rw [Bd.returns] at h; cases h)
  refine ⟨_, _, pre0 _ ?_, hrun, hended, _, _, rfl, ?_, ⟨_, rfl⟩, hW, hsame.mono (by decide) (by decide)⟩
  · show Steps _ _ _ (s₁.setTop (mkF m 0 #[.val (.ref ar), .val (.int 0), .val (.int 4), .unset, .unset, .unset] [])) _
    refine XS.iloadN X0.here hx rfl (hb hby d5_0) rfl ?_
    show Steps _ _ _ (s₁.setTop (mkF m 1 #[.val (.ref ar), .val (.int 0), .val (.int 4), .unset, .unset, .unset] [(.int 4)])) _
    refine st1 _ ?_
    show Steps _ _ _ (T1.setTop (mkF m 3 #[.val (.ref ar), .val (.int 0), .val (.int 4), .unset, .unset, .unset] [(.ref b1)])) _
    refine XS.astoreN X1.here hx rfl (hb hby d5_3) rfl rfl (l' := #[.val (.ref ar), .val (.int 0), .val (.int 4), .val (.ref b1), .unset, .unset]) rfl ?_
    refine XS.aloadN X1.here hx rfl (hb hby d5_4) rfl rfl ?_
    refine XS.iloadN X1.here hx rfl (hb hby d5_5) rfl ?_
    refine XS.aloadN X1.here hx rfl (hb hby d5_6) rfl rfl ?_
    refine XS.iconst X1.here hx rfl (hb hby d5_7) ?_
    refine XS.iloadN X1.here hx rfl (hb hby d5_8) rfl ?_
    show Steps _ _ _ (T1.setTop (mkF m 9 #[.val (.ref ar), .val (.int 0), .val (.int 4), .val (.ref b1), .unset, .unset] [(.int 4), (.int 0), (.ref b1), (.int 0), (.ref ar)])) _
    refine st2 _ ?_
    show Steps _ _ _ (T2.setTop (mkF m 12 #[.val (.ref ar), .val (.int 0), .val (.int 4), .val (.ref b1), .unset, .unset] [(.int 4)])) _
    refine XS.istore X2.here hx rfl (hb hby d5_12) rfl (l' := #[.val (.ref ar), .val (.int 0), .val (.int 4), .val (.ref b1), .val (.int 4), .unset]) rfl ?_
    refine XS.iload X2.here hx rfl (hb hby d5_14) rfl ?_
    refine XS.iloadN X2.here hx rfl (hb hby d5_16) rfl ?_
    refine XS.icmpYes X2.here hx rfl (pc0 := 17) (pc' := 57) rfl (hb hby d5_17) rfl (teq (by decide : (4 : Int32) = (4 : Int32))).1 (by decide) (by decide) ?_
    refine XS.aloadN X2.here hx rfl (hb hby d5_57) rfl rfl ?_
    show Steps _ _ _ (T2.setTop (mkF m 58 #[.val (.ref ar), .val (.int 0), .val (.int 4), .val (.ref b1), .val (.int 4), .unset] [(.ref b1)])) _
    jvm_step X2.here [X2.here.top, hx, (hb hby d5_58), X2.method', Bd.returns, Value.isRef, FieldType.isReference]
    first | (intro acts; rw [hr _ acts rfl rfl rfl]) | rw [hr _ _ rfl rfl rfl]
    exact Steps.refl _
  · show own_QD2 Z (4 : Int32) (own_lat as) h0 n0 _ T2.heap _
    exact ⟨b1, k1, rfl, N2, g_b1, sz_b1, (((Keep.refl h0 []).ext E1).trans Kq2 (allS (P := fun zz => zz ∈ ([] : List Addr) ∨ h0.size ≤ zz) (Or.inr sz_b1) all0)), (by have q_ := Vq2; rw [List.take_of_length_le (by omega)] at q_; exact q_)⟩
theorem d5_20 : decode jdk_52_method_16_code 20 = .ok (.aload_n 0, 1) := by decide +kernel
theorem d5_21 : decode jdk_52_method_16_code 21 = .ok (.iload_n 1, 1) := by decide +kernel
theorem d5_22 : decode jdk_52_method_16_code 22 = .ok (.iload_n 2, 1) := by decide +kernel
theorem pd___CII__B : parseMethodDescriptor "([CII)[B" = some ⟨[(.array .char), .int, .int], some (.array .byte)⟩ := by decide +kernel
theorem d5_23 : decode jdk_52_method_16_code 23 = .ok (.invokestatic 119, 3) := by decide +kernel
theorem d5_26 : decode jdk_52_method_16_code 26 = .ok (.astore 5, 2) := by decide +kernel
theorem d5_28 : decode jdk_52_method_16_code 28 = .ok (.aload 5, 2) := by decide +kernel
theorem d5_30 : decode jdk_52_method_16_code 30 = .ok (.iload 4, 2) := by decide +kernel
theorem d5_32 : decode jdk_52_method_16_code 32 = .ok (.invokestatic 71, 3) := by decide +kernel
theorem d5_35 : decode jdk_52_method_16_code 35 = .ok (.sipush 255, 3) := by decide +kernel
theorem d5_38 : decode jdk_52_method_16_code 38 = .ok (.if_icmp .gt 16, 3) := by decide +kernel
theorem d5_54 : decode jdk_52_method_16_code 54 = .ok (.aload 5, 2) := by decide +kernel
theorem d5_56 : decode jdk_52_method_16_code 56 = .ok (.areturn, 1) := by decide +kernel
theorem rmCDUc (l : Launch) (Z : State) (a0 : Array Value) (hw : HW a0 Z) (ws : List Jvm.Cond) (G1 : Int32) (G3 : Value) (G4 : Value) (ar : Addr) (ka : ClassId) (as : List Int32) (n : Nat) (h0 : Heap) (n0 : Nat) (Z0 : n0 ≤ h0.size) (EN : own_env Z G1 G3 G4) (X00 : Old Z n0 h0) (V_ar : Arv Z h0 ar ka .char (4 : Int32) (as.map Value.int) (.int 0)) (h4 : as.length = 4) (hc : ∀ c ∈ as, own_ch c) (hq : ∀ i, i < n → ¬ ((255 : Int32) < (as.getD i 0))) (hn : n < 4) (hbg : (255 : Int32) < (as.getD n 0)) :
    MetFree l y_22 (head1 (Jvm.Cond.code y_22 jdk_52_method_16_code 6 (some (.array .byte)) :: ws) (Rm 3 2 12 40)) (fun a_ U_ => a_ = #[(.ref ar), (.int 0), (.int 4)] ∧ Z.Warmed39 U_.vm ∧ U_.heap = h0) (fun _ _ _ _ _ => True) (fun _ U_ o_ U1_ => ∃ v_ L_, o_ = .returned v_ ∧ own_QD2 Z (Int32.ofNat (2 * as.length)) (own_wide as) h0 n0 v_ U1_.heap L_ ∧ FrameEnd U_ o_ U1_ L_ (Rm 3 2 12 40).cells (Rm 3 2 12 40).slots) := by
  refine MetFree.of_bodySF (plainFor_of_name pn_5) hisR ?_
  intro p e s m args below meth c s₁ Bd hml0 hP hK
  obtain ⟨rfl, hZ, hh⟩ := hP
  have hx := Bd.exec
  have hby := Bd.bytes
  have hml : c.maxLocals = 6 := hml0
  have hown : s.vm.findClass "java/lang/StringUTF16" = some m.cls := findClass_of_methodNamed Bd.named
  have hnm := (name_of_methodNamed Bd.named Bd.method).1
  have X0 : Stand p l e (Rm 3 2 12 40) s m #[(.ref ar), (.int 0), (.int 4)] below meth c s₁ [] 0 0 := Stand.of_body Bd
  have e0 : s₁.heap = h0 := by rw [← hh, Bd.state]; rfl
  have N0 := Fr.nil n0
  have pre0 : ∀ tt, Steps p.tables e below (s₁.setTop (mkF m 0 #[.val (.ref ar), .val (.int 0), .val (.int 4), .unset, .unset, .unset] [])) tt → Steps p.tables e below (s₁.setTop (entryFrame m #[(.ref ar), (.int 0), (.int 4)] 6)) tt := fun tt kk => castTop (ef_5_rrr m ar (0 : Int32) (4 : Int32)) kk
  have EN0 := EN
  obtain ⟨O2, P5, O4, rG3, O6, O7, O8⟩ := EN
  obtain ⟨T1, h1, k1, X1, e1, E1, A1, st1⟩ := newP X0 hx hZ (hw _ (tk 25 rfl)) e0 (g := (mkF m 1 #[.val (.ref ar), .val (.int 0), .val (.int 4), .unset, .unset, .unset] [(.int 4)])) rfl (hb hby d5_1) rfl (by decide) (cap := 4) (by decide) (by decide) (by decide) (by decide)
  obtain ⟨b1, g1⟩ : ∃ z, z = h0.size := ⟨_, rfl⟩
  rw [← g1] at A1 st1
  have g_b1 : n0 ≤ b1 := Nat.le_trans Z0 (Nat.le_of_eq g1.symm)
  have sz_b1 : h0.size ≤ b1 := Nat.le_trans (Nat.le_refl _) (Nat.le_of_eq g1.symm)
  have V1 : Arv Z h1 b1 k1 .byte (4 : Int32) (own_lat (as.take 0)) (.int 0) := Arv.new A1 (by decide)
  have f3 := (V_ar.ext E1)
  obtain ⟨_, _, ⟨T2, L2, k2, n2⟩, -, X2, ⟨Lc2, hQ2, l2, y2, z2⟩, st2⟩ := Jvm.LawKit.callS X1 hx (y := y_20) hown (mvT hZ (hw _ (tk 26 rfl))) (mvT hZ (hw _ (tk 27 rfl))) (mvT hZ (hw _ (tk 23 rfl))) (mvT hZ (hw _ (tk 28 rfl))) (by decide) (backOf (W := 0) (rmCCU l Z a0 hw [] ar ka as b1 k1 n h1 n0 (Nat.le_trans Z0 E1.1) f3 V1 g_b1 h4 hq hn hbg) hZ (hw _ (tk 28 rfl)) (hw _ (tk 23 rfl)) (by decide) (by decide)) (g := (mkF m 9 #[.val (.ref ar), .val (.int 0), .val (.int 4), .val (.ref b1), .unset, .unset] [(.int 4), (.int 0), (.ref b1), (.int 0), (.ref ar)])) rfl (by rw [hml]; rfl) (argsL := [(.ref ar), (.int 0), (.ref b1), (.int 0), (.int 4)]) (rest := []) (lenOf pd___CI_BII_I rfl) rfl (by show 2 * 0 + _ ≤ _; exact Nat.le_of_eq rfl) (hb hby d5_9) (fun _ _ => ⟨rfl, e1, (by decide : 1 + 0 ≤ _), (by decide : 4 + 0 ≤ _)⟩)
  dsimp only [Pt.U, Pt.locs, Pt.cells, Pt.slots] at X2 l2 y2 z2 st2 hQ2
  subst l2 y2 z2
  obtain ⟨rfl, Nq2, Kq2, Vq2⟩ := hQ2
  have N2 := Fr.app N0 Nq2
  have f5 := ((X00.ext E1).keep Kq2 (allS g_b1 all0))
  have f6 := (f3.keep Kq2 (ninS (Nat.ne_of_lt (Nat.lt_of_lt_of_le V_ar.lt (Nat.le_of_eq g1.symm))) nin0))
  obtain ⟨_, _, ⟨T4, L4, k4, n4⟩, -, X4, ⟨Lc4, hQ4, l4, y4, z4⟩, st4⟩ := Jvm.LawKit.callS X2 hx (y := y_21) hown (mvT hZ (hw _ (tk 160 rfl))) (mvT hZ (hw _ (tk 161 rfl))) (mvT hZ (hw _ (tk 23 rfl))) (mvT hZ (hw _ (tk 162 rfl))) (by decide) (backOf (W := 0) (rmTB l Z a0 hw [] G1 G3 G4 ar ka as T2.heap n0 (Nat.le_trans Z0 (Nat.le_trans E1.1 Kq2.1)) EN0 f5 f6 h4) hZ (hw _ (tk 162 rfl)) (hw _ (tk 23 rfl)) (by decide) (by decide)) (g := (mkF m 23 #[.val (.ref ar), .val (.int 0), .val (.int 4), .val (.ref b1), .val (.int (Int32.ofNat n)), .unset] [(.int 4), (.int 0), (.ref ar)])) rfl (by rw [hml]; rfl) (argsL := [(.ref ar), (.int 0), (.int 4)]) (rest := []) (lenOf pd___CII__B rfl) rfl (by show 2 * 0 + _ ≤ _; exact Nat.le_of_eq rfl) (hb hby d5_23) (fun _ _ => ⟨rfl, rfl, (by decide : 1 + 1 ≤ _), (by decide : 4 + 8 ≤ _)⟩)
  dsimp only [Pt.U, Pt.locs, Pt.cells, Pt.slots] at X4 l4 y4 z4 st4 hQ4
  subst l4 y4 z4
  obtain ⟨t4, k4q, rfl, Nq4, gt4, sq4, Kq4, V4q⟩ := hQ4
  have N4 := Fr.app N2 Nq4
  have szt4 : h0.size ≤ t4 := Nat.le_trans (Nat.le_trans E1.1 Kq2.1) sq4
  have f8 := (f5.keep Kq4 all0)
  obtain ⟨_, _, ⟨T7, L7, k7, n7⟩, -, X7, ⟨Lc7, hQ7, l7, y7, z7⟩, st7⟩ := Jvm.LawKit.callS X4 hx (y := y_17) hown (mvT hZ (hw _ (tk 176 rfl))) (mvT hZ (hw _ (tk 177 rfl))) (mvT hZ (hw _ (tk 23 rfl))) (mvT hZ (hw _ (tk 178 rfl))) (by decide) (backOf (W := 0) (rmGC l Z a0 hw [] G1 G3 G4 t4 k4q as n T4.heap n0 (Nat.le_trans Z0 (Nat.le_trans (Nat.le_trans E1.1 Kq2.1) Kq4.1)) EN0 f8 V4q (own_atch hc (by omega)) (by omega) (by omega)) hZ (hw _ (tk 178 rfl)) (hw _ (tk 23 rfl)) (by decide) (by decide)) (g := (mkF m 32 #[.val (.ref ar), .val (.int 0), .val (.int 4), .val (.ref b1), .val (.int (Int32.ofNat n)), .val (.ref t4)] [(.int (Int32.ofNat n)), (.ref t4)])) rfl (by rw [hml]; rfl) (argsL := [(.ref t4), (.int (Int32.ofNat n))]) (rest := []) (lenOf pd___BI_C rfl) rfl (by show 2 * 0 + _ ≤ _; exact Nat.le_of_eq rfl) (hb hby d5_32) (fun _ _ => ⟨rfl, rfl, (by decide : 2 + 0 ≤ _), (by decide : 12 + 0 ≤ _)⟩)
  dsimp only [Pt.U, Pt.locs, Pt.cells, Pt.slots] at X7 l7 y7 z7 st7 hQ7
  subst l7 y7 z7
  obtain ⟨rfl, Nq7, eq7⟩ := hQ7
  have N7 := Fr.app N4 Nq7
  obtain ⟨fs, hr, hrun, hended, hW, hsame⟩ := X7.leave (v := some (.ref t4)) (fun h => by rw [Bd.returns] at h; cases h)
  refine ⟨_, _, pre0 _ ?_, hrun, hended, _, _, rfl, ?_, ⟨_, rfl⟩, hW, hsame.mono (by decide) (by decide)⟩
  · show Steps _ _ _ (s₁.setTop (mkF m 0 #[.val (.ref ar), .val (.int 0), .val (.int 4), .unset, .unset, .unset] [])) _
    refine XS.iloadN X0.here hx rfl (hb hby d5_0) rfl ?_
    show Steps _ _ _ (s₁.setTop (mkF m 1 #[.val (.ref ar), .val (.int 0), .val (.int 4), .unset, .unset, .unset] [(.int 4)])) _
    refine st1 _ ?_
    show Steps _ _ _ (T1.setTop (mkF m 3 #[.val (.ref ar), .val (.int 0), .val (.int 4), .unset, .unset, .unset] [(.ref b1)])) _
    refine XS.astoreN X1.here hx rfl (hb hby d5_3) rfl rfl (l' := #[.val (.ref ar), .val (.int 0), .val (.int 4), .val (.ref b1), .unset, .unset]) rfl ?_
    refine XS.aloadN X1.here hx rfl (hb hby d5_4) rfl rfl ?_
    refine XS.iloadN X1.here hx rfl (hb hby d5_5) rfl ?_
    refine XS.aloadN X1.here hx rfl (hb hby d5_6) rfl rfl ?_
    refine XS.iconst X1.here hx rfl (hb hby d5_7) ?_
    refine XS.iloadN X1.here hx rfl (hb hby d5_8) rfl ?_
    show Steps _ _ _ (T1.setTop (mkF m 9 #[.val (.ref ar), .val (.int 0), .val (.int 4), .val (.ref b1), .unset, .unset] [(.int 4), (.int 0), (.ref b1), (.int 0), (.ref ar)])) _
    refine st2 _ ?_
    show Steps _ _ _ (T2.setTop (mkF m 12 #[.val (.ref ar), .val (.int 0), .val (.int 4), .val (.ref b1), .unset, .unset] [(.int (Int32.ofNat n))])) _
    refine XS.istore X2.here hx rfl (hb hby d5_12) rfl (l' := #[.val (.ref ar), .val (.int 0), .val (.int 4), .val (.ref b1), .val (.int (Int32.ofNat n)), .unset]) rfl ?_
    refine XS.iload X2.here hx rfl (hb hby d5_14) rfl ?_
    refine XS.iloadN X2.here hx rfl (hb hby d5_16) rfl ?_
    refine XS.icmpNo X2.here hx rfl (hb hby d5_17) rfl (feq (own_ne4 hn)).1 ?_
    refine XS.aloadN X2.here hx rfl (hb hby d5_20) rfl rfl ?_
    refine XS.iloadN X2.here hx rfl (hb hby d5_21) rfl ?_
    refine XS.iloadN X2.here hx rfl (hb hby d5_22) rfl ?_
    show Steps _ _ _ (T2.setTop (mkF m 23 #[.val (.ref ar), .val (.int 0), .val (.int 4), .val (.ref b1), .val (.int (Int32.ofNat n)), .unset] [(.int 4), (.int 0), (.ref ar)])) _
    refine st4 _ ?_
    show Steps _ _ _ (T4.setTop (mkF m 26 #[.val (.ref ar), .val (.int 0), .val (.int 4), .val (.ref b1), .val (.int (Int32.ofNat n)), .unset] [(.ref t4)])) _
    refine XS.astore X4.here hx rfl (hb hby d5_26) rfl rfl (l' := #[.val (.ref ar), .val (.int 0), .val (.int 4), .val (.ref b1), .val (.int (Int32.ofNat n)), .val (.ref t4)]) rfl ?_
    refine XS.aload X4.here hx rfl (hb hby d5_28) rfl rfl ?_
    refine XS.iload X4.here hx rfl (hb hby d5_30) rfl ?_
    show Steps _ _ _ (T4.setTop (mkF m 32 #[.val (.ref ar), .val (.int 0), .val (.int 4), .val (.ref b1), .val (.int (Int32.ofNat n)), .val (.ref t4)] [(.int (Int32.ofNat n)), (.ref t4)])) _
    refine st7 _ ?_
    show Steps _ _ _ (T7.setTop (mkF m 35 #[.val (.ref ar), .val (.int 0), .val (.int 4), .val (.ref b1), .val (.int (Int32.ofNat n)), .val (.ref t4)] [(.int (as.getD n 0))])) _
    refine XS.sipush X7.here hx rfl (hb hby d5_35) ?_
    refine XS.icmpYes X7.here hx rfl (pc0 := 38) (pc' := 54) rfl (hb hby d5_38) rfl (tlt hbg).2.2.1 (by decide) (by decide) ?_
    refine XS.aload X7.here hx rfl (hb hby d5_54) rfl rfl ?_
    show Steps _ _ _ (T7.setTop (mkF m 56 #[.val (.ref ar), .val (.int 0), .val (.int 4), .val (.ref b1), .val (.int (Int32.ofNat n)), .val (.ref t4)] [(.ref t4)])) _
    jvm_step X7.here [X7.here.top, hx, (hb hby d5_56), X7.method', Bd.returns, Value.isRef, FieldType.isReference]
    first | (intro acts; rw [hr _ acts rfl rfl rfl]) | rw [hr _ _ rfl rfl rfl]
    exact Steps.refl _
  · show own_QD2 Z (Int32.ofNat (2 * as.length)) (own_wide as) h0 n0 _ T7.heap _
    rw [eq7]
    exact ⟨t4, k4q, rfl, N7, gt4, szt4, ((((Keep.refl h0 []).ext E1).trans Kq2 (allS (P := fun zz => zz ∈ ([] : List Addr) ∨ h0.size ≤ zz) (Or.inr sz_b1) all0)).trans Kq4 all0), V4q⟩
theorem d7_0 : decode jdk_52_method_15_code 0 = .ok (.iload_n 1, 1) := by decide +kernel
theorem d7_1 : decode jdk_52_method_15_code 1 = .ok (.aload_n 0, 1) := by decide +kernel
theorem d7_2 : decode jdk_52_method_15_code 2 = .ok (.arraylength, 1) := by decide +kernel
theorem d7_3 : decode jdk_52_method_15_code 3 = .ok (.isub, 1) := by decide +kernel
theorem d7_4 : decode jdk_52_method_15_code 4 = .ok (.bipush 31, 2) := by decide +kernel
theorem d7_6 : decode jdk_52_method_15_code 6 = .ok (.iushr, 1) := by decide +kernel
theorem d7_7 : decode jdk_52_method_15_code 7 = .ok (.i2b, 1) := by decide +kernel
theorem d7_8 : decode jdk_52_method_15_code 8 = .ok (.ireturn, 1) := by decide +kernel
theorem pn_7 : plainName "java/lang/StringUTF16" = true := by first | (simp [plainName, overriddenIn]; done) | decide +kernel
theorem ef_7_rr (m : MethodId) (x0 : Addr) (x1 : Int32) : entryFrame m #[(.ref x0), (.int x1)] 2 = mkF m 0 #[.val (.ref x0), .val (.int x1)] [] := by first | (simp [entryFrame, mkF, argsToLocals, Value.category]; done) | rfl
theorem rmCLL (l : Launch) (Z : State) (a0 : Array Value) (hw : HW a0 Z) (ws : List Jvm.Cond) (t : Addr) (k : ClassId) (as : List Int32) (h0 : Heap) (n0 : Nat) (Z0 : n0 ≤ h0.size) (V_t : Arv Z h0 t k .byte (4 : Int32) (own_lat as) (.int 0)) (h4 : as.length = 4) :
    MetFree l y_23 (head1 (Jvm.Cond.code y_23 jdk_52_method_15_code 2 (some .byte) :: ws) (Rm 0 0 0 0)) (fun a_ U_ => a_ = #[(.ref t), (.int 4)] ∧ Z.Warmed39 U_.vm ∧ U_.heap = h0) (fun _ _ _ _ _ => True) (fun _ U_ o_ U1_ => ∃ v_ L_, o_ = .returned v_ ∧ own_Q Z (some (.int 0)) h0 n0 v_ U1_.heap L_ ∧ FrameEnd U_ o_ U1_ L_ (Rm 0 0 0 0).cells (Rm 0 0 0 0).slots) := by
  refine MetFree.of_bodySF (plainFor_of_name pn_7) hisR ?_
  intro p e s m args below meth c s₁ Bd hml0 hP hK
  obtain ⟨rfl, hZ, hh⟩ := hP
  have hx := Bd.exec
  have hby := Bd.bytes
  have hml : c.maxLocals = 2 := hml0
  have hown : s.vm.findClass "java/lang/StringUTF16" = some m.cls := findClass_of_methodNamed Bd.named
  have hnm := (name_of_methodNamed Bd.named Bd.method).1
  have X0 : Stand p l e (Rm 0 0 0 0) s m #[(.ref t), (.int 4)] below meth c s₁ [] 0 0 := Stand.of_body Bd
  have e0 : s₁.heap = h0 := by rw [← hh, Bd.state]; rfl
  have N0 := Fr.nil n0
  have pre0 : ∀ tt, Steps p.tables e below (s₁.setTop (mkF m 0 #[.val (.ref t), .val (.int 4)] [])) tt → Steps p.tables e below (s₁.setTop (entryFrame m #[(.ref t), (.int 4)] 2)) tt := fun tt kk => castTop (ef_7_rr m t (4 : Int32)) kk
  obtain ⟨c1, Ar1, -, S1, M1, -, -⟩ := id V_t
  obtain ⟨fs, hr, hrun, hended, hW, hsame⟩ := X0.leave (v := some (.int 0)) (fun h => by rw [Bd.returns] at h; cases h)
  refine ⟨_, _, pre0 _ ?_, hrun, hended, _, _, rfl, ?_, ⟨_, rfl⟩, hW, hsame.mono (by decide) (by decide)⟩
  · show Steps _ _ _ (s₁.setTop (mkF m 0 #[.val (.ref t), .val (.int 4)] [])) _
    refine XS.iloadN X0.here hx rfl (hb hby d7_0) rfl ?_
    refine XS.aloadN X0.here hx rfl (hb hby d7_1) rfl rfl ?_
    show Steps _ _ _ (s₁.setTop (mkF m 2 #[.val (.ref t), .val (.int 4)] [(.ref t), (.int 4)])) _
    refine X0.arraylength hx (by rw [e0]; exact Ar1.1) (State.isArrayOf_alike hZ.alike Ar1.2.1) (g := (mkF m 2 #[.val (.ref t), .val (.int 4)] [(.ref t), (.int 4)])) rfl rfl (hb hby d7_2) _ ?_
    rw [len_of S1 M1]
    show Steps _ _ _ (s₁.setTop (mkF m 3 #[.val (.ref t), .val (.int 4)] [(.int 4), (.int 4)])) _
    refine XS.isub X0.here hx rfl (hb hby d7_3) rfl ?_
    show Steps _ _ _ (s₁.setTop (mkF m 4 #[.val (.ref t), .val (.int 4)] [(.int ((4 : Int32) - (4 : Int32)))])) _
    rw [(by decide : ((4 : Int32) - (4 : Int32)) = (0 : Int32))]
    show Steps _ _ _ (s₁.setTop (mkF m 4 #[.val (.ref t), .val (.int 4)] [(.int 0)])) _
    refine XS.bipush X0.here hx rfl (hb hby d7_4) ?_
    refine XS.iushr X0.here hx rfl (hb hby d7_6) rfl ?_
    show Steps _ _ _ (s₁.setTop (mkF m 7 #[.val (.ref t), .val (.int 4)] [(.int (((0 : Int32).toUInt32 >>> ((31 : Int32) &&& 31).toUInt32).toInt32))])) _
    rw [(by decide : (((0 : Int32).toUInt32 >>> ((31 : Int32) &&& 31).toUInt32).toInt32) = (0 : Int32))]
    show Steps _ _ _ (s₁.setTop (mkF m 7 #[.val (.ref t), .val (.int 4)] [(.int 0)])) _
    refine XS.i2b X0.here hx rfl (hb hby d7_7) rfl ?_
    show Steps _ _ _ (s₁.setTop (mkF m 8 #[.val (.ref t), .val (.int 4)] [(.int ((0 : Int32).toInt8.toInt32))])) _
    rw [(by decide : ((0 : Int32).toInt8.toInt32) = (0 : Int32))]
    show Steps _ _ _ (s₁.setTop (mkF m 8 #[.val (.ref t), .val (.int 4)] [(.int 0)])) _
    exact retN X0 hx (t := .byte) Bd.returns (by simp) (hb hby d7_8) hr
  · show own_Q Z (some (.int 0)) h0 n0 _ s₁.heap _
    rw [e0]
    exact ⟨rfl, N0, rfl⟩
theorem rmCLU (l : Launch) (Z : State) (a0 : Array Value) (hw : HW a0 Z) (ws : List Jvm.Cond) (t : Addr) (k : ClassId) (as : List Int32) (h0 : Heap) (n0 : Nat) (Z0 : n0 ≤ h0.size) (V_t : Arv Z h0 t k .byte (Int32.ofNat (2 * as.length)) (own_wide as) (.int 0)) (h4 : as.length = 4) :
    MetFree l y_23 (head1 (Jvm.Cond.code y_23 jdk_52_method_15_code 2 (some .byte) :: ws) (Rm 0 0 0 0)) (fun a_ U_ => a_ = #[(.ref t), (.int 4)] ∧ Z.Warmed39 U_.vm ∧ U_.heap = h0) (fun _ _ _ _ _ => True) (fun _ U_ o_ U1_ => ∃ v_ L_, o_ = .returned v_ ∧ own_Q Z (some (.int 1)) h0 n0 v_ U1_.heap L_ ∧ FrameEnd U_ o_ U1_ L_ (Rm 0 0 0 0).cells (Rm 0 0 0 0).slots) := by
  refine MetFree.of_bodySF (plainFor_of_name pn_7) hisR ?_
  intro p e s m args below meth c s₁ Bd hml0 hP hK
  obtain ⟨rfl, hZ, hh⟩ := hP
  have hx := Bd.exec
  have hby := Bd.bytes
  have hml : c.maxLocals = 2 := hml0
  have hown : s.vm.findClass "java/lang/StringUTF16" = some m.cls := findClass_of_methodNamed Bd.named
  have hnm := (name_of_methodNamed Bd.named Bd.method).1
  have X0 : Stand p l e (Rm 0 0 0 0) s m #[(.ref t), (.int 4)] below meth c s₁ [] 0 0 := Stand.of_body Bd
  have e0 : s₁.heap = h0 := by rw [← hh, Bd.state]; rfl
  have N0 := Fr.nil n0
  have pre0 : ∀ tt, Steps p.tables e below (s₁.setTop (mkF m 0 #[.val (.ref t), .val (.int 4)] [])) tt → Steps p.tables e below (s₁.setTop (entryFrame m #[(.ref t), (.int 4)] 2)) tt := fun tt kk => castTop (ef_7_rr m t (4 : Int32)) kk
  obtain ⟨c1, Ar1, -, S1, M1, -, -⟩ := id V_t
  obtain ⟨fs, hr, hrun, hended, hW, hsame⟩ := X0.leave (v := some (.int 1)) (fun h => by rw [Bd.returns] at h; cases h)
  refine ⟨_, _, pre0 _ ?_, hrun, hended, _, _, rfl, ?_, ⟨_, rfl⟩, hW, hsame.mono (by decide) (by decide)⟩
  · show Steps _ _ _ (s₁.setTop (mkF m 0 #[.val (.ref t), .val (.int 4)] [])) _
    refine XS.iloadN X0.here hx rfl (hb hby d7_0) rfl ?_
    refine XS.aloadN X0.here hx rfl (hb hby d7_1) rfl rfl ?_
    show Steps _ _ _ (s₁.setTop (mkF m 2 #[.val (.ref t), .val (.int 4)] [(.ref t), (.int 4)])) _
    refine X0.arraylength hx (by rw [e0]; exact Ar1.1) (State.isArrayOf_alike hZ.alike Ar1.2.1) (g := (mkF m 2 #[.val (.ref t), .val (.int 4)] [(.ref t), (.int 4)])) rfl rfl (hb hby d7_2) _ ?_
    rw [len_of S1 M1]
    show Steps _ _ _ (s₁.setTop (mkF m 3 #[.val (.ref t), .val (.int 4)] [(.int (Int32.ofNat (2 * as.length))), (.int 4)])) _
    refine XS.isub X0.here hx rfl (hb hby d7_3) rfl ?_
    show Steps _ _ _ (s₁.setTop (mkF m 4 #[.val (.ref t), .val (.int 4)] [(.int ((4 : Int32) - (Int32.ofNat (2 * as.length))))])) _
    rw [(show ((4 : Int32) - (Int32.ofNat (2 * as.length))) = (-4 : Int32) by rw [h4]; decide)]
    show Steps _ _ _ (s₁.setTop (mkF m 4 #[.val (.ref t), .val (.int 4)] [(.int (-4 : Int32))])) _
    refine XS.bipush X0.here hx rfl (hb hby d7_4) ?_
    refine XS.iushr X0.here hx rfl (hb hby d7_6) rfl ?_
    show Steps _ _ _ (s₁.setTop (mkF m 7 #[.val (.ref t), .val (.int 4)] [(.int (((-4 : Int32).toUInt32 >>> ((31 : Int32) &&& 31).toUInt32).toInt32))])) _
    rw [(by decide : (((-4 : Int32).toUInt32 >>> ((31 : Int32) &&& 31).toUInt32).toInt32) = (1 : Int32))]
    show Steps _ _ _ (s₁.setTop (mkF m 7 #[.val (.ref t), .val (.int 4)] [(.int 1)])) _
    refine XS.i2b X0.here hx rfl (hb hby d7_7) rfl ?_
    show Steps _ _ _ (s₁.setTop (mkF m 8 #[.val (.ref t), .val (.int 4)] [(.int ((1 : Int32).toInt8.toInt32))])) _
    rw [(by decide : ((1 : Int32).toInt8.toInt32) = (1 : Int32))]
    show Steps _ _ _ (s₁.setTop (mkF m 8 #[.val (.ref t), .val (.int 4)] [(.int 1)])) _
    exact retN X0 hx (t := .byte) Bd.returns (by simp) (hb hby d7_8) hr
  · show own_Q Z (some (.int 1)) h0 n0 _ s₁.heap _
    rw [e0]
    exact ⟨rfl, N0, rfl⟩
theorem own_l1_of {as : List Int32} (h4 : as.length = 4) (hc : ∀ c ∈ as, own_ch c) (hq : ∀ i, i < 4 → ¬ ((255 : Int32) < (as.getD i 0))) : own_l1 as := fun c hm => by
  obtain ⟨u, hu, e⟩ := List.getElem_of_mem hm
  have e2 : as.getD u 0 = c := by rw [← e]; simp [List.getD_eq_getElem?_getD, hu]
  exact ⟨(hc c hm).1, by rw [← e2]; exact hq u (by omega)⟩
theorem own_first {P : Nat → Prop} (h : ¬ ∀ i, i < 4 → ¬ P i) : ∃ n, n < 4 ∧ (∀ i, i < n → ¬ P i) ∧ P n := by
  by_cases h0 : P 0
  · exact ⟨0, by omega, fun i hi => absurd hi (by omega), h0⟩
  · by_cases h1 : P 1
    · exact ⟨1, by omega, fun i hi => by obtain rfl : i = 0 := by omega
                                         exact h0, h1⟩
    · by_cases h2 : P 2
      · refine ⟨2, by omega, fun i hi => ?_, h2⟩
        match i, hi with
        | 0, _ => exact h0
        | 1, _ => exact h1
      · by_cases h3 : P 3
        · refine ⟨3, by omega, fun i hi => ?_, h3⟩
          match i, hi with
          | 0, _ => exact h0
          | 1, _ => exact h1
          | 2, _ => exact h2
        · exact absurd (fun i hi => match i, hi with
            | 0, _ => h0
            | 1, _ => h1
            | 2, _ => h2
            | 3, _ => h3) h
theorem d3_0 : decode jdk_42_method_149_code 0 = .ok (.aload_n 0, 1) := by decide +kernel
theorem d3_1 : decode jdk_42_method_149_code 1 = .ok (.invokespecial 1, 3) := by decide +kernel
theorem d3_4 : decode jdk_42_method_149_code 4 = .ok (.iload_n 3, 1) := by decide +kernel
theorem d3_5 : decode jdk_42_method_149_code 5 = .ok (.ifCond .ne 22, 3) := by decide +kernel
theorem d3_27 : decode jdk_42_method_149_code 27 = .ok (.getstatic 38, 3) := by decide +kernel
theorem d3_30 : decode jdk_42_method_149_code 30 = .ok (.ifCond .eq 28, 3) := by decide +kernel
theorem d3_33 : decode jdk_42_method_149_code 33 = .ok (.aload_n 1, 1) := by decide +kernel
theorem d3_34 : decode jdk_42_method_149_code 34 = .ok (.iload_n 2, 1) := by decide +kernel
theorem d3_35 : decode jdk_42_method_149_code 35 = .ok (.iload_n 3, 1) := by decide +kernel
theorem d3_36 : decode jdk_42_method_149_code 36 = .ok (.invokestatic 177, 3) := by decide +kernel
theorem d3_39 : decode jdk_42_method_149_code 39 = .ok (.astore 5, 2) := by decide +kernel
theorem d3_41 : decode jdk_42_method_149_code 41 = .ok (.aload_n 0, 1) := by decide +kernel
theorem d3_42 : decode jdk_42_method_149_code 42 = .ok (.aload 5, 2) := by decide +kernel
theorem d3_44 : decode jdk_42_method_149_code 44 = .ok (.iload_n 3, 1) := by decide +kernel
theorem pd___BI_B : parseMethodDescriptor "([BI)B" = some ⟨[(.array .byte), .int], some .byte⟩ := by decide +kernel
theorem d3_45 : decode jdk_42_method_149_code 45 = .ok (.invokestatic 47, 3) := by decide +kernel
theorem d3_48 : decode jdk_42_method_149_code 48 = .ok (.putfield 15, 3) := by decide +kernel
theorem d3_51 : decode jdk_42_method_149_code 51 = .ok (.aload_n 0, 1) := by decide +kernel
theorem d3_52 : decode jdk_42_method_149_code 52 = .ok (.aload 5, 2) := by decide +kernel
theorem d3_54 : decode jdk_42_method_149_code 54 = .ok (.putfield 9, 3) := by decide +kernel
theorem d3_57 : decode jdk_42_method_149_code 57 = .ok (.return_, 1) := by decide +kernel
theorem pn_3 : plainName "java/lang/String" = true := by first | (simp [plainName, overriddenIn]; done) | decide +kernel
theorem ef_3_rrrrn (m : MethodId) (x0 : Addr) (x1 : Addr) (x2 : Int32) (x3 : Int32) : entryFrame m #[(.ref x0), (.ref x1), (.int x2), (.int x3), .null] 6 = mkF m 0 #[.val (.ref x0), .val (.ref x1), .val (.int x2), .val (.int x3), .val .null, .unset] [] := by first | (simp [entryFrame, mkF, argsToLocals, Value.category]; done) | rfl
theorem rmIVL (l : Launch) (Z : State) (a0 : Array Value) (hw : HW a0 Z) (ws : List Jvm.Cond) (G1 : Int32) (G3 : Value) (G4 : Value) (x : Addr) (ar : Addr) (ka : ClassId) (as : List Int32) (h0 : Heap) (n0 : Nat) (Z0 : n0 ≤ h0.size) (EN : own_env Z G1 G3 G4) (X00 : Old Z n0 h0) (E_x : Exa Z h0 x "java/lang/String") (F_coder_x : Fld Z h0 x "java/lang/String" "coder" "B" (.int 0)) (F_value_x : Fld Z h0 x "java/lang/String" "value" "[B" .null) (g_x : n0 ≤ x) (V_ar : Arv Z h0 ar ka .char (4 : Int32) (as.map Value.int) (.int 0)) (h4 : as.length = 4) (hc : ∀ c ∈ as, own_ch c) (hq : ∀ i, i < 4 → ¬ ((255 : Int32) < (as.getD i 0))) :
    MetFree l y_24 (head1 (Jvm.Cond.code y_24 jdk_42_method_149_code 6 none :: ws) (Rm 4 2 12 57)) (fun a_ U_ => a_ = #[(.ref x), (.ref ar), (.int 0), (.int 4), .null] ∧ Z.Warmed39 U_.vm ∧ U_.heap = h0) (fun _ _ _ _ _ => True) (fun _ U_ o_ U1_ => ∃ v_ L_, o_ = .returned v_ ∧ own_QS Z x as h0 n0 v_ U1_.heap L_ ∧ FrameEnd U_ o_ U1_ L_ (Rm 4 2 12 57).cells (Rm 4 2 12 57).slots) := by
  refine MetFree.of_bodySF (plainFor_of_name pn_3) hisR ?_
  intro p e s m args below meth c s₁ Bd hml0 hP hK
  obtain ⟨rfl, hZ, hh⟩ := hP
  have hx := Bd.exec
  have hby := Bd.bytes
  have hml : c.maxLocals = 6 := hml0
  have hown : s.vm.findClass "java/lang/String" = some m.cls := findClass_of_methodNamed Bd.named
  have hnm := (name_of_methodNamed Bd.named Bd.method).1
  have X0 : Stand p l e (Rm 4 2 12 57) s m #[(.ref x), (.ref ar), (.int 0), (.int 4), .null] below meth c s₁ [] 0 0 := Stand.of_body Bd
  have e0 : s₁.heap = h0 := by rw [← hh, Bd.state]; rfl
  have N0 := Fr.nil n0
  have pre0 : ∀ tt, Steps p.tables e below (s₁.setTop (mkF m 0 #[.val (.ref x), .val (.ref ar), .val (.int 0), .val (.int 4), .val .null, .unset] [])) tt → Steps p.tables e below (s₁.setTop (entryFrame m #[(.ref x), (.ref ar), (.int 0), (.int 4), .null] 6)) tt := fun tt kk => castTop (ef_3_rrrrn m x ar (0 : Int32) (4 : Int32)) kk
  have EN0 := EN
  obtain ⟨O2, P5, O4, rG3, O6, O7, O8⟩ := EN
  obtain ⟨T1, X1, e1, st1⟩ := initO X0 hx hZ hown (hw _ (tk 17 rfl)) (hw _ (tk 18 rfl)) (hw _ (tk 19 rfl)) e0 (g := (mkF m 1 #[.val (.ref x), .val (.ref ar), .val (.int 0), .val (.int 4), .val .null, .unset] [(.ref x)])) rfl (by rw [hml]; rfl) rfl (hb hby d3_1) (by decide) (W := 0) (by show 2 * 0 + _ ≤ _; exact Nat.le_of_eq rfl) (by decide)
  obtain ⟨T2, X2, e2, st2⟩ := getS2 X1 hx hZ hown (host := "") (Or.inl (hw _ (tk 20 rfl))) Via.refl e1 (Sta.ext X00.2 O2) (g := (mkF m 27 #[.val (.ref x), .val (.ref ar), .val (.int 0), .val (.int 4), .val .null, .unset] [])) rfl (hb hby d3_27)
  obtain ⟨_, _, ⟨T3, L3, k3, n3⟩, -, X3, ⟨Lc3, hQ3, l3, y3, z3⟩, st3⟩ := Jvm.LawKit.callS X2 hx (y := y_22) hown (mvT hZ (hw _ (tk 21 rfl))) (mvT hZ (hw _ (tk 22 rfl))) (mvT hZ (hw _ (tk 23 rfl))) (mvT hZ (hw _ (tk 24 rfl))) (by decide) (backOf (W := 0) (rmCDLc l Z a0 hw [] G1 G3 G4 ar ka as h0 n0 Z0 EN0 X00 V_ar h4 hc hq) hZ (hw _ (tk 24 rfl)) (hw _ (tk 23 rfl)) (by decide) (by decide)) (g := (mkF m 36 #[.val (.ref x), .val (.ref ar), .val (.int 0), .val (.int 4), .val .null, .unset] [(.int 4), (.int 0), (.ref ar)])) rfl (by rw [hml]; rfl) (argsL := [(.ref ar), (.int 0), (.int 4)]) (rest := []) (lenOf pd___CII__B rfl) rfl (by show 2 * 0 + _ ≤ _; exact Nat.le_of_eq rfl) (hb hby d3_36) (fun _ _ => ⟨rfl, e2, (by decide : 0 + 1 ≤ _), (by decide : 0 + 4 ≤ _)⟩)
  dsimp only [Pt.U, Pt.locs, Pt.cells, Pt.slots] at X3 l3 y3 z3 st3 hQ3
  subst l3 y3 z3
  obtain ⟨t3, k3q, rfl, Nq3, gt3, sq3, Kq3, V3q⟩ := hQ3
  have N3 := Fr.app N0 Nq3
  have szt3 : h0.size ≤ t3 := Nat.le_trans (Nat.le_refl _) sq3
  obtain ⟨_, _, ⟨T4, L4, k4, n4⟩, -, X4, ⟨Lc4, hQ4, l4, y4, z4⟩, st4⟩ := Jvm.LawKit.callS X3 hx (y := y_23) hown (mvT hZ (hw _ (tk 29 rfl))) (mvT hZ (hw _ (tk 30 rfl))) (mvT hZ (hw _ (tk 23 rfl))) (mvT hZ (hw _ (tk 31 rfl))) (by decide) (backOf (W := 1) (rmCLL l Z a0 hw [] t3 k3q as T3.heap n0 (Nat.le_trans Z0 Kq3.1) V3q h4) hZ (hw _ (tk 31 rfl)) (hw _ (tk 23 rfl)) (by decide) (by decide)) (g := (mkF m 45 #[.val (.ref x), .val (.ref ar), .val (.int 0), .val (.int 4), .val .null, .val (.ref t3)] [(.int 4), (.ref t3), (.ref x)])) rfl (by rw [hml]; rfl) (argsL := [(.ref t3), (.int 4)]) (rest := [(.ref x)]) (lenOf pd___BI_B rfl) rfl (by show 2 * 0 + _ ≤ _; exact Nat.le_of_eq rfl) (hb hby d3_45) (fun _ _ => ⟨rfl, rfl, (by decide : 1 + 0 ≤ _), (by decide : 4 + 0 ≤ _)⟩)
  dsimp only [Pt.U, Pt.locs, Pt.cells, Pt.slots] at X4 l4 y4 z4 st4 hQ4
  subst l4 y4 z4
  obtain ⟨rfl, Nq4, eq4⟩ := hQ4
  have N4 := Fr.app N3 Nq4
  have f6 := (E_x.keep Kq3)
  have f7 := (F_coder_x.keep Kq3 nin0)
  obtain ⟨T5, h5, X5, e5, W5, st5⟩ := putFN X4 hx hZ hown (hw _ (tk 32 rfl)) Via.refl eq4 f7 f6 (Or.inr ⟨(hw _ (tk 33 rfl)), rfl, hnm⟩) (hw _ (tk 8 rfl)) (ty := .byte) (v' := (.int 0)) (by decide) rfl (by decide) (g := (mkF m 48 #[.val (.ref x), .val (.ref ar), .val (.int 0), .val (.int 4), .val .null, .val (.ref t3)] [(.int 0), (.ref x)])) rfl rfl (hb hby d3_48)
  have Fw5 := f7.same W5
  have N5 := Fr.snoc X5 N4 g_x
  have f9 := (f6.wr W5)
  have f10 := ((F_value_x.keep Kq3 nin0).other W5 (Or.inr (slot_ne (Or.inr (hw _ (tk 35 rfl))) (Or.inr (hw _ (tk 33 rfl))) (by decide) (t := (.array .byte)) (t' := .byte) (by decide) (by decide))))
  obtain ⟨T8, h8, X8, e8, W8, st8⟩ := putF X5 hx hZ hown (host := "") (Or.inl (hw _ (tk 34 rfl))) Via.refl e5 f10 f9 (Or.inr ⟨(hw _ (tk 35 rfl)), rfl, hnm⟩) (hw _ (tk 8 rfl)) (ty := (.array .byte)) (by decide) rfl rfl (g := (mkF m 54 #[.val (.ref x), .val (.ref ar), .val (.int 0), .val (.int 4), .val .null, .val (.ref t3)] [(.ref t3), (.ref x)])) rfl rfl (hb hby d3_54)
  have Fw8 := f10.same W8
  have N8 := Fr.snoc X8 N5 g_x
  have f11 := ((V3q.other W5 (Ne.symm (Nat.ne_of_lt (Nat.lt_of_lt_of_le E_x.lt sq3)))).other W8 (Ne.symm (Nat.ne_of_lt (Nat.lt_of_lt_of_le E_x.lt sq3))))
  have f12 := (f9.wr W8)
  have f13 := (Fw5.other W8 (Or.inr (slot_ne (Or.inr (hw _ (tk 33 rfl))) (Or.inr (hw _ (tk 35 rfl))) (by decide) (t := .byte) (t' := (.array .byte)) (by decide) (by decide))))
  obtain ⟨fs, hr, hrun, hended, hW, hsame⟩ := X8.leave (v := none) (fun _ => rfl)
  refine ⟨_, _, pre0 _ ?_, hrun, hended, _, _, rfl, ?_, ⟨_, rfl⟩, hW, hsame.mono (by decide) (by decide)⟩
  · show Steps _ _ _ (s₁.setTop (mkF m 0 #[.val (.ref x), .val (.ref ar), .val (.int 0), .val (.int 4), .val .null, .unset] [])) _
    refine XS.aloadN X0.here hx rfl (hb hby d3_0) rfl rfl ?_
    show Steps _ _ _ (s₁.setTop (mkF m 1 #[.val (.ref x), .val (.ref ar), .val (.int 0), .val (.int 4), .val .null, .unset] [(.ref x)])) _
    refine st1 _ ?_
    show Steps _ _ _ (T1.setTop (mkF m 4 #[.val (.ref x), .val (.ref ar), .val (.int 0), .val (.int 4), .val .null, .unset] [])) _
    refine XS.iloadN X1.here hx rfl (hb hby d3_4) rfl ?_
    refine XS.ifYes X1.here hx rfl (pc0 := 5) (pc' := 27) rfl (hb hby d3_5) rfl ((if0 _ _).trans (feq (by decide : ¬ ((4 : Int32) = (0 : Int32)))).2) (by decide) (by decide) ?_
    show Steps _ _ _ (T1.setTop (mkF m 27 #[.val (.ref x), .val (.ref ar), .val (.int 0), .val (.int 4), .val .null, .unset] [])) _
    refine st2 _ ?_
    show Steps _ _ _ (T2.setTop (mkF m 30 #[.val (.ref x), .val (.ref ar), .val (.int 0), .val (.int 4), .val .null, .unset] [(.int G1)])) _
    refine XS.ifNo X2.here hx rfl (hb hby d3_30) rfl ((if0 _ _).trans (feq P5).1) ?_
    refine XS.aloadN X2.here hx rfl (hb hby d3_33) rfl rfl ?_
    refine XS.iloadN X2.here hx rfl (hb hby d3_34) rfl ?_
    refine XS.iloadN X2.here hx rfl (hb hby d3_35) rfl ?_
    show Steps _ _ _ (T2.setTop (mkF m 36 #[.val (.ref x), .val (.ref ar), .val (.int 0), .val (.int 4), .val .null, .unset] [(.int 4), (.int 0), (.ref ar)])) _
    refine st3 _ ?_
    show Steps _ _ _ (T3.setTop (mkF m 39 #[.val (.ref x), .val (.ref ar), .val (.int 0), .val (.int 4), .val .null, .unset] [(.ref t3)])) _
    refine XS.astore X3.here hx rfl (hb hby d3_39) rfl rfl (l' := #[.val (.ref x), .val (.ref ar), .val (.int 0), .val (.int 4), .val .null, .val (.ref t3)]) rfl ?_
    refine XS.aloadN X3.here hx rfl (hb hby d3_41) rfl rfl ?_
    refine XS.aload X3.here hx rfl (hb hby d3_42) rfl rfl ?_
    refine XS.iloadN X3.here hx rfl (hb hby d3_44) rfl ?_
    show Steps _ _ _ (T3.setTop (mkF m 45 #[.val (.ref x), .val (.ref ar), .val (.int 0), .val (.int 4), .val .null, .val (.ref t3)] [(.int 4), (.ref t3), (.ref x)])) _
    refine st4 _ ?_
    show Steps _ _ _ (T4.setTop (mkF m 48 #[.val (.ref x), .val (.ref ar), .val (.int 0), .val (.int 4), .val .null, .val (.ref t3)] [(.int 0), (.ref x)])) _
    refine st5 _ ?_
    show Steps _ _ _ (T5.setTop (mkF m 51 #[.val (.ref x), .val (.ref ar), .val (.int 0), .val (.int 4), .val .null, .val (.ref t3)] [])) _
    refine XS.aloadN X5.here hx rfl (hb hby d3_51) rfl rfl ?_
    refine XS.aload X5.here hx rfl (hb hby d3_52) rfl rfl ?_
    show Steps _ _ _ (T5.setTop (mkF m 54 #[.val (.ref x), .val (.ref ar), .val (.int 0), .val (.int 4), .val .null, .val (.ref t3)] [(.ref t3), (.ref x)])) _
    refine st8 _ ?_
    show Steps _ _ _ (T8.setTop (mkF m 57 #[.val (.ref x), .val (.ref ar), .val (.int 0), .val (.int 4), .val .null, .val (.ref t3)] [])) _
    exact X8.returnOut hx Bd.returns (hb hby d3_57) hr
  · show own_QS Z x as h0 n0 _ T8.heap _
    rw [e8]
    exact ⟨rfl, N8, ((((Keep.refl h0 [x]).trans Kq3 all0).wr W5 (Or.inl (tk 0 rfl))).wr W8 (Or.inl (tk 0 rfl))), t3, k3q, f12, Fw8, Or.inl ⟨f13, (by rw [h4]; exact f11), own_l1_of h4 hc hq⟩⟩
theorem rmIVU (l : Launch) (Z : State) (a0 : Array Value) (hw : HW a0 Z) (ws : List Jvm.Cond) (G1 : Int32) (G3 : Value) (G4 : Value) (x : Addr) (ar : Addr) (ka : ClassId) (as : List Int32) (n : Nat) (h0 : Heap) (n0 : Nat) (Z0 : n0 ≤ h0.size) (EN : own_env Z G1 G3 G4) (X00 : Old Z n0 h0) (E_x : Exa Z h0 x "java/lang/String") (F_coder_x : Fld Z h0 x "java/lang/String" "coder" "B" (.int 0)) (F_value_x : Fld Z h0 x "java/lang/String" "value" "[B" .null) (g_x : n0 ≤ x) (V_ar : Arv Z h0 ar ka .char (4 : Int32) (as.map Value.int) (.int 0)) (h4 : as.length = 4) (hc : ∀ c ∈ as, own_ch c) (hq : ∀ i, i < n → ¬ ((255 : Int32) < (as.getD i 0))) (hn : n < 4) (hbg : (255 : Int32) < (as.getD n 0)) :
    MetFree l y_24 (head1 (Jvm.Cond.code y_24 jdk_42_method_149_code 6 none :: ws) (Rm 4 2 12 57)) (fun a_ U_ => a_ = #[(.ref x), (.ref ar), (.int 0), (.int 4), .null] ∧ Z.Warmed39 U_.vm ∧ U_.heap = h0) (fun _ _ _ _ _ => True) (fun _ U_ o_ U1_ => ∃ v_ L_, o_ = .returned v_ ∧ own_QS Z x as h0 n0 v_ U1_.heap L_ ∧ FrameEnd U_ o_ U1_ L_ (Rm 4 2 12 57).cells (Rm 4 2 12 57).slots) := by
  refine MetFree.of_bodySF (plainFor_of_name pn_3) hisR ?_
  intro p e s m args below meth c s₁ Bd hml0 hP hK
  obtain ⟨rfl, hZ, hh⟩ := hP
  have hx := Bd.exec
  have hby := Bd.bytes
  have hml : c.maxLocals = 6 := hml0
  have hown : s.vm.findClass "java/lang/String" = some m.cls := findClass_of_methodNamed Bd.named
  have hnm := (name_of_methodNamed Bd.named Bd.method).1
  have X0 : Stand p l e (Rm 4 2 12 57) s m #[(.ref x), (.ref ar), (.int 0), (.int 4), .null] below meth c s₁ [] 0 0 := Stand.of_body Bd
  have e0 : s₁.heap = h0 := by rw [← hh, Bd.state]; rfl
  have N0 := Fr.nil n0
  have pre0 : ∀ tt, Steps p.tables e below (s₁.setTop (mkF m 0 #[.val (.ref x), .val (.ref ar), .val (.int 0), .val (.int 4), .val .null, .unset] [])) tt → Steps p.tables e below (s₁.setTop (entryFrame m #[(.ref x), (.ref ar), (.int 0), (.int 4), .null] 6)) tt := fun tt kk => castTop (ef_3_rrrrn m x ar (0 : Int32) (4 : Int32)) kk
  have EN0 := EN
  obtain ⟨O2, P5, O4, rG3, O6, O7, O8⟩ := EN
  obtain ⟨T1, X1, e1, st1⟩ := initO X0 hx hZ hown (hw _ (tk 17 rfl)) (hw _ (tk 18 rfl)) (hw _ (tk 19 rfl)) e0 (g := (mkF m 1 #[.val (.ref x), .val (.ref ar), .val (.int 0), .val (.int 4), .val .null, .unset] [(.ref x)])) rfl (by rw [hml]; rfl) rfl (hb hby d3_1) (by decide) (W := 0) (by show 2 * 0 + _ ≤ _; exact Nat.le_of_eq rfl) (by decide)
  obtain ⟨T2, X2, e2, st2⟩ := getS2 X1 hx hZ hown (host := "") (Or.inl (hw _ (tk 20 rfl))) Via.refl e1 (Sta.ext X00.2 O2) (g := (mkF m 27 #[.val (.ref x), .val (.ref ar), .val (.int 0), .val (.int 4), .val .null, .unset] [])) rfl (hb hby d3_27)
  obtain ⟨_, _, ⟨T3, L3, k3, n3⟩, -, X3, ⟨Lc3, hQ3, l3, y3, z3⟩, st3⟩ := Jvm.LawKit.callS X2 hx (y := y_22) hown (mvT hZ (hw _ (tk 21 rfl))) (mvT hZ (hw _ (tk 22 rfl))) (mvT hZ (hw _ (tk 23 rfl))) (mvT hZ (hw _ (tk 24 rfl))) (by decide) (backOf (W := 0) (rmCDUc l Z a0 hw [] G1 G3 G4 ar ka as n h0 n0 Z0 EN0 X00 V_ar h4 hc hq hn hbg) hZ (hw _ (tk 24 rfl)) (hw _ (tk 23 rfl)) (by decide) (by decide)) (g := (mkF m 36 #[.val (.ref x), .val (.ref ar), .val (.int 0), .val (.int 4), .val .null, .unset] [(.int 4), (.int 0), (.ref ar)])) rfl (by rw [hml]; rfl) (argsL := [(.ref ar), (.int 0), (.int 4)]) (rest := []) (lenOf pd___CII__B rfl) rfl (by show 2 * 0 + _ ≤ _; exact Nat.le_of_eq rfl) (hb hby d3_36) (fun _ _ => ⟨rfl, e2, (by decide : 0 + 2 ≤ _), (by decide : 0 + 12 ≤ _)⟩)
  dsimp only [Pt.U, Pt.locs, Pt.cells, Pt.slots] at X3 l3 y3 z3 st3 hQ3
  subst l3 y3 z3
  obtain ⟨t3, k3q, rfl, Nq3, gt3, sq3, Kq3, V3q⟩ := hQ3
  have N3 := Fr.app N0 Nq3
  have szt3 : h0.size ≤ t3 := Nat.le_trans (Nat.le_refl _) sq3
  obtain ⟨_, _, ⟨T4, L4, k4, n4⟩, -, X4, ⟨Lc4, hQ4, l4, y4, z4⟩, st4⟩ := Jvm.LawKit.callS X3 hx (y := y_23) hown (mvT hZ (hw _ (tk 29 rfl))) (mvT hZ (hw _ (tk 30 rfl))) (mvT hZ (hw _ (tk 23 rfl))) (mvT hZ (hw _ (tk 31 rfl))) (by decide) (backOf (W := 1) (rmCLU l Z a0 hw [] t3 k3q as T3.heap n0 (Nat.le_trans Z0 Kq3.1) V3q h4) hZ (hw _ (tk 31 rfl)) (hw _ (tk 23 rfl)) (by decide) (by decide)) (g := (mkF m 45 #[.val (.ref x), .val (.ref ar), .val (.int 0), .val (.int 4), .val .null, .val (.ref t3)] [(.int 4), (.ref t3), (.ref x)])) rfl (by rw [hml]; rfl) (argsL := [(.ref t3), (.int 4)]) (rest := [(.ref x)]) (lenOf pd___BI_B rfl) rfl (by show 2 * 0 + _ ≤ _; exact Nat.le_of_eq rfl) (hb hby d3_45) (fun _ _ => ⟨rfl, rfl, (by decide : 2 + 0 ≤ _), (by decide : 12 + 0 ≤ _)⟩)
  dsimp only [Pt.U, Pt.locs, Pt.cells, Pt.slots] at X4 l4 y4 z4 st4 hQ4
  subst l4 y4 z4
  obtain ⟨rfl, Nq4, eq4⟩ := hQ4
  have N4 := Fr.app N3 Nq4
  have f6 := (E_x.keep Kq3)
  have f7 := (F_coder_x.keep Kq3 nin0)
  obtain ⟨T5, h5, X5, e5, W5, st5⟩ := putFN X4 hx hZ hown (hw _ (tk 32 rfl)) Via.refl eq4 f7 f6 (Or.inr ⟨(hw _ (tk 33 rfl)), rfl, hnm⟩) (hw _ (tk 8 rfl)) (ty := .byte) (v' := (.int 1)) (by decide) rfl (by decide) (g := (mkF m 48 #[.val (.ref x), .val (.ref ar), .val (.int 0), .val (.int 4), .val .null, .val (.ref t3)] [(.int 1), (.ref x)])) rfl rfl (hb hby d3_48)
  have Fw5 := f7.same W5
  have N5 := Fr.snoc X5 N4 g_x
  have f9 := (f6.wr W5)
  have f10 := ((F_value_x.keep Kq3 nin0).other W5 (Or.inr (slot_ne (Or.inr (hw _ (tk 35 rfl))) (Or.inr (hw _ (tk 33 rfl))) (by decide) (t := (.array .byte)) (t' := .byte) (by decide) (by decide))))
  obtain ⟨T8, h8, X8, e8, W8, st8⟩ := putF X5 hx hZ hown (host := "") (Or.inl (hw _ (tk 34 rfl))) Via.refl e5 f10 f9 (Or.inr ⟨(hw _ (tk 35 rfl)), rfl, hnm⟩) (hw _ (tk 8 rfl)) (ty := (.array .byte)) (by decide) rfl rfl (g := (mkF m 54 #[.val (.ref x), .val (.ref ar), .val (.int 0), .val (.int 4), .val .null, .val (.ref t3)] [(.ref t3), (.ref x)])) rfl rfl (hb hby d3_54)
  have Fw8 := f10.same W8
  have N8 := Fr.snoc X8 N5 g_x
  have f11 := ((V3q.other W5 (Ne.symm (Nat.ne_of_lt (Nat.lt_of_lt_of_le E_x.lt sq3)))).other W8 (Ne.symm (Nat.ne_of_lt (Nat.lt_of_lt_of_le E_x.lt sq3))))
  have f12 := (f9.wr W8)
  have f13 := (Fw5.other W8 (Or.inr (slot_ne (Or.inr (hw _ (tk 33 rfl))) (Or.inr (hw _ (tk 35 rfl))) (by decide) (t := .byte) (t' := (.array .byte)) (by decide) (by decide))))
  obtain ⟨fs, hr, hrun, hended, hW, hsame⟩ := X8.leave (v := none) (fun _ => rfl)
  refine ⟨_, _, pre0 _ ?_, hrun, hended, _, _, rfl, ?_, ⟨_, rfl⟩, hW, hsame.mono (by decide) (by decide)⟩
  · show Steps _ _ _ (s₁.setTop (mkF m 0 #[.val (.ref x), .val (.ref ar), .val (.int 0), .val (.int 4), .val .null, .unset] [])) _
    refine XS.aloadN X0.here hx rfl (hb hby d3_0) rfl rfl ?_
    show Steps _ _ _ (s₁.setTop (mkF m 1 #[.val (.ref x), .val (.ref ar), .val (.int 0), .val (.int 4), .val .null, .unset] [(.ref x)])) _
    refine st1 _ ?_
    show Steps _ _ _ (T1.setTop (mkF m 4 #[.val (.ref x), .val (.ref ar), .val (.int 0), .val (.int 4), .val .null, .unset] [])) _
    refine XS.iloadN X1.here hx rfl (hb hby d3_4) rfl ?_
    refine XS.ifYes X1.here hx rfl (pc0 := 5) (pc' := 27) rfl (hb hby d3_5) rfl ((if0 _ _).trans (feq (by decide : ¬ ((4 : Int32) = (0 : Int32)))).2) (by decide) (by decide) ?_
    show Steps _ _ _ (T1.setTop (mkF m 27 #[.val (.ref x), .val (.ref ar), .val (.int 0), .val (.int 4), .val .null, .unset] [])) _
    refine st2 _ ?_
    show Steps _ _ _ (T2.setTop (mkF m 30 #[.val (.ref x), .val (.ref ar), .val (.int 0), .val (.int 4), .val .null, .unset] [(.int G1)])) _
    refine XS.ifNo X2.here hx rfl (hb hby d3_30) rfl ((if0 _ _).trans (feq P5).1) ?_
    refine XS.aloadN X2.here hx rfl (hb hby d3_33) rfl rfl ?_
    refine XS.iloadN X2.here hx rfl (hb hby d3_34) rfl ?_
    refine XS.iloadN X2.here hx rfl (hb hby d3_35) rfl ?_
    show Steps _ _ _ (T2.setTop (mkF m 36 #[.val (.ref x), .val (.ref ar), .val (.int 0), .val (.int 4), .val .null, .unset] [(.int 4), (.int 0), (.ref ar)])) _
    refine st3 _ ?_
    show Steps _ _ _ (T3.setTop (mkF m 39 #[.val (.ref x), .val (.ref ar), .val (.int 0), .val (.int 4), .val .null, .unset] [(.ref t3)])) _
    refine XS.astore X3.here hx rfl (hb hby d3_39) rfl rfl (l' := #[.val (.ref x), .val (.ref ar), .val (.int 0), .val (.int 4), .val .null, .val (.ref t3)]) rfl ?_
    refine XS.aloadN X3.here hx rfl (hb hby d3_41) rfl rfl ?_
    refine XS.aload X3.here hx rfl (hb hby d3_42) rfl rfl ?_
    refine XS.iloadN X3.here hx rfl (hb hby d3_44) rfl ?_
    show Steps _ _ _ (T3.setTop (mkF m 45 #[.val (.ref x), .val (.ref ar), .val (.int 0), .val (.int 4), .val .null, .val (.ref t3)] [(.int 4), (.ref t3), (.ref x)])) _
    refine st4 _ ?_
    show Steps _ _ _ (T4.setTop (mkF m 48 #[.val (.ref x), .val (.ref ar), .val (.int 0), .val (.int 4), .val .null, .val (.ref t3)] [(.int 1), (.ref x)])) _
    refine st5 _ ?_
    show Steps _ _ _ (T5.setTop (mkF m 51 #[.val (.ref x), .val (.ref ar), .val (.int 0), .val (.int 4), .val .null, .val (.ref t3)] [])) _
    refine XS.aloadN X5.here hx rfl (hb hby d3_51) rfl rfl ?_
    refine XS.aload X5.here hx rfl (hb hby d3_52) rfl rfl ?_
    show Steps _ _ _ (T5.setTop (mkF m 54 #[.val (.ref x), .val (.ref ar), .val (.int 0), .val (.int 4), .val .null, .val (.ref t3)] [(.ref t3), (.ref x)])) _
    refine st8 _ ?_
    show Steps _ _ _ (T8.setTop (mkF m 57 #[.val (.ref x), .val (.ref ar), .val (.int 0), .val (.int 4), .val .null, .val (.ref t3)] [])) _
    exact X8.returnOut hx Bd.returns (hb hby d3_57) hr
  · show own_QS Z x as h0 n0 _ T8.heap _
    rw [e8]
    exact ⟨rfl, N8, ((((Keep.refl h0 [x]).trans Kq3 all0).wr W5 (Or.inl (tk 0 rfl))).wr W8 (Or.inl (tk 0 rfl))), t3, k3q, f12, Fw8, Or.inr ⟨f13, f11⟩⟩
theorem d2_0 : decode jdk_42_method_3_code 0 = .ok (.aload_n 0, 1) := by decide +kernel
theorem d2_1 : decode jdk_42_method_3_code 1 = .ok (.aload_n 1, 1) := by decide +kernel
theorem d2_2 : decode jdk_42_method_3_code 2 = .ok (.iconst 0, 1) := by decide +kernel
theorem d2_3 : decode jdk_42_method_3_code 3 = .ok (.aload_n 1, 1) := by decide +kernel
theorem d2_4 : decode jdk_42_method_3_code 4 = .ok (.arraylength, 1) := by decide +kernel
theorem d2_5 : decode jdk_42_method_3_code 5 = .ok (.aconst_null, 1) := by decide +kernel
theorem pd___CIILjava_lang_Void__V : parseMethodDescriptor "([CIILjava/lang/Void;)V" = some ⟨[(.array .char), .int, .int, (.object "java/lang/Void")], none⟩ := by decide +kernel
theorem d2_6 : decode jdk_42_method_3_code 6 = .ok (.invokespecial 27, 3) := by decide +kernel
theorem d2_9 : decode jdk_42_method_3_code 9 = .ok (.return_, 1) := by decide +kernel
theorem pn_2 : plainName "java/lang/String" = true := by first | (simp [plainName, overriddenIn]; done) | decide +kernel
theorem ef_2_rr (m : MethodId) (x0 : Addr) (x1 : Addr) : entryFrame m #[(.ref x0), (.ref x1)] 2 = mkF m 0 #[.val (.ref x0), .val (.ref x1)] [] := by first | (simp [entryFrame, mkF, argsToLocals, Value.category]; done) | rfl
theorem rmICL (l : Launch) (Z : State) (a0 : Array Value) (hw : HW a0 Z) (ws : List Jvm.Cond) (G1 : Int32) (G3 : Value) (G4 : Value) (x : Addr) (ar : Addr) (ka : ClassId) (as : List Int32) (h0 : Heap) (n0 : Nat) (Z0 : n0 ≤ h0.size) (EN : own_env Z G1 G3 G4) (X00 : Old Z n0 h0) (E_x : Exa Z h0 x "java/lang/String") (F_coder_x : Fld Z h0 x "java/lang/String" "coder" "B" (.int 0)) (F_value_x : Fld Z h0 x "java/lang/String" "value" "[B" .null) (g_x : n0 ≤ x) (V_ar : Arv Z h0 ar ka .char (4 : Int32) (as.map Value.int) (.int 0)) (h4 : as.length = 4) (hc : ∀ c ∈ as, own_ch c) (hq : ∀ i, i < 4 → ¬ ((255 : Int32) < (as.getD i 0))) :
    MetFree l y_25 (head1 (Jvm.Cond.code y_25 jdk_42_method_3_code 2 none :: ws) (Rm 5 2 12 74)) (fun a_ U_ => a_ = #[(.ref x), (.ref ar)] ∧ Z.Warmed39 U_.vm ∧ U_.heap = h0) (fun _ _ _ _ _ => True) (fun _ U_ o_ U1_ => ∃ v_ L_, o_ = .returned v_ ∧ own_QS Z x as h0 n0 v_ U1_.heap L_ ∧ FrameEnd U_ o_ U1_ L_ (Rm 5 2 12 74).cells (Rm 5 2 12 74).slots) := by
  refine MetFree.of_bodySF (plainFor_of_name pn_2) hisR ?_
  intro p e s m args below meth c s₁ Bd hml0 hP hK
  obtain ⟨rfl, hZ, hh⟩ := hP
  have hx := Bd.exec
  have hby := Bd.bytes
  have hml : c.maxLocals = 2 := hml0
  have hown : s.vm.findClass "java/lang/String" = some m.cls := findClass_of_methodNamed Bd.named
  have hnm := (name_of_methodNamed Bd.named Bd.method).1
  have X0 : Stand p l e (Rm 5 2 12 74) s m #[(.ref x), (.ref ar)] below meth c s₁ [] 0 0 := Stand.of_body Bd
  have e0 : s₁.heap = h0 := by rw [← hh, Bd.state]; rfl
  have N0 := Fr.nil n0
  have pre0 : ∀ tt, Steps p.tables e below (s₁.setTop (mkF m 0 #[.val (.ref x), .val (.ref ar)] [])) tt → Steps p.tables e below (s₁.setTop (entryFrame m #[(.ref x), (.ref ar)] 2)) tt := fun tt kk => castTop (ef_2_rr m x ar) kk
  have EN0 := EN
  obtain ⟨O2, P5, O4, rG3, O6, O7, O8⟩ := EN
  obtain ⟨c1, Ar1, -, S1, M1, -, -⟩ := id V_ar
  obtain ⟨_, _, ⟨T2, L2, k2, n2⟩, -, X2, ⟨Lc2, hQ2, l2, y2, z2⟩, st2⟩ := X0.specialBack hx (y := y_24) rfl hown (mvT hZ (hw _ (tk 13 rfl))) (mvT hZ (hw _ (tk 14 rfl))) (mvT hZ (hw _ (tk 16 rfl))) (by decide) (backOf (W := 0) (rmIVL l Z a0 hw [] G1 G3 G4 x ar ka as h0 n0 Z0 EN0 X00 E_x F_coder_x F_value_x g_x V_ar h4 hc hq) hZ (hw _ (tk 16 rfl)) (hw _ (tk 9 rfl)) (by decide) (by decide)) (g := (mkF m 6 #[.val (.ref x), .val (.ref ar)] [.null, (.int 4), (.int 0), (.ref ar), (.ref x)])) rfl (by rw [hml]; rfl) (Steps.refl _) (a := x) (argsL := [(.ref ar), (.int 0), (.int 4), .null]) (rest := []) (lenOf pd___CIILjava_lang_Void__V rfl) rfl (by show 2 * 0 + _ ≤ _; exact Nat.le_of_eq rfl) (hb hby d2_6) (fun _ _ => ⟨rfl, e0, (by decide : 0 + 2 ≤ _), (by decide : 0 + 12 ≤ _)⟩)
  dsimp only [Pt.U, Pt.locs, Pt.cells, Pt.slots] at X2 l2 y2 z2 st2 hQ2
  subst l2 y2 z2
  obtain ⟨rfl, Nq2, Kq2, S2⟩ := hQ2
  have N2 := Fr.app N0 Nq2
  obtain ⟨fs, hr, hrun, hended, hW, hsame⟩ := X2.leave (v := none) (fun _ => rfl)
  refine ⟨_, _, pre0 _ ?_, hrun, hended, _, _, rfl, ?_, ⟨_, rfl⟩, hW, hsame.mono (by decide) (by decide)⟩
  · show Steps _ _ _ (s₁.setTop (mkF m 0 #[.val (.ref x), .val (.ref ar)] [])) _
    refine XS.aloadN X0.here hx rfl (hb hby d2_0) rfl rfl ?_
    refine XS.aloadN X0.here hx rfl (hb hby d2_1) rfl rfl ?_
    refine XS.iconst X0.here hx rfl (hb hby d2_2) ?_
    refine XS.aloadN X0.here hx rfl (hb hby d2_3) rfl rfl ?_
    show Steps _ _ _ (s₁.setTop (mkF m 4 #[.val (.ref x), .val (.ref ar)] [(.ref ar), (.int 0), (.ref ar), (.ref x)])) _
    refine X0.arraylength hx (by rw [e0]; exact Ar1.1) (State.isArrayOf_alike hZ.alike Ar1.2.1) (g := (mkF m 4 #[.val (.ref x), .val (.ref ar)] [(.ref ar), (.int 0), (.ref ar), (.ref x)])) rfl rfl (hb hby d2_4) _ ?_
    rw [len_of S1 M1]
    show Steps _ _ _ (s₁.setTop (mkF m 5 #[.val (.ref x), .val (.ref ar)] [(.int 4), (.int 0), (.ref ar), (.ref x)])) _
    refine XS.aconstNull X0.here hx rfl (hb hby d2_5) ?_
    show Steps _ _ _ (s₁.setTop (mkF m 6 #[.val (.ref x), .val (.ref ar)] [.null, (.int 4), (.int 0), (.ref ar), (.ref x)])) _
    refine st2.trans ?_
    show Steps _ _ _ (T2.setTop (mkF m 9 #[.val (.ref x), .val (.ref ar)] [])) _
    exact X2.returnOut hx Bd.returns (hb hby d2_9) hr
  · show own_QS Z x as h0 n0 _ T2.heap _
    exact ⟨rfl, N2, ((Keep.refl h0 [x]).trans Kq2 (allS (P := fun zz => zz ∈ [x] ∨ h0.size ≤ zz) (Or.inl (tk 0 rfl)) all0)), S2⟩
theorem rmICU (l : Launch) (Z : State) (a0 : Array Value) (hw : HW a0 Z) (ws : List Jvm.Cond) (G1 : Int32) (G3 : Value) (G4 : Value) (x : Addr) (ar : Addr) (ka : ClassId) (as : List Int32) (n : Nat) (h0 : Heap) (n0 : Nat) (Z0 : n0 ≤ h0.size) (EN : own_env Z G1 G3 G4) (X00 : Old Z n0 h0) (E_x : Exa Z h0 x "java/lang/String") (F_coder_x : Fld Z h0 x "java/lang/String" "coder" "B" (.int 0)) (F_value_x : Fld Z h0 x "java/lang/String" "value" "[B" .null) (g_x : n0 ≤ x) (V_ar : Arv Z h0 ar ka .char (4 : Int32) (as.map Value.int) (.int 0)) (h4 : as.length = 4) (hc : ∀ c ∈ as, own_ch c) (hq : ∀ i, i < n → ¬ ((255 : Int32) < (as.getD i 0))) (hn : n < 4) (hbg : (255 : Int32) < (as.getD n 0)) :
    MetFree l y_25 (head1 (Jvm.Cond.code y_25 jdk_42_method_3_code 2 none :: ws) (Rm 5 2 12 74)) (fun a_ U_ => a_ = #[(.ref x), (.ref ar)] ∧ Z.Warmed39 U_.vm ∧ U_.heap = h0) (fun _ _ _ _ _ => True) (fun _ U_ o_ U1_ => ∃ v_ L_, o_ = .returned v_ ∧ own_QS Z x as h0 n0 v_ U1_.heap L_ ∧ FrameEnd U_ o_ U1_ L_ (Rm 5 2 12 74).cells (Rm 5 2 12 74).slots) := by
  refine MetFree.of_bodySF (plainFor_of_name pn_2) hisR ?_
  intro p e s m args below meth c s₁ Bd hml0 hP hK
  obtain ⟨rfl, hZ, hh⟩ := hP
  have hx := Bd.exec
  have hby := Bd.bytes
  have hml : c.maxLocals = 2 := hml0
  have hown : s.vm.findClass "java/lang/String" = some m.cls := findClass_of_methodNamed Bd.named
  have hnm := (name_of_methodNamed Bd.named Bd.method).1
  have X0 : Stand p l e (Rm 5 2 12 74) s m #[(.ref x), (.ref ar)] below meth c s₁ [] 0 0 := Stand.of_body Bd
  have e0 : s₁.heap = h0 := by rw [← hh, Bd.state]; rfl
  have N0 := Fr.nil n0
  have pre0 : ∀ tt, Steps p.tables e below (s₁.setTop (mkF m 0 #[.val (.ref x), .val (.ref ar)] [])) tt → Steps p.tables e below (s₁.setTop (entryFrame m #[(.ref x), (.ref ar)] 2)) tt := fun tt kk => castTop (ef_2_rr m x ar) kk
  have EN0 := EN
  obtain ⟨O2, P5, O4, rG3, O6, O7, O8⟩ := EN
  obtain ⟨c1, Ar1, -, S1, M1, -, -⟩ := id V_ar
  obtain ⟨_, _, ⟨T2, L2, k2, n2⟩, -, X2, ⟨Lc2, hQ2, l2, y2, z2⟩, st2⟩ := X0.specialBack hx (y := y_24) rfl hown (mvT hZ (hw _ (tk 13 rfl))) (mvT hZ (hw _ (tk 14 rfl))) (mvT hZ (hw _ (tk 16 rfl))) (by decide) (backOf (W := 0) (rmIVU l Z a0 hw [] G1 G3 G4 x ar ka as n h0 n0 Z0 EN0 X00 E_x F_coder_x F_value_x g_x V_ar h4 hc hq hn hbg) hZ (hw _ (tk 16 rfl)) (hw _ (tk 9 rfl)) (by decide) (by decide)) (g := (mkF m 6 #[.val (.ref x), .val (.ref ar)] [.null, (.int 4), (.int 0), (.ref ar), (.ref x)])) rfl (by rw [hml]; rfl) (Steps.refl _) (a := x) (argsL := [(.ref ar), (.int 0), (.int 4), .null]) (rest := []) (lenOf pd___CIILjava_lang_Void__V rfl) rfl (by show 2 * 0 + _ ≤ _; exact Nat.le_of_eq rfl) (hb hby d2_6) (fun _ _ => ⟨rfl, e0, (by decide : 0 + 2 ≤ _), (by decide : 0 + 12 ≤ _)⟩)
  dsimp only [Pt.U, Pt.locs, Pt.cells, Pt.slots] at X2 l2 y2 z2 st2 hQ2
  subst l2 y2 z2
  obtain ⟨rfl, Nq2, Kq2, S2⟩ := hQ2
  have N2 := Fr.app N0 Nq2
  obtain ⟨fs, hr, hrun, hended, hW, hsame⟩ := X2.leave (v := none) (fun _ => rfl)
  refine ⟨_, _, pre0 _ ?_, hrun, hended, _, _, rfl, ?_, ⟨_, rfl⟩, hW, hsame.mono (by decide) (by decide)⟩
  · show Steps _ _ _ (s₁.setTop (mkF m 0 #[.val (.ref x), .val (.ref ar)] [])) _
    refine XS.aloadN X0.here hx rfl (hb hby d2_0) rfl rfl ?_
    refine XS.aloadN X0.here hx rfl (hb hby d2_1) rfl rfl ?_
    refine XS.iconst X0.here hx rfl (hb hby d2_2) ?_
    refine XS.aloadN X0.here hx rfl (hb hby d2_3) rfl rfl ?_
    show Steps _ _ _ (s₁.setTop (mkF m 4 #[.val (.ref x), .val (.ref ar)] [(.ref ar), (.int 0), (.ref ar), (.ref x)])) _
    refine X0.arraylength hx (by rw [e0]; exact Ar1.1) (State.isArrayOf_alike hZ.alike Ar1.2.1) (g := (mkF m 4 #[.val (.ref x), .val (.ref ar)] [(.ref ar), (.int 0), (.ref ar), (.ref x)])) rfl rfl (hb hby d2_4) _ ?_
    rw [len_of S1 M1]
    show Steps _ _ _ (s₁.setTop (mkF m 5 #[.val (.ref x), .val (.ref ar)] [(.int 4), (.int 0), (.ref ar), (.ref x)])) _
    refine XS.aconstNull X0.here hx rfl (hb hby d2_5) ?_
    show Steps _ _ _ (s₁.setTop (mkF m 6 #[.val (.ref x), .val (.ref ar)] [.null, (.int 4), (.int 0), (.ref ar), (.ref x)])) _
    refine st2.trans ?_
    show Steps _ _ _ (T2.setTop (mkF m 9 #[.val (.ref x), .val (.ref ar)] [])) _
    exact X2.returnOut hx Bd.returns (hb hby d2_9) hr
  · show own_QS Z x as h0 n0 _ T2.heap _
    exact ⟨rfl, N2, ((Keep.refl h0 [x]).trans Kq2 (allS (P := fun zz => zz ∈ [x] ∨ h0.size ≤ zz) (Or.inl (tk 0 rfl)) all0)), S2⟩
theorem rmIC (l : Launch) (Z : State) (a0 : Array Value) (hw : HW a0 Z) (ws : List Jvm.Cond) (G1 : Int32) (G3 : Value) (G4 : Value) (x : Addr) (ar : Addr) (ka : ClassId) (as : List Int32) (h0 : Heap) (n0 : Nat) (Z0 : n0 ≤ h0.size) (EN : own_env Z G1 G3 G4) (X00 : Old Z n0 h0) (E_x : Exa Z h0 x "java/lang/String") (F_coder_x : Fld Z h0 x "java/lang/String" "coder" "B" (.int 0)) (F_value_x : Fld Z h0 x "java/lang/String" "value" "[B" .null) (g_x : n0 ≤ x) (V_ar : Arv Z h0 ar ka .char (4 : Int32) (as.map Value.int) (.int 0)) (h4 : as.length = 4) (hc : ∀ c ∈ as, own_ch c) :
    MetFree l y_25 (head1 (Jvm.Cond.code y_25 jdk_42_method_3_code 2 none :: ws) (Rm 5 2 12 74)) (fun a_ U_ => a_ = #[(.ref x), (.ref ar)] ∧ Z.Warmed39 U_.vm ∧ U_.heap = h0) (fun _ _ _ _ _ => True) (fun _ U_ o_ U1_ => ∃ v_ L_, o_ = .returned v_ ∧ own_QS Z x as h0 n0 v_ U1_.heap L_ ∧ FrameEnd U_ o_ U1_ L_ (Rm 5 2 12 74).cells (Rm 5 2 12 74).slots) := by
  by_cases hq : ∀ i, i < 4 → ¬ ((255 : Int32) < (as.getD i 0))
  · exact rmICL l Z a0 hw ws G1 G3 G4 x ar ka as h0 n0 Z0 EN X00 E_x F_coder_x F_value_x g_x V_ar h4 hc hq
  · obtain ⟨n, hn, hq, hb⟩ := own_first (P := fun i => (255 : Int32) < (as.getD i 0)) hq
    exact rmICU l Z a0 hw ws G1 G3 G4 x ar ka as n h0 n0 Z0 EN X00 E_x F_coder_x F_value_x g_x V_ar h4 hc hq hn hb
def own_QI (Z : State) (r x : Addr) (h0 : Heap) (n0 : Nat) (v : Option Value) (h : Heap) (L : List Loc) : Prop := v = none ∧ Fr n0 L ∧ Keep h0 h [r] ∧ Exa Z h r "com/example/atomize/atomize/http/FieldValueReader" ∧ Fld Z h r "com/example/atomize/atomize/http/FieldValueReader" "text" "Ljava/lang/String;" (.ref x) ∧ Fld Z h r "com/example/atomize/atomize/http/FieldValueReader" "position" "I" (.int 0)
theorem d8_0 : decode prog_5_method_1_code 0 = .ok (.aload_n 0, 1) := by decide +kernel
theorem d8_1 : decode prog_5_method_1_code 1 = .ok (.invokespecial 1, 3) := by decide +kernel
theorem d8_4 : decode prog_5_method_1_code 4 = .ok (.aload_n 0, 1) := by decide +kernel
theorem d8_5 : decode prog_5_method_1_code 5 = .ok (.aload_n 1, 1) := by decide +kernel
theorem d8_6 : decode prog_5_method_1_code 6 = .ok (.putfield 7, 3) := by decide +kernel
theorem d8_9 : decode prog_5_method_1_code 9 = .ok (.aload_n 0, 1) := by decide +kernel
theorem d8_10 : decode prog_5_method_1_code 10 = .ok (.aload_n 2, 1) := by decide +kernel
theorem d8_11 : decode prog_5_method_1_code 11 = .ok (.putfield 13, 3) := by decide +kernel
theorem d8_14 : decode prog_5_method_1_code 14 = .ok (.aload_n 0, 1) := by decide +kernel
theorem d8_15 : decode prog_5_method_1_code 15 = .ok (.aload_n 3, 1) := by decide +kernel
theorem d8_16 : decode prog_5_method_1_code 16 = .ok (.putfield 16, 3) := by decide +kernel
theorem d8_19 : decode prog_5_method_1_code 19 = .ok (.return_, 1) := by decide +kernel
theorem pn_8 : plainName "com/example/atomize/atomize/http/FieldValueReader" = true := by first | (simp [plainName, overriddenIn]; done) | decide +kernel
theorem ef_8_rrrr (m : MethodId) (x0 : Addr) (x1 : Addr) (x2 : Addr) (x3 : Addr) : entryFrame m #[(.ref x0), (.ref x1), (.ref x2), (.ref x3)] 4 = mkF m 0 #[.val (.ref x0), .val (.ref x1), .val (.ref x2), .val (.ref x3)] [] := by first | (simp [entryFrame, mkF, argsToLocals, Value.category]; done) | rfl
theorem rmFI (l : Launch) (Z : State) (a0 : Array Value) (hw : HW a0 Z) (ws : List Jvm.Cond) (r : Addr) (a1 : Addr) (x : Addr) (a2 : Addr) (h0 : Heap) (n0 : Nat) (Z0 : n0 ≤ h0.size) (E_r : Exa Z h0 r "com/example/atomize/atomize/http/FieldValueReader") (F_name_r : Fld Z h0 r "com/example/atomize/atomize/http/FieldValueReader" "name" "Ljava/lang/String;" .null) (F_text_r : Fld Z h0 r "com/example/atomize/atomize/http/FieldValueReader" "text" "Ljava/lang/String;" .null) (F_grammar_r : Fld Z h0 r "com/example/atomize/atomize/http/FieldValueReader" "grammar" "Ljava/lang/String;" .null) (F_position_r : Fld Z h0 r "com/example/atomize/atomize/http/FieldValueReader" "position" "I" (.int 0)) (g_r : n0 ≤ r) :
    MetFree l y_26 (head1 (Jvm.Cond.code y_26 prog_5_method_1_code 4 none :: ws) (Rm 1 0 0 12)) (fun a_ U_ => a_ = #[(.ref r), (.ref a1), (.ref x), (.ref a2)] ∧ Z.Warmed39 U_.vm ∧ U_.heap = h0) (fun _ _ _ _ _ => True) (fun _ U_ o_ U1_ => ∃ v_ L_, o_ = .returned v_ ∧ own_QI Z r x h0 n0 v_ U1_.heap L_ ∧ FrameEnd U_ o_ U1_ L_ (Rm 1 0 0 12).cells (Rm 1 0 0 12).slots) := by
  refine MetFree.of_bodySF (plainFor_of_name pn_8) hisR ?_
  intro p e s m args below meth c s₁ Bd hml0 hP hK
  obtain ⟨rfl, hZ, hh⟩ := hP
  have hx := Bd.exec
  have hby := Bd.bytes
  have hml : c.maxLocals = 4 := hml0
  have hown : s.vm.findClass "com/example/atomize/atomize/http/FieldValueReader" = some m.cls := findClass_of_methodNamed Bd.named
  have hnm := (name_of_methodNamed Bd.named Bd.method).1
  have X0 : Stand p l e (Rm 1 0 0 12) s m #[(.ref r), (.ref a1), (.ref x), (.ref a2)] below meth c s₁ [] 0 0 := Stand.of_body Bd
  have e0 : s₁.heap = h0 := by rw [← hh, Bd.state]; rfl
  have N0 := Fr.nil n0
  have pre0 : ∀ tt, Steps p.tables e below (s₁.setTop (mkF m 0 #[.val (.ref r), .val (.ref a1), .val (.ref x), .val (.ref a2)] [])) tt → Steps p.tables e below (s₁.setTop (entryFrame m #[(.ref r), (.ref a1), (.ref x), (.ref a2)] 4)) tt := fun tt kk => castTop (ef_8_rrrr m r a1 x a2) kk
  obtain ⟨T1, X1, e1, st1⟩ := initO X0 hx hZ hown (hw _ (tk 46 rfl)) (hw _ (tk 18 rfl)) (hw _ (tk 19 rfl)) e0 (g := (mkF m 1 #[.val (.ref r), .val (.ref a1), .val (.ref x), .val (.ref a2)] [(.ref r)])) rfl (by rw [hml]; rfl) rfl (hb hby d8_1) (by decide) (W := 0) (by show 2 * 0 + _ ≤ _; exact Nat.le_of_eq rfl) (by decide)
  obtain ⟨T2, h2, X2, e2, W2, st2⟩ := putF X1 hx hZ hown (host := "") (Or.inl (hw _ (tk 47 rfl))) Via.refl e1 F_name_r E_r (Or.inr ⟨(hw _ (tk 48 rfl)), rfl, hnm⟩) (hw _ (tk 37 rfl)) (ty := (.object "java/lang/String")) (by decide) rfl rfl (g := (mkF m 6 #[.val (.ref r), .val (.ref a1), .val (.ref x), .val (.ref a2)] [(.ref a1), (.ref r)])) rfl rfl (hb hby d8_6)
  have Fw2 := F_name_r.same W2
  have N2 := Fr.snoc X2 N0 g_r
  have f4 := (E_r.wr W2)
  have f5 := (F_text_r.other W2 (Or.inr (slot_ne (Or.inr (hw _ (tk 50 rfl))) (Or.inr (hw _ (tk 48 rfl))) (by decide) (t := (.object "java/lang/String")) (t' := (.object "java/lang/String")) (by decide) (by decide))))
  obtain ⟨T3, h3, X3, e3, W3, st3⟩ := putF X2 hx hZ hown (host := "") (Or.inl (hw _ (tk 49 rfl))) Via.refl e2 f5 f4 (Or.inr ⟨(hw _ (tk 50 rfl)), rfl, hnm⟩) (hw _ (tk 37 rfl)) (ty := (.object "java/lang/String")) (by decide) rfl rfl (g := (mkF m 11 #[.val (.ref r), .val (.ref a1), .val (.ref x), .val (.ref a2)] [(.ref x), (.ref r)])) rfl rfl (hb hby d8_11)
  have Fw3 := f5.same W3
  have N3 := Fr.snoc X3 N2 g_r
  have f7 := (f4.wr W3)
  have f8 := ((F_grammar_r.other W2 (Or.inr (slot_ne (Or.inr (hw _ (tk 52 rfl))) (Or.inr (hw _ (tk 48 rfl))) (by decide) (t := (.object "java/lang/String")) (t' := (.object "java/lang/String")) (by decide) (by decide)))).other W3 (Or.inr (slot_ne (Or.inr (hw _ (tk 52 rfl))) (Or.inr (hw _ (tk 50 rfl))) (by decide) (t := (.object "java/lang/String")) (t' := (.object "java/lang/String")) (by decide) (by decide))))
  obtain ⟨T6, h6, X6, e6, W6, st6⟩ := putF X3 hx hZ hown (host := "") (Or.inl (hw _ (tk 51 rfl))) Via.refl e3 f8 f7 (Or.inr ⟨(hw _ (tk 52 rfl)), rfl, hnm⟩) (hw _ (tk 37 rfl)) (ty := (.object "java/lang/String")) (by decide) rfl rfl (g := (mkF m 16 #[.val (.ref r), .val (.ref a1), .val (.ref x), .val (.ref a2)] [(.ref a2), (.ref r)])) rfl rfl (hb hby d8_16)
  have Fw6 := f8.same W6
  have N6 := Fr.snoc X6 N3 g_r
  have f9 := (f7.wr W6)
  have f10 := (Fw3.other W6 (Or.inr (slot_ne (Or.inr (hw _ (tk 50 rfl))) (Or.inr (hw _ (tk 52 rfl))) (by decide) (t := (.object "java/lang/String")) (t' := (.object "java/lang/String")) (by decide) (by decide))))
  have f11 := (((F_position_r.other W2 (Or.inr (slot_ne (Or.inl (hw _ (tk 59 rfl))) (Or.inr (hw _ (tk 48 rfl))) (by decide) (t := .int) (t' := (.object "java/lang/String")) (by decide) (by decide)))).other W3 (Or.inr (slot_ne (Or.inl (hw _ (tk 59 rfl))) (Or.inr (hw _ (tk 50 rfl))) (by decide) (t := .int) (t' := (.object "java/lang/String")) (by decide) (by decide)))).other W6 (Or.inr (slot_ne (Or.inl (hw _ (tk 59 rfl))) (Or.inr (hw _ (tk 52 rfl))) (by decide) (t := .int) (t' := (.object "java/lang/String")) (by decide) (by decide))))
  obtain ⟨fs, hr, hrun, hended, hW, hsame⟩ := X6.leave (v := none) (fun _ => rfl)
  refine ⟨_, _, pre0 _ ?_, hrun, hended, _, _, rfl, ?_, ⟨_, rfl⟩, hW, hsame.mono (by decide) (by decide)⟩
  · show Steps _ _ _ (s₁.setTop (mkF m 0 #[.val (.ref r), .val (.ref a1), .val (.ref x), .val (.ref a2)] [])) _
    refine XS.aloadN X0.here hx rfl (hb hby d8_0) rfl rfl ?_
    show Steps _ _ _ (s₁.setTop (mkF m 1 #[.val (.ref r), .val (.ref a1), .val (.ref x), .val (.ref a2)] [(.ref r)])) _
    refine st1 _ ?_
    show Steps _ _ _ (T1.setTop (mkF m 4 #[.val (.ref r), .val (.ref a1), .val (.ref x), .val (.ref a2)] [])) _
    refine XS.aloadN X1.here hx rfl (hb hby d8_4) rfl rfl ?_
    refine XS.aloadN X1.here hx rfl (hb hby d8_5) rfl rfl ?_
    show Steps _ _ _ (T1.setTop (mkF m 6 #[.val (.ref r), .val (.ref a1), .val (.ref x), .val (.ref a2)] [(.ref a1), (.ref r)])) _
    refine st2 _ ?_
    show Steps _ _ _ (T2.setTop (mkF m 9 #[.val (.ref r), .val (.ref a1), .val (.ref x), .val (.ref a2)] [])) _
    refine XS.aloadN X2.here hx rfl (hb hby d8_9) rfl rfl ?_
    refine XS.aloadN X2.here hx rfl (hb hby d8_10) rfl rfl ?_
    show Steps _ _ _ (T2.setTop (mkF m 11 #[.val (.ref r), .val (.ref a1), .val (.ref x), .val (.ref a2)] [(.ref x), (.ref r)])) _
    refine st3 _ ?_
    show Steps _ _ _ (T3.setTop (mkF m 14 #[.val (.ref r), .val (.ref a1), .val (.ref x), .val (.ref a2)] [])) _
    refine XS.aloadN X3.here hx rfl (hb hby d8_14) rfl rfl ?_
    refine XS.aloadN X3.here hx rfl (hb hby d8_15) rfl rfl ?_
    show Steps _ _ _ (T3.setTop (mkF m 16 #[.val (.ref r), .val (.ref a1), .val (.ref x), .val (.ref a2)] [(.ref a2), (.ref r)])) _
    refine st6 _ ?_
    show Steps _ _ _ (T6.setTop (mkF m 19 #[.val (.ref r), .val (.ref a1), .val (.ref x), .val (.ref a2)] [])) _
    exact X6.returnOut hx Bd.returns (hb hby d8_19) hr
  · show own_QI Z r x h0 n0 _ T6.heap _
    rw [e6]
    exact ⟨rfl, N6, ((((Keep.refl h0 [r]).wr W2 (Or.inl (tk 0 rfl))).wr W3 (Or.inl (tk 0 rfl))).wr W6 (Or.inl (tk 0 rfl))), f9, f10, f11⟩
def own_QX (Z : State) (r x : Addr) (j : Nat) (h0 : Heap) (n0 : Nat) (v : Option Value) (h : Heap) (L : List Loc) : Prop := v = none ∧ Fr n0 L ∧ Keep h0 h [r] ∧ Exa Z h r "com/example/atomize/atomize/http/FieldValueReader" ∧ Fld Z h r "com/example/atomize/atomize/http/FieldValueReader" "text" "Ljava/lang/String;" (.ref x) ∧ Fld Z h r "com/example/atomize/atomize/http/FieldValueReader" "position" "I" (.int (Int32.ofNat j))
theorem d9_0 : decode prog_5_method_3_code 0 = .ok (.aload_n 0, 1) := by decide +kernel
theorem d9_1 : decode prog_5_method_3_code 1 = .ok (.getfield 19, 3) := by decide +kernel
theorem d9_4 : decode prog_5_method_3_code 4 = .ok (.aload_n 0, 1) := by decide +kernel
theorem d9_5 : decode prog_5_method_3_code 5 = .ok (.getfield 13, 3) := by decide +kernel
theorem pd___I : parseMethodDescriptor "()I" = some ⟨[], some .int⟩ := by decide +kernel
theorem d9_8 : decode prog_5_method_3_code 8 = .ok (.invokevirtual 23, 3) := by decide +kernel
theorem d9_11 : decode prog_5_method_3_code 11 = .ok (.if_icmp .eq 18, 3) := by decide +kernel
theorem d9_14 : decode prog_5_method_3_code 14 = .ok (.aload_n 0, 1) := by decide +kernel
theorem d9_15 : decode prog_5_method_3_code 15 = .ok (.getfield 13, 3) := by decide +kernel
theorem d9_18 : decode prog_5_method_3_code 18 = .ok (.aload_n 0, 1) := by decide +kernel
theorem d9_19 : decode prog_5_method_3_code 19 = .ok (.getfield 19, 3) := by decide +kernel
theorem pd__I_C : parseMethodDescriptor "(I)C" = some ⟨[.int], some .char⟩ := by decide +kernel
theorem d9_22 : decode prog_5_method_3_code 22 = .ok (.invokevirtual 29, 3) := by decide +kernel
theorem d9_25 : decode prog_5_method_3_code 25 = .ok (.iload_n 1, 1) := by decide +kernel
theorem d9_26 : decode prog_5_method_3_code 26 = .ok (.if_icmp .eq 14, 3) := by decide +kernel
theorem d9_40 : decode prog_5_method_3_code 40 = .ok (.aload_n 0, 1) := by decide +kernel
theorem d9_41 : decode prog_5_method_3_code 41 = .ok (.dup, 1) := by decide +kernel
theorem d9_42 : decode prog_5_method_3_code 42 = .ok (.getfield 19, 3) := by decide +kernel
theorem d9_45 : decode prog_5_method_3_code 45 = .ok (.iconst 1, 1) := by decide +kernel
theorem d9_46 : decode prog_5_method_3_code 46 = .ok (.iadd, 1) := by decide +kernel
theorem d9_47 : decode prog_5_method_3_code 47 = .ok (.putfield 19, 3) := by decide +kernel
theorem d9_50 : decode prog_5_method_3_code 50 = .ok (.return_, 1) := by decide +kernel
theorem pn_9 : plainName "com/example/atomize/atomize/http/FieldValueReader" = true := by first | (simp [plainName, overriddenIn]; done) | decide +kernel
theorem ef_9_rr (m : MethodId) (x0 : Addr) (x1 : Int32) : entryFrame m #[(.ref x0), (.int x1)] 2 = mkF m 0 #[.val (.ref x0), .val (.int x1)] [] := by first | (simp [entryFrame, mkF, argsToLocals, Value.category]; done) | rfl
theorem rmEX (l : Launch) (Z : State) (a0 : Array Value) (hw : HW a0 Z) (ws : List Jvm.Cond) (G1 : Int32) (G3 : Value) (G4 : Value) (r : Addr) (ch : Int32) (x : Addr) (cs : List Int32) (j : Nat) (h0 : Heap) (n0 : Nat) (Z0 : n0 ≤ h0.size) (EN : own_env Z G1 G3 G4) (X00 : Old Z n0 h0) (E_r : Exa Z h0 r "com/example/atomize/atomize/http/FieldValueReader") (F_text_r : Fld Z h0 r "com/example/atomize/atomize/http/FieldValueReader" "text" "Ljava/lang/String;" (.ref x)) (F_position_r : Fld Z h0 r "com/example/atomize/atomize/http/FieldValueReader" "position" "I" (.int (Int32.ofNat j))) (g_r : n0 ≤ r) (S_x : own_st Z h0 x cs) (hlen : cs.length ≤ 15) (hcc : ∀ c ∈ cs, own_ch c) (hj : j < cs.length) (hch : (cs.getD j 0) = ch) :
    MetFree l y_27 (head1 (Jvm.Cond.code y_27 prog_5_method_3_code 2 none :: ws) (Rm 5 0 0 66)) (fun a_ U_ => a_ = #[(.ref r), (.int ch)] ∧ Z.Warmed39 U_.vm ∧ U_.heap = h0) (fun _ _ _ _ _ => True) (fun _ U_ o_ U1_ => ∃ v_ L_, o_ = .returned v_ ∧ own_QX Z r x (j + 1) h0 n0 v_ U1_.heap L_ ∧ FrameEnd U_ o_ U1_ L_ (Rm 5 0 0 66).cells (Rm 5 0 0 66).slots) := by
  refine MetFree.of_bodySF (plainFor_of_name pn_9) hisR ?_
  intro p e s m args below meth c s₁ Bd hml0 hP hK
  obtain ⟨rfl, hZ, hh⟩ := hP
  have hx := Bd.exec
  have hby := Bd.bytes
  have hml : c.maxLocals = 2 := hml0
  have hown : s.vm.findClass "com/example/atomize/atomize/http/FieldValueReader" = some m.cls := findClass_of_methodNamed Bd.named
  have hnm := (name_of_methodNamed Bd.named Bd.method).1
  have X0 : Stand p l e (Rm 5 0 0 66) s m #[(.ref r), (.int ch)] below meth c s₁ [] 0 0 := Stand.of_body Bd
  have e0 : s₁.heap = h0 := by rw [← hh, Bd.state]; rfl
  have N0 := Fr.nil n0
  have pre0 : ∀ tt, Steps p.tables e below (s₁.setTop (mkF m 0 #[.val (.ref r), .val (.int ch)] [])) tt → Steps p.tables e below (s₁.setTop (entryFrame m #[(.ref r), (.int ch)] 2)) tt := fun tt kk => castTop (ef_9_rr m r ch) kk
  have EN0 := EN
  obtain ⟨O2, P5, O4, rG3, O6, O7, O8⟩ := EN
  have E_x := own_st_exa S_x
  obtain ⟨T1, X1, e1, st1⟩ := getF X0 hx hZ hown (host := "") (Or.inl (hw _ (tk 58 rfl))) Via.refl e0 F_position_r (g := (mkF m 1 #[.val (.ref r), .val (.int ch)] [(.ref r)])) rfl rfl (hb hby d9_1)
  obtain ⟨T2, X2, e2, st2⟩ := getF X1 hx hZ hown (host := "") (Or.inl (hw _ (tk 49 rfl))) Via.refl e1 F_text_r (g := (mkF m 5 #[.val (.ref r), .val (.int ch)] [(.ref r), (.int (Int32.ofNat j))])) rfl rfl (hb hby d9_5)
  obtain ⟨cq3, kq3, q3a, q3b, q3c⟩ := isOf hZ e2 E_x
  obtain ⟨_, _, ⟨T3, L3, k3, n3⟩, -, X3, ⟨Lc3, hQ3, l3, y3, z3⟩, st3⟩ := X2.virtualBack hx (y := y_15) (z := y_15) hown (mvT hZ (hw _ (tk 60 rfl))) (mvT hZ (hw _ (tk 61 rfl))) (notFace_of_selects (args := #[]) (mvT hZ (hw _ (tk 63 rfl)))) (mvT hZ (hw _ (tk 63 rfl))) (mvT hZ (hw _ (tk 62 rfl))) (by decide) (backOf (W := 1) (rmLE l Z a0 hw [] G1 G3 G4 x cs h0 n0 Z0 EN0 X00 S_x hlen) hZ (hw _ (tk 64 rfl)) (hw _ (tk 9 rfl)) (by decide) (by decide)) q3a q3c (g := (mkF m 8 #[.val (.ref r), .val (.int ch)] [(.ref x), (.int (Int32.ofNat j))])) rfl (by rw [hml]; rfl) (Steps.refl _) (argsL := []) (rest := [(.int (Int32.ofNat j))]) (lenOf pd___I rfl) rfl (by show 2 * 0 + _ ≤ _; exact Nat.le_of_eq rfl) (hb hby d9_8) (fun _ _ => ⟨rfl, e2, (by decide : 0 + 0 ≤ _), (by decide : 0 + 0 ≤ _)⟩)
  dsimp only [Pt.U, Pt.locs, Pt.cells, Pt.slots] at X3 l3 y3 z3 st3 hQ3
  subst l3 y3 z3
  obtain ⟨rfl, Nq3, eq3⟩ := hQ3
  have N3 := Fr.app N0 Nq3
  obtain ⟨T4, X4, e4, st4⟩ := getF X3 hx hZ hown (host := "") (Or.inl (hw _ (tk 49 rfl))) Via.refl eq3 F_text_r (g := (mkF m 15 #[.val (.ref r), .val (.int ch)] [(.ref r)])) rfl rfl (hb hby d9_15)
  obtain ⟨T5, X5, e5, st5⟩ := getF X4 hx hZ hown (host := "") (Or.inl (hw _ (tk 58 rfl))) Via.refl e4 F_position_r (g := (mkF m 19 #[.val (.ref r), .val (.int ch)] [(.ref r), (.ref x)])) rfl rfl (hb hby d9_19)
  obtain ⟨cq6, kq6, q6a, q6b, q6c⟩ := isOf hZ e5 E_x
  obtain ⟨_, _, ⟨T6, L6, k6, n6⟩, -, X6, ⟨Lc6, hQ6, l6, y6, z6⟩, st6⟩ := X5.virtualBack hx (y := y_19) (z := y_19) hown (mvT hZ (hw _ (tk 70 rfl))) (mvT hZ (hw _ (tk 71 rfl))) (notFace_of_selects (args := #[]) (mvT hZ (hw _ (tk 73 rfl)))) (mvT hZ (hw _ (tk 73 rfl))) (mvT hZ (hw _ (tk 72 rfl))) (by decide) (backOf (W := 0) (rmCA l Z a0 hw [] G1 G3 G4 x cs j h0 n0 Z0 EN0 X00 S_x hlen hcc hj) hZ (hw _ (tk 74 rfl)) (hw _ (tk 9 rfl)) (by decide) (by decide)) q6a q6c (g := (mkF m 22 #[.val (.ref r), .val (.int ch)] [(.int (Int32.ofNat j)), (.ref x)])) rfl (by rw [hml]; rfl) (Steps.refl _) (argsL := [(.int (Int32.ofNat j))]) (rest := []) (lenOf pd__I_C rfl) rfl (by show 2 * 0 + _ ≤ _; exact Nat.le_of_eq rfl) (hb hby d9_22) (fun _ _ => ⟨rfl, e5, (by decide : 0 + 0 ≤ _), (by decide : 0 + 0 ≤ _)⟩)
  dsimp only [Pt.U, Pt.locs, Pt.cells, Pt.slots] at X6 l6 y6 z6 st6 hQ6
  subst l6 y6 z6
  obtain ⟨rfl, Nq6, eq6⟩ := hQ6
  have N6 := Fr.app N3 Nq6
  obtain ⟨T7, X7, e7, st7⟩ := getF X6 hx hZ hown (host := "") (Or.inl (hw _ (tk 58 rfl))) Via.refl eq6 F_position_r (g := (mkF m 42 #[.val (.ref r), .val (.int ch)] [(.ref r), (.ref r)])) rfl rfl (hb hby d9_42)
  obtain ⟨T8, h8, X8, e8, W8, st8⟩ := putF X7 hx hZ hown (host := "") (Or.inl (hw _ (tk 58 rfl))) Via.refl e7 F_position_r E_r (Or.inl (hw _ (tk 59 rfl))) (hw _ (tk 37 rfl)) (ty := .int) (by decide) rfl rfl (g := (mkF m 47 #[.val (.ref r), .val (.int ch)] [(.int (Int32.ofNat (j + 1))), (.ref r)])) rfl rfl (hb hby d9_47)
  have Fw8 := F_position_r.same W8
  have N8 := Fr.snoc X8 N6 g_r
  have f9 := (E_r.wr W8)
  have f10 := (F_text_r.other W8 (Or.inr (slot_ne (Or.inr (hw _ (tk 50 rfl))) (Or.inl (hw _ (tk 59 rfl))) (by decide) (t := (.object "java/lang/String")) (t' := .int) (by decide) (by decide))))
  obtain ⟨fs, hr, hrun, hended, hW, hsame⟩ := X8.leave (v := none) (fun _ => rfl)
  refine ⟨_, _, pre0 _ ?_, hrun, hended, _, _, rfl, ?_, ⟨_, rfl⟩, hW, hsame.mono (by decide) (by decide)⟩
  · show Steps _ _ _ (s₁.setTop (mkF m 0 #[.val (.ref r), .val (.int ch)] [])) _
    refine XS.aloadN X0.here hx rfl (hb hby d9_0) rfl rfl ?_
    show Steps _ _ _ (s₁.setTop (mkF m 1 #[.val (.ref r), .val (.int ch)] [(.ref r)])) _
    refine st1 _ ?_
    show Steps _ _ _ (T1.setTop (mkF m 4 #[.val (.ref r), .val (.int ch)] [(.int (Int32.ofNat j))])) _
    refine XS.aloadN X1.here hx rfl (hb hby d9_4) rfl rfl ?_
    show Steps _ _ _ (T1.setTop (mkF m 5 #[.val (.ref r), .val (.int ch)] [(.ref r), (.int (Int32.ofNat j))])) _
    refine st2 _ ?_
    show Steps _ _ _ (T2.setTop (mkF m 8 #[.val (.ref r), .val (.int ch)] [(.ref x), (.int (Int32.ofNat j))])) _
    refine st3.trans ?_
    show Steps _ _ _ (T3.setTop (mkF m 11 #[.val (.ref r), .val (.int ch)] [(.int (Int32.ofNat cs.length)), (.int (Int32.ofNat j))])) _
    refine XS.icmpNo X3.here hx rfl (hb hby d9_11) rfl (feq (fun q => by have := (own_eq (by omega) (by omega)).mp q; omega)).1 ?_
    refine XS.aloadN X3.here hx rfl (hb hby d9_14) rfl rfl ?_
    show Steps _ _ _ (T3.setTop (mkF m 15 #[.val (.ref r), .val (.int ch)] [(.ref r)])) _
    refine st4 _ ?_
    show Steps _ _ _ (T4.setTop (mkF m 18 #[.val (.ref r), .val (.int ch)] [(.ref x)])) _
    refine XS.aloadN X4.here hx rfl (hb hby d9_18) rfl rfl ?_
    show Steps _ _ _ (T4.setTop (mkF m 19 #[.val (.ref r), .val (.int ch)] [(.ref r), (.ref x)])) _
    refine st5 _ ?_
    show Steps _ _ _ (T5.setTop (mkF m 22 #[.val (.ref r), .val (.int ch)] [(.int (Int32.ofNat j)), (.ref x)])) _
    refine st6.trans ?_
    show Steps _ _ _ (T6.setTop (mkF m 25 #[.val (.ref r), .val (.int ch)] [(.int (cs.getD j 0))])) _
    refine XS.iloadN X6.here hx rfl (hb hby d9_25) rfl ?_
    refine XS.icmpYes X6.here hx rfl (pc0 := 26) (pc' := 40) rfl (hb hby d9_26) rfl (teq hch).1 (by decide) (by decide) ?_
    refine XS.aloadN X6.here hx rfl (hb hby d9_40) rfl rfl ?_
    refine XS.dup X6.here hx rfl (hb hby d9_41) rfl rfl ?_
    show Steps _ _ _ (T6.setTop (mkF m 42 #[.val (.ref r), .val (.int ch)] [(.ref r), (.ref r)])) _
    refine st7 _ ?_
    show Steps _ _ _ (T7.setTop (mkF m 45 #[.val (.ref r), .val (.int ch)] [(.int (Int32.ofNat j)), (.ref r)])) _
    refine XS.iconst X7.here hx rfl (hb hby d9_45) ?_
    refine XS.iadd X7.here hx rfl (hb hby d9_46) rfl ?_
    show Steps _ _ _ (T7.setTop (mkF m 47 #[.val (.ref r), .val (.int ch)] [(.int ((Int32.ofNat j) + (1 : Int32))), (.ref r)])) _
    rw [(own_succ j)]
    show Steps _ _ _ (T7.setTop (mkF m 47 #[.val (.ref r), .val (.int ch)] [(.int (Int32.ofNat (j + 1))), (.ref r)])) _
    refine st8 _ ?_
    show Steps _ _ _ (T8.setTop (mkF m 50 #[.val (.ref r), .val (.int ch)] [])) _
    exact X8.returnOut hx Bd.returns (hb hby d9_50) hr
  · show own_QX Z r x (j + 1) h0 n0 _ T8.heap _
    rw [e8]
    exact ⟨rfl, N8, ((Keep.refl h0 [r]).wr W8 (Or.inl (tk 0 rfl))), f9, f10, Fw8⟩
theorem d32_0 : decode prog_5_method_2_code 0 = .ok (.aload_n 0, 1) := by decide +kernel
theorem d32_1 : decode prog_5_method_2_code 1 = .ok (.getfield 19, 3) := by decide +kernel
theorem d32_4 : decode prog_5_method_2_code 4 = .ok (.aload_n 0, 1) := by decide +kernel
theorem d32_5 : decode prog_5_method_2_code 5 = .ok (.getfield 13, 3) := by decide +kernel
theorem d32_8 : decode prog_5_method_2_code 8 = .ok (.invokevirtual 23, 3) := by decide +kernel
theorem d32_11 : decode prog_5_method_2_code 11 = .ok (.if_icmp .ge 49, 3) := by decide +kernel
theorem d32_60 : decode prog_5_method_2_code 60 = .ok (.aload_n 0, 1) := by decide +kernel
theorem d32_61 : decode prog_5_method_2_code 61 = .ok (.getfield 19, 3) := by decide +kernel
theorem d32_64 : decode prog_5_method_2_code 64 = .ok (.aload_n 0, 1) := by decide +kernel
theorem d32_65 : decode prog_5_method_2_code 65 = .ok (.getfield 13, 3) := by decide +kernel
theorem d32_68 : decode prog_5_method_2_code 68 = .ok (.invokevirtual 23, 3) := by decide +kernel
theorem d32_71 : decode prog_5_method_2_code 71 = .ok (.if_icmp .ge 7, 3) := by decide +kernel
theorem d32_78 : decode prog_5_method_2_code 78 = .ok (.iconst 0, 1) := by decide +kernel
theorem d32_79 : decode prog_5_method_2_code 79 = .ok (.ireturn, 1) := by decide +kernel
theorem pn_32 : plainName "com/example/atomize/atomize/http/FieldValueReader" = true := by first | (simp [plainName, overriddenIn]; done) | decide +kernel
theorem ef_32_r (m : MethodId) (x0 : Addr) : entryFrame m #[(.ref x0)] 1 = mkF m 0 #[.val (.ref x0)] [] := by first | (simp [entryFrame, mkF, argsToLocals, Value.category]; done) | rfl
theorem rmNX (l : Launch) (Z : State) (a0 : Array Value) (hw : HW a0 Z) (ws : List Jvm.Cond) (G1 : Int32) (G3 : Value) (G4 : Value) (r : Addr) (x : Addr) (cs : List Int32) (n : Nat) (h0 : Heap) (n0 : Nat) (Z0 : n0 ≤ h0.size) (EN : own_env Z G1 G3 G4) (X00 : Old Z n0 h0) (E_r : Exa Z h0 r "com/example/atomize/atomize/http/FieldValueReader") (F_text_r : Fld Z h0 r "com/example/atomize/atomize/http/FieldValueReader" "text" "Ljava/lang/String;" (.ref x)) (F_position_r : Fld Z h0 r "com/example/atomize/atomize/http/FieldValueReader" "position" "I" (.int (Int32.ofNat n))) (S_x : own_st Z h0 x cs) (hlen : cs.length ≤ 15) (hcc : ∀ c ∈ cs, own_ch c) (hn : cs.length = n) :
    MetFree l y_28 (head1 (Jvm.Cond.code y_28 prog_5_method_2_code 1 (some .boolean) :: ws) (Rm 2 0 0 26)) (fun a_ U_ => a_ = #[(.ref r)] ∧ Z.Warmed39 U_.vm ∧ U_.heap = h0) (fun _ _ _ _ _ => True) (fun _ U_ o_ U1_ => ∃ v_ L_, o_ = .returned v_ ∧ own_Q Z (some (.int 0)) h0 n0 v_ U1_.heap L_ ∧ FrameEnd U_ o_ U1_ L_ (Rm 2 0 0 26).cells (Rm 2 0 0 26).slots) := by
  refine MetFree.of_bodySF (plainFor_of_name pn_32) hisR ?_
  intro p e s m args below meth c s₁ Bd hml0 hP hK
  obtain ⟨rfl, hZ, hh⟩ := hP
  have hx := Bd.exec
  have hby := Bd.bytes
  have hml : c.maxLocals = 1 := hml0
  have hown : s.vm.findClass "com/example/atomize/atomize/http/FieldValueReader" = some m.cls := findClass_of_methodNamed Bd.named
  have hnm := (name_of_methodNamed Bd.named Bd.method).1
  have X0 : Stand p l e (Rm 2 0 0 26) s m #[(.ref r)] below meth c s₁ [] 0 0 := Stand.of_body Bd
  have e0 : s₁.heap = h0 := by rw [← hh, Bd.state]; rfl
  have N0 := Fr.nil n0
  have pre0 : ∀ tt, Steps p.tables e below (s₁.setTop (mkF m 0 #[.val (.ref r)] [])) tt → Steps p.tables e below (s₁.setTop (entryFrame m #[(.ref r)] 1)) tt := fun tt kk => castTop (ef_32_r m r) kk
  have EN0 := EN
  obtain ⟨O2, P5, O4, rG3, O6, O7, O8⟩ := EN
  have E_x := own_st_exa S_x
  obtain ⟨T1, X1, e1, st1⟩ := getF X0 hx hZ hown (host := "") (Or.inl (hw _ (tk 58 rfl))) Via.refl e0 F_position_r (g := (mkF m 1 #[.val (.ref r)] [(.ref r)])) rfl rfl (hb hby d32_1)
  obtain ⟨T2, X2, e2, st2⟩ := getF X1 hx hZ hown (host := "") (Or.inl (hw _ (tk 49 rfl))) Via.refl e1 F_text_r (g := (mkF m 5 #[.val (.ref r)] [(.ref r), (.int (Int32.ofNat n))])) rfl rfl (hb hby d32_5)
  obtain ⟨cq3, kq3, q3a, q3b, q3c⟩ := isOf hZ e2 E_x
  obtain ⟨_, _, ⟨T3, L3, k3, n3⟩, -, X3, ⟨Lc3, hQ3, l3, y3, z3⟩, st3⟩ := X2.virtualBack hx (y := y_15) (z := y_15) hown (mvT hZ (hw _ (tk 60 rfl))) (mvT hZ (hw _ (tk 61 rfl))) (notFace_of_selects (args := #[]) (mvT hZ (hw _ (tk 63 rfl)))) (mvT hZ (hw _ (tk 63 rfl))) (mvT hZ (hw _ (tk 62 rfl))) (by decide) (backOf (W := 1) (rmLE l Z a0 hw [] G1 G3 G4 x cs h0 n0 Z0 EN0 X00 S_x hlen) hZ (hw _ (tk 64 rfl)) (hw _ (tk 9 rfl)) (by decide) (by decide)) q3a q3c (g := (mkF m 8 #[.val (.ref r)] [(.ref x), (.int (Int32.ofNat n))])) rfl (by rw [hml]; rfl) (Steps.refl _) (argsL := []) (rest := [(.int (Int32.ofNat n))]) (lenOf pd___I rfl) rfl (by show 2 * 0 + _ ≤ _; exact Nat.le_of_eq rfl) (hb hby d32_8) (fun _ _ => ⟨rfl, e2, (by decide : 0 + 0 ≤ _), (by decide : 0 + 0 ≤ _)⟩)
  dsimp only [Pt.U, Pt.locs, Pt.cells, Pt.slots] at X3 l3 y3 z3 st3 hQ3
  subst l3 y3 z3
  obtain ⟨rfl, Nq3, eq3⟩ := hQ3
  have N3 := Fr.app N0 Nq3
  obtain ⟨T4, X4, e4, st4⟩ := getF X3 hx hZ hown (host := "") (Or.inl (hw _ (tk 58 rfl))) Via.refl eq3 F_position_r (g := (mkF m 61 #[.val (.ref r)] [(.ref r)])) rfl rfl (hb hby d32_61)
  obtain ⟨T5, X5, e5, st5⟩ := getF X4 hx hZ hown (host := "") (Or.inl (hw _ (tk 49 rfl))) Via.refl e4 F_text_r (g := (mkF m 65 #[.val (.ref r)] [(.ref r), (.int (Int32.ofNat n))])) rfl rfl (hb hby d32_65)
  obtain ⟨cq6, kq6, q6a, q6b, q6c⟩ := isOf hZ e5 E_x
  obtain ⟨_, _, ⟨T6, L6, k6, n6⟩, -, X6, ⟨Lc6, hQ6, l6, y6, z6⟩, st6⟩ := X5.virtualBack hx (y := y_15) (z := y_15) hown (mvT hZ (hw _ (tk 60 rfl))) (mvT hZ (hw _ (tk 61 rfl))) (notFace_of_selects (args := #[]) (mvT hZ (hw _ (tk 63 rfl)))) (mvT hZ (hw _ (tk 63 rfl))) (mvT hZ (hw _ (tk 62 rfl))) (by decide) (backOf (W := 1) (rmLE l Z a0 hw [] G1 G3 G4 x cs h0 n0 Z0 EN0 X00 S_x hlen) hZ (hw _ (tk 64 rfl)) (hw _ (tk 9 rfl)) (by decide) (by decide)) q6a q6c (g := (mkF m 68 #[.val (.ref r)] [(.ref x), (.int (Int32.ofNat n))])) rfl (by rw [hml]; rfl) (Steps.refl _) (argsL := []) (rest := [(.int (Int32.ofNat n))]) (lenOf pd___I rfl) rfl (by show 2 * 0 + _ ≤ _; exact Nat.le_of_eq rfl) (hb hby d32_68) (fun _ _ => ⟨rfl, e5, (by decide : 0 + 0 ≤ _), (by decide : 0 + 0 ≤ _)⟩)
  dsimp only [Pt.U, Pt.locs, Pt.cells, Pt.slots] at X6 l6 y6 z6 st6 hQ6
  subst l6 y6 z6
  obtain ⟨rfl, Nq6, eq6⟩ := hQ6
  have N6 := Fr.app N3 Nq6
  obtain ⟨fs, hr, hrun, hended, hW, hsame⟩ := X6.leave (v := some (.int 0)) (fun h => by rw [Bd.returns] at h; cases h)
  refine ⟨_, _, pre0 _ ?_, hrun, hended, _, _, rfl, ?_, ⟨_, rfl⟩, hW, hsame.mono (by decide) (by decide)⟩
  · show Steps _ _ _ (s₁.setTop (mkF m 0 #[.val (.ref r)] [])) _
    refine XS.aloadN X0.here hx rfl (hb hby d32_0) rfl rfl ?_
    show Steps _ _ _ (s₁.setTop (mkF m 1 #[.val (.ref r)] [(.ref r)])) _
    refine st1 _ ?_
    show Steps _ _ _ (T1.setTop (mkF m 4 #[.val (.ref r)] [(.int (Int32.ofNat n))])) _
    refine XS.aloadN X1.here hx rfl (hb hby d32_4) rfl rfl ?_
    show Steps _ _ _ (T1.setTop (mkF m 5 #[.val (.ref r)] [(.ref r), (.int (Int32.ofNat n))])) _
    refine st2 _ ?_
    show Steps _ _ _ (T2.setTop (mkF m 8 #[.val (.ref r)] [(.ref x), (.int (Int32.ofNat n))])) _
    refine st3.trans ?_
    show Steps _ _ _ (T3.setTop (mkF m 11 #[.val (.ref r)] [(.int (Int32.ofNat cs.length)), (.int (Int32.ofNat n))])) _
    refine XS.icmpYes X3.here hx rfl (pc0 := 11) (pc' := 60) rfl (hb hby d32_11) rfl (flt (by rw [hn]; exact Int32.lt_irrefl)).2.1 (by decide) (by decide) ?_
    refine XS.aloadN X3.here hx rfl (hb hby d32_60) rfl rfl ?_
    show Steps _ _ _ (T3.setTop (mkF m 61 #[.val (.ref r)] [(.ref r)])) _
    refine st4 _ ?_
    show Steps _ _ _ (T4.setTop (mkF m 64 #[.val (.ref r)] [(.int (Int32.ofNat n))])) _
    refine XS.aloadN X4.here hx rfl (hb hby d32_64) rfl rfl ?_
    show Steps _ _ _ (T4.setTop (mkF m 65 #[.val (.ref r)] [(.ref r), (.int (Int32.ofNat n))])) _
    refine st5 _ ?_
    show Steps _ _ _ (T5.setTop (mkF m 68 #[.val (.ref r)] [(.ref x), (.int (Int32.ofNat n))])) _
    refine st6.trans ?_
    show Steps _ _ _ (T6.setTop (mkF m 71 #[.val (.ref r)] [(.int (Int32.ofNat cs.length)), (.int (Int32.ofNat n))])) _
    refine XS.icmpYes X6.here hx rfl (pc0 := 71) (pc' := 78) rfl (hb hby d32_71) rfl (flt (by rw [hn]; exact Int32.lt_irrefl)).2.1 (by decide) (by decide) ?_
    refine XS.iconst X6.here hx rfl (hb hby d32_78) ?_
    show Steps _ _ _ (T6.setTop (mkF m 79 #[.val (.ref r)] [(.int 0)])) _
    exact retN X6 hx (t := .boolean) Bd.returns (by simp) (hb hby d32_79) hr
  · show own_Q Z (some (.int 0)) h0 n0 _ T6.heap _
    rw [eq6]
    exact ⟨rfl, N6, rfl⟩
theorem d21_0 : decode jdk_29_method_65_code 0 = .ok (.iload_n 0, 1) := by decide +kernel
theorem d21_1 : decode jdk_29_method_65_code 1 = .ok (.iload_n 1, 1) := by decide +kernel
theorem d21_2 : decode jdk_29_method_65_code 2 = .ok (.if_icmp .lt 7, 3) := by decide +kernel
theorem d21_5 : decode jdk_29_method_65_code 5 = .ok (.iload_n 0, 1) := by decide +kernel
theorem d21_6 : decode jdk_29_method_65_code 6 = .ok (.goto 4, 3) := by decide +kernel
theorem d21_10 : decode jdk_29_method_65_code 10 = .ok (.ireturn, 1) := by decide +kernel
theorem ef_21_rr (m : MethodId) (x0 : Int32) (x1 : Int32) : entryFrame m #[(.int x0), (.int x1)] 2 = mkF m 0 #[.val (.int x0), .val (.int x1)] [] := by first | (simp [entryFrame, mkF, argsToLocals, Value.category]; done) | rfl
theorem rmMAX (l : Launch) (Z : State) (a0 : Array Value) (hw : HW a0 Z) (ws : List Jvm.Cond) (p1 : Int32) (p2 : Int32) (h0 : Heap) (n0 : Nat) (Z0 : n0 ≤ h0.size) (hc2 : ¬ (p1 < p2)) :
    MetFree l y_29 (head1 (Jvm.Cond.code y_29 jdk_29_method_65_code 2 (some .int) :: ws) (Rm 0 0 0 0)) (fun a_ U_ => a_ = #[(.int p1), (.int p2)] ∧ Z.Warmed39 U_.vm ∧ U_.heap = h0) (fun _ _ _ _ _ => True) (fun _ U_ o_ U1_ => ∃ v_ L_, o_ = .returned v_ ∧ own_Q Z (some (.int p1)) h0 n0 v_ U1_.heap L_ ∧ FrameEnd U_ o_ U1_ L_ (Rm 0 0 0 0).cells (Rm 0 0 0 0).slots) := by
  refine MetFree.of_bodySF (Jvm.Free.JP.mathPlain rfl (by decide +kernel)) hisR ?_
  intro p e s m args below meth c s₁ Bd hml0 hP hK
  obtain ⟨rfl, hZ, hh⟩ := hP
  have hx := Bd.exec
  have hby := Bd.bytes
  have hml : c.maxLocals = 2 := hml0
  have hown : s.vm.findClass "java/lang/Math" = some m.cls := findClass_of_methodNamed Bd.named
  have hnm := (name_of_methodNamed Bd.named Bd.method).1
  have X0 : Stand p l e (Rm 0 0 0 0) s m #[(.int p1), (.int p2)] below meth c s₁ [] 0 0 := Stand.of_body Bd
  have e0 : s₁.heap = h0 := by rw [← hh, Bd.state]; rfl
  have N0 := Fr.nil n0
  have pre0 : ∀ tt, Steps p.tables e below (s₁.setTop (mkF m 0 #[.val (.int p1), .val (.int p2)] [])) tt → Steps p.tables e below (s₁.setTop (entryFrame m #[(.int p1), (.int p2)] 2)) tt := fun tt kk => castTop (ef_21_rr m p1 p2) kk
  obtain ⟨fs, hr, hrun, hended, hW, hsame⟩ := X0.leave (v := some (.int p1)) (fun h => by rw [Bd.returns] at h; cases h)
  refine ⟨_, _, pre0 _ ?_, hrun, hended, _, _, rfl, ?_, ⟨_, rfl⟩, hW, hsame.mono (by decide) (by decide)⟩
  · show Steps _ _ _ (s₁.setTop (mkF m 0 #[.val (.int p1), .val (.int p2)] [])) _
    refine XS.iloadN X0.here hx rfl (hb hby d21_0) rfl ?_
    refine XS.iloadN X0.here hx rfl (hb hby d21_1) rfl ?_
    refine XS.icmpNo X0.here hx rfl (hb hby d21_2) rfl (flt hc2).1 ?_
    refine XS.iloadN X0.here hx rfl (hb hby d21_5) rfl ?_
    refine XS.goto X0.here hx rfl (pc0 := 6) (pc' := 10) rfl (hb hby d21_6) (by decide) (by decide) ?_
    show Steps _ _ _ (s₁.setTop (mkF m 10 #[.val (.int p1), .val (.int p2)] [(.int p1)])) _
    exact retI X0 hx Bd.returns (hb hby d21_10) hr
  · show own_Q Z (some (.int p1)) h0 n0 _ s₁.heap _
    rw [e0]
    exact ⟨rfl, N0, rfl⟩
theorem d22_0 : decode jdk_29_method_69_code 0 = .ok (.iload_n 0, 1) := by decide +kernel
theorem d22_1 : decode jdk_29_method_69_code 1 = .ok (.iload_n 1, 1) := by decide +kernel
theorem d22_2 : decode jdk_29_method_69_code 2 = .ok (.if_icmp .gt 7, 3) := by decide +kernel
theorem d22_5 : decode jdk_29_method_69_code 5 = .ok (.iload_n 0, 1) := by decide +kernel
theorem d22_6 : decode jdk_29_method_69_code 6 = .ok (.goto 4, 3) := by decide +kernel
theorem d22_10 : decode jdk_29_method_69_code 10 = .ok (.ireturn, 1) := by decide +kernel
theorem ef_22_rr (m : MethodId) (x0 : Int32) (x1 : Int32) : entryFrame m #[(.int x0), (.int x1)] 2 = mkF m 0 #[.val (.int x0), .val (.int x1)] [] := by first | (simp [entryFrame, mkF, argsToLocals, Value.category]; done) | rfl
theorem rmMIN (l : Launch) (Z : State) (a0 : Array Value) (hw : HW a0 Z) (ws : List Jvm.Cond) (p1 : Int32) (p2 : Int32) (h0 : Heap) (n0 : Nat) (Z0 : n0 ≤ h0.size) (hc2 : ¬ (p2 < p1)) :
    MetFree l y_30 (head1 (Jvm.Cond.code y_30 jdk_29_method_69_code 2 (some .int) :: ws) (Rm 0 0 0 0)) (fun a_ U_ => a_ = #[(.int p1), (.int p2)] ∧ Z.Warmed39 U_.vm ∧ U_.heap = h0) (fun _ _ _ _ _ => True) (fun _ U_ o_ U1_ => ∃ v_ L_, o_ = .returned v_ ∧ own_Q Z (some (.int p1)) h0 n0 v_ U1_.heap L_ ∧ FrameEnd U_ o_ U1_ L_ (Rm 0 0 0 0).cells (Rm 0 0 0 0).slots) := by
  refine MetFree.of_bodySF (Jvm.Free.JP.mathPlain rfl (by decide +kernel)) hisR ?_
  intro p e s m args below meth c s₁ Bd hml0 hP hK
  obtain ⟨rfl, hZ, hh⟩ := hP
  have hx := Bd.exec
  have hby := Bd.bytes
  have hml : c.maxLocals = 2 := hml0
  have hown : s.vm.findClass "java/lang/Math" = some m.cls := findClass_of_methodNamed Bd.named
  have hnm := (name_of_methodNamed Bd.named Bd.method).1
  have X0 : Stand p l e (Rm 0 0 0 0) s m #[(.int p1), (.int p2)] below meth c s₁ [] 0 0 := Stand.of_body Bd
  have e0 : s₁.heap = h0 := by rw [← hh, Bd.state]; rfl
  have N0 := Fr.nil n0
  have pre0 : ∀ tt, Steps p.tables e below (s₁.setTop (mkF m 0 #[.val (.int p1), .val (.int p2)] [])) tt → Steps p.tables e below (s₁.setTop (entryFrame m #[(.int p1), (.int p2)] 2)) tt := fun tt kk => castTop (ef_22_rr m p1 p2) kk
  obtain ⟨fs, hr, hrun, hended, hW, hsame⟩ := X0.leave (v := some (.int p1)) (fun h => by rw [Bd.returns] at h; cases h)
  refine ⟨_, _, pre0 _ ?_, hrun, hended, _, _, rfl, ?_, ⟨_, rfl⟩, hW, hsame.mono (by decide) (by decide)⟩
  · show Steps _ _ _ (s₁.setTop (mkF m 0 #[.val (.int p1), .val (.int p2)] [])) _
    refine XS.iloadN X0.here hx rfl (hb hby d22_0) rfl ?_
    refine XS.iloadN X0.here hx rfl (hb hby d22_1) rfl ?_
    refine XS.icmpNo X0.here hx rfl (hb hby d22_2) rfl (flt hc2).2.2.1 ?_
    refine XS.iloadN X0.here hx rfl (hb hby d22_5) rfl ?_
    refine XS.goto X0.here hx rfl (pc0 := 6) (pc' := 10) rfl (hb hby d22_6) (by decide) (by decide) ?_
    show Steps _ _ _ (s₁.setTop (mkF m 10 #[.val (.int p1), .val (.int p2)] [(.int p1)])) _
    exact retI X0 hx Bd.returns (hb hby d22_10) hr
  · show own_Q Z (some (.int p1)) h0 n0 _ s₁.heap _
    rw [e0]
    exact ⟨rfl, N0, rfl⟩
theorem d20_0 : decode jdk_43_method_4_code 0 = .ok (.iload_n 0, 1) := by decide +kernel
theorem d20_1 : decode jdk_43_method_4_code 1 = .ok (.ifCond .lt 14, 3) := by decide +kernel
theorem d20_4 : decode jdk_43_method_4_code 4 = .ok (.iload_n 0, 1) := by decide +kernel
theorem d20_5 : decode jdk_43_method_4_code 5 = .ok (.sipush 255, 3) := by decide +kernel
theorem d20_8 : decode jdk_43_method_4_code 8 = .ok (.if_icmp .gt 7, 3) := by decide +kernel
theorem d20_11 : decode jdk_43_method_4_code 11 = .ok (.iconst 1, 1) := by decide +kernel
theorem d20_12 : decode jdk_43_method_4_code 12 = .ok (.goto 4, 3) := by decide +kernel
theorem d20_16 : decode jdk_43_method_4_code 16 = .ok (.ireturn, 1) := by decide +kernel
theorem pn_20 : plainName "java/lang/StringLatin1" = true := by first | (simp [plainName, overriddenIn]; done) | decide +kernel
theorem ef_20_r (m : MethodId) (x0 : Int32) : entryFrame m #[(.int x0)] 1 = mkF m 0 #[.val (.int x0)] [] := by first | (simp [entryFrame, mkF, argsToLocals, Value.category]; done) | rfl
theorem rmCE (l : Launch) (Z : State) (a0 : Array Value) (hw : HW a0 Z) (ws : List Jvm.Cond)  (h0 : Heap) (n0 : Nat) (Z0 : n0 ≤ h0.size) :
    MetFree l y_31 (head1 (Jvm.Cond.code y_31 jdk_43_method_4_code 1 (some .boolean) :: ws) (Rm 0 0 0 0)) (fun a_ U_ => a_ = #[(.int 0)] ∧ Z.Warmed39 U_.vm ∧ U_.heap = h0) (fun _ _ _ _ _ => True) (fun _ U_ o_ U1_ => ∃ v_ L_, o_ = .returned v_ ∧ own_Q Z (some (.int 1)) h0 n0 v_ U1_.heap L_ ∧ FrameEnd U_ o_ U1_ L_ (Rm 0 0 0 0).cells (Rm 0 0 0 0).slots) := by
  refine MetFree.of_bodySF (plainFor_of_name pn_20) hisR ?_
  intro p e s m args below meth c s₁ Bd hml0 hP hK
  obtain ⟨rfl, hZ, hh⟩ := hP
  have hx := Bd.exec
  have hby := Bd.bytes
  have hml : c.maxLocals = 1 := hml0
  have hown : s.vm.findClass "java/lang/StringLatin1" = some m.cls := findClass_of_methodNamed Bd.named
  have hnm := (name_of_methodNamed Bd.named Bd.method).1
  have X0 : Stand p l e (Rm 0 0 0 0) s m #[(.int 0)] below meth c s₁ [] 0 0 := Stand.of_body Bd
  have e0 : s₁.heap = h0 := by rw [← hh, Bd.state]; rfl
  have N0 := Fr.nil n0
  have pre0 : ∀ tt, Steps p.tables e below (s₁.setTop (mkF m 0 #[.val (.int 0)] [])) tt → Steps p.tables e below (s₁.setTop (entryFrame m #[(.int 0)] 1)) tt := fun tt kk => castTop (ef_20_r m (0 : Int32)) kk
  obtain ⟨fs, hr, hrun, hended, hW, hsame⟩ := X0.leave (v := some (.int 1)) (fun h => by rw [Bd.returns] at h; cases h)
  refine ⟨_, _, pre0 _ ?_, hrun, hended, _, _, rfl, ?_, ⟨_, rfl⟩, hW, hsame.mono (by decide) (by decide)⟩
  · show Steps _ _ _ (s₁.setTop (mkF m 0 #[.val (.int 0)] [])) _
    refine XS.iloadN X0.here hx rfl (hb hby d20_0) rfl ?_
    refine XS.ifNo X0.here hx rfl (hb hby d20_1) rfl ((if0 _ _).trans (flt (by decide : ¬ ((0 : Int32) < (0 : Int32)))).1) ?_
    refine XS.iloadN X0.here hx rfl (hb hby d20_4) rfl ?_
    refine XS.sipush X0.here hx rfl (hb hby d20_5) ?_
    refine XS.icmpNo X0.here hx rfl (hb hby d20_8) rfl (flt (by decide : ¬ ((255 : Int32) < (0 : Int32)))).2.2.1 ?_
    refine XS.iconst X0.here hx rfl (hb hby d20_11) ?_
    refine XS.goto X0.here hx rfl (pc0 := 12) (pc' := 16) rfl (hb hby d20_12) (by decide) (by decide) ?_
    show Steps _ _ _ (s₁.setTop (mkF m 16 #[.val (.int 0)] [(.int 1)])) _
    exact retN X0 hx (t := .boolean) Bd.returns (by simp) (hb hby d20_16) hr
  · show own_Q Z (some (.int 1)) h0 n0 _ s₁.heap _
    rw [e0]
    exact ⟨rfl, N0, rfl⟩
theorem own_l8z {c : Int32} (h : ¬ c < 0 ∧ ¬ (255 : Int32) < c) : own_l8 c = 0 ↔ c = 0 := ⟨fun q => by
  have e := own_msk h.1 h.2
  rw [q] at e
  rw [← e]; decide, fun q => by rw [q]; decide⟩
theorem d23_0 : decode jdk_43_method_23_code 0 = .ok (.iload_n 1, 1) := by decide +kernel
theorem d23_1 : decode jdk_43_method_23_code 1 = .ok (.i2b, 1) := by decide +kernel
theorem d23_2 : decode jdk_43_method_23_code 2 = .ok (.istore 4, 2) := by decide +kernel
theorem d23_4 : decode jdk_43_method_23_code 4 = .ok (.iload_n 2, 1) := by decide +kernel
theorem d23_5 : decode jdk_43_method_23_code 5 = .ok (.istore 5, 2) := by decide +kernel
theorem d23_7 : decode jdk_43_method_23_code 7 = .ok (.iload 5, 2) := by decide +kernel
theorem d23_9 : decode jdk_43_method_23_code 9 = .ok (.iload_n 3, 1) := by decide +kernel
theorem d23_10 : decode jdk_43_method_23_code 10 = .ok (.if_icmp .ge 21, 3) := by decide +kernel
theorem d23_13 : decode jdk_43_method_23_code 13 = .ok (.aload_n 0, 1) := by decide +kernel
theorem d23_14 : decode jdk_43_method_23_code 14 = .ok (.iload 5, 2) := by decide +kernel
theorem d23_16 : decode jdk_43_method_23_code 16 = .ok (.baload, 1) := by decide +kernel
theorem d23_17 : decode jdk_43_method_23_code 17 = .ok (.iload 4, 2) := by decide +kernel
theorem d23_19 : decode jdk_43_method_23_code 19 = .ok (.if_icmp .ne 6, 3) := by decide +kernel
theorem d23_25 : decode jdk_43_method_23_code 25 = .ok (.iinc 5 1, 3) := by decide +kernel
theorem d23_28 : decode jdk_43_method_23_code 28 = .ok (.goto (-21), 3) := by decide +kernel
theorem d23_22 : decode jdk_43_method_23_code 22 = .ok (.iload 5, 2) := by decide +kernel
theorem d23_24 : decode jdk_43_method_23_code 24 = .ok (.ireturn, 1) := by decide +kernel
theorem pn_23 : plainName "java/lang/StringLatin1" = true := by first | (simp [plainName, overriddenIn]; done) | decide +kernel
theorem ef_23_rrrr (m : MethodId) (x0 : Addr) (x1 : Int32) (x2 : Int32) (x3 : Int32) : entryFrame m #[(.ref x0), (.int x1), (.int x2), (.int x3)] 6 = mkF m 0 #[.val (.ref x0), .val (.int x1), .val (.int x2), .val (.int x3), .unset, .unset] [] := by first | (simp [entryFrame, mkF, argsToLocals, Value.category]; done) | rfl
theorem tnIL {p : Program} {l : Launch} {e : Env} {s : State} {m : MethodId} {args : Array Value} {below : List Frame} {meth : Method} {c : Code} {s₁ : State} {L0 : List Loc} {Z : State} {a0 : Array Value} (t : Addr) (k : ClassId) (cs : List Int32) (j : Nat) (z : Nat) (i : Nat) (h0 : Heap) (n0 : Nat) (X0 : Stand p l e (Rm 0 0 0 0) s m args below meth c s₁ L0 0 0) (hx : p.tables.exec = Jvm.exec) (hZ : Z.Warmed39 s.vm) (hw : HW a0 Z) (hby : c.code = jdk_43_method_23_code) (hml : c.maxLocals = 6) (hown : s.vm.findClass "java/lang/StringLatin1" = some m.cls) (e0 : s₁.heap = h0) (N0 : Fr n0 L0) (Z0 : n0 ≤ h0.size) (V_t : Arv Z h0 t k .byte (Int32.ofNat cs.length) (own_lat cs) (.int 0)) (hl : own_l1 cs) (hlen : cs.length ≤ 15) (hz : z < cs.length) (hi : i < z) (hne : ¬ (cs.getD i 0 = 0)) :
    ∃ (T' : State) (h' : Heap) (L' : List Loc) , Stand p l e (Rm 0 0 0 0) s m args below meth c T' L' 0 0 ∧ T'.heap = h' ∧ Fr n0 L' ∧ n0 ≤ h'.size ∧ h' = h0 ∧ 
      ∀ target, Steps p.tables e below (T'.setTop (mkF m 7 #[.val (.ref t), .val (.int 0), .val (.int (Int32.ofNat j)), .val (.int (Int32.ofNat cs.length)), .val (.int 0), .val (.int (Int32.ofNat (i + 1)))] [])) target → Steps p.tables e below (s₁.setTop (mkF m 7 #[.val (.ref t), .val (.int 0), .val (.int (Int32.ofNat j)), .val (.int (Int32.ofNat cs.length)), .val (.int 0), .val (.int (Int32.ofNat i))] [])) target := by
  obtain ⟨c1, Ar1, -, S1, M1, H1, -⟩ := id V_t
  have hin1 := inb_of (j := (Int32.ofNat i)) S1 (own_in (by omega) (by omega))
  refine ⟨s₁, h0, _, X0, e0, N0, Z0, rfl, fun target kt => ?_⟩
  show Steps _ _ _ (s₁.setTop (mkF m 7 #[.val (.ref t), .val (.int 0), .val (.int (Int32.ofNat j)), .val (.int (Int32.ofNat cs.length)), .val (.int 0), .val (.int (Int32.ofNat i))] [])) _
  refine XS.iload X0.here hx rfl (hb hby d23_7) rfl ?_
  refine XS.iloadN X0.here hx rfl (hb hby d23_9) rfl ?_
  refine XS.icmpNo X0.here hx rfl (hb hby d23_10) rfl (tlt ((own_lt (by omega) (by omega)).mpr (by omega))).2.1 ?_
  refine XS.aloadN X0.here hx rfl (hb hby d23_13) rfl rfl ?_
  refine XS.iload X0.here hx rfl (hb hby d23_14) rfl ?_
  show Steps _ _ _ (s₁.setTop (mkF m 16 #[.val (.ref t), .val (.int 0), .val (.int (Int32.ofNat j)), .val (.int (Int32.ofNat cs.length)), .val (.int 0), .val (.int (Int32.ofNat i))] [(.int (Int32.ofNat i)), (.ref t)])) _
  refine X0.baloadBytes hx (j := (Int32.ofNat i)) (v := (.int (own_l8 (cs.getD i 0)))) (by rw [e0]; exact Ar1.1) (State.isArrayOf_alike hZ.alike Ar1.2.1) Ar1.2.2 hin1 (H1.at hin1 (own_la cs i (by omega) (by omega))) (g := (mkF m 16 #[.val (.ref t), .val (.int 0), .val (.int (Int32.ofNat j)), .val (.int (Int32.ofNat cs.length)), .val (.int 0), .val (.int (Int32.ofNat i))] [(.int (Int32.ofNat i)), (.ref t)])) rfl rfl (hb hby d23_16) _ ?_
  show Steps _ _ _ (s₁.setTop (mkF m 17 #[.val (.ref t), .val (.int 0), .val (.int (Int32.ofNat j)), .val (.int (Int32.ofNat cs.length)), .val (.int 0), .val (.int (Int32.ofNat i))] [(.int (own_l8 (cs.getD i 0)))])) _
  refine XS.iload X0.here hx rfl (hb hby d23_17) rfl ?_
  refine XS.icmpYes X0.here hx rfl (pc0 := 19) (pc' := 25) rfl (hb hby d23_19) rfl (feq (fun q => hne ((own_l8z (own_l1_at hl (by omega))).mp q))).2 (by decide) (by decide) ?_
  refine XS.iinc X0.here hx rfl (hb hby d23_25) rfl (l' := #[.val (.ref t), .val (.int 0), .val (.int (Int32.ofNat j)), .val (.int (Int32.ofNat cs.length)), .val (.int 0), .val (.int ((Int32.ofNat i) + (1 : Int32)))]) rfl ?_
  refine XS.goto X0.here hx rfl (pc0 := 28) (pc' := 7) rfl (hb hby d23_28) (by decide) (by decide) ?_
  show Steps _ _ _ (s₁.setTop (mkF m 7 #[.val (.ref t), .val (.int 0), .val (.int (Int32.ofNat j)), .val (.int (Int32.ofNat cs.length)), .val (.int 0), .val (.int ((Int32.ofNat i) + (1 : Int32)))] [])) _
  rw [(own_succ i)]
  show Steps _ _ _ (s₁.setTop (mkF m 7 #[.val (.ref t), .val (.int 0), .val (.int (Int32.ofNat j)), .val (.int (Int32.ofNat cs.length)), .val (.int 0), .val (.int (Int32.ofNat (i + 1)))] [])) _
  exact kt
theorem lpIL {p : Program} {l : Launch} {e : Env} {s : State} {m : MethodId} {args : Array Value} {below : List Frame} {meth : Method} {c : Code} {Z : State} {a0 : Array Value} (t : Addr) (k : ClassId) (cs : List Int32) (j z : Nat) (n0 : Nat) (hx : p.tables.exec = Jvm.exec) (hZ : Z.Warmed39 s.vm) (hw : HW a0 Z) (hby : c.code = jdk_43_method_23_code) (hml : c.maxLocals = 6) (hown : s.vm.findClass "java/lang/StringLatin1" = some m.cls) (hl : own_l1 cs) (hlen : cs.length ≤ 15) (hz : z < cs.length) (hnz : ∀ i, j ≤ i → i < z → ¬ (cs.getD i 0 = 0)) :
    ∀ (q : Nat) (s₁ : State) (L0 : List Loc) (h0 : Heap) (i : Nat) (X0 : Stand p l e (Rm 0 0 0 0) s m args below meth c s₁ L0 0 0) (e0 : s₁.heap = h0) (N0 : Fr n0 L0) (Z0 : n0 ≤ h0.size) (V_t : Arv Z h0 t k .byte (Int32.ofNat cs.length) (own_lat cs) (.int 0)) (hji : j ≤ i) (hi : i + q = z),
    ∃ (T' : State) (h' : Heap) (L' : List Loc), Stand p l e (Rm 0 0 0 0) s m args below meth c T' L' 0 0 ∧ T'.heap = h' ∧ Fr n0 L' ∧ n0 ≤ h'.size ∧ h' = h0 ∧
      ∀ target, Steps p.tables e below (T'.setTop (mkF m 7 #[.val (.ref t), .val (.int 0), .val (.int (Int32.ofNat j)), .val (.int (Int32.ofNat cs.length)), .val (.int 0), .val (.int (Int32.ofNat z))] [])) target → Steps p.tables e below (s₁.setTop (mkF m 7 #[.val (.ref t), .val (.int 0), .val (.int (Int32.ofNat j)), .val (.int (Int32.ofNat cs.length)), .val (.int 0), .val (.int (Int32.ofNat i))] [])) target := by
  intro q
  induction q with
  | zero =>
    intro s₁ L0 h0 i X0 e0 N0 Z0 V_t hji hi
    obtain rfl : i = z := by omega
    exact ⟨s₁, h0, L0, X0, e0, N0, Z0, rfl, fun _ kt => kt⟩
  | succ q ih =>
    intro s₁ L0 h0 i X0 e0 N0 Z0 V_t hji hi
    obtain ⟨T1, h1, L1, X1, f1, N1, Z1, hh, st1⟩ := tnIL t k cs j z i h0 n0 X0 hx hZ hw hby hml hown e0 N0 Z0 V_t hl hlen hz (by omega) (hnz i hji (by omega))
    subst hh
    obtain ⟨T2, h2, L2, X2, f2, N2, Z2, hh2, st2⟩ := ih T1 L1 _ (i + 1) X1 f1 N1 Z1 V_t (by omega) (by omega)
    exact ⟨T2, h2, L2, X2, f2, N2, Z2, hh2, fun target kt => st1 _ (st2 _ kt)⟩
theorem rmIL (l : Launch) (Z : State) (a0 : Array Value) (hw : HW a0 Z) (ws : List Jvm.Cond) (t : Addr) (k : ClassId) (cs : List Int32) (j : Nat) (z : Nat) (h0 : Heap) (n0 : Nat) (Z0 : n0 ≤ h0.size) (V_t : Arv Z h0 t k .byte (Int32.ofNat cs.length) (own_lat cs) (.int 0)) (hl : own_l1 cs) (hlen : cs.length ≤ 15) (hz : z < cs.length) (hz0 : cs.getD z 0 = 0) (hnz : ∀ i, j ≤ i → i < z → ¬ (cs.getD i 0 = 0)) (hjz : j ≤ z) :
    MetFree l y_32 (head1 (Jvm.Cond.code y_32 jdk_43_method_23_code 6 (some .int) :: ws) (Rm 0 0 0 0)) (fun a_ U_ => a_ = #[(.ref t), (.int 0), (.int (Int32.ofNat j)), (.int (Int32.ofNat cs.length))] ∧ Z.Warmed39 U_.vm ∧ U_.heap = h0) (fun _ _ _ _ _ => True) (fun _ U_ o_ U1_ => ∃ v_ L_, o_ = .returned v_ ∧ own_Q Z (some (.int (Int32.ofNat z))) h0 n0 v_ U1_.heap L_ ∧ FrameEnd U_ o_ U1_ L_ (Rm 0 0 0 0).cells (Rm 0 0 0 0).slots) := by
  refine MetFree.of_bodySF (plainFor_of_name pn_23) hisR ?_
  intro p e s m args below meth c s₁ Bd hml0 hP hK
  obtain ⟨rfl, hZ, hh⟩ := hP
  have hx := Bd.exec
  have hby := Bd.bytes
  have hml : c.maxLocals = 6 := hml0
  have hown : s.vm.findClass "java/lang/StringLatin1" = some m.cls := findClass_of_methodNamed Bd.named
  have hnm := (name_of_methodNamed Bd.named Bd.method).1
  have X0 : Stand p l e (Rm 0 0 0 0) s m #[(.ref t), (.int 0), (.int (Int32.ofNat j)), (.int (Int32.ofNat cs.length))] below meth c s₁ [] 0 0 := Stand.of_body Bd
  have e0 : s₁.heap = h0 := by rw [← hh, Bd.state]; rfl
  have N0 := Fr.nil n0
  have pre0 : ∀ tt, Steps p.tables e below (s₁.setTop (mkF m 0 #[.val (.ref t), .val (.int 0), .val (.int (Int32.ofNat j)), .val (.int (Int32.ofNat cs.length)), .unset, .unset] [])) tt → Steps p.tables e below (s₁.setTop (entryFrame m #[(.ref t), (.int 0), (.int (Int32.ofNat j)), (.int (Int32.ofNat cs.length))] 6)) tt := fun tt kk => castTop (ef_23_rrrr m t (0 : Int32) (Int32.ofNat j) (Int32.ofNat cs.length)) kk
  obtain ⟨Tv9, hv9, Lv9, Xv9, ev9, Nv9, Zv9, hhv9, stv9⟩ := lpIL t k cs j z n0 hx hZ hw hby hml hown hl hlen hz hnz (z - j) s₁ _ h0 j X0 e0 N0 Z0 V_t (by omega) (by omega)
  have ev9b := ev9.trans hhv9
  obtain ⟨c31, Ar31, -, S31, M31, H31, -⟩ := id V_t
  have hin31 := inb_of (j := (Int32.ofNat z)) S31 (own_in (by omega) (by omega))
  obtain ⟨fs, hr, hrun, hended, hW, hsame⟩ := Xv9.leave (v := some (.int (Int32.ofNat z))) (fun h => by rw [Bd.returns] at h; cases h)
  refine ⟨_, _, pre0 _ ?_, hrun, hended, _, _, rfl, ?_, ⟨_, rfl⟩, hW, hsame.mono (by decide) (by decide)⟩
  · show Steps _ _ _ (s₁.setTop (mkF m 0 #[.val (.ref t), .val (.int 0), .val (.int (Int32.ofNat j)), .val (.int (Int32.ofNat cs.length)), .unset, .unset] [])) _
    refine XS.iloadN X0.here hx rfl (hb hby d23_0) rfl ?_
    refine XS.i2b X0.here hx rfl (hb hby d23_1) rfl ?_
    show Steps _ _ _ (s₁.setTop (mkF m 2 #[.val (.ref t), .val (.int 0), .val (.int (Int32.ofNat j)), .val (.int (Int32.ofNat cs.length)), .unset, .unset] [(.int ((0 : Int32).toInt8.toInt32))])) _
    rw [(by decide : ((0 : Int32).toInt8.toInt32) = (0 : Int32))]
    show Steps _ _ _ (s₁.setTop (mkF m 2 #[.val (.ref t), .val (.int 0), .val (.int (Int32.ofNat j)), .val (.int (Int32.ofNat cs.length)), .unset, .unset] [(.int 0)])) _
    refine XS.istore X0.here hx rfl (hb hby d23_2) rfl (l' := #[.val (.ref t), .val (.int 0), .val (.int (Int32.ofNat j)), .val (.int (Int32.ofNat cs.length)), .val (.int 0), .unset]) rfl ?_
    refine XS.iloadN X0.here hx rfl (hb hby d23_4) rfl ?_
    refine XS.istore X0.here hx rfl (hb hby d23_5) rfl (l' := #[.val (.ref t), .val (.int 0), .val (.int (Int32.ofNat j)), .val (.int (Int32.ofNat cs.length)), .val (.int 0), .val (.int (Int32.ofNat j))]) rfl ?_
    show Steps _ _ _ (s₁.setTop (mkF m 7 #[.val (.ref t), .val (.int 0), .val (.int (Int32.ofNat j)), .val (.int (Int32.ofNat cs.length)), .val (.int 0), .val (.int (Int32.ofNat j))] [])) _
    refine stv9 _ ?_
    show Steps _ _ _ (Tv9.setTop (mkF m 7 #[.val (.ref t), .val (.int 0), .val (.int (Int32.ofNat j)), .val (.int (Int32.ofNat cs.length)), .val (.int 0), .val (.int (Int32.ofNat z))] [])) _
    refine XS.iload Xv9.here hx rfl (hb hby d23_7) rfl ?_
    refine XS.iloadN Xv9.here hx rfl (hb hby d23_9) rfl ?_
    refine XS.icmpNo Xv9.here hx rfl (hb hby d23_10) rfl (tlt ((own_lt (by omega) (by omega)).mpr hz)).2.1 ?_
    refine XS.aloadN Xv9.here hx rfl (hb hby d23_13) rfl rfl ?_
    refine XS.iload Xv9.here hx rfl (hb hby d23_14) rfl ?_
    show Steps _ _ _ (Tv9.setTop (mkF m 16 #[.val (.ref t), .val (.int 0), .val (.int (Int32.ofNat j)), .val (.int (Int32.ofNat cs.length)), .val (.int 0), .val (.int (Int32.ofNat z))] [(.int (Int32.ofNat z)), (.ref t)])) _
    refine Xv9.baloadBytes hx (j := (Int32.ofNat z)) (v := (.int (own_l8 (cs.getD z 0)))) (by rw [ev9b]; exact Ar31.1) (State.isArrayOf_alike hZ.alike Ar31.2.1) Ar31.2.2 hin31 (H31.at hin31 (own_la cs z (by omega) (by omega))) (g := (mkF m 16 #[.val (.ref t), .val (.int 0), .val (.int (Int32.ofNat j)), .val (.int (Int32.ofNat cs.length)), .val (.int 0), .val (.int (Int32.ofNat z))] [(.int (Int32.ofNat z)), (.ref t)])) rfl rfl (hb hby d23_16) _ ?_
    show Steps _ _ _ (Tv9.setTop (mkF m 17 #[.val (.ref t), .val (.int 0), .val (.int (Int32.ofNat j)), .val (.int (Int32.ofNat cs.length)), .val (.int 0), .val (.int (Int32.ofNat z))] [(.int (own_l8 (cs.getD z 0)))])) _
    refine XS.iload Xv9.here hx rfl (hb hby d23_17) rfl ?_
    refine XS.icmpNo Xv9.here hx rfl (hb hby d23_19) rfl (teq ((own_l8z (own_l1_at hl (by omega))).mpr hz0)).2 ?_
    refine XS.iload Xv9.here hx rfl (hb hby d23_22) rfl ?_
    show Steps _ _ _ (Tv9.setTop (mkF m 24 #[.val (.ref t), .val (.int 0), .val (.int (Int32.ofNat j)), .val (.int (Int32.ofNat cs.length)), .val (.int 0), .val (.int (Int32.ofNat z))] [(.int (Int32.ofNat z))])) _
    exact retI Xv9 hx Bd.returns (hb hby d23_24) hr
  · show own_Q Z (some (.int (Int32.ofNat z))) h0 n0 _ Tv9.heap _
    rw [ev9b]
    exact ⟨rfl, Nv9, rfl⟩
theorem d42_0 : decode jdk_52_method_48_code 0 = .ok (.iload_n 2, 1) := by decide +kernel
theorem d42_1 : decode jdk_52_method_48_code 1 = .ok (.istore 4, 2) := by decide +kernel
theorem d42_3 : decode jdk_52_method_48_code 3 = .ok (.iload 4, 2) := by decide +kernel
theorem d42_5 : decode jdk_52_method_48_code 5 = .ok (.iload_n 3, 1) := by decide +kernel
theorem d42_6 : decode jdk_52_method_48_code 6 = .ok (.if_icmp .ge 22, 3) := by decide +kernel
theorem d42_9 : decode jdk_52_method_48_code 9 = .ok (.aload_n 0, 1) := by decide +kernel
theorem d42_10 : decode jdk_52_method_48_code 10 = .ok (.iload 4, 2) := by decide +kernel
theorem d42_12 : decode jdk_52_method_48_code 12 = .ok (.invokestatic 71, 3) := by decide +kernel
theorem d42_15 : decode jdk_52_method_48_code 15 = .ok (.iload_n 1, 1) := by decide +kernel
theorem d42_16 : decode jdk_52_method_48_code 16 = .ok (.if_icmp .ne 6, 3) := by decide +kernel
theorem d42_22 : decode jdk_52_method_48_code 22 = .ok (.iinc 4 1, 3) := by decide +kernel
theorem d42_25 : decode jdk_52_method_48_code 25 = .ok (.goto (-22), 3) := by decide +kernel
theorem d42_19 : decode jdk_52_method_48_code 19 = .ok (.iload 4, 2) := by decide +kernel
theorem d42_21 : decode jdk_52_method_48_code 21 = .ok (.ireturn, 1) := by decide +kernel
theorem pn_42 : plainName "java/lang/StringUTF16" = true := by first | (simp [plainName, overriddenIn]; done) | decide +kernel
theorem ef_42_rrrr (m : MethodId) (x0 : Addr) (x1 : Int32) (x2 : Int32) (x3 : Int32) : entryFrame m #[(.ref x0), (.int x1), (.int x2), (.int x3)] 5 = mkF m 0 #[.val (.ref x0), .val (.int x1), .val (.int x2), .val (.int x3), .unset] [] := by first | (simp [entryFrame, mkF, argsToLocals, Value.category]; done) | rfl
theorem tnIU {p : Program} {l : Launch} {e : Env} {s : State} {m : MethodId} {args : Array Value} {below : List Frame} {meth : Method} {c : Code} {s₁ : State} {L0 : List Loc} {Z : State} {a0 : Array Value} (G1 : Int32) (G3 : Value) (G4 : Value) (t : Addr) (k : ClassId) (cs : List Int32) (j : Nat) (z : Nat) (i : Nat) (h0 : Heap) (n0 : Nat) (X0 : Stand p l e (Rm 1 0 0 13) s m args below meth c s₁ L0 0 0) (hx : p.tables.exec = Jvm.exec) (hZ : Z.Warmed39 s.vm) (hw : HW a0 Z) (hby : c.code = jdk_52_method_48_code) (hml : c.maxLocals = 5) (hown : s.vm.findClass "java/lang/StringUTF16" = some m.cls) (e0 : s₁.heap = h0) (N0 : Fr n0 L0) (Z0 : n0 ≤ h0.size) (EN : own_env Z G1 G3 G4) (X00 : Old Z n0 h0) (V_t : Arv Z h0 t k .byte (Int32.ofNat (2 * cs.length)) (own_wide cs) (.int 0)) (hcc : ∀ c ∈ cs, own_ch c) (hlen : cs.length ≤ 15) (hz : z < cs.length) (hi : i < z) (hne : ¬ (cs.getD i 0 = 0)) :
    ∃ (T' : State) (h' : Heap) (L' : List Loc) , Stand p l e (Rm 1 0 0 13) s m args below meth c T' L' 0 0 ∧ T'.heap = h' ∧ Fr n0 L' ∧ n0 ≤ h'.size ∧ h' = h0 ∧ 
      ∀ target, Steps p.tables e below (T'.setTop (mkF m 3 #[.val (.ref t), .val (.int 0), .val (.int (Int32.ofNat j)), .val (.int (Int32.ofNat cs.length)), .val (.int (Int32.ofNat (i + 1)))] [])) target → Steps p.tables e below (s₁.setTop (mkF m 3 #[.val (.ref t), .val (.int 0), .val (.int (Int32.ofNat j)), .val (.int (Int32.ofNat cs.length)), .val (.int (Int32.ofNat i))] [])) target := by
  have EN0 := EN
  obtain ⟨O2, P5, O4, rG3, O6, O7, O8⟩ := EN
  obtain ⟨_, _, ⟨T1, L1, k1, n1⟩, -, X1, ⟨Lc1, hQ1, l1, y1, z1⟩, st1⟩ := Jvm.LawKit.callS X0 hx (y := y_17) hown (mvT hZ (hw _ (tk 176 rfl))) (mvT hZ (hw _ (tk 177 rfl))) (mvT hZ (hw _ (tk 23 rfl))) (mvT hZ (hw _ (tk 178 rfl))) (by decide) (backOf (W := 0) (rmGC l Z a0 hw [] G1 G3 G4 t k cs i h0 n0 Z0 EN0 X00 V_t (own_atch hcc (by omega)) hlen (by omega)) hZ (hw _ (tk 178 rfl)) (hw _ (tk 23 rfl)) (by decide) (by decide)) (g := (mkF m 12 #[.val (.ref t), .val (.int 0), .val (.int (Int32.ofNat j)), .val (.int (Int32.ofNat cs.length)), .val (.int (Int32.ofNat i))] [(.int (Int32.ofNat i)), (.ref t)])) rfl (by rw [hml]; rfl) (argsL := [(.ref t), (.int (Int32.ofNat i))]) (rest := []) (lenOf pd___BI_C rfl) rfl (by show 2 * 0 + _ ≤ _; exact Nat.le_of_eq rfl) (hb hby d42_12) (fun _ _ => ⟨rfl, e0, (by decide : 0 + 0 ≤ _), (by decide : 0 + 0 ≤ _)⟩)
  dsimp only [Pt.U, Pt.locs, Pt.cells, Pt.slots] at X1 l1 y1 z1 st1 hQ1
  subst l1 y1 z1
  obtain ⟨rfl, Nq1, eq1⟩ := hQ1
  have N1 := Fr.app N0 Nq1
  refine ⟨T1, h0, _, X1, eq1, N1, Z0, rfl, fun target kt => ?_⟩
  show Steps _ _ _ (s₁.setTop (mkF m 3 #[.val (.ref t), .val (.int 0), .val (.int (Int32.ofNat j)), .val (.int (Int32.ofNat cs.length)), .val (.int (Int32.ofNat i))] [])) _
  refine XS.iload X0.here hx rfl (hb hby d42_3) rfl ?_
  refine XS.iloadN X0.here hx rfl (hb hby d42_5) rfl ?_
  refine XS.icmpNo X0.here hx rfl (hb hby d42_6) rfl (tlt ((own_lt (by omega) (by omega)).mpr (by omega))).2.1 ?_
  refine XS.aloadN X0.here hx rfl (hb hby d42_9) rfl rfl ?_
  refine XS.iload X0.here hx rfl (hb hby d42_10) rfl ?_
  show Steps _ _ _ (s₁.setTop (mkF m 12 #[.val (.ref t), .val (.int 0), .val (.int (Int32.ofNat j)), .val (.int (Int32.ofNat cs.length)), .val (.int (Int32.ofNat i))] [(.int (Int32.ofNat i)), (.ref t)])) _
  refine st1 _ ?_
  show Steps _ _ _ (T1.setTop (mkF m 15 #[.val (.ref t), .val (.int 0), .val (.int (Int32.ofNat j)), .val (.int (Int32.ofNat cs.length)), .val (.int (Int32.ofNat i))] [(.int (cs.getD i 0))])) _
  refine XS.iloadN X1.here hx rfl (hb hby d42_15) rfl ?_
  refine XS.icmpYes X1.here hx rfl (pc0 := 16) (pc' := 22) rfl (hb hby d42_16) rfl (feq hne).2 (by decide) (by decide) ?_
  refine XS.iinc X1.here hx rfl (hb hby d42_22) rfl (l' := #[.val (.ref t), .val (.int 0), .val (.int (Int32.ofNat j)), .val (.int (Int32.ofNat cs.length)), .val (.int ((Int32.ofNat i) + (1 : Int32)))]) rfl ?_
  refine XS.goto X1.here hx rfl (pc0 := 25) (pc' := 3) rfl (hb hby d42_25) (by decide) (by decide) ?_
  show Steps _ _ _ (T1.setTop (mkF m 3 #[.val (.ref t), .val (.int 0), .val (.int (Int32.ofNat j)), .val (.int (Int32.ofNat cs.length)), .val (.int ((Int32.ofNat i) + (1 : Int32)))] [])) _
  rw [(own_succ i)]
  show Steps _ _ _ (T1.setTop (mkF m 3 #[.val (.ref t), .val (.int 0), .val (.int (Int32.ofNat j)), .val (.int (Int32.ofNat cs.length)), .val (.int (Int32.ofNat (i + 1)))] [])) _
  exact kt
theorem lpIU {p : Program} {l : Launch} {e : Env} {s : State} {m : MethodId} {args : Array Value} {below : List Frame} {meth : Method} {c : Code} {Z : State} {a0 : Array Value} (G1 : Int32) (G3 G4 : Value) (t : Addr) (k : ClassId) (cs : List Int32) (j z : Nat) (n0 : Nat) (hx : p.tables.exec = Jvm.exec) (hZ : Z.Warmed39 s.vm) (hw : HW a0 Z) (hby : c.code = jdk_52_method_48_code) (hml : c.maxLocals = 5) (hown : s.vm.findClass "java/lang/StringUTF16" = some m.cls) (EN : own_env Z G1 G3 G4) (hcc : ∀ c ∈ cs, own_ch c) (hlen : cs.length ≤ 15) (hz : z < cs.length) (hnz : ∀ i, j ≤ i → i < z → ¬ (cs.getD i 0 = 0)) :
    ∀ (q : Nat) (s₁ : State) (L0 : List Loc) (h0 : Heap) (i : Nat) (X0 : Stand p l e (Rm 1 0 0 13) s m args below meth c s₁ L0 0 0) (e0 : s₁.heap = h0) (N0 : Fr n0 L0) (Z0 : n0 ≤ h0.size) (X00 : Old Z n0 h0) (V_t : Arv Z h0 t k .byte (Int32.ofNat (2 * cs.length)) (own_wide cs) (.int 0)) (hji : j ≤ i) (hi : i + q = z),
    ∃ (T' : State) (h' : Heap) (L' : List Loc), Stand p l e (Rm 1 0 0 13) s m args below meth c T' L' 0 0 ∧ T'.heap = h' ∧ Fr n0 L' ∧ n0 ≤ h'.size ∧ h' = h0 ∧
      ∀ target, Steps p.tables e below (T'.setTop (mkF m 3 #[.val (.ref t), .val (.int 0), .val (.int (Int32.ofNat j)), .val (.int (Int32.ofNat cs.length)), .val (.int (Int32.ofNat z))] [])) target → Steps p.tables e below (s₁.setTop (mkF m 3 #[.val (.ref t), .val (.int 0), .val (.int (Int32.ofNat j)), .val (.int (Int32.ofNat cs.length)), .val (.int (Int32.ofNat i))] [])) target := by
  intro q
  induction q with
  | zero =>
    intro s₁ L0 h0 i X0 e0 N0 Z0 X00 V_t hji hi
    obtain rfl : i = z := by omega
    exact ⟨s₁, h0, L0, X0, e0, N0, Z0, rfl, fun _ kt => kt⟩
  | succ q ih =>
    intro s₁ L0 h0 i X0 e0 N0 Z0 X00 V_t hji hi
    obtain ⟨T1, h1, L1, X1, f1, N1, Z1, hh, st1⟩ := tnIU G1 G3 G4 t k cs j z i h0 n0 X0 hx hZ hw hby hml hown e0 N0 Z0 EN X00 V_t hcc hlen hz (by omega) (hnz i hji (by omega))
    subst hh
    obtain ⟨T2, h2, L2, X2, f2, N2, Z2, hh2, st2⟩ := ih T1 L1 _ (i + 1) X1 f1 N1 Z1 X00 V_t (by omega) (by omega)
    exact ⟨T2, h2, L2, X2, f2, N2, Z2, hh2, fun target kt => st1 _ (st2 _ kt)⟩
theorem rmIU (l : Launch) (Z : State) (a0 : Array Value) (hw : HW a0 Z) (ws : List Jvm.Cond) (G1 : Int32) (G3 : Value) (G4 : Value) (t : Addr) (k : ClassId) (cs : List Int32) (j : Nat) (z : Nat) (h0 : Heap) (n0 : Nat) (Z0 : n0 ≤ h0.size) (EN : own_env Z G1 G3 G4) (X00 : Old Z n0 h0) (V_t : Arv Z h0 t k .byte (Int32.ofNat (2 * cs.length)) (own_wide cs) (.int 0)) (hcc : ∀ c ∈ cs, own_ch c) (hlen : cs.length ≤ 15) (hz : z < cs.length) (hz0 : cs.getD z 0 = 0) (hnz : ∀ i, j ≤ i → i < z → ¬ (cs.getD i 0 = 0)) (hjz : j ≤ z) :
    MetFree l y_33 (head1 (Jvm.Cond.code y_33 jdk_52_method_48_code 5 (some .int) :: ws) (Rm 1 0 0 13)) (fun a_ U_ => a_ = #[(.ref t), (.int 0), (.int (Int32.ofNat j)), (.int (Int32.ofNat cs.length))] ∧ Z.Warmed39 U_.vm ∧ U_.heap = h0) (fun _ _ _ _ _ => True) (fun _ U_ o_ U1_ => ∃ v_ L_, o_ = .returned v_ ∧ own_Q Z (some (.int (Int32.ofNat z))) h0 n0 v_ U1_.heap L_ ∧ FrameEnd U_ o_ U1_ L_ (Rm 1 0 0 13).cells (Rm 1 0 0 13).slots) := by
  refine MetFree.of_bodySF (plainFor_of_name pn_42) hisR ?_
  intro p e s m args below meth c s₁ Bd hml0 hP hK
  obtain ⟨rfl, hZ, hh⟩ := hP
  have hx := Bd.exec
  have hby := Bd.bytes
  have hml : c.maxLocals = 5 := hml0
  have hown : s.vm.findClass "java/lang/StringUTF16" = some m.cls := findClass_of_methodNamed Bd.named
  have hnm := (name_of_methodNamed Bd.named Bd.method).1
  have X0 : Stand p l e (Rm 1 0 0 13) s m #[(.ref t), (.int 0), (.int (Int32.ofNat j)), (.int (Int32.ofNat cs.length))] below meth c s₁ [] 0 0 := Stand.of_body Bd
  have e0 : s₁.heap = h0 := by rw [← hh, Bd.state]; rfl
  have N0 := Fr.nil n0
  have pre0 : ∀ tt, Steps p.tables e below (s₁.setTop (mkF m 0 #[.val (.ref t), .val (.int 0), .val (.int (Int32.ofNat j)), .val (.int (Int32.ofNat cs.length)), .unset] [])) tt → Steps p.tables e below (s₁.setTop (entryFrame m #[(.ref t), (.int 0), (.int (Int32.ofNat j)), (.int (Int32.ofNat cs.length))] 5)) tt := fun tt kk => castTop (ef_42_rrrr m t (0 : Int32) (Int32.ofNat j) (Int32.ofNat cs.length)) kk
  have EN0 := EN
  obtain ⟨O2, P5, O4, rG3, O6, O7, O8⟩ := EN
  obtain ⟨Tv9, hv9, Lv9, Xv9, ev9, Nv9, Zv9, hhv9, stv9⟩ := lpIU G1 G3 G4 t k cs j z n0 hx hZ hw hby hml hown EN0 hcc hlen hz hnz (z - j) s₁ _ h0 j X0 e0 N0 Z0 X00 V_t (by omega) (by omega)
  have ev9b := ev9.trans hhv9
  obtain ⟨_, _, ⟨T31, L31, k31, n31⟩, -, X31, ⟨Lc31, hQ31, l31, y31, z31⟩, st31⟩ := Jvm.LawKit.callS Xv9 hx (y := y_17) hown (mvT hZ (hw _ (tk 176 rfl))) (mvT hZ (hw _ (tk 177 rfl))) (mvT hZ (hw _ (tk 23 rfl))) (mvT hZ (hw _ (tk 178 rfl))) (by decide) (backOf (W := 0) (rmGC l Z a0 hw [] G1 G3 G4 t k cs z h0 n0 Z0 EN0 X00 V_t (own_atch hcc (by omega)) hlen (by omega)) hZ (hw _ (tk 178 rfl)) (hw _ (tk 23 rfl)) (by decide) (by decide)) (g := (mkF m 12 #[.val (.ref t), .val (.int 0), .val (.int (Int32.ofNat j)), .val (.int (Int32.ofNat cs.length)), .val (.int (Int32.ofNat z))] [(.int (Int32.ofNat z)), (.ref t)])) rfl (by rw [hml]; rfl) (argsL := [(.ref t), (.int (Int32.ofNat z))]) (rest := []) (lenOf pd___BI_C rfl) rfl (by show 2 * 0 + _ ≤ _; exact Nat.le_of_eq rfl) (hb hby d42_12) (fun _ _ => ⟨rfl, ev9b, (by decide : 0 + 0 ≤ _), (by decide : 0 + 0 ≤ _)⟩)
  dsimp only [Pt.U, Pt.locs, Pt.cells, Pt.slots] at X31 l31 y31 z31 st31 hQ31
  subst l31 y31 z31
  obtain ⟨rfl, Nq31, eq31⟩ := hQ31
  have N31 := Fr.app Nv9 Nq31
  obtain ⟨fs, hr, hrun, hended, hW, hsame⟩ := X31.leave (v := some (.int (Int32.ofNat z))) (fun h => by rw [Bd.returns] at h; cases h)
  refine ⟨_, _, pre0 _ ?_, hrun, hended, _, _, rfl, ?_, ⟨_, rfl⟩, hW, hsame.mono (by decide) (by decide)⟩
  · show Steps _ _ _ (s₁.setTop (mkF m 0 #[.val (.ref t), .val (.int 0), .val (.int (Int32.ofNat j)), .val (.int (Int32.ofNat cs.length)), .unset] [])) _
    refine XS.iloadN X0.here hx rfl (hb hby d42_0) rfl ?_
    refine XS.istore X0.here hx rfl (hb hby d42_1) rfl (l' := #[.val (.ref t), .val (.int 0), .val (.int (Int32.ofNat j)), .val (.int (Int32.ofNat cs.length)), .val (.int (Int32.ofNat j))]) rfl ?_
    show Steps _ _ _ (s₁.setTop (mkF m 3 #[.val (.ref t), .val (.int 0), .val (.int (Int32.ofNat j)), .val (.int (Int32.ofNat cs.length)), .val (.int (Int32.ofNat j))] [])) _
    refine stv9 _ ?_
    show Steps _ _ _ (Tv9.setTop (mkF m 3 #[.val (.ref t), .val (.int 0), .val (.int (Int32.ofNat j)), .val (.int (Int32.ofNat cs.length)), .val (.int (Int32.ofNat z))] [])) _
    refine XS.iload Xv9.here hx rfl (hb hby d42_3) rfl ?_
    refine XS.iloadN Xv9.here hx rfl (hb hby d42_5) rfl ?_
    refine XS.icmpNo Xv9.here hx rfl (hb hby d42_6) rfl (tlt ((own_lt (by omega) (by omega)).mpr hz)).2.1 ?_
    refine XS.aloadN Xv9.here hx rfl (hb hby d42_9) rfl rfl ?_
    refine XS.iload Xv9.here hx rfl (hb hby d42_10) rfl ?_
    show Steps _ _ _ (Tv9.setTop (mkF m 12 #[.val (.ref t), .val (.int 0), .val (.int (Int32.ofNat j)), .val (.int (Int32.ofNat cs.length)), .val (.int (Int32.ofNat z))] [(.int (Int32.ofNat z)), (.ref t)])) _
    refine st31 _ ?_
    show Steps _ _ _ (T31.setTop (mkF m 15 #[.val (.ref t), .val (.int 0), .val (.int (Int32.ofNat j)), .val (.int (Int32.ofNat cs.length)), .val (.int (Int32.ofNat z))] [(.int (cs.getD z 0))])) _
    refine XS.iloadN X31.here hx rfl (hb hby d42_15) rfl ?_
    refine XS.icmpNo X31.here hx rfl (hb hby d42_16) rfl (teq hz0).2 ?_
    refine XS.iload X31.here hx rfl (hb hby d42_19) rfl ?_
    show Steps _ _ _ (T31.setTop (mkF m 21 #[.val (.ref t), .val (.int 0), .val (.int (Int32.ofNat j)), .val (.int (Int32.ofNat cs.length)), .val (.int (Int32.ofNat z))] [(.int (Int32.ofNat z))])) _
    exact retI X31 hx Bd.returns (hb hby d42_21) hr
  · show own_Q Z (some (.int (Int32.ofNat z))) h0 n0 _ T31.heap _
    rw [eq31]
    exact ⟨rfl, N31, rfl⟩
theorem d19_0 : decode jdk_43_method_22_code 0 = .ok (.iload_n 1, 1) := by decide +kernel
theorem pd__I_Z : parseMethodDescriptor "(I)Z" = some ⟨[.int], some .boolean⟩ := by decide +kernel
theorem d19_1 : decode jdk_43_method_22_code 1 = .ok (.invokestatic 88, 3) := by decide +kernel
theorem d19_4 : decode jdk_43_method_22_code 4 = .ok (.ifCond .ne 5, 3) := by decide +kernel
theorem d19_9 : decode jdk_43_method_22_code 9 = .ok (.iload_n 2, 1) := by decide +kernel
theorem d19_10 : decode jdk_43_method_22_code 10 = .ok (.iconst 0, 1) := by decide +kernel
theorem pd__II_I : parseMethodDescriptor "(II)I" = some ⟨[.int, .int], some .int⟩ := by decide +kernel
theorem d19_11 : decode jdk_43_method_22_code 11 = .ok (.invokestatic 92, 3) := by decide +kernel
theorem d19_14 : decode jdk_43_method_22_code 14 = .ok (.istore_n 2, 1) := by decide +kernel
theorem d19_15 : decode jdk_43_method_22_code 15 = .ok (.iload_n 3, 1) := by decide +kernel
theorem d19_16 : decode jdk_43_method_22_code 16 = .ok (.aload_n 0, 1) := by decide +kernel
theorem d19_17 : decode jdk_43_method_22_code 17 = .ok (.arraylength, 1) := by decide +kernel
theorem d19_18 : decode jdk_43_method_22_code 18 = .ok (.invokestatic 38, 3) := by decide +kernel
theorem d19_21 : decode jdk_43_method_22_code 21 = .ok (.istore_n 3, 1) := by decide +kernel
theorem d19_22 : decode jdk_43_method_22_code 22 = .ok (.iload_n 2, 1) := by decide +kernel
theorem d19_23 : decode jdk_43_method_22_code 23 = .ok (.iload_n 3, 1) := by decide +kernel
theorem d19_24 : decode jdk_43_method_22_code 24 = .ok (.if_icmp .lt 5, 3) := by decide +kernel
theorem d19_29 : decode jdk_43_method_22_code 29 = .ok (.aload_n 0, 1) := by decide +kernel
theorem d19_30 : decode jdk_43_method_22_code 30 = .ok (.iload_n 1, 1) := by decide +kernel
theorem d19_31 : decode jdk_43_method_22_code 31 = .ok (.iload_n 2, 1) := by decide +kernel
theorem d19_32 : decode jdk_43_method_22_code 32 = .ok (.iload_n 3, 1) := by decide +kernel
theorem pd___BIII_I : parseMethodDescriptor "([BIII)I" = some ⟨[(.array .byte), .int, .int, .int], some .int⟩ := by decide +kernel
theorem d19_33 : decode jdk_43_method_22_code 33 = .ok (.invokestatic 95, 3) := by decide +kernel
theorem d19_36 : decode jdk_43_method_22_code 36 = .ok (.ireturn, 1) := by decide +kernel
theorem pn_19 : plainName "java/lang/StringLatin1" = true := by first | (simp [plainName, overriddenIn]; done) | decide +kernel
theorem ef_19_rrrr (m : MethodId) (x0 : Addr) (x1 : Int32) (x2 : Int32) (x3 : Int32) : entryFrame m #[(.ref x0), (.int x1), (.int x2), (.int x3)] 4 = mkF m 0 #[.val (.ref x0), .val (.int x1), .val (.int x2), .val (.int x3)] [] := by first | (simp [entryFrame, mkF, argsToLocals, Value.category]; done) | rfl
theorem rmLIX (l : Launch) (Z : State) (a0 : Array Value) (hw : HW a0 Z) (ws : List Jvm.Cond) (G1 : Int32) (G3 : Value) (G4 : Value) (t : Addr) (k : ClassId) (cs : List Int32) (j : Nat) (z : Nat) (h0 : Heap) (n0 : Nat) (Z0 : n0 ≤ h0.size) (EN : own_env Z G1 G3 G4) (X00 : Old Z n0 h0) (V_t : Arv Z h0 t k .byte (Int32.ofNat cs.length) (own_lat cs) (.int 0)) (hl : own_l1 cs) (hlen : cs.length ≤ 15) (hz : z < cs.length) (hz0 : cs.getD z 0 = 0) (hnz : ∀ i, j ≤ i → i < z → ¬ (cs.getD i 0 = 0)) (hjz : j ≤ z) :
    MetFree l y_34 (head1 (Jvm.Cond.code y_34 jdk_43_method_22_code 4 (some .int) :: ws) (Rm 1 0 0 17)) (fun a_ U_ => a_ = #[(.ref t), (.int 0), (.int (Int32.ofNat j)), (.int (Int32.ofNat cs.length))] ∧ Z.Warmed39 U_.vm ∧ U_.heap = h0) (fun _ _ _ _ _ => True) (fun _ U_ o_ U1_ => ∃ v_ L_, o_ = .returned v_ ∧ own_Q Z (some (.int (Int32.ofNat z))) h0 n0 v_ U1_.heap L_ ∧ FrameEnd U_ o_ U1_ L_ (Rm 1 0 0 17).cells (Rm 1 0 0 17).slots) := by
  refine MetFree.of_bodySF (plainFor_of_name pn_19) hisR ?_
  intro p e s m args below meth c s₁ Bd hml0 hP hK
  obtain ⟨rfl, hZ, hh⟩ := hP
  have hx := Bd.exec
  have hby := Bd.bytes
  have hml : c.maxLocals = 4 := hml0
  have hown : s.vm.findClass "java/lang/StringLatin1" = some m.cls := findClass_of_methodNamed Bd.named
  have hnm := (name_of_methodNamed Bd.named Bd.method).1
  have X0 : Stand p l e (Rm 1 0 0 17) s m #[(.ref t), (.int 0), (.int (Int32.ofNat j)), (.int (Int32.ofNat cs.length))] below meth c s₁ [] 0 0 := Stand.of_body Bd
  have e0 : s₁.heap = h0 := by rw [← hh, Bd.state]; rfl
  have N0 := Fr.nil n0
  have pre0 : ∀ tt, Steps p.tables e below (s₁.setTop (mkF m 0 #[.val (.ref t), .val (.int 0), .val (.int (Int32.ofNat j)), .val (.int (Int32.ofNat cs.length))] [])) tt → Steps p.tables e below (s₁.setTop (entryFrame m #[(.ref t), (.int 0), (.int (Int32.ofNat j)), (.int (Int32.ofNat cs.length))] 4)) tt := fun tt kk => castTop (ef_19_rrrr m t (0 : Int32) (Int32.ofNat j) (Int32.ofNat cs.length)) kk
  have EN0 := EN
  obtain ⟨O2, P5, O4, rG3, O6, O7, O8⟩ := EN
  obtain ⟨_, _, ⟨T1, L1, k1, n1⟩, -, X1, ⟨Lc1, hQ1, l1, y1, z1⟩, st1⟩ := Jvm.LawKit.callS X0 hx (y := y_31) hown (mvT hZ (hw _ (tk 107 rfl))) (mvT hZ (hw _ (tk 108 rfl))) (mvT hZ (hw _ (tk 82 rfl))) (mvT hZ (hw _ (tk 109 rfl))) (by decide) (backOf (W := 0) (rmCE l Z a0 hw [] h0 n0 Z0) hZ (hw _ (tk 109 rfl)) (hw _ (tk 82 rfl)) (by decide) (by decide)) (g := (mkF m 1 #[.val (.ref t), .val (.int 0), .val (.int (Int32.ofNat j)), .val (.int (Int32.ofNat cs.length))] [(.int 0)])) rfl (by rw [hml]; rfl) (argsL := [(.int 0)]) (rest := []) (lenOf pd__I_Z rfl) rfl (by show 2 * 0 + _ ≤ _; exact Nat.le_of_eq rfl) (hb hby d19_1) (fun _ _ => ⟨rfl, e0, (by decide : 0 + 0 ≤ _), (by decide : 0 + 0 ≤ _)⟩)
  dsimp only [Pt.U, Pt.locs, Pt.cells, Pt.slots] at X1 l1 y1 z1 st1 hQ1
  subst l1 y1 z1
  obtain ⟨rfl, Nq1, eq1⟩ := hQ1
  have N1 := Fr.app N0 Nq1
  obtain ⟨_, _, ⟨T2, L2, k2, n2⟩, -, X2, ⟨Lc2, hQ2, l2, y2, z2⟩, st2⟩ := Jvm.LawKit.callS X1 hx (y := y_29) hown (mvT hZ (hw _ (tk 110 rfl))) (mvT hZ (hw _ (tk 111 rfl))) (mvT hZ (hw _ (tk 112 rfl))) (mvT hZ (hw _ (tk 113 rfl))) (by decide) (backOf (W := 0) (rmMAX l Z a0 hw [] (Int32.ofNat j) (0 : Int32) h0 n0 Z0 (own_n0 (by omega))) hZ (hw _ (tk 113 rfl)) (hw _ (tk 112 rfl)) (by decide) (by decide)) (g := (mkF m 11 #[.val (.ref t), .val (.int 0), .val (.int (Int32.ofNat j)), .val (.int (Int32.ofNat cs.length))] [(.int 0), (.int (Int32.ofNat j))])) rfl (by rw [hml]; rfl) (argsL := [(.int (Int32.ofNat j)), (.int 0)]) (rest := []) (lenOf pd__II_I rfl) rfl (by show 2 * 0 + _ ≤ _; exact Nat.le_of_eq rfl) (hb hby d19_11) (fun _ _ => ⟨rfl, eq1, (by decide : 0 + 0 ≤ _), (by decide : 0 + 0 ≤ _)⟩)
  dsimp only [Pt.U, Pt.locs, Pt.cells, Pt.slots] at X2 l2 y2 z2 st2 hQ2
  subst l2 y2 z2
  obtain ⟨rfl, Nq2, eq2⟩ := hQ2
  have N2 := Fr.app N1 Nq2
  obtain ⟨c3, Ar3, -, S3, M3, -, -⟩ := id V_t
  obtain ⟨_, _, ⟨T4, L4, k4, n4⟩, -, X4, ⟨Lc4, hQ4, l4, y4, z4⟩, st4⟩ := Jvm.LawKit.callS X2 hx (y := y_30) hown (mvT hZ (hw _ (tk 114 rfl))) (mvT hZ (hw _ (tk 115 rfl))) (mvT hZ (hw _ (tk 112 rfl))) (mvT hZ (hw _ (tk 116 rfl))) (by decide) (backOf (W := 0) (rmMIN l Z a0 hw [] (Int32.ofNat cs.length) (Int32.ofNat cs.length) h0 n0 Z0 Int32.lt_irrefl) hZ (hw _ (tk 116 rfl)) (hw _ (tk 112 rfl)) (by decide) (by decide)) (g := (mkF m 18 #[.val (.ref t), .val (.int 0), .val (.int (Int32.ofNat j)), .val (.int (Int32.ofNat cs.length))] [(.int (Int32.ofNat cs.length)), (.int (Int32.ofNat cs.length))])) rfl (by rw [hml]; rfl) (argsL := [(.int (Int32.ofNat cs.length)), (.int (Int32.ofNat cs.length))]) (rest := []) (lenOf pd__II_I rfl) rfl (by show 2 * 0 + _ ≤ _; exact Nat.le_of_eq rfl) (hb hby d19_18) (fun _ _ => ⟨rfl, eq2, (by decide : 0 + 0 ≤ _), (by decide : 0 + 0 ≤ _)⟩)
  dsimp only [Pt.U, Pt.locs, Pt.cells, Pt.slots] at X4 l4 y4 z4 st4 hQ4
  subst l4 y4 z4
  obtain ⟨rfl, Nq4, eq4⟩ := hQ4
  have N4 := Fr.app N2 Nq4
  obtain ⟨_, _, ⟨T5, L5, k5, n5⟩, -, X5, ⟨Lc5, hQ5, l5, y5, z5⟩, st5⟩ := Jvm.LawKit.callS X4 hx (y := y_32) hown (mvT hZ (hw _ (tk 117 rfl))) (mvT hZ (hw _ (tk 118 rfl))) (mvT hZ (hw _ (tk 82 rfl))) (mvT hZ (hw _ (tk 119 rfl))) (by decide) (backOf (W := 0) (rmIL l Z a0 hw [] t k cs j z h0 n0 Z0 V_t hl hlen hz hz0 hnz hjz) hZ (hw _ (tk 119 rfl)) (hw _ (tk 82 rfl)) (by decide) (by decide)) (g := (mkF m 33 #[.val (.ref t), .val (.int 0), .val (.int (Int32.ofNat j)), .val (.int (Int32.ofNat cs.length))] [(.int (Int32.ofNat cs.length)), (.int (Int32.ofNat j)), (.int 0), (.ref t)])) rfl (by rw [hml]; rfl) (argsL := [(.ref t), (.int 0), (.int (Int32.ofNat j)), (.int (Int32.ofNat cs.length))]) (rest := []) (lenOf pd___BIII_I rfl) rfl (by show 2 * 0 + _ ≤ _; exact Nat.le_of_eq rfl) (hb hby d19_33) (fun _ _ => ⟨rfl, eq4, (by decide : 0 + 0 ≤ _), (by decide : 0 + 0 ≤ _)⟩)
  dsimp only [Pt.U, Pt.locs, Pt.cells, Pt.slots] at X5 l5 y5 z5 st5 hQ5
  subst l5 y5 z5
  obtain ⟨rfl, Nq5, eq5⟩ := hQ5
  have N5 := Fr.app N4 Nq5
  obtain ⟨fs, hr, hrun, hended, hW, hsame⟩ := X5.leave (v := some (.int (Int32.ofNat z))) (fun h => by rw [Bd.returns] at h; cases h)
  refine ⟨_, _, pre0 _ ?_, hrun, hended, _, _, rfl, ?_, ⟨_, rfl⟩, hW, hsame.mono (by decide) (by decide)⟩
  · show Steps _ _ _ (s₁.setTop (mkF m 0 #[.val (.ref t), .val (.int 0), .val (.int (Int32.ofNat j)), .val (.int (Int32.ofNat cs.length))] [])) _
    refine XS.iloadN X0.here hx rfl (hb hby d19_0) rfl ?_
    show Steps _ _ _ (s₁.setTop (mkF m 1 #[.val (.ref t), .val (.int 0), .val (.int (Int32.ofNat j)), .val (.int (Int32.ofNat cs.length))] [(.int 0)])) _
    refine st1 _ ?_
    show Steps _ _ _ (T1.setTop (mkF m 4 #[.val (.ref t), .val (.int 0), .val (.int (Int32.ofNat j)), .val (.int (Int32.ofNat cs.length))] [(.int 1)])) _
    refine XS.ifYes X1.here hx rfl (pc0 := 4) (pc' := 9) rfl (hb hby d19_4) rfl ((if0 _ _).trans (feq (by decide : ¬ ((1 : Int32) = (0 : Int32)))).2) (by decide) (by decide) ?_
    refine XS.iloadN X1.here hx rfl (hb hby d19_9) rfl ?_
    refine XS.iconst X1.here hx rfl (hb hby d19_10) ?_
    show Steps _ _ _ (T1.setTop (mkF m 11 #[.val (.ref t), .val (.int 0), .val (.int (Int32.ofNat j)), .val (.int (Int32.ofNat cs.length))] [(.int 0), (.int (Int32.ofNat j))])) _
    refine st2 _ ?_
    show Steps _ _ _ (T2.setTop (mkF m 14 #[.val (.ref t), .val (.int 0), .val (.int (Int32.ofNat j)), .val (.int (Int32.ofNat cs.length))] [(.int (Int32.ofNat j))])) _
    refine XS.istoreN X2.here hx rfl (hb hby d19_14) rfl (l' := #[.val (.ref t), .val (.int 0), .val (.int (Int32.ofNat j)), .val (.int (Int32.ofNat cs.length))]) rfl ?_
    refine XS.iloadN X2.here hx rfl (hb hby d19_15) rfl ?_
    refine XS.aloadN X2.here hx rfl (hb hby d19_16) rfl rfl ?_
    show Steps _ _ _ (T2.setTop (mkF m 17 #[.val (.ref t), .val (.int 0), .val (.int (Int32.ofNat j)), .val (.int (Int32.ofNat cs.length))] [(.ref t), (.int (Int32.ofNat cs.length))])) _
    refine X2.arraylength hx (by rw [eq2]; exact Ar3.1) (State.isArrayOf_alike hZ.alike Ar3.2.1) (g := (mkF m 17 #[.val (.ref t), .val (.int 0), .val (.int (Int32.ofNat j)), .val (.int (Int32.ofNat cs.length))] [(.ref t), (.int (Int32.ofNat cs.length))])) rfl rfl (hb hby d19_17) _ ?_
    rw [len_of S3 M3]
    show Steps _ _ _ (T2.setTop (mkF m 18 #[.val (.ref t), .val (.int 0), .val (.int (Int32.ofNat j)), .val (.int (Int32.ofNat cs.length))] [(.int (Int32.ofNat cs.length)), (.int (Int32.ofNat cs.length))])) _
    refine st4 _ ?_
    show Steps _ _ _ (T4.setTop (mkF m 21 #[.val (.ref t), .val (.int 0), .val (.int (Int32.ofNat j)), .val (.int (Int32.ofNat cs.length))] [(.int (Int32.ofNat cs.length))])) _
    refine XS.istoreN X4.here hx rfl (hb hby d19_21) rfl (l' := #[.val (.ref t), .val (.int 0), .val (.int (Int32.ofNat j)), .val (.int (Int32.ofNat cs.length))]) rfl ?_
    refine XS.iloadN X4.here hx rfl (hb hby d19_22) rfl ?_
    refine XS.iloadN X4.here hx rfl (hb hby d19_23) rfl ?_
    refine XS.icmpYes X4.here hx rfl (pc0 := 24) (pc' := 29) rfl (hb hby d19_24) rfl (tlt ((own_lt (by omega) (by omega)).mpr (by omega))).1 (by decide) (by decide) ?_
    refine XS.aloadN X4.here hx rfl (hb hby d19_29) rfl rfl ?_
    refine XS.iloadN X4.here hx rfl (hb hby d19_30) rfl ?_
    refine XS.iloadN X4.here hx rfl (hb hby d19_31) rfl ?_
    refine XS.iloadN X4.here hx rfl (hb hby d19_32) rfl ?_
    show Steps _ _ _ (T4.setTop (mkF m 33 #[.val (.ref t), .val (.int 0), .val (.int (Int32.ofNat j)), .val (.int (Int32.ofNat cs.length))] [(.int (Int32.ofNat cs.length)), (.int (Int32.ofNat j)), (.int 0), (.ref t)])) _
    refine st5 _ ?_
    show Steps _ _ _ (T5.setTop (mkF m 36 #[.val (.ref t), .val (.int 0), .val (.int (Int32.ofNat j)), .val (.int (Int32.ofNat cs.length))] [(.int (Int32.ofNat z))])) _
    exact retI X5 hx Bd.returns (hb hby d19_36) hr
  · show own_Q Z (some (.int (Int32.ofNat z))) h0 n0 _ T5.heap _
    rw [eq5]
    exact ⟨rfl, N5, rfl⟩
theorem d39_0 : decode jdk_52_method_47_code 0 = .ok (.iload_n 2, 1) := by decide +kernel
theorem d39_1 : decode jdk_52_method_47_code 1 = .ok (.iload_n 3, 1) := by decide +kernel
theorem d39_2 : decode jdk_52_method_47_code 2 = .ok (.aload_n 0, 1) := by decide +kernel
theorem pd__II_B_V : parseMethodDescriptor "(II[B)V" = some ⟨[.int, .int, (.array .byte)], none⟩ := by decide +kernel
theorem d39_3 : decode jdk_52_method_47_code 3 = .ok (.invokestatic 96, 3) := by decide +kernel
theorem d39_6 : decode jdk_52_method_47_code 6 = .ok (.aload_n 0, 1) := by decide +kernel
theorem d39_7 : decode jdk_52_method_47_code 7 = .ok (.iload_n 1, 1) := by decide +kernel
theorem d39_8 : decode jdk_52_method_47_code 8 = .ok (.iload_n 2, 1) := by decide +kernel
theorem d39_9 : decode jdk_52_method_47_code 9 = .ok (.iload_n 3, 1) := by decide +kernel
theorem d39_10 : decode jdk_52_method_47_code 10 = .ok (.invokestatic 244, 3) := by decide +kernel
theorem d39_13 : decode jdk_52_method_47_code 13 = .ok (.ireturn, 1) := by decide +kernel
theorem pn_39 : plainName "java/lang/StringUTF16" = true := by first | (simp [plainName, overriddenIn]; done) | decide +kernel
theorem ef_39_rrrr (m : MethodId) (x0 : Addr) (x1 : Int32) (x2 : Int32) (x3 : Int32) : entryFrame m #[(.ref x0), (.int x1), (.int x2), (.int x3)] 4 = mkF m 0 #[.val (.ref x0), .val (.int x1), .val (.int x2), .val (.int x3)] [] := by first | (simp [entryFrame, mkF, argsToLocals, Value.category]; done) | rfl
theorem rmUIC (l : Launch) (Z : State) (a0 : Array Value) (hw : HW a0 Z) (ws : List Jvm.Cond) (G1 : Int32) (G3 : Value) (G4 : Value) (t : Addr) (k : ClassId) (cs : List Int32) (j : Nat) (z : Nat) (h0 : Heap) (n0 : Nat) (Z0 : n0 ≤ h0.size) (EN : own_env Z G1 G3 G4) (X00 : Old Z n0 h0) (V_t : Arv Z h0 t k .byte (Int32.ofNat (2 * cs.length)) (own_wide cs) (.int 0)) (hcc : ∀ c ∈ cs, own_ch c) (hlen : cs.length ≤ 15) (hz : z < cs.length) (hz0 : cs.getD z 0 = 0) (hnz : ∀ i, j ≤ i → i < z → ¬ (cs.getD i 0 = 0)) (hjz : j ≤ z) :
    MetFree l y_35 (head1 (Jvm.Cond.code y_35 jdk_52_method_47_code 4 (some .int) :: ws) (Rm 3 0 0 43)) (fun a_ U_ => a_ = #[(.ref t), (.int 0), (.int (Int32.ofNat j)), (.int (Int32.ofNat cs.length))] ∧ Z.Warmed39 U_.vm ∧ U_.heap = h0) (fun _ _ _ _ _ => True) (fun _ U_ o_ U1_ => ∃ v_ L_, o_ = .returned v_ ∧ own_Q Z (some (.int (Int32.ofNat z))) h0 n0 v_ U1_.heap L_ ∧ FrameEnd U_ o_ U1_ L_ (Rm 3 0 0 43).cells (Rm 3 0 0 43).slots) := by
  refine MetFree.of_bodySF (plainFor_of_name pn_39) hisR ?_
  intro p e s m args below meth c s₁ Bd hml0 hP hK
  obtain ⟨rfl, hZ, hh⟩ := hP
  have hx := Bd.exec
  have hby := Bd.bytes
  have hml : c.maxLocals = 4 := hml0
  have hown : s.vm.findClass "java/lang/StringUTF16" = some m.cls := findClass_of_methodNamed Bd.named
  have hnm := (name_of_methodNamed Bd.named Bd.method).1
  have X0 : Stand p l e (Rm 3 0 0 43) s m #[(.ref t), (.int 0), (.int (Int32.ofNat j)), (.int (Int32.ofNat cs.length))] below meth c s₁ [] 0 0 := Stand.of_body Bd
  have e0 : s₁.heap = h0 := by rw [← hh, Bd.state]; rfl
  have N0 := Fr.nil n0
  have pre0 : ∀ tt, Steps p.tables e below (s₁.setTop (mkF m 0 #[.val (.ref t), .val (.int 0), .val (.int (Int32.ofNat j)), .val (.int (Int32.ofNat cs.length))] [])) tt → Steps p.tables e below (s₁.setTop (entryFrame m #[(.ref t), (.int 0), (.int (Int32.ofNat j)), (.int (Int32.ofNat cs.length))] 4)) tt := fun tt kk => castTop (ef_39_rrrr m t (0 : Int32) (Int32.ofNat j) (Int32.ofNat cs.length)) kk
  have EN0 := EN
  obtain ⟨O2, P5, O4, rG3, O6, O7, O8⟩ := EN
  obtain ⟨_, _, ⟨T1, L1, k1, n1⟩, -, X1, ⟨Lc1, hQ1, l1, y1, z1⟩, st1⟩ := Jvm.LawKit.callS X0 hx (y := y_9) hown (mvT hZ (hw _ (tk 188 rfl))) (mvT hZ (hw _ (tk 189 rfl))) (mvT hZ (hw _ (tk 23 rfl))) (mvT hZ (hw _ (tk 190 rfl))) (by decide) (backOf (W := 0) (rmUBE l Z a0 hw [] G1 G3 G4 (Int32.ofNat j) (Int32.ofNat cs.length) t k cs.length (own_wide cs) h0 n0 Z0 EN0 X00 (own_n0 (by omega)) (fun q => by have := (own_lt (by omega) (by omega)).mp q; omega) Int32.lt_irrefl V_t (by omega)) hZ (hw _ (tk 190 rfl)) (hw _ (tk 23 rfl)) (by decide) (by decide)) (g := (mkF m 3 #[.val (.ref t), .val (.int 0), .val (.int (Int32.ofNat j)), .val (.int (Int32.ofNat cs.length))] [(.ref t), (.int (Int32.ofNat cs.length)), (.int (Int32.ofNat j))])) rfl (by rw [hml]; rfl) (argsL := [(.int (Int32.ofNat j)), (.int (Int32.ofNat cs.length)), (.ref t)]) (rest := []) (lenOf pd__II_B_V rfl) rfl (by show 2 * 0 + _ ≤ _; exact Nat.le_of_eq rfl) (hb hby d39_3) (fun _ _ => ⟨rfl, e0, (by decide : 0 + 0 ≤ _), (by decide : 0 + 0 ≤ _)⟩)
  dsimp only [Pt.U, Pt.locs, Pt.cells, Pt.slots] at X1 l1 y1 z1 st1 hQ1
  subst l1 y1 z1
  obtain ⟨rfl, Nq1, eq1⟩ := hQ1
  have N1 := Fr.app N0 Nq1
  obtain ⟨_, _, ⟨T2, L2, k2, n2⟩, -, X2, ⟨Lc2, hQ2, l2, y2, z2⟩, st2⟩ := Jvm.LawKit.callS X1 hx (y := y_33) hown (mvT hZ (hw _ (tk 195 rfl))) (mvT hZ (hw _ (tk 196 rfl))) (mvT hZ (hw _ (tk 23 rfl))) (mvT hZ (hw _ (tk 197 rfl))) (by decide) (backOf (W := 0) (rmIU l Z a0 hw [] G1 G3 G4 t k cs j z h0 n0 Z0 EN0 X00 V_t hcc hlen hz hz0 hnz hjz) hZ (hw _ (tk 197 rfl)) (hw _ (tk 23 rfl)) (by decide) (by decide)) (g := (mkF m 10 #[.val (.ref t), .val (.int 0), .val (.int (Int32.ofNat j)), .val (.int (Int32.ofNat cs.length))] [(.int (Int32.ofNat cs.length)), (.int (Int32.ofNat j)), (.int 0), (.ref t)])) rfl (by rw [hml]; rfl) (argsL := [(.ref t), (.int 0), (.int (Int32.ofNat j)), (.int (Int32.ofNat cs.length))]) (rest := []) (lenOf pd___BIII_I rfl) rfl (by show 2 * 0 + _ ≤ _; exact Nat.le_of_eq rfl) (hb hby d39_10) (fun _ _ => ⟨rfl, eq1, (by decide : 0 + 0 ≤ _), (by decide : 0 + 0 ≤ _)⟩)
  dsimp only [Pt.U, Pt.locs, Pt.cells, Pt.slots] at X2 l2 y2 z2 st2 hQ2
  subst l2 y2 z2
  obtain ⟨rfl, Nq2, eq2⟩ := hQ2
  have N2 := Fr.app N1 Nq2
  obtain ⟨fs, hr, hrun, hended, hW, hsame⟩ := X2.leave (v := some (.int (Int32.ofNat z))) (fun h => by rw [Bd.returns] at h; cases h)
  refine ⟨_, _, pre0 _ ?_, hrun, hended, _, _, rfl, ?_, ⟨_, rfl⟩, hW, hsame.mono (by decide) (by decide)⟩
  · show Steps _ _ _ (s₁.setTop (mkF m 0 #[.val (.ref t), .val (.int 0), .val (.int (Int32.ofNat j)), .val (.int (Int32.ofNat cs.length))] [])) _
    refine XS.iloadN X0.here hx rfl (hb hby d39_0) rfl ?_
    refine XS.iloadN X0.here hx rfl (hb hby d39_1) rfl ?_
    refine XS.aloadN X0.here hx rfl (hb hby d39_2) rfl rfl ?_
    show Steps _ _ _ (s₁.setTop (mkF m 3 #[.val (.ref t), .val (.int 0), .val (.int (Int32.ofNat j)), .val (.int (Int32.ofNat cs.length))] [(.ref t), (.int (Int32.ofNat cs.length)), (.int (Int32.ofNat j))])) _
    refine st1 _ ?_
    show Steps _ _ _ (T1.setTop (mkF m 6 #[.val (.ref t), .val (.int 0), .val (.int (Int32.ofNat j)), .val (.int (Int32.ofNat cs.length))] [])) _
    refine XS.aloadN X1.here hx rfl (hb hby d39_6) rfl rfl ?_
    refine XS.iloadN X1.here hx rfl (hb hby d39_7) rfl ?_
    refine XS.iloadN X1.here hx rfl (hb hby d39_8) rfl ?_
    refine XS.iloadN X1.here hx rfl (hb hby d39_9) rfl ?_
    show Steps _ _ _ (T1.setTop (mkF m 10 #[.val (.ref t), .val (.int 0), .val (.int (Int32.ofNat j)), .val (.int (Int32.ofNat cs.length))] [(.int (Int32.ofNat cs.length)), (.int (Int32.ofNat j)), (.int 0), (.ref t)])) _
    refine st2 _ ?_
    show Steps _ _ _ (T2.setTop (mkF m 13 #[.val (.ref t), .val (.int 0), .val (.int (Int32.ofNat j)), .val (.int (Int32.ofNat cs.length))] [(.int (Int32.ofNat z))])) _
    exact retI X2 hx Bd.returns (hb hby d39_13) hr
  · show own_Q Z (some (.int (Int32.ofNat z))) h0 n0 _ T2.heap _
    rw [eq2]
    exact ⟨rfl, N2, rfl⟩
theorem d38_0 : decode jdk_52_method_40_code 0 = .ok (.iload_n 2, 1) := by decide +kernel
theorem d38_1 : decode jdk_52_method_40_code 1 = .ok (.iconst 0, 1) := by decide +kernel
theorem d38_2 : decode jdk_52_method_40_code 2 = .ok (.invokestatic 224, 3) := by decide +kernel
theorem d38_5 : decode jdk_52_method_40_code 5 = .ok (.istore_n 2, 1) := by decide +kernel
theorem d38_6 : decode jdk_52_method_40_code 6 = .ok (.iload_n 3, 1) := by decide +kernel
theorem d38_7 : decode jdk_52_method_40_code 7 = .ok (.aload_n 0, 1) := by decide +kernel
theorem d38_8 : decode jdk_52_method_40_code 8 = .ok (.arraylength, 1) := by decide +kernel
theorem d38_9 : decode jdk_52_method_40_code 9 = .ok (.iconst 1, 1) := by decide +kernel
theorem d38_10 : decode jdk_52_method_40_code 10 = .ok (.ishr, 1) := by decide +kernel
theorem d38_11 : decode jdk_52_method_40_code 11 = .ok (.invokestatic 183, 3) := by decide +kernel
theorem d38_14 : decode jdk_52_method_40_code 14 = .ok (.istore_n 3, 1) := by decide +kernel
theorem d38_15 : decode jdk_52_method_40_code 15 = .ok (.iload_n 2, 1) := by decide +kernel
theorem d38_16 : decode jdk_52_method_40_code 16 = .ok (.iload_n 3, 1) := by decide +kernel
theorem d38_17 : decode jdk_52_method_40_code 17 = .ok (.if_icmp .lt 5, 3) := by decide +kernel
theorem d38_22 : decode jdk_52_method_40_code 22 = .ok (.iload_n 1, 1) := by decide +kernel
theorem d38_23 : decode jdk_52_method_40_code 23 = .ok (.ldc 227, 2) := by decide +kernel
theorem d38_25 : decode jdk_52_method_40_code 25 = .ok (.if_icmp .ge 11, 3) := by decide +kernel
theorem d38_28 : decode jdk_52_method_40_code 28 = .ok (.aload_n 0, 1) := by decide +kernel
theorem d38_29 : decode jdk_52_method_40_code 29 = .ok (.iload_n 1, 1) := by decide +kernel
theorem d38_30 : decode jdk_52_method_40_code 30 = .ok (.iload_n 2, 1) := by decide +kernel
theorem d38_31 : decode jdk_52_method_40_code 31 = .ok (.iload_n 3, 1) := by decide +kernel
theorem d38_32 : decode jdk_52_method_40_code 32 = .ok (.invokestatic 228, 3) := by decide +kernel
theorem d38_35 : decode jdk_52_method_40_code 35 = .ok (.ireturn, 1) := by decide +kernel
theorem pn_38 : plainName "java/lang/StringUTF16" = true := by first | (simp [plainName, overriddenIn]; done) | decide +kernel
theorem ef_38_rrrr (m : MethodId) (x0 : Addr) (x1 : Int32) (x2 : Int32) (x3 : Int32) : entryFrame m #[(.ref x0), (.int x1), (.int x2), (.int x3)] 4 = mkF m 0 #[.val (.ref x0), .val (.int x1), .val (.int x2), .val (.int x3)] [] := by first | (simp [entryFrame, mkF, argsToLocals, Value.category]; done) | rfl
theorem rmUIX (l : Launch) (Z : State) (a0 : Array Value) (hw : HW a0 Z) (ws : List Jvm.Cond) (G1 : Int32) (G3 : Value) (G4 : Value) (t : Addr) (k : ClassId) (cs : List Int32) (j : Nat) (z : Nat) (h0 : Heap) (n0 : Nat) (Z0 : n0 ≤ h0.size) (EN : own_env Z G1 G3 G4) (X00 : Old Z n0 h0) (V_t : Arv Z h0 t k .byte (Int32.ofNat (2 * cs.length)) (own_wide cs) (.int 0)) (hcc : ∀ c ∈ cs, own_ch c) (hlen : cs.length ≤ 15) (hz : z < cs.length) (hz0 : cs.getD z 0 = 0) (hnz : ∀ i, j ≤ i → i < z → ¬ (cs.getD i 0 = 0)) (hjz : j ≤ z) :
    MetFree l y_36 (head1 (Jvm.Cond.code y_36 jdk_52_method_40_code 4 (some .int) :: ws) (Rm 4 0 0 58)) (fun a_ U_ => a_ = #[(.ref t), (.int 0), (.int (Int32.ofNat j)), (.int (Int32.ofNat cs.length))] ∧ Z.Warmed39 U_.vm ∧ U_.heap = h0) (fun _ _ _ _ _ => True) (fun _ U_ o_ U1_ => ∃ v_ L_, o_ = .returned v_ ∧ own_Q Z (some (.int (Int32.ofNat z))) h0 n0 v_ U1_.heap L_ ∧ FrameEnd U_ o_ U1_ L_ (Rm 4 0 0 58).cells (Rm 4 0 0 58).slots) := by
  refine MetFree.of_bodySF (plainFor_of_name pn_38) hisR ?_
  intro p e s m args below meth c s₁ Bd hml0 hP hK
  obtain ⟨rfl, hZ, hh⟩ := hP
  have hx := Bd.exec
  have hby := Bd.bytes
  have hml : c.maxLocals = 4 := hml0
  have hown : s.vm.findClass "java/lang/StringUTF16" = some m.cls := findClass_of_methodNamed Bd.named
  have hnm := (name_of_methodNamed Bd.named Bd.method).1
  have X0 : Stand p l e (Rm 4 0 0 58) s m #[(.ref t), (.int 0), (.int (Int32.ofNat j)), (.int (Int32.ofNat cs.length))] below meth c s₁ [] 0 0 := Stand.of_body Bd
  have e0 : s₁.heap = h0 := by rw [← hh, Bd.state]; rfl
  have N0 := Fr.nil n0
  have pre0 : ∀ tt, Steps p.tables e below (s₁.setTop (mkF m 0 #[.val (.ref t), .val (.int 0), .val (.int (Int32.ofNat j)), .val (.int (Int32.ofNat cs.length))] [])) tt → Steps p.tables e below (s₁.setTop (entryFrame m #[(.ref t), (.int 0), (.int (Int32.ofNat j)), (.int (Int32.ofNat cs.length))] 4)) tt := fun tt kk => castTop (ef_38_rrrr m t (0 : Int32) (Int32.ofNat j) (Int32.ofNat cs.length)) kk
  have EN0 := EN
  obtain ⟨O2, P5, O4, rG3, O6, O7, O8⟩ := EN
  obtain ⟨_, _, ⟨T1, L1, k1, n1⟩, -, X1, ⟨Lc1, hQ1, l1, y1, z1⟩, st1⟩ := Jvm.LawKit.callS X0 hx (y := y_29) hown (mvT hZ (hw _ (tk 182 rfl))) (mvT hZ (hw _ (tk 111 rfl))) (mvT hZ (hw _ (tk 112 rfl))) (mvT hZ (hw _ (tk 113 rfl))) (by decide) (backOf (W := 0) (rmMAX l Z a0 hw [] (Int32.ofNat j) (0 : Int32) h0 n0 Z0 (own_n0 (by omega))) hZ (hw _ (tk 113 rfl)) (hw _ (tk 112 rfl)) (by decide) (by decide)) (g := (mkF m 2 #[.val (.ref t), .val (.int 0), .val (.int (Int32.ofNat j)), .val (.int (Int32.ofNat cs.length))] [(.int 0), (.int (Int32.ofNat j))])) rfl (by rw [hml]; rfl) (argsL := [(.int (Int32.ofNat j)), (.int 0)]) (rest := []) (lenOf pd__II_I rfl) rfl (by show 2 * 0 + _ ≤ _; exact Nat.le_of_eq rfl) (hb hby d38_2) (fun _ _ => ⟨rfl, e0, (by decide : 0 + 0 ≤ _), (by decide : 0 + 0 ≤ _)⟩)
  dsimp only [Pt.U, Pt.locs, Pt.cells, Pt.slots] at X1 l1 y1 z1 st1 hQ1
  subst l1 y1 z1
  obtain ⟨rfl, Nq1, eq1⟩ := hQ1
  have N1 := Fr.app N0 Nq1
  obtain ⟨c2, Ar2, -, S2, M2, -, -⟩ := id V_t
  obtain ⟨_, _, ⟨T3, L3, k3, n3⟩, -, X3, ⟨Lc3, hQ3, l3, y3, z3⟩, st3⟩ := Jvm.LawKit.callS X1 hx (y := y_30) hown (mvT hZ (hw _ (tk 183 rfl))) (mvT hZ (hw _ (tk 115 rfl))) (mvT hZ (hw _ (tk 112 rfl))) (mvT hZ (hw _ (tk 116 rfl))) (by decide) (backOf (W := 0) (rmMIN l Z a0 hw [] (Int32.ofNat cs.length) (Int32.ofNat cs.length) h0 n0 Z0 Int32.lt_irrefl) hZ (hw _ (tk 116 rfl)) (hw _ (tk 112 rfl)) (by decide) (by decide)) (g := (mkF m 11 #[.val (.ref t), .val (.int 0), .val (.int (Int32.ofNat j)), .val (.int (Int32.ofNat cs.length))] [(.int (Int32.ofNat cs.length)), (.int (Int32.ofNat cs.length))])) rfl (by rw [hml]; rfl) (argsL := [(.int (Int32.ofNat cs.length)), (.int (Int32.ofNat cs.length))]) (rest := []) (lenOf pd__II_I rfl) rfl (by show 2 * 0 + _ ≤ _; exact Nat.le_of_eq rfl) (hb hby d38_11) (fun _ _ => ⟨rfl, eq1, (by decide : 0 + 0 ≤ _), (by decide : 0 + 0 ≤ _)⟩)
  dsimp only [Pt.U, Pt.locs, Pt.cells, Pt.slots] at X3 l3 y3 z3 st3 hQ3
  subst l3 y3 z3
  obtain ⟨rfl, Nq3, eq3⟩ := hQ3
  have N3 := Fr.app N1 Nq3
  obtain ⟨_, _, ⟨T4, L4, k4, n4⟩, -, X4, ⟨Lc4, hQ4, l4, y4, z4⟩, st4⟩ := Jvm.LawKit.callS X3 hx (y := y_35) hown (mvT hZ (hw _ (tk 185 rfl))) (mvT hZ (hw _ (tk 186 rfl))) (mvT hZ (hw _ (tk 23 rfl))) (mvT hZ (hw _ (tk 187 rfl))) (by decide) (backOf (W := 0) (rmUIC l Z a0 hw [] G1 G3 G4 t k cs j z h0 n0 Z0 EN0 X00 V_t hcc hlen hz hz0 hnz hjz) hZ (hw _ (tk 187 rfl)) (hw _ (tk 23 rfl)) (by decide) (by decide)) (g := (mkF m 32 #[.val (.ref t), .val (.int 0), .val (.int (Int32.ofNat j)), .val (.int (Int32.ofNat cs.length))] [(.int (Int32.ofNat cs.length)), (.int (Int32.ofNat j)), (.int 0), (.ref t)])) rfl (by rw [hml]; rfl) (argsL := [(.ref t), (.int 0), (.int (Int32.ofNat j)), (.int (Int32.ofNat cs.length))]) (rest := []) (lenOf pd___BIII_I rfl) rfl (by show 2 * 0 + _ ≤ _; exact Nat.le_of_eq rfl) (hb hby d38_32) (fun _ _ => ⟨rfl, eq3, (by decide : 0 + 0 ≤ _), (by decide : 0 + 0 ≤ _)⟩)
  dsimp only [Pt.U, Pt.locs, Pt.cells, Pt.slots] at X4 l4 y4 z4 st4 hQ4
  subst l4 y4 z4
  obtain ⟨rfl, Nq4, eq4⟩ := hQ4
  have N4 := Fr.app N3 Nq4
  obtain ⟨fs, hr, hrun, hended, hW, hsame⟩ := X4.leave (v := some (.int (Int32.ofNat z))) (fun h => by rw [Bd.returns] at h; cases h)
  refine ⟨_, _, pre0 _ ?_, hrun, hended, _, _, rfl, ?_, ⟨_, rfl⟩, hW, hsame.mono (by decide) (by decide)⟩
  · show Steps _ _ _ (s₁.setTop (mkF m 0 #[.val (.ref t), .val (.int 0), .val (.int (Int32.ofNat j)), .val (.int (Int32.ofNat cs.length))] [])) _
    refine XS.iloadN X0.here hx rfl (hb hby d38_0) rfl ?_
    refine XS.iconst X0.here hx rfl (hb hby d38_1) ?_
    show Steps _ _ _ (s₁.setTop (mkF m 2 #[.val (.ref t), .val (.int 0), .val (.int (Int32.ofNat j)), .val (.int (Int32.ofNat cs.length))] [(.int 0), (.int (Int32.ofNat j))])) _
    refine st1 _ ?_
    show Steps _ _ _ (T1.setTop (mkF m 5 #[.val (.ref t), .val (.int 0), .val (.int (Int32.ofNat j)), .val (.int (Int32.ofNat cs.length))] [(.int (Int32.ofNat j))])) _
    refine XS.istoreN X1.here hx rfl (hb hby d38_5) rfl (l' := #[.val (.ref t), .val (.int 0), .val (.int (Int32.ofNat j)), .val (.int (Int32.ofNat cs.length))]) rfl ?_
    refine XS.iloadN X1.here hx rfl (hb hby d38_6) rfl ?_
    refine XS.aloadN X1.here hx rfl (hb hby d38_7) rfl rfl ?_
    show Steps _ _ _ (T1.setTop (mkF m 8 #[.val (.ref t), .val (.int 0), .val (.int (Int32.ofNat j)), .val (.int (Int32.ofNat cs.length))] [(.ref t), (.int (Int32.ofNat cs.length))])) _
    refine X1.arraylength hx (by rw [eq1]; exact Ar2.1) (State.isArrayOf_alike hZ.alike Ar2.2.1) (g := (mkF m 8 #[.val (.ref t), .val (.int 0), .val (.int (Int32.ofNat j)), .val (.int (Int32.ofNat cs.length))] [(.ref t), (.int (Int32.ofNat cs.length))])) rfl rfl (hb hby d38_8) _ ?_
    rw [len_of S2 M2]
    show Steps _ _ _ (T1.setTop (mkF m 9 #[.val (.ref t), .val (.int 0), .val (.int (Int32.ofNat j)), .val (.int (Int32.ofNat cs.length))] [(.int (Int32.ofNat (2 * cs.length))), (.int (Int32.ofNat cs.length))])) _
    refine XS.iconst X1.here hx rfl (hb hby d38_9) ?_
    refine XS.ishr X1.here hx rfl (hb hby d38_10) rfl ?_
    show Steps _ _ _ (T1.setTop (mkF m 11 #[.val (.ref t), .val (.int 0), .val (.int (Int32.ofNat j)), .val (.int (Int32.ofNat cs.length))] [(.int ((Int32.ofNat (2 * cs.length)) >>> ((1 : Int32) &&& 31))), (.int (Int32.ofNat cs.length))])) _
    rw [(own_shr (j := cs.length) (by omega))]
    show Steps _ _ _ (T1.setTop (mkF m 11 #[.val (.ref t), .val (.int 0), .val (.int (Int32.ofNat j)), .val (.int (Int32.ofNat cs.length))] [(.int (Int32.ofNat cs.length)), (.int (Int32.ofNat cs.length))])) _
    refine st3 _ ?_
    show Steps _ _ _ (T3.setTop (mkF m 14 #[.val (.ref t), .val (.int 0), .val (.int (Int32.ofNat j)), .val (.int (Int32.ofNat cs.length))] [(.int (Int32.ofNat cs.length))])) _
    refine XS.istoreN X3.here hx rfl (hb hby d38_14) rfl (l' := #[.val (.ref t), .val (.int 0), .val (.int (Int32.ofNat j)), .val (.int (Int32.ofNat cs.length))]) rfl ?_
    refine XS.iloadN X3.here hx rfl (hb hby d38_15) rfl ?_
    refine XS.iloadN X3.here hx rfl (hb hby d38_16) rfl ?_
    refine XS.icmpYes X3.here hx rfl (pc0 := 17) (pc' := 22) rfl (hb hby d38_17) rfl (tlt ((own_lt (by omega) (by omega)).mpr (by omega))).1 (by decide) (by decide) ?_
    refine XS.iloadN X3.here hx rfl (hb hby d38_22) rfl ?_
    show Steps _ _ _ (T3.setTop (mkF m 23 #[.val (.ref t), .val (.int 0), .val (.int (Int32.ofNat j)), .val (.int (Int32.ofNat cs.length))] [(.int 0)])) _
    refine X3.ldcInt hx hown (mvT hZ (hw _ (tk 184 rfl))) (g := (mkF m 23 #[.val (.ref t), .val (.int 0), .val (.int (Int32.ofNat j)), .val (.int (Int32.ofNat cs.length))] [(.int 0)])) rfl (hb hby d38_23) _ ?_
    show Steps _ _ _ (T3.setTop (mkF m 25 #[.val (.ref t), .val (.int 0), .val (.int (Int32.ofNat j)), .val (.int (Int32.ofNat cs.length))] [(.int 65536), (.int 0)])) _
    refine XS.icmpNo X3.here hx rfl (hb hby d38_25) rfl (tlt (by decide : (0 : Int32) < (65536 : Int32))).2.1 ?_
    refine XS.aloadN X3.here hx rfl (hb hby d38_28) rfl rfl ?_
    refine XS.iloadN X3.here hx rfl (hb hby d38_29) rfl ?_
    refine XS.iloadN X3.here hx rfl (hb hby d38_30) rfl ?_
    refine XS.iloadN X3.here hx rfl (hb hby d38_31) rfl ?_
    show Steps _ _ _ (T3.setTop (mkF m 32 #[.val (.ref t), .val (.int 0), .val (.int (Int32.ofNat j)), .val (.int (Int32.ofNat cs.length))] [(.int (Int32.ofNat cs.length)), (.int (Int32.ofNat j)), (.int 0), (.ref t)])) _
    refine st4 _ ?_
    show Steps _ _ _ (T4.setTop (mkF m 35 #[.val (.ref t), .val (.int 0), .val (.int (Int32.ofNat j)), .val (.int (Int32.ofNat cs.length))] [(.int (Int32.ofNat z))])) _
    exact retI X4 hx Bd.returns (hb hby d38_35) hr
  · show own_Q Z (some (.int (Int32.ofNat z))) h0 n0 _ T4.heap _
    rw [eq4]
    exact ⟨rfl, N4, rfl⟩
theorem d18_0 : decode jdk_42_method_80_code 0 = .ok (.aload_n 0, 1) := by decide +kernel
theorem d18_1 : decode jdk_42_method_80_code 1 = .ok (.invokevirtual 492, 3) := by decide +kernel
theorem d18_4 : decode jdk_42_method_80_code 4 = .ok (.ifCond .eq 19, 3) := by decide +kernel
theorem d18_7 : decode jdk_42_method_80_code 7 = .ok (.aload_n 0, 1) := by decide +kernel
theorem d18_8 : decode jdk_42_method_80_code 8 = .ok (.getfield 9, 3) := by decide +kernel
theorem d18_11 : decode jdk_42_method_80_code 11 = .ok (.iload_n 1, 1) := by decide +kernel
theorem d18_12 : decode jdk_42_method_80_code 12 = .ok (.iload_n 2, 1) := by decide +kernel
theorem d18_13 : decode jdk_42_method_80_code 13 = .ok (.aload_n 0, 1) := by decide +kernel
theorem d18_14 : decode jdk_42_method_80_code 14 = .ok (.invokevirtual 505, 3) := by decide +kernel
theorem d18_17 : decode jdk_42_method_80_code 17 = .ok (.invokestatic 637, 3) := by decide +kernel
theorem d18_20 : decode jdk_42_method_80_code 20 = .ok (.goto 16, 3) := by decide +kernel
theorem d18_36 : decode jdk_42_method_80_code 36 = .ok (.ireturn, 1) := by decide +kernel
theorem d18_23 : decode jdk_42_method_80_code 23 = .ok (.aload_n 0, 1) := by decide +kernel
theorem d18_24 : decode jdk_42_method_80_code 24 = .ok (.getfield 9, 3) := by decide +kernel
theorem d18_27 : decode jdk_42_method_80_code 27 = .ok (.iload_n 1, 1) := by decide +kernel
theorem d18_28 : decode jdk_42_method_80_code 28 = .ok (.iload_n 2, 1) := by decide +kernel
theorem d18_29 : decode jdk_42_method_80_code 29 = .ok (.aload_n 0, 1) := by decide +kernel
theorem d18_30 : decode jdk_42_method_80_code 30 = .ok (.invokevirtual 505, 3) := by decide +kernel
theorem d18_33 : decode jdk_42_method_80_code 33 = .ok (.invokestatic 640, 3) := by decide +kernel
theorem pn_18 : plainName "java/lang/String" = true := by first | (simp [plainName, overriddenIn]; done) | decide +kernel
theorem ef_18_rrr (m : MethodId) (x0 : Addr) (x1 : Int32) (x2 : Int32) : entryFrame m #[(.ref x0), (.int x1), (.int x2)] 3 = mkF m 0 #[.val (.ref x0), .val (.int x1), .val (.int x2)] [] := by first | (simp [entryFrame, mkF, argsToLocals, Value.category]; done) | rfl
theorem rmSXl (l : Launch) (Z : State) (a0 : Array Value) (hw : HW a0 Z) (ws : List Jvm.Cond) (G1 : Int32) (G3 : Value) (G4 : Value) (x : Addr) (t : Addr) (k : ClassId) (cs : List Int32) (j : Nat) (z : Nat) (h0 : Heap) (n0 : Nat) (Z0 : n0 ≤ h0.size) (EN : own_env Z G1 G3 G4) (X00 : Old Z n0 h0) (E_x : Exa Z h0 x "java/lang/String") (F_value_x : Fld Z h0 x "java/lang/String" "value" "[B" (.ref t)) (F_coder_x : Fld Z h0 x "java/lang/String" "coder" "B" (.int 0)) (V_t : Arv Z h0 t k .byte (Int32.ofNat cs.length) (own_lat cs) (.int 0)) (hl : own_l1 cs) (hlen : cs.length ≤ 15) (hcc : ∀ c ∈ cs, own_ch c) (hz : z < cs.length) (hz0 : cs.getD z 0 = 0) (hnz : ∀ i, j ≤ i → i < z → ¬ (cs.getD i 0 = 0)) (hjz : j ≤ z) :
    MetFree l y_37 (head1 (Jvm.Cond.code y_37 jdk_42_method_80_code 3 (some .int) :: ws) (Rm 5 0 0 73)) (fun a_ U_ => a_ = #[(.ref x), (.int 0), (.int (Int32.ofNat j))] ∧ Z.Warmed39 U_.vm ∧ U_.heap = h0) (fun _ _ _ _ _ => True) (fun _ U_ o_ U1_ => ∃ v_ L_, o_ = .returned v_ ∧ own_Q Z (some (.int (Int32.ofNat z))) h0 n0 v_ U1_.heap L_ ∧ FrameEnd U_ o_ U1_ L_ (Rm 5 0 0 73).cells (Rm 5 0 0 73).slots) := by
  refine MetFree.of_bodySF (plainFor_of_name pn_18) hisR ?_
  intro p e s m args below meth c s₁ Bd hml0 hP hK
  obtain ⟨rfl, hZ, hh⟩ := hP
  have hx := Bd.exec
  have hby := Bd.bytes
  have hml : c.maxLocals = 3 := hml0
  have hown : s.vm.findClass "java/lang/String" = some m.cls := findClass_of_methodNamed Bd.named
  have hnm := (name_of_methodNamed Bd.named Bd.method).1
  have X0 : Stand p l e (Rm 5 0 0 73) s m #[(.ref x), (.int 0), (.int (Int32.ofNat j))] below meth c s₁ [] 0 0 := Stand.of_body Bd
  have e0 : s₁.heap = h0 := by rw [← hh, Bd.state]; rfl
  have N0 := Fr.nil n0
  have pre0 : ∀ tt, Steps p.tables e below (s₁.setTop (mkF m 0 #[.val (.ref x), .val (.int 0), .val (.int (Int32.ofNat j))] [])) tt → Steps p.tables e below (s₁.setTop (entryFrame m #[(.ref x), (.int 0), (.int (Int32.ofNat j))] 3)) tt := fun tt kk => castTop (ef_18_rrr m x (0 : Int32) (Int32.ofNat j)) kk
  have EN0 := EN
  obtain ⟨O2, P5, O4, rG3, O6, O7, O8⟩ := EN
  obtain ⟨cq1, kq1, q1a, q1b, q1c⟩ := isOf hZ e0 E_x
  obtain ⟨_, _, ⟨T1, L1, k1, n1⟩, -, X1, ⟨Lc1, hQ1, l1, y1, z1⟩, st1⟩ := X0.virtualBack hx (y := y_14) (z := y_14) hown (mvT hZ (hw _ (tk 75 rfl))) (mvT hZ (hw _ (tk 76 rfl))) (notFace_of_selects (args := #[]) (mvT hZ (hw _ (tk 78 rfl)))) (mvT hZ (hw _ (tk 78 rfl))) (mvT hZ (hw _ (tk 77 rfl))) (by decide) (backOf (W := 0) (rmSL0 l Z a0 hw [] G1 G3 G4 x h0 n0 Z0 EN0 X00 E_x F_coder_x) hZ (hw _ (tk 79 rfl)) (hw _ (tk 9 rfl)) (by decide) (by decide)) q1a q1c (g := (mkF m 1 #[.val (.ref x), .val (.int 0), .val (.int (Int32.ofNat j))] [(.ref x)])) rfl (by rw [hml]; rfl) (Steps.refl _) (argsL := []) (rest := []) (lenOf pd___Z rfl) rfl (by show 2 * 0 + _ ≤ _; exact Nat.le_of_eq rfl) (hb hby d18_1) (fun _ _ => ⟨rfl, e0, (by decide : 0 + 0 ≤ _), (by decide : 0 + 0 ≤ _)⟩)
  dsimp only [Pt.U, Pt.locs, Pt.cells, Pt.slots] at X1 l1 y1 z1 st1 hQ1
  subst l1 y1 z1
  obtain ⟨rfl, Nq1, eq1⟩ := hQ1
  have N1 := Fr.app N0 Nq1
  obtain ⟨T2, X2, e2, st2⟩ := getF X1 hx hZ hown (host := "") (Or.inl (hw _ (tk 34 rfl))) Via.refl eq1 F_value_x (g := (mkF m 8 #[.val (.ref x), .val (.int 0), .val (.int (Int32.ofNat j))] [(.ref x)])) rfl rfl (hb hby d18_8)
  obtain ⟨cq3, kq3, q3a, q3b, q3c⟩ := isOf hZ e2 E_x
  obtain ⟨_, _, ⟨T3, L3, k3, n3⟩, -, X3, ⟨Lc3, hQ3, l3, y3, z3⟩, st3⟩ := X2.virtualBack hx (y := y_15) (z := y_15) hown (mvT hZ (hw _ (tk 103 rfl))) (mvT hZ (hw _ (tk 61 rfl))) (notFace_of_selects (args := #[]) (mvT hZ (hw _ (tk 63 rfl)))) (mvT hZ (hw _ (tk 63 rfl))) (mvT hZ (hw _ (tk 62 rfl))) (by decide) (backOf (W := 3) (rmLE l Z a0 hw [] G1 G3 G4 x cs h0 n0 Z0 EN0 X00 ⟨t, k, E_x, F_value_x, Or.inl ⟨F_coder_x, V_t, hl⟩⟩ hlen) hZ (hw _ (tk 64 rfl)) (hw _ (tk 9 rfl)) (by decide) (by decide)) q3a q3c (g := (mkF m 14 #[.val (.ref x), .val (.int 0), .val (.int (Int32.ofNat j))] [(.ref x), (.int (Int32.ofNat j)), (.int 0), (.ref t)])) rfl (by rw [hml]; rfl) (Steps.refl _) (argsL := []) (rest := [(.int (Int32.ofNat j)), (.int 0), (.ref t)]) (lenOf pd___I rfl) rfl (by show 2 * 0 + _ ≤ _; exact Nat.le_of_eq rfl) (hb hby d18_14) (fun _ _ => ⟨rfl, e2, (by decide : 0 + 0 ≤ _), (by decide : 0 + 0 ≤ _)⟩)
  dsimp only [Pt.U, Pt.locs, Pt.cells, Pt.slots] at X3 l3 y3 z3 st3 hQ3
  subst l3 y3 z3
  obtain ⟨rfl, Nq3, eq3⟩ := hQ3
  have N3 := Fr.app N1 Nq3
  obtain ⟨_, _, ⟨T4, L4, k4, n4⟩, -, X4, ⟨Lc4, hQ4, l4, y4, z4⟩, st4⟩ := Jvm.LawKit.callS X3 hx (y := y_34) hown (mvT hZ (hw _ (tk 104 rfl))) (mvT hZ (hw _ (tk 105 rfl))) (mvT hZ (hw _ (tk 82 rfl))) (mvT hZ (hw _ (tk 106 rfl))) (by decide) (backOf (W := 0) (rmLIX l Z a0 hw [] G1 G3 G4 t k cs j z h0 n0 Z0 EN0 X00 V_t hl hlen hz hz0 hnz hjz) hZ (hw _ (tk 106 rfl)) (hw _ (tk 82 rfl)) (by decide) (by decide)) (g := (mkF m 17 #[.val (.ref x), .val (.int 0), .val (.int (Int32.ofNat j))] [(.int (Int32.ofNat cs.length)), (.int (Int32.ofNat j)), (.int 0), (.ref t)])) rfl (by rw [hml]; rfl) (argsL := [(.ref t), (.int 0), (.int (Int32.ofNat j)), (.int (Int32.ofNat cs.length))]) (rest := []) (lenOf pd___BIII_I rfl) rfl (by show 2 * 0 + _ ≤ _; exact Nat.le_of_eq rfl) (hb hby d18_17) (fun _ _ => ⟨rfl, eq3, (by decide : 0 + 0 ≤ _), (by decide : 0 + 0 ≤ _)⟩)
  dsimp only [Pt.U, Pt.locs, Pt.cells, Pt.slots] at X4 l4 y4 z4 st4 hQ4
  subst l4 y4 z4
  obtain ⟨rfl, Nq4, eq4⟩ := hQ4
  have N4 := Fr.app N3 Nq4
  obtain ⟨fs, hr, hrun, hended, hW, hsame⟩ := X4.leave (v := some (.int (Int32.ofNat z))) (fun h => by rw [Bd.returns] at h; cases h)
  refine ⟨_, _, pre0 _ ?_, hrun, hended, _, _, rfl, ?_, ⟨_, rfl⟩, hW, hsame.mono (by decide) (by decide)⟩
  · show Steps _ _ _ (s₁.setTop (mkF m 0 #[.val (.ref x), .val (.int 0), .val (.int (Int32.ofNat j))] [])) _
    refine XS.aloadN X0.here hx rfl (hb hby d18_0) rfl rfl ?_
    show Steps _ _ _ (s₁.setTop (mkF m 1 #[.val (.ref x), .val (.int 0), .val (.int (Int32.ofNat j))] [(.ref x)])) _
    refine st1.trans ?_
    show Steps _ _ _ (T1.setTop (mkF m 4 #[.val (.ref x), .val (.int 0), .val (.int (Int32.ofNat j))] [(.int 1)])) _
    refine XS.ifNo X1.here hx rfl (hb hby d18_4) rfl ((if0 _ _).trans (feq (by decide : ¬ ((1 : Int32) = (0 : Int32)))).1) ?_
    refine XS.aloadN X1.here hx rfl (hb hby d18_7) rfl rfl ?_
    show Steps _ _ _ (T1.setTop (mkF m 8 #[.val (.ref x), .val (.int 0), .val (.int (Int32.ofNat j))] [(.ref x)])) _
    refine st2 _ ?_
    show Steps _ _ _ (T2.setTop (mkF m 11 #[.val (.ref x), .val (.int 0), .val (.int (Int32.ofNat j))] [(.ref t)])) _
    refine XS.iloadN X2.here hx rfl (hb hby d18_11) rfl ?_
    refine XS.iloadN X2.here hx rfl (hb hby d18_12) rfl ?_
    refine XS.aloadN X2.here hx rfl (hb hby d18_13) rfl rfl ?_
    show Steps _ _ _ (T2.setTop (mkF m 14 #[.val (.ref x), .val (.int 0), .val (.int (Int32.ofNat j))] [(.ref x), (.int (Int32.ofNat j)), (.int 0), (.ref t)])) _
    refine st3.trans ?_
    show Steps _ _ _ (T3.setTop (mkF m 17 #[.val (.ref x), .val (.int 0), .val (.int (Int32.ofNat j))] [(.int (Int32.ofNat cs.length)), (.int (Int32.ofNat j)), (.int 0), (.ref t)])) _
    refine st4 _ ?_
    show Steps _ _ _ (T4.setTop (mkF m 20 #[.val (.ref x), .val (.int 0), .val (.int (Int32.ofNat j))] [(.int (Int32.ofNat z))])) _
    refine XS.goto X4.here hx rfl (pc0 := 20) (pc' := 36) rfl (hb hby d18_20) (by decide) (by decide) ?_
    show Steps _ _ _ (T4.setTop (mkF m 36 #[.val (.ref x), .val (.int 0), .val (.int (Int32.ofNat j))] [(.int (Int32.ofNat z))])) _
    exact retI X4 hx Bd.returns (hb hby d18_36) hr
  · show own_Q Z (some (.int (Int32.ofNat z))) h0 n0 _ T4.heap _
    rw [eq4]
    exact ⟨rfl, N4, rfl⟩
theorem rmSXw (l : Launch) (Z : State) (a0 : Array Value) (hw : HW a0 Z) (ws : List Jvm.Cond) (G1 : Int32) (G3 : Value) (G4 : Value) (x : Addr) (t : Addr) (k : ClassId) (cs : List Int32) (j : Nat) (z : Nat) (h0 : Heap) (n0 : Nat) (Z0 : n0 ≤ h0.size) (EN : own_env Z G1 G3 G4) (X00 : Old Z n0 h0) (E_x : Exa Z h0 x "java/lang/String") (F_value_x : Fld Z h0 x "java/lang/String" "value" "[B" (.ref t)) (F_coder_x : Fld Z h0 x "java/lang/String" "coder" "B" (.int 1)) (V_t : Arv Z h0 t k .byte (Int32.ofNat (2 * cs.length)) (own_wide cs) (.int 0)) (hlen : cs.length ≤ 15) (hcc : ∀ c ∈ cs, own_ch c) (hz : z < cs.length) (hz0 : cs.getD z 0 = 0) (hnz : ∀ i, j ≤ i → i < z → ¬ (cs.getD i 0 = 0)) (hjz : j ≤ z) :
    MetFree l y_37 (head1 (Jvm.Cond.code y_37 jdk_42_method_80_code 3 (some .int) :: ws) (Rm 5 0 0 73)) (fun a_ U_ => a_ = #[(.ref x), (.int 0), (.int (Int32.ofNat j))] ∧ Z.Warmed39 U_.vm ∧ U_.heap = h0) (fun _ _ _ _ _ => True) (fun _ U_ o_ U1_ => ∃ v_ L_, o_ = .returned v_ ∧ own_Q Z (some (.int (Int32.ofNat z))) h0 n0 v_ U1_.heap L_ ∧ FrameEnd U_ o_ U1_ L_ (Rm 5 0 0 73).cells (Rm 5 0 0 73).slots) := by
  refine MetFree.of_bodySF (plainFor_of_name pn_18) hisR ?_
  intro p e s m args below meth c s₁ Bd hml0 hP hK
  obtain ⟨rfl, hZ, hh⟩ := hP
  have hx := Bd.exec
  have hby := Bd.bytes
  have hml : c.maxLocals = 3 := hml0
  have hown : s.vm.findClass "java/lang/String" = some m.cls := findClass_of_methodNamed Bd.named
  have hnm := (name_of_methodNamed Bd.named Bd.method).1
  have X0 : Stand p l e (Rm 5 0 0 73) s m #[(.ref x), (.int 0), (.int (Int32.ofNat j))] below meth c s₁ [] 0 0 := Stand.of_body Bd
  have e0 : s₁.heap = h0 := by rw [← hh, Bd.state]; rfl
  have N0 := Fr.nil n0
  have pre0 : ∀ tt, Steps p.tables e below (s₁.setTop (mkF m 0 #[.val (.ref x), .val (.int 0), .val (.int (Int32.ofNat j))] [])) tt → Steps p.tables e below (s₁.setTop (entryFrame m #[(.ref x), (.int 0), (.int (Int32.ofNat j))] 3)) tt := fun tt kk => castTop (ef_18_rrr m x (0 : Int32) (Int32.ofNat j)) kk
  have EN0 := EN
  obtain ⟨O2, P5, O4, rG3, O6, O7, O8⟩ := EN
  obtain ⟨cq1, kq1, q1a, q1b, q1c⟩ := isOf hZ e0 E_x
  obtain ⟨_, _, ⟨T1, L1, k1, n1⟩, -, X1, ⟨Lc1, hQ1, l1, y1, z1⟩, st1⟩ := X0.virtualBack hx (y := y_14) (z := y_14) hown (mvT hZ (hw _ (tk 75 rfl))) (mvT hZ (hw _ (tk 76 rfl))) (notFace_of_selects (args := #[]) (mvT hZ (hw _ (tk 78 rfl)))) (mvT hZ (hw _ (tk 78 rfl))) (mvT hZ (hw _ (tk 77 rfl))) (by decide) (backOf (W := 0) (rmSL1 l Z a0 hw [] G1 G3 G4 x h0 n0 Z0 EN0 X00 E_x F_coder_x) hZ (hw _ (tk 79 rfl)) (hw _ (tk 9 rfl)) (by decide) (by decide)) q1a q1c (g := (mkF m 1 #[.val (.ref x), .val (.int 0), .val (.int (Int32.ofNat j))] [(.ref x)])) rfl (by rw [hml]; rfl) (Steps.refl _) (argsL := []) (rest := []) (lenOf pd___Z rfl) rfl (by show 2 * 0 + _ ≤ _; exact Nat.le_of_eq rfl) (hb hby d18_1) (fun _ _ => ⟨rfl, e0, (by decide : 0 + 0 ≤ _), (by decide : 0 + 0 ≤ _)⟩)
  dsimp only [Pt.U, Pt.locs, Pt.cells, Pt.slots] at X1 l1 y1 z1 st1 hQ1
  subst l1 y1 z1
  obtain ⟨rfl, Nq1, eq1⟩ := hQ1
  have N1 := Fr.app N0 Nq1
  obtain ⟨T2, X2, e2, st2⟩ := getF X1 hx hZ hown (host := "") (Or.inl (hw _ (tk 34 rfl))) Via.refl eq1 F_value_x (g := (mkF m 24 #[.val (.ref x), .val (.int 0), .val (.int (Int32.ofNat j))] [(.ref x)])) rfl rfl (hb hby d18_24)
  obtain ⟨cq3, kq3, q3a, q3b, q3c⟩ := isOf hZ e2 E_x
  obtain ⟨_, _, ⟨T3, L3, k3, n3⟩, -, X3, ⟨Lc3, hQ3, l3, y3, z3⟩, st3⟩ := X2.virtualBack hx (y := y_15) (z := y_15) hown (mvT hZ (hw _ (tk 103 rfl))) (mvT hZ (hw _ (tk 61 rfl))) (notFace_of_selects (args := #[]) (mvT hZ (hw _ (tk 63 rfl)))) (mvT hZ (hw _ (tk 63 rfl))) (mvT hZ (hw _ (tk 62 rfl))) (by decide) (backOf (W := 3) (rmLE l Z a0 hw [] G1 G3 G4 x cs h0 n0 Z0 EN0 X00 ⟨t, k, E_x, F_value_x, Or.inr ⟨F_coder_x, V_t⟩⟩ hlen) hZ (hw _ (tk 64 rfl)) (hw _ (tk 9 rfl)) (by decide) (by decide)) q3a q3c (g := (mkF m 30 #[.val (.ref x), .val (.int 0), .val (.int (Int32.ofNat j))] [(.ref x), (.int (Int32.ofNat j)), (.int 0), (.ref t)])) rfl (by rw [hml]; rfl) (Steps.refl _) (argsL := []) (rest := [(.int (Int32.ofNat j)), (.int 0), (.ref t)]) (lenOf pd___I rfl) rfl (by show 2 * 0 + _ ≤ _; exact Nat.le_of_eq rfl) (hb hby d18_30) (fun _ _ => ⟨rfl, e2, (by decide : 0 + 0 ≤ _), (by decide : 0 + 0 ≤ _)⟩)
  dsimp only [Pt.U, Pt.locs, Pt.cells, Pt.slots] at X3 l3 y3 z3 st3 hQ3
  subst l3 y3 z3
  obtain ⟨rfl, Nq3, eq3⟩ := hQ3
  have N3 := Fr.app N1 Nq3
  obtain ⟨_, _, ⟨T4, L4, k4, n4⟩, -, X4, ⟨Lc4, hQ4, l4, y4, z4⟩, st4⟩ := Jvm.LawKit.callS X3 hx (y := y_36) hown (mvT hZ (hw _ (tk 179 rfl))) (mvT hZ (hw _ (tk 180 rfl))) (mvT hZ (hw _ (tk 23 rfl))) (mvT hZ (hw _ (tk 181 rfl))) (by decide) (backOf (W := 0) (rmUIX l Z a0 hw [] G1 G3 G4 t k cs j z h0 n0 Z0 EN0 X00 V_t hcc hlen hz hz0 hnz hjz) hZ (hw _ (tk 181 rfl)) (hw _ (tk 23 rfl)) (by decide) (by decide)) (g := (mkF m 33 #[.val (.ref x), .val (.int 0), .val (.int (Int32.ofNat j))] [(.int (Int32.ofNat cs.length)), (.int (Int32.ofNat j)), (.int 0), (.ref t)])) rfl (by rw [hml]; rfl) (argsL := [(.ref t), (.int 0), (.int (Int32.ofNat j)), (.int (Int32.ofNat cs.length))]) (rest := []) (lenOf pd___BIII_I rfl) rfl (by show 2 * 0 + _ ≤ _; exact Nat.le_of_eq rfl) (hb hby d18_33) (fun _ _ => ⟨rfl, eq3, (by decide : 0 + 0 ≤ _), (by decide : 0 + 0 ≤ _)⟩)
  dsimp only [Pt.U, Pt.locs, Pt.cells, Pt.slots] at X4 l4 y4 z4 st4 hQ4
  subst l4 y4 z4
  obtain ⟨rfl, Nq4, eq4⟩ := hQ4
  have N4 := Fr.app N3 Nq4
  obtain ⟨fs, hr, hrun, hended, hW, hsame⟩ := X4.leave (v := some (.int (Int32.ofNat z))) (fun h => by rw [Bd.returns] at h; cases h)
  refine ⟨_, _, pre0 _ ?_, hrun, hended, _, _, rfl, ?_, ⟨_, rfl⟩, hW, hsame.mono (by decide) (by decide)⟩
  · show Steps _ _ _ (s₁.setTop (mkF m 0 #[.val (.ref x), .val (.int 0), .val (.int (Int32.ofNat j))] [])) _
    refine XS.aloadN X0.here hx rfl (hb hby d18_0) rfl rfl ?_
    show Steps _ _ _ (s₁.setTop (mkF m 1 #[.val (.ref x), .val (.int 0), .val (.int (Int32.ofNat j))] [(.ref x)])) _
    refine st1.trans ?_
    show Steps _ _ _ (T1.setTop (mkF m 4 #[.val (.ref x), .val (.int 0), .val (.int (Int32.ofNat j))] [(.int 0)])) _
    refine XS.ifYes X1.here hx rfl (pc0 := 4) (pc' := 23) rfl (hb hby d18_4) rfl ((if0 _ _).trans (teq (by decide : (0 : Int32) = (0 : Int32))).1) (by decide) (by decide) ?_
    refine XS.aloadN X1.here hx rfl (hb hby d18_23) rfl rfl ?_
    show Steps _ _ _ (T1.setTop (mkF m 24 #[.val (.ref x), .val (.int 0), .val (.int (Int32.ofNat j))] [(.ref x)])) _
    refine st2 _ ?_
    show Steps _ _ _ (T2.setTop (mkF m 27 #[.val (.ref x), .val (.int 0), .val (.int (Int32.ofNat j))] [(.ref t)])) _
    refine XS.iloadN X2.here hx rfl (hb hby d18_27) rfl ?_
    refine XS.iloadN X2.here hx rfl (hb hby d18_28) rfl ?_
    refine XS.aloadN X2.here hx rfl (hb hby d18_29) rfl rfl ?_
    show Steps _ _ _ (T2.setTop (mkF m 30 #[.val (.ref x), .val (.int 0), .val (.int (Int32.ofNat j))] [(.ref x), (.int (Int32.ofNat j)), (.int 0), (.ref t)])) _
    refine st3.trans ?_
    show Steps _ _ _ (T3.setTop (mkF m 33 #[.val (.ref x), .val (.int 0), .val (.int (Int32.ofNat j))] [(.int (Int32.ofNat cs.length)), (.int (Int32.ofNat j)), (.int 0), (.ref t)])) _
    refine st4 _ ?_
    show Steps _ _ _ (T4.setTop (mkF m 36 #[.val (.ref x), .val (.int 0), .val (.int (Int32.ofNat j))] [(.int (Int32.ofNat z))])) _
    exact retI X4 hx Bd.returns (hb hby d18_36) hr
  · show own_Q Z (some (.int (Int32.ofNat z))) h0 n0 _ T4.heap _
    rw [eq4]
    exact ⟨rfl, N4, rfl⟩
theorem rmSX (l : Launch) (Z : State) (a0 : Array Value) (hw : HW a0 Z) (ws : List Jvm.Cond) (G1 : Int32) (G3 G4 : Value) (x : Addr) (cs : List Int32) (j z : Nat) (h0 : Heap) (n0 : Nat) (Z0 : n0 ≤ h0.size) (EN : own_env Z G1 G3 G4) (X00 : Old Z n0 h0) (S : own_st Z h0 x cs) (hlen : cs.length ≤ 15) (hcc : ∀ c ∈ cs, own_ch c) (hz : z < cs.length) (hz0 : cs.getD z 0 = 0) (hnz : ∀ i, j ≤ i → i < z → ¬ (cs.getD i 0 = 0)) (hjz : j ≤ z) :
    MetFree l y_37 (head1 (Jvm.Cond.code y_37 jdk_42_method_80_code 3 (some .int) :: ws) (Rm 5 0 0 73)) (fun a_ U_ => a_ = #[(.ref x), (.int 0), (.int (Int32.ofNat j))] ∧ Z.Warmed39 U_.vm ∧ U_.heap = h0) (fun _ _ _ _ _ => True) (fun _ U_ o_ U1_ => ∃ v_ L_, o_ = .returned v_ ∧ own_Q Z (some (.int (Int32.ofNat z))) h0 n0 v_ U1_.heap L_ ∧ FrameEnd U_ o_ U1_ L_ (Rm 5 0 0 73).cells (Rm 5 0 0 73).slots) := by
  obtain ⟨t, k, S1, S2, ⟨S3, S4, S5⟩ | ⟨S3, S4⟩⟩ := S
  · exact rmSXl l Z a0 hw ws G1 G3 G4 x t k cs j z h0 n0 Z0 EN X00 S1 S2 S3 S4 S5 hlen hcc hz hz0 hnz hjz
  · exact rmSXw l Z a0 hw ws G1 G3 G4 x t k cs j z h0 n0 Z0 EN X00 S1 S2 S3 S4 hlen hcc hz hz0 hnz hjz
theorem d22_9 : decode jdk_29_method_69_code 9 = .ok (.iload_n 1, 1) := by decide +kernel
theorem rmMINt (l : Launch) (Z : State) (a0 : Array Value) (hw : HW a0 Z) (ws : List Jvm.Cond) (p1 : Int32) (p2 : Int32) (h0 : Heap) (n0 : Nat) (Z0 : n0 ≤ h0.size) (hc2 : p2 < p1) :
    MetFree l y_30 (head1 (Jvm.Cond.code y_30 jdk_29_method_69_code 2 (some .int) :: ws) (Rm 0 0 0 0)) (fun a_ U_ => a_ = #[(.int p1), (.int p2)] ∧ Z.Warmed39 U_.vm ∧ U_.heap = h0) (fun _ _ _ _ _ => True) (fun _ U_ o_ U1_ => ∃ v_ L_, o_ = .returned v_ ∧ own_Q Z (some (.int p2)) h0 n0 v_ U1_.heap L_ ∧ FrameEnd U_ o_ U1_ L_ (Rm 0 0 0 0).cells (Rm 0 0 0 0).slots) := by
  refine MetFree.of_bodySF (Jvm.Free.JP.mathPlain rfl (by decide +kernel)) hisR ?_
  intro p e s m args below meth c s₁ Bd hml0 hP hK
  obtain ⟨rfl, hZ, hh⟩ := hP
  have hx := Bd.exec
  have hby := Bd.bytes
  have hml : c.maxLocals = 2 := hml0
  have hown : s.vm.findClass "java/lang/Math" = some m.cls := findClass_of_methodNamed Bd.named
  have hnm := (name_of_methodNamed Bd.named Bd.method).1
  have X0 : Stand p l e (Rm 0 0 0 0) s m #[(.int p1), (.int p2)] below meth c s₁ [] 0 0 := Stand.of_body Bd
  have e0 : s₁.heap = h0 := by rw [← hh, Bd.state]; rfl
  have N0 := Fr.nil n0
  have pre0 : ∀ tt, Steps p.tables e below (s₁.setTop (mkF m 0 #[.val (.int p1), .val (.int p2)] [])) tt → Steps p.tables e below (s₁.setTop (entryFrame m #[(.int p1), (.int p2)] 2)) tt := fun tt kk => castTop (ef_22_rr m p1 p2) kk
  obtain ⟨fs, hr, hrun, hended, hW, hsame⟩ := X0.leave (v := some (.int p2)) (fun h => by rw [Bd.returns] at h; cases h)
  refine ⟨_, _, pre0 _ ?_, hrun, hended, _, _, rfl, ?_, ⟨_, rfl⟩, hW, hsame.mono (by decide) (by decide)⟩
  · show Steps _ _ _ (s₁.setTop (mkF m 0 #[.val (.int p1), .val (.int p2)] [])) _
    refine XS.iloadN X0.here hx rfl (hb hby d22_0) rfl ?_
    refine XS.iloadN X0.here hx rfl (hb hby d22_1) rfl ?_
    refine XS.icmpYes X0.here hx rfl (pc0 := 2) (pc' := 9) rfl (hb hby d22_2) rfl (tlt hc2).2.2.1 (by decide) (by decide) ?_
    refine XS.iloadN X0.here hx rfl (hb hby d22_9) rfl ?_
    show Steps _ _ _ (s₁.setTop (mkF m 10 #[.val (.int p1), .val (.int p2)] [(.int p2)])) _
    exact retI X0 hx Bd.returns (hb hby d22_10) hr
  · show own_Q Z (some (.int p2)) h0 n0 _ s₁.heap _
    rw [e0]
    exact ⟨rfl, N0, rfl⟩
theorem d30_0 : decode jdk_65_method_131_code 0 = .ok (.iload_n 1, 1) := by decide +kernel
theorem d30_1 : decode jdk_65_method_131_code 1 = .ok (.iload_n 0, 1) := by decide +kernel
theorem d30_2 : decode jdk_65_method_131_code 2 = .ok (.if_icmp .ge 35, 3) := by decide +kernel
theorem d30_37 : decode jdk_65_method_131_code 37 = .ok (.return_, 1) := by decide +kernel
theorem pn_30 : plainName "java/util/Arrays" = true := by first | (simp [plainName, overriddenIn]; done) | decide +kernel
theorem ef_30_rr (m : MethodId) (x0 : Int32) (x1 : Int32) : entryFrame m #[(.int x0), (.int x1)] 2 = mkF m 0 #[.val (.int x0), .val (.int x1)] [] := by first | (simp [entryFrame, mkF, argsToLocals, Value.category]; done) | rfl
theorem rmCKL (l : Launch) (Z : State) (a0 : Array Value) (hw : HW a0 Z) (ws : List Jvm.Cond) (p1 : Int32) (p2 : Int32) (h0 : Heap) (n0 : Nat) (Z0 : n0 ≤ h0.size) (hc2 : ¬ (p2 < p1)) :
    MetFree l y_38 (head1 (Jvm.Cond.code y_38 jdk_65_method_131_code 2 none :: ws) (Rm 0 0 0 0)) (fun a_ U_ => a_ = #[(.int p1), (.int p2)] ∧ Z.Warmed39 U_.vm ∧ U_.heap = h0) (fun _ _ _ _ _ => True) (fun _ U_ o_ U1_ => ∃ v_ L_, o_ = .returned v_ ∧ own_Q Z none h0 n0 v_ U1_.heap L_ ∧ FrameEnd U_ o_ U1_ L_ (Rm 0 0 0 0).cells (Rm 0 0 0 0).slots) := by
  refine MetFree.of_bodySF (plainFor_of_name pn_30) hisR ?_
  intro p e s m args below meth c s₁ Bd hml0 hP hK
  obtain ⟨rfl, hZ, hh⟩ := hP
  have hx := Bd.exec
  have hby := Bd.bytes
  have hml : c.maxLocals = 2 := hml0
  have hown : s.vm.findClass "java/util/Arrays" = some m.cls := findClass_of_methodNamed Bd.named
  have hnm := (name_of_methodNamed Bd.named Bd.method).1
  have X0 : Stand p l e (Rm 0 0 0 0) s m #[(.int p1), (.int p2)] below meth c s₁ [] 0 0 := Stand.of_body Bd
  have e0 : s₁.heap = h0 := by rw [← hh, Bd.state]; rfl
  have N0 := Fr.nil n0
  have pre0 : ∀ tt, Steps p.tables e below (s₁.setTop (mkF m 0 #[.val (.int p1), .val (.int p2)] [])) tt → Steps p.tables e below (s₁.setTop (entryFrame m #[(.int p1), (.int p2)] 2)) tt := fun tt kk => castTop (ef_30_rr m p1 p2) kk
  obtain ⟨fs, hr, hrun, hended, hW, hsame⟩ := X0.leave (v := none) (fun _ => rfl)
  refine ⟨_, _, pre0 _ ?_, hrun, hended, _, _, rfl, ?_, ⟨_, rfl⟩, hW, hsame.mono (by decide) (by decide)⟩
  · show Steps _ _ _ (s₁.setTop (mkF m 0 #[.val (.int p1), .val (.int p2)] [])) _
    refine XS.iloadN X0.here hx rfl (hb hby d30_0) rfl ?_
    refine XS.iloadN X0.here hx rfl (hb hby d30_1) rfl ?_
    refine XS.icmpYes X0.here hx rfl (pc0 := 2) (pc' := 37) rfl (hb hby d30_2) rfl (flt hc2).2.1 (by decide) (by decide) ?_
    show Steps _ _ _ (s₁.setTop (mkF m 37 #[.val (.int p1), .val (.int p2)] [])) _
    exact X0.returnOut hx Bd.returns (hb hby d30_37) hr
  · show own_Q Z none h0 n0 _ s₁.heap _
    rw [e0]
    exact ⟨rfl, N0, rfl⟩
theorem own_cpy2 (d : Value) (vs : List Value) (f m : Nat) (h : f + m ≤ vs.length) (hb : vs.length < 2 ^ 31) : (([] ++ List.replicate m d).take (0 : Int32).toNatClampNeg ++ ((List.range (Int32.ofNat m).toNatClampNeg).map fun i => vs.getD ((Int32.ofNat f).toNatClampNeg + i) d) ++ ([] ++ List.replicate m d).drop ((0 : Int32).toNatClampNeg + (Int32.ofNat m).toNatClampNeg)) = (vs.drop f).take m := by
  have z : (0 : Int32).toNatClampNeg = 0 := rfl
  rw [own_clamp (by omega), own_clamp (by omega), z]
  simp only [List.take_zero, List.nil_append, Nat.zero_add]
  rw [List.drop_of_length_le (by simp), List.append_nil]
  apply List.ext_getElem
  · simp; omega
  · intro i h1 h2
    have h3 : i < m := by simpa using h1
    simp [List.getD_eq_getElem?_getD, show f + i < vs.length by omega]
theorem own_lat_sub (cs : List Int32) (f m : Nat) : ((own_lat cs).drop f).take m = own_lat ((cs.drop f).take m) := by simp [own_lat, List.map_drop, List.map_take]
theorem own_wide_drop : ∀ (cs : List Int32) (f : Nat), (own_wide cs).drop (2 * f) = own_wide (cs.drop f)
  | cs, 0 => rfl
  | [], f + 1 => by simp [own_wide]
  | c :: cs, f + 1 => by
    rw [show 2 * (f + 1) = 2 * f + 1 + 1 by omega]
    simpa [own_wide] using own_wide_drop cs f
theorem own_wide_take : ∀ (cs : List Int32) (m : Nat), (own_wide cs).take (2 * m) = own_wide (cs.take m)
  | cs, 0 => rfl
  | [], m + 1 => by simp [own_wide]
  | c :: cs, m + 1 => by
    rw [show 2 * (m + 1) = 2 * m + 1 + 1 by omega]
    simpa [own_wide] using own_wide_take cs m
theorem own_wide_sub (cs : List Int32) (f m : Nat) : ((own_wide cs).drop (2 * f)).take (2 * m) = own_wide ((cs.drop f).take m) := by rw [own_wide_drop, own_wide_take]
def own_QR (Z : State) (n : Nat) (vs : List Value) (h0 : Heap) (n0 : Nat) (v : Option Value) (h : Heap) (L : List Loc) : Prop := ∃ (t : Addr) (k : ClassId), v = some (.ref t) ∧ Fr n0 L ∧ n0 ≤ t ∧ h0.size ≤ t ∧ Keep h0 h [] ∧ Arv Z h t k .byte (Int32.ofNat n) vs (.int 0)
theorem d29_0 : decode jdk_65_method_133_code 0 = .ok (.iload_n 1, 1) := by decide +kernel
theorem d29_1 : decode jdk_65_method_133_code 1 = .ok (.iload_n 2, 1) := by decide +kernel
theorem d29_2 : decode jdk_65_method_133_code 2 = .ok (.invokestatic 343, 3) := by decide +kernel
theorem d29_5 : decode jdk_65_method_133_code 5 = .ok (.iload_n 2, 1) := by decide +kernel
theorem d29_6 : decode jdk_65_method_133_code 6 = .ok (.iload_n 1, 1) := by decide +kernel
theorem d29_7 : decode jdk_65_method_133_code 7 = .ok (.isub, 1) := by decide +kernel
theorem d29_8 : decode jdk_65_method_133_code 8 = .ok (.istore_n 3, 1) := by decide +kernel
theorem d29_9 : decode jdk_65_method_133_code 9 = .ok (.iload_n 3, 1) := by decide +kernel
theorem d29_10 : decode jdk_65_method_133_code 10 = .ok (.newarray .byte, 2) := by decide +kernel
theorem d29_12 : decode jdk_65_method_133_code 12 = .ok (.astore 4, 2) := by decide +kernel
theorem d29_14 : decode jdk_65_method_133_code 14 = .ok (.aload_n 0, 1) := by decide +kernel
theorem d29_15 : decode jdk_65_method_133_code 15 = .ok (.iload_n 1, 1) := by decide +kernel
theorem d29_16 : decode jdk_65_method_133_code 16 = .ok (.aload 4, 2) := by decide +kernel
theorem d29_18 : decode jdk_65_method_133_code 18 = .ok (.iconst 0, 1) := by decide +kernel
theorem d29_19 : decode jdk_65_method_133_code 19 = .ok (.aload_n 0, 1) := by decide +kernel
theorem d29_20 : decode jdk_65_method_133_code 20 = .ok (.arraylength, 1) := by decide +kernel
theorem d29_21 : decode jdk_65_method_133_code 21 = .ok (.iload_n 1, 1) := by decide +kernel
theorem d29_22 : decode jdk_65_method_133_code 22 = .ok (.isub, 1) := by decide +kernel
theorem d29_23 : decode jdk_65_method_133_code 23 = .ok (.iload_n 3, 1) := by decide +kernel
theorem d29_24 : decode jdk_65_method_133_code 24 = .ok (.invokestatic 304, 3) := by decide +kernel
theorem d29_27 : decode jdk_65_method_133_code 27 = .ok (.invokestatic 150, 3) := by decide +kernel
theorem d29_30 : decode jdk_65_method_133_code 30 = .ok (.aload 4, 2) := by decide +kernel
theorem d29_32 : decode jdk_65_method_133_code 32 = .ok (.areturn, 1) := by decide +kernel
theorem pn_29 : plainName "java/util/Arrays" = true := by first | (simp [plainName, overriddenIn]; done) | decide +kernel
theorem ef_29_rrr (m : MethodId) (x0 : Addr) (x1 : Int32) (x2 : Int32) : entryFrame m #[(.ref x0), (.int x1), (.int x2)] 5 = mkF m 0 #[.val (.ref x0), .val (.int x1), .val (.int x2), .unset, .unset] [] := by first | (simp [entryFrame, mkF, argsToLocals, Value.category]; done) | rfl
theorem rmCRB (l : Launch) (Z : State) (a0 : Array Value) (hw : HW a0 Z) (ws : List Jvm.Cond) (t : Addr) (k : ClassId) (M : Nat) (vs : List Value) (f : Nat) (ee : Nat) (h0 : Heap) (n0 : Nat) (Z0 : n0 ≤ h0.size) (V_t : Arv Z h0 t k .byte (Int32.ofNat M) vs (.int 0)) (hv : vs.length = M) (hfe : f ≤ ee) (heM : ee < M) (hM : M ≤ 16) :
    MetFree l y_39 (head1 (Jvm.Cond.code y_39 jdk_65_method_133_code 5 (some (.array .byte)) :: ws) (Rm 1 1 16 18)) (fun a_ U_ => a_ = #[(.ref t), (.int (Int32.ofNat f)), (.int (Int32.ofNat ee))] ∧ Z.Warmed39 U_.vm ∧ U_.heap = h0) (fun _ _ _ _ _ => True) (fun _ U_ o_ U1_ => ∃ v_ L_, o_ = .returned v_ ∧ own_QR Z (ee - f) ((vs.drop f).take (ee - f)) h0 n0 v_ U1_.heap L_ ∧ FrameEnd U_ o_ U1_ L_ (Rm 1 1 16 18).cells (Rm 1 1 16 18).slots) := by
  refine MetFree.of_bodySF (plainFor_of_name pn_29) hisR ?_
  intro p e s m args below meth c s₁ Bd hml0 hP hK
  obtain ⟨rfl, hZ, hh⟩ := hP
  have hx := Bd.exec
  have hby := Bd.bytes
  have hml : c.maxLocals = 5 := hml0
  have hown : s.vm.findClass "java/util/Arrays" = some m.cls := findClass_of_methodNamed Bd.named
  have hnm := (name_of_methodNamed Bd.named Bd.method).1
  have X0 : Stand p l e (Rm 1 1 16 18) s m #[(.ref t), (.int (Int32.ofNat f)), (.int (Int32.ofNat ee))] below meth c s₁ [] 0 0 := Stand.of_body Bd
  have e0 : s₁.heap = h0 := by rw [← hh, Bd.state]; rfl
  have N0 := Fr.nil n0
  have pre0 : ∀ tt, Steps p.tables e below (s₁.setTop (mkF m 0 #[.val (.ref t), .val (.int (Int32.ofNat f)), .val (.int (Int32.ofNat ee)), .unset, .unset] [])) tt → Steps p.tables e below (s₁.setTop (entryFrame m #[(.ref t), (.int (Int32.ofNat f)), (.int (Int32.ofNat ee))] 5)) tt := fun tt kk => castTop (ef_29_rrr m t (Int32.ofNat f) (Int32.ofNat ee)) kk
  obtain ⟨_, _, ⟨T1, L1, k1, n1⟩, -, X1, ⟨Lc1, hQ1, l1, y1, z1⟩, st1⟩ := Jvm.LawKit.callS X0 hx (y := y_38) hown (mvT hZ (hw _ (tk 142 rfl))) (mvT hZ (hw _ (tk 143 rfl))) (mvT hZ (hw _ (tk 137 rfl))) (mvT hZ (hw _ (tk 144 rfl))) (by decide) (backOf (W := 0) (rmCKL l Z a0 hw [] (Int32.ofNat f) (Int32.ofNat ee) h0 n0 Z0 (fun q => by have := (own_lt (by omega) (by omega)).mp q; omega)) hZ (hw _ (tk 144 rfl)) (hw _ (tk 137 rfl)) (by decide) (by decide)) (g := (mkF m 2 #[.val (.ref t), .val (.int (Int32.ofNat f)), .val (.int (Int32.ofNat ee)), .unset, .unset] [(.int (Int32.ofNat ee)), (.int (Int32.ofNat f))])) rfl (by rw [hml]; rfl) (argsL := [(.int (Int32.ofNat f)), (.int (Int32.ofNat ee))]) (rest := []) (lenOf pd__II_V rfl) rfl (by show 2 * 0 + _ ≤ _; exact Nat.le_of_eq rfl) (hb hby d29_2) (fun _ _ => ⟨rfl, e0, (by decide : 0 + 0 ≤ _), (by decide : 0 + 0 ≤ _)⟩)
  dsimp only [Pt.U, Pt.locs, Pt.cells, Pt.slots] at X1 l1 y1 z1 st1 hQ1
  subst l1 y1 z1
  obtain ⟨rfl, Nq1, eq1⟩ := hQ1
  have N1 := Fr.app N0 Nq1
  obtain ⟨T2, h2, k2, X2, e2, E2, A2, st2⟩ := newP X1 hx hZ (hw _ (tk 25 rfl)) eq1 (g := (mkF m 10 #[.val (.ref t), .val (.int (Int32.ofNat f)), .val (.int (Int32.ofNat ee)), .val (.int (Int32.ofNat (ee - f))), .unset] [(.int (Int32.ofNat (ee - f)))])) rfl (hb hby d29_10) rfl (own_n0 (by omega)) (cap := 16) (by rw [own_clamp (by omega)]; omega) (by decide) (by decide) (by decide)
  obtain ⟨b2, g2⟩ : ∃ z, z = h0.size := ⟨_, rfl⟩
  rw [← g2] at A2 st2
  have g_b2 : n0 ≤ b2 := Nat.le_trans Z0 (Nat.le_of_eq g2.symm)
  have sz_b2 : h0.size ≤ b2 := Nat.le_trans (Nat.le_refl _) (Nat.le_of_eq g2.symm)
  have V2 : Arv Z h2 b2 k2 .byte (Int32.ofNat (ee - f)) [] (.int 0) := Arv.new A2 (own_n0 (by omega))
  have f4 := (V_t.ext E2)
  obtain ⟨c3, Ar3, -, S3, M3, -, -⟩ := id f4
  obtain ⟨_, _, ⟨T5, L5, k5, n5⟩, -, X5, ⟨Lc5, hQ5, l5, y5, z5⟩, st5⟩ := Jvm.LawKit.callS X2 hx (y := y_30) hown (mvT hZ (hw _ (tk 145 rfl))) (mvT hZ (hw _ (tk 115 rfl))) (mvT hZ (hw _ (tk 112 rfl))) (mvT hZ (hw _ (tk 116 rfl))) (by decide) (backOf (W := 4) (rmMINt l Z a0 hw [] (Int32.ofNat (M - f)) (Int32.ofNat (ee - f)) h2 n0 (Nat.le_trans Z0 E2.1) ((own_lt (by omega) (by omega)).mpr (by omega))) hZ (hw _ (tk 116 rfl)) (hw _ (tk 112 rfl)) (by decide) (by decide)) (g := (mkF m 24 #[.val (.ref t), .val (.int (Int32.ofNat f)), .val (.int (Int32.ofNat ee)), .val (.int (Int32.ofNat (ee - f))), .val (.ref b2)] [(.int (Int32.ofNat (ee - f))), (.int (Int32.ofNat (M - f))), (.int 0), (.ref b2), (.int (Int32.ofNat f)), (.ref t)])) rfl (by rw [hml]; rfl) (argsL := [(.int (Int32.ofNat (M - f))), (.int (Int32.ofNat (ee - f)))]) (rest := [(.int 0), (.ref b2), (.int (Int32.ofNat f)), (.ref t)]) (lenOf pd__II_I rfl) rfl (by show 2 * 0 + _ ≤ _; exact Nat.le_of_eq rfl) (hb hby d29_24) (fun _ _ => ⟨rfl, e2, (by decide : 1 + 0 ≤ _), (by decide : 16 + 0 ≤ _)⟩)
  dsimp only [Pt.U, Pt.locs, Pt.cells, Pt.slots] at X5 l5 y5 z5 st5 hQ5
  subst l5 y5 z5
  obtain ⟨rfl, Nq5, eq5⟩ := hQ5
  have N5 := Fr.app N1 Nq5
  obtain ⟨T6, h6, L6, X6, e6, N6, K6, V6, st6⟩ := cpA X5 hx hZ hown (hw _ (tk 146 rfl)) (hw _ (tk 149 rfl)) (hw _ (tk 147 rfl)) (hw _ (tk 148 rfl)) eq5 f4 (V2.pad (pad_rep [] (.int 0) (ee - f))) (Or.inl ⟨rfl, rfl⟩) (own_n0 (by omega)) (by decide) (own_n0 (by omega)) (by rw [own_clamp (by omega), own_clamp (by omega), own_clamp (by omega)]; omega) (by rw [own_clamp (by omega), show (0 : Int32).toNatClampNeg = 0 from rfl]; omega) rfl (by rw [own_clamp (by omega), show (0 : Int32).toNatClampNeg = 0 from rfl]; simp) N5 g_b2 (g := (mkF m 27 #[.val (.ref t), .val (.int (Int32.ofNat f)), .val (.int (Int32.ofNat ee)), .val (.int (Int32.ofNat (ee - f))), .val (.ref b2)] [(.int (Int32.ofNat (ee - f))), (.int 0), (.ref b2), (.int (Int32.ofNat f)), (.ref t)])) rfl (by rw [hml]; rfl) rfl (hb hby d29_27) (by decide) (W := 0) (by show 2 * 0 + _ ≤ _; exact Nat.le_of_eq rfl) (by decide)
  rw [own_cpy2 (.int 0) vs f (ee - f) (by omega) (by omega)] at V6
  obtain ⟨fs, hr, hrun, hended, hW, hsame⟩ := X6.leave (v := some (.ref b2)) (fun h => by rw [Bd.returns] at h; cases h)
  refine ⟨_, _, pre0 _ ?_, hrun, hended, _, _, rfl, ?_, ⟨_, rfl⟩, hW, hsame.mono (by decide) (by decide)⟩
  · show Steps _ _ _ (s₁.setTop (mkF m 0 #[.val (.ref t), .val (.int (Int32.ofNat f)), .val (.int (Int32.ofNat ee)), .unset, .unset] [])) _
    refine XS.iloadN X0.here hx rfl (hb hby d29_0) rfl ?_
    refine XS.iloadN X0.here hx rfl (hb hby d29_1) rfl ?_
    show Steps _ _ _ (s₁.setTop (mkF m 2 #[.val (.ref t), .val (.int (Int32.ofNat f)), .val (.int (Int32.ofNat ee)), .unset, .unset] [(.int (Int32.ofNat ee)), (.int (Int32.ofNat f))])) _
    refine st1 _ ?_
    show Steps _ _ _ (T1.setTop (mkF m 5 #[.val (.ref t), .val (.int (Int32.ofNat f)), .val (.int (Int32.ofNat ee)), .unset, .unset] [])) _
    refine XS.iloadN X1.here hx rfl (hb hby d29_5) rfl ?_
    refine XS.iloadN X1.here hx rfl (hb hby d29_6) rfl ?_
    refine XS.isub X1.here hx rfl (hb hby d29_7) rfl ?_
    show Steps _ _ _ (T1.setTop (mkF m 8 #[.val (.ref t), .val (.int (Int32.ofNat f)), .val (.int (Int32.ofNat ee)), .unset, .unset] [(.int ((Int32.ofNat ee) - (Int32.ofNat f)))])) _
    rw [(own_sub hfe (by omega))]
    show Steps _ _ _ (T1.setTop (mkF m 8 #[.val (.ref t), .val (.int (Int32.ofNat f)), .val (.int (Int32.ofNat ee)), .unset, .unset] [(.int (Int32.ofNat (ee - f)))])) _
    refine XS.istoreN X1.here hx rfl (hb hby d29_8) rfl (l' := #[.val (.ref t), .val (.int (Int32.ofNat f)), .val (.int (Int32.ofNat ee)), .val (.int (Int32.ofNat (ee - f))), .unset]) rfl ?_
    refine XS.iloadN X1.here hx rfl (hb hby d29_9) rfl ?_
    show Steps _ _ _ (T1.setTop (mkF m 10 #[.val (.ref t), .val (.int (Int32.ofNat f)), .val (.int (Int32.ofNat ee)), .val (.int (Int32.ofNat (ee - f))), .unset] [(.int (Int32.ofNat (ee - f)))])) _
    refine st2 _ ?_
    show Steps _ _ _ (T2.setTop (mkF m 12 #[.val (.ref t), .val (.int (Int32.ofNat f)), .val (.int (Int32.ofNat ee)), .val (.int (Int32.ofNat (ee - f))), .unset] [(.ref b2)])) _
    refine XS.astore X2.here hx rfl (hb hby d29_12) rfl rfl (l' := #[.val (.ref t), .val (.int (Int32.ofNat f)), .val (.int (Int32.ofNat ee)), .val (.int (Int32.ofNat (ee - f))), .val (.ref b2)]) rfl ?_
    refine XS.aloadN X2.here hx rfl (hb hby d29_14) rfl rfl ?_
    refine XS.iloadN X2.here hx rfl (hb hby d29_15) rfl ?_
    refine XS.aload X2.here hx rfl (hb hby d29_16) rfl rfl ?_
    refine XS.iconst X2.here hx rfl (hb hby d29_18) ?_
    refine XS.aloadN X2.here hx rfl (hb hby d29_19) rfl rfl ?_
    show Steps _ _ _ (T2.setTop (mkF m 20 #[.val (.ref t), .val (.int (Int32.ofNat f)), .val (.int (Int32.ofNat ee)), .val (.int (Int32.ofNat (ee - f))), .val (.ref b2)] [(.ref t), (.int 0), (.ref b2), (.int (Int32.ofNat f)), (.ref t)])) _
    refine X2.arraylength hx (by rw [e2]; exact Ar3.1) (State.isArrayOf_alike hZ.alike Ar3.2.1) (g := (mkF m 20 #[.val (.ref t), .val (.int (Int32.ofNat f)), .val (.int (Int32.ofNat ee)), .val (.int (Int32.ofNat (ee - f))), .val (.ref b2)] [(.ref t), (.int 0), (.ref b2), (.int (Int32.ofNat f)), (.ref t)])) rfl rfl (hb hby d29_20) _ ?_
    rw [len_of S3 M3]
    show Steps _ _ _ (T2.setTop (mkF m 21 #[.val (.ref t), .val (.int (Int32.ofNat f)), .val (.int (Int32.ofNat ee)), .val (.int (Int32.ofNat (ee - f))), .val (.ref b2)] [(.int (Int32.ofNat M)), (.int 0), (.ref b2), (.int (Int32.ofNat f)), (.ref t)])) _
    refine XS.iloadN X2.here hx rfl (hb hby d29_21) rfl ?_
    refine XS.isub X2.here hx rfl (hb hby d29_22) rfl ?_
    show Steps _ _ _ (T2.setTop (mkF m 23 #[.val (.ref t), .val (.int (Int32.ofNat f)), .val (.int (Int32.ofNat ee)), .val (.int (Int32.ofNat (ee - f))), .val (.ref b2)] [(.int ((Int32.ofNat M) - (Int32.ofNat f))), (.int 0), (.ref b2), (.int (Int32.ofNat f)), (.ref t)])) _
    rw [(own_sub (by omega) (by omega))]
    show Steps _ _ _ (T2.setTop (mkF m 23 #[.val (.ref t), .val (.int (Int32.ofNat f)), .val (.int (Int32.ofNat ee)), .val (.int (Int32.ofNat (ee - f))), .val (.ref b2)] [(.int (Int32.ofNat (M - f))), (.int 0), (.ref b2), (.int (Int32.ofNat f)), (.ref t)])) _
    refine XS.iloadN X2.here hx rfl (hb hby d29_23) rfl ?_
    show Steps _ _ _ (T2.setTop (mkF m 24 #[.val (.ref t), .val (.int (Int32.ofNat f)), .val (.int (Int32.ofNat ee)), .val (.int (Int32.ofNat (ee - f))), .val (.ref b2)] [(.int (Int32.ofNat (ee - f))), (.int (Int32.ofNat (M - f))), (.int 0), (.ref b2), (.int (Int32.ofNat f)), (.ref t)])) _
    refine st5 _ ?_
    show Steps _ _ _ (T5.setTop (mkF m 27 #[.val (.ref t), .val (.int (Int32.ofNat f)), .val (.int (Int32.ofNat ee)), .val (.int (Int32.ofNat (ee - f))), .val (.ref b2)] [(.int (Int32.ofNat (ee - f))), (.int 0), (.ref b2), (.int (Int32.ofNat f)), (.ref t)])) _
    refine st6 _ ?_
    show Steps _ _ _ (T6.setTop (mkF m 30 #[.val (.ref t), .val (.int (Int32.ofNat f)), .val (.int (Int32.ofNat ee)), .val (.int (Int32.ofNat (ee - f))), .val (.ref b2)] [])) _
    refine XS.aload X6.here hx rfl (hb hby d29_30) rfl rfl ?_
    show Steps _ _ _ (T6.setTop (mkF m 32 #[.val (.ref t), .val (.int (Int32.ofNat f)), .val (.int (Int32.ofNat ee)), .val (.int (Int32.ofNat (ee - f))), .val (.ref b2)] [(.ref b2)])) _
    jvm_step X6.here [X6.here.top, hx, (hb hby d29_32), X6.method', Bd.returns, Value.isRef, FieldType.isReference]
    first | (intro acts; rw [hr _ acts rfl rfl rfl]) | rw [hr _ _ rfl rfl rfl]
    exact Steps.refl _
  · show own_QR Z (ee - f) ((vs.drop f).take (ee - f)) h0 n0 _ T6.heap _
    rw [e6]
    exact ⟨b2, k2, rfl, N6, g_b2, sz_b2, (((Keep.refl h0 []).ext E2).trans K6 (allS (P := fun zz => zz ∈ ([] : List Addr) ∨ h0.size ≤ zz) (Or.inr sz_b2) all0)), V6⟩
theorem d28_0 : decode jdk_65_method_132_code 0 = .ok (.iload_n 1, 1) := by decide +kernel
theorem d28_1 : decode jdk_65_method_132_code 1 = .ok (.ifCond .ne 9, 3) := by decide +kernel
theorem d28_4 : decode jdk_65_method_132_code 4 = .ok (.iload_n 2, 1) := by decide +kernel
theorem d28_5 : decode jdk_65_method_132_code 5 = .ok (.aload_n 0, 1) := by decide +kernel
theorem d28_6 : decode jdk_65_method_132_code 6 = .ok (.arraylength, 1) := by decide +kernel
theorem d28_7 : decode jdk_65_method_132_code 7 = .ok (.if_icmp .eq 10, 3) := by decide +kernel
theorem d28_10 : decode jdk_65_method_132_code 10 = .ok (.aload_n 0, 1) := by decide +kernel
theorem d28_11 : decode jdk_65_method_132_code 11 = .ok (.iload_n 1, 1) := by decide +kernel
theorem d28_12 : decode jdk_65_method_132_code 12 = .ok (.iload_n 2, 1) := by decide +kernel
theorem pd___BII__B : parseMethodDescriptor "([BII)[B" = some ⟨[(.array .byte), .int, .int], some (.array .byte)⟩ := by decide +kernel
theorem d28_13 : decode jdk_65_method_132_code 13 = .ok (.invokestatic 339, 3) := by decide +kernel
theorem d28_16 : decode jdk_65_method_132_code 16 = .ok (.areturn, 1) := by decide +kernel
theorem pn_28 : plainName "java/util/Arrays" = true := by first | (simp [plainName, overriddenIn]; done) | decide +kernel
theorem ef_28_rrr (m : MethodId) (x0 : Addr) (x1 : Int32) (x2 : Int32) : entryFrame m #[(.ref x0), (.int x1), (.int x2)] 3 = mkF m 0 #[.val (.ref x0), .val (.int x1), .val (.int x2)] [] := by first | (simp [entryFrame, mkF, argsToLocals, Value.category]; done) | rfl
theorem rmCR0 (l : Launch) (Z : State) (a0 : Array Value) (hw : HW a0 Z) (ws : List Jvm.Cond) (t : Addr) (k : ClassId) (M : Nat) (vs : List Value) (f : Nat) (ee : Nat) (h0 : Heap) (n0 : Nat) (Z0 : n0 ≤ h0.size) (V_t : Arv Z h0 t k .byte (Int32.ofNat M) vs (.int 0)) (hv : vs.length = M) (hfe : f ≤ ee) (heM : ee < M) (hM : M ≤ 16) (hf : (Int32.ofNat f) = (0 : Int32)) :
    MetFree l y_40 (head1 (Jvm.Cond.code y_40 jdk_65_method_132_code 3 (some (.array .byte)) :: ws) (Rm 2 1 16 34)) (fun a_ U_ => a_ = #[(.ref t), (.int (Int32.ofNat f)), (.int (Int32.ofNat ee))] ∧ Z.Warmed39 U_.vm ∧ U_.heap = h0) (fun _ _ _ _ _ => True) (fun _ U_ o_ U1_ => ∃ v_ L_, o_ = .returned v_ ∧ own_QR Z (ee - f) ((vs.drop f).take (ee - f)) h0 n0 v_ U1_.heap L_ ∧ FrameEnd U_ o_ U1_ L_ (Rm 2 1 16 34).cells (Rm 2 1 16 34).slots) := by
  refine MetFree.of_bodySF (plainFor_of_name pn_28) hisR ?_
  intro p e s m args below meth c s₁ Bd hml0 hP hK
  obtain ⟨rfl, hZ, hh⟩ := hP
  have hx := Bd.exec
  have hby := Bd.bytes
  have hml : c.maxLocals = 3 := hml0
  have hown : s.vm.findClass "java/util/Arrays" = some m.cls := findClass_of_methodNamed Bd.named
  have hnm := (name_of_methodNamed Bd.named Bd.method).1
  have X0 : Stand p l e (Rm 2 1 16 34) s m #[(.ref t), (.int (Int32.ofNat f)), (.int (Int32.ofNat ee))] below meth c s₁ [] 0 0 := Stand.of_body Bd
  have e0 : s₁.heap = h0 := by rw [← hh, Bd.state]; rfl
  have N0 := Fr.nil n0
  have pre0 : ∀ tt, Steps p.tables e below (s₁.setTop (mkF m 0 #[.val (.ref t), .val (.int (Int32.ofNat f)), .val (.int (Int32.ofNat ee))] [])) tt → Steps p.tables e below (s₁.setTop (entryFrame m #[(.ref t), (.int (Int32.ofNat f)), (.int (Int32.ofNat ee))] 3)) tt := fun tt kk => castTop (ef_28_rrr m t (Int32.ofNat f) (Int32.ofNat ee)) kk
  obtain ⟨c1, Ar1, -, S1, M1, -, -⟩ := id V_t
  obtain ⟨_, _, ⟨T2, L2, k2, n2⟩, -, X2, ⟨Lc2, hQ2, l2, y2, z2⟩, st2⟩ := Jvm.LawKit.callS X0 hx (y := y_39) hown (mvT hZ (hw _ (tk 139 rfl))) (mvT hZ (hw _ (tk 140 rfl))) (mvT hZ (hw _ (tk 137 rfl))) (mvT hZ (hw _ (tk 141 rfl))) (by decide) (backOf (W := 0) (rmCRB l Z a0 hw [] t k M vs f ee h0 n0 Z0 V_t hv hfe heM hM) hZ (hw _ (tk 141 rfl)) (hw _ (tk 137 rfl)) (by decide) (by decide)) (g := (mkF m 13 #[.val (.ref t), .val (.int (Int32.ofNat f)), .val (.int (Int32.ofNat ee))] [(.int (Int32.ofNat ee)), (.int (Int32.ofNat f)), (.ref t)])) rfl (by rw [hml]; rfl) (argsL := [(.ref t), (.int (Int32.ofNat f)), (.int (Int32.ofNat ee))]) (rest := []) (lenOf pd___BII__B rfl) rfl (by show 2 * 0 + _ ≤ _; exact Nat.le_of_eq rfl) (hb hby d28_13) (fun _ _ => ⟨rfl, e0, (by decide : 0 + 1 ≤ _), (by decide : 0 + 16 ≤ _)⟩)
  dsimp only [Pt.U, Pt.locs, Pt.cells, Pt.slots] at X2 l2 y2 z2 st2 hQ2
  subst l2 y2 z2
  obtain ⟨t2, k2q, rfl, Nq2, gt2, sq2, Kq2, V2q⟩ := hQ2
  have N2 := Fr.app N0 Nq2
  have szt2 : h0.size ≤ t2 := Nat.le_trans (Nat.le_refl _) sq2
  obtain ⟨fs, hr, hrun, hended, hW, hsame⟩ := X2.leave (v := some (.ref t2)) (fun h => by rw [Bd.returns] at h; cases h)
  refine ⟨_, _, pre0 _ ?_, hrun, hended, _, _, rfl, ?_, ⟨_, rfl⟩, hW, hsame.mono (by decide) (by decide)⟩
  · show Steps _ _ _ (s₁.setTop (mkF m 0 #[.val (.ref t), .val (.int (Int32.ofNat f)), .val (.int (Int32.ofNat ee))] [])) _
    refine XS.iloadN X0.here hx rfl (hb hby d28_0) rfl ?_
    refine XS.ifNo X0.here hx rfl (hb hby d28_1) rfl ((if0 _ _).trans (teq hf).2) ?_
    refine XS.iloadN X0.here hx rfl (hb hby d28_4) rfl ?_
    refine XS.aloadN X0.here hx rfl (hb hby d28_5) rfl rfl ?_
    show Steps _ _ _ (s₁.setTop (mkF m 6 #[.val (.ref t), .val (.int (Int32.ofNat f)), .val (.int (Int32.ofNat ee))] [(.ref t), (.int (Int32.ofNat ee))])) _
    refine X0.arraylength hx (by rw [e0]; exact Ar1.1) (State.isArrayOf_alike hZ.alike Ar1.2.1) (g := (mkF m 6 #[.val (.ref t), .val (.int (Int32.ofNat f)), .val (.int (Int32.ofNat ee))] [(.ref t), (.int (Int32.ofNat ee))])) rfl rfl (hb hby d28_6) _ ?_
    rw [len_of S1 M1]
    show Steps _ _ _ (s₁.setTop (mkF m 7 #[.val (.ref t), .val (.int (Int32.ofNat f)), .val (.int (Int32.ofNat ee))] [(.int (Int32.ofNat M)), (.int (Int32.ofNat ee))])) _
    refine XS.icmpNo X0.here hx rfl (hb hby d28_7) rfl (feq (fun q => by have := (own_eq (by omega) (by omega)).mp q; omega)).1 ?_
    refine XS.aloadN X0.here hx rfl (hb hby d28_10) rfl rfl ?_
    refine XS.iloadN X0.here hx rfl (hb hby d28_11) rfl ?_
    refine XS.iloadN X0.here hx rfl (hb hby d28_12) rfl ?_
    show Steps _ _ _ (s₁.setTop (mkF m 13 #[.val (.ref t), .val (.int (Int32.ofNat f)), .val (.int (Int32.ofNat ee))] [(.int (Int32.ofNat ee)), (.int (Int32.ofNat f)), (.ref t)])) _
    refine st2 _ ?_
    show Steps _ _ _ (T2.setTop (mkF m 16 #[.val (.ref t), .val (.int (Int32.ofNat f)), .val (.int (Int32.ofNat ee))] [(.ref t2)])) _
    jvm_step X2.here [X2.here.top, hx, (hb hby d28_16), X2.method', Bd.returns, Value.isRef, FieldType.isReference]
    first | (intro acts; rw [hr _ acts rfl rfl rfl]) | rw [hr _ _ rfl rfl rfl]
    exact Steps.refl _
  · show own_QR Z (ee - f) ((vs.drop f).take (ee - f)) h0 n0 _ T2.heap _
    exact ⟨t2, k2q, rfl, N2, gt2, szt2, ((Keep.refl h0 []).trans Kq2 all0), V2q⟩
theorem rmCR1 (l : Launch) (Z : State) (a0 : Array Value) (hw : HW a0 Z) (ws : List Jvm.Cond) (t : Addr) (k : ClassId) (M : Nat) (vs : List Value) (f : Nat) (ee : Nat) (h0 : Heap) (n0 : Nat) (Z0 : n0 ≤ h0.size) (V_t : Arv Z h0 t k .byte (Int32.ofNat M) vs (.int 0)) (hv : vs.length = M) (hfe : f ≤ ee) (heM : ee < M) (hM : M ≤ 16) (hf : ¬ ((Int32.ofNat f) = (0 : Int32))) :
    MetFree l y_40 (head1 (Jvm.Cond.code y_40 jdk_65_method_132_code 3 (some (.array .byte)) :: ws) (Rm 2 1 16 34)) (fun a_ U_ => a_ = #[(.ref t), (.int (Int32.ofNat f)), (.int (Int32.ofNat ee))] ∧ Z.Warmed39 U_.vm ∧ U_.heap = h0) (fun _ _ _ _ _ => True) (fun _ U_ o_ U1_ => ∃ v_ L_, o_ = .returned v_ ∧ own_QR Z (ee - f) ((vs.drop f).take (ee - f)) h0 n0 v_ U1_.heap L_ ∧ FrameEnd U_ o_ U1_ L_ (Rm 2 1 16 34).cells (Rm 2 1 16 34).slots) := by
  refine MetFree.of_bodySF (plainFor_of_name pn_28) hisR ?_
  intro p e s m args below meth c s₁ Bd hml0 hP hK
  obtain ⟨rfl, hZ, hh⟩ := hP
  have hx := Bd.exec
  have hby := Bd.bytes
  have hml : c.maxLocals = 3 := hml0
  have hown : s.vm.findClass "java/util/Arrays" = some m.cls := findClass_of_methodNamed Bd.named
  have hnm := (name_of_methodNamed Bd.named Bd.method).1
  have X0 : Stand p l e (Rm 2 1 16 34) s m #[(.ref t), (.int (Int32.ofNat f)), (.int (Int32.ofNat ee))] below meth c s₁ [] 0 0 := Stand.of_body Bd
  have e0 : s₁.heap = h0 := by rw [← hh, Bd.state]; rfl
  have N0 := Fr.nil n0
  have pre0 : ∀ tt, Steps p.tables e below (s₁.setTop (mkF m 0 #[.val (.ref t), .val (.int (Int32.ofNat f)), .val (.int (Int32.ofNat ee))] [])) tt → Steps p.tables e below (s₁.setTop (entryFrame m #[(.ref t), (.int (Int32.ofNat f)), (.int (Int32.ofNat ee))] 3)) tt := fun tt kk => castTop (ef_28_rrr m t (Int32.ofNat f) (Int32.ofNat ee)) kk
  obtain ⟨_, _, ⟨T1, L1, k1, n1⟩, -, X1, ⟨Lc1, hQ1, l1, y1, z1⟩, st1⟩ := Jvm.LawKit.callS X0 hx (y := y_39) hown (mvT hZ (hw _ (tk 139 rfl))) (mvT hZ (hw _ (tk 140 rfl))) (mvT hZ (hw _ (tk 137 rfl))) (mvT hZ (hw _ (tk 141 rfl))) (by decide) (backOf (W := 0) (rmCRB l Z a0 hw [] t k M vs f ee h0 n0 Z0 V_t hv hfe heM hM) hZ (hw _ (tk 141 rfl)) (hw _ (tk 137 rfl)) (by decide) (by decide)) (g := (mkF m 13 #[.val (.ref t), .val (.int (Int32.ofNat f)), .val (.int (Int32.ofNat ee))] [(.int (Int32.ofNat ee)), (.int (Int32.ofNat f)), (.ref t)])) rfl (by rw [hml]; rfl) (argsL := [(.ref t), (.int (Int32.ofNat f)), (.int (Int32.ofNat ee))]) (rest := []) (lenOf pd___BII__B rfl) rfl (by show 2 * 0 + _ ≤ _; exact Nat.le_of_eq rfl) (hb hby d28_13) (fun _ _ => ⟨rfl, e0, (by decide : 0 + 1 ≤ _), (by decide : 0 + 16 ≤ _)⟩)
  dsimp only [Pt.U, Pt.locs, Pt.cells, Pt.slots] at X1 l1 y1 z1 st1 hQ1
  subst l1 y1 z1
  obtain ⟨t1, k1q, rfl, Nq1, gt1, sq1, Kq1, V1q⟩ := hQ1
  have N1 := Fr.app N0 Nq1
  have szt1 : h0.size ≤ t1 := Nat.le_trans (Nat.le_refl _) sq1
  obtain ⟨fs, hr, hrun, hended, hW, hsame⟩ := X1.leave (v := some (.ref t1)) (fun h => by rw [Bd.returns] at h; cases h)
  refine ⟨_, _, pre0 _ ?_, hrun, hended, _, _, rfl, ?_, ⟨_, rfl⟩, hW, hsame.mono (by decide) (by decide)⟩
  · show Steps _ _ _ (s₁.setTop (mkF m 0 #[.val (.ref t), .val (.int (Int32.ofNat f)), .val (.int (Int32.ofNat ee))] [])) _
    refine XS.iloadN X0.here hx rfl (hb hby d28_0) rfl ?_
    refine XS.ifYes X0.here hx rfl (pc0 := 1) (pc' := 10) rfl (hb hby d28_1) rfl ((if0 _ _).trans (feq hf).2) (by decide) (by decide) ?_
    refine XS.aloadN X0.here hx rfl (hb hby d28_10) rfl rfl ?_
    refine XS.iloadN X0.here hx rfl (hb hby d28_11) rfl ?_
    refine XS.iloadN X0.here hx rfl (hb hby d28_12) rfl ?_
    show Steps _ _ _ (s₁.setTop (mkF m 13 #[.val (.ref t), .val (.int (Int32.ofNat f)), .val (.int (Int32.ofNat ee))] [(.int (Int32.ofNat ee)), (.int (Int32.ofNat f)), (.ref t)])) _
    refine st1 _ ?_
    show Steps _ _ _ (T1.setTop (mkF m 16 #[.val (.ref t), .val (.int (Int32.ofNat f)), .val (.int (Int32.ofNat ee))] [(.ref t1)])) _
    jvm_step X1.here [X1.here.top, hx, (hb hby d28_16), X1.method', Bd.returns, Value.isRef, FieldType.isReference]
    first | (intro acts; rw [hr _ acts rfl rfl rfl]) | rw [hr _ _ rfl rfl rfl]
    exact Steps.refl _
  · show own_QR Z (ee - f) ((vs.drop f).take (ee - f)) h0 n0 _ T1.heap _
    exact ⟨t1, k1q, rfl, N1, gt1, szt1, ((Keep.refl h0 []).trans Kq1 all0), V1q⟩
theorem rmCR (l : Launch) (Z : State) (a0 : Array Value) (hw : HW a0 Z) (ws : List Jvm.Cond) (t : Addr) (k : ClassId) (M : Nat) (vs : List Value) (f : Nat) (ee : Nat) (h0 : Heap) (n0 : Nat) (Z0 : n0 ≤ h0.size) (V_t : Arv Z h0 t k .byte (Int32.ofNat M) vs (.int 0)) (hv : vs.length = M) (hfe : f ≤ ee) (heM : ee < M) (hM : M ≤ 16) :
    MetFree l y_40 (head1 (Jvm.Cond.code y_40 jdk_65_method_132_code 3 (some (.array .byte)) :: ws) (Rm 2 1 16 34)) (fun a_ U_ => a_ = #[(.ref t), (.int (Int32.ofNat f)), (.int (Int32.ofNat ee))] ∧ Z.Warmed39 U_.vm ∧ U_.heap = h0) (fun _ _ _ _ _ => True) (fun _ U_ o_ U1_ => ∃ v_ L_, o_ = .returned v_ ∧ own_QR Z (ee - f) ((vs.drop f).take (ee - f)) h0 n0 v_ U1_.heap L_ ∧ FrameEnd U_ o_ U1_ L_ (Rm 2 1 16 34).cells (Rm 2 1 16 34).slots) := by
  by_cases hf : (Int32.ofNat f) = (0 : Int32)
  · exact rmCR0 l Z a0 hw ws t k M vs f ee h0 n0 Z0 V_t hv hfe heM hM hf
  · exact rmCR1 l Z a0 hw ws t k M vs f ee h0 n0 Z0 V_t hv hfe heM hM hf
theorem own_or4 {a f m : Nat} (ha : a ≤ 4) (hf : f ≤ 4) (hm : m ≤ 4) : ¬ ((((Int32.ofNat a) ||| (Int32.ofNat f)) ||| (Int32.ofNat m)) < (0 : Int32)) := by
  have t : ∀ (a f m : Fin 5), ¬ ((((Int32.ofNat a.val) ||| (Int32.ofNat f.val)) ||| (Int32.ofNat m.val)) < (0 : Int32)) := by decide +kernel
  exact t ⟨a, by omega⟩ ⟨f, by omega⟩ ⟨m, by omega⟩
theorem own_dg (cs : List Int32) (f i : Nat) : (cs.drop f).getD i 0 = cs.getD (f + i) 0 := by simp [List.getD_eq_getElem?_getD, List.getElem?_drop]
theorem own_dl {cs : List Int32} {f m : Nat} (h : f + m ≤ cs.length) : ((cs.drop f).take m).length = m := by rw [List.length_take, List.length_drop]; omega
theorem own_slb {cs : List Int32} {f i : Nat} (h : f + i < cs.length) : (own_lat ((cs.drop f).take i) ++ List.replicate 1 (Value.int (0 : Int32))).set i (Value.int (own_l8 (cs.getD (f + i) 0))) = own_lat ((cs.drop f).take (i + 1)) := by
  rw [← own_dg]
  exact own_slt (cs := cs.drop f) (by rw [List.length_drop]; omega)
theorem own_oc6 {t b : Addr} {x1 x3 x4 x5 v : Int32} {s6 : Slot} (h : One s6) : storeLocals #[.val (.ref t), .val (.int x1), .val (.ref b), .val (.int x3), .val (.int x4), .val (.int x5), s6] 6 (.int v) = some #[.val (.ref t), .val (.int x1), .val (.ref b), .val (.int x3), .val (.int x4), .val (.int x5), .val (.int v)] := own_os6 h
def own_QCB (Z : State) (b : Addr) (kb : ClassId) (cs : List Int32) (f m_ n : Nat) (h0 : Heap) (n0 : Nat) (v : Option Value) (h : Heap) (L : List Loc) : Prop := v = some (.int (Int32.ofNat n)) ∧ Fr n0 L ∧ Keep h0 h [b] ∧ Arv Z h b kb .byte (Int32.ofNat m_) (own_lat ((cs.drop f).take n)) (.int 0)
theorem d45_0 : decode jdk_52_method_22_code 0 = .ok (.iload_n 1, 1) := by decide +kernel
theorem d45_1 : decode jdk_52_method_22_code 1 = .ok (.iload 4, 2) := by decide +kernel
theorem d45_3 : decode jdk_52_method_22_code 3 = .ok (.aload_n 0, 1) := by decide +kernel
theorem d45_4 : decode jdk_52_method_22_code 4 = .ok (.invokestatic 173, 3) := by decide +kernel
theorem d45_7 : decode jdk_52_method_22_code 7 = .ok (.iconst 0, 1) := by decide +kernel
theorem d45_8 : decode jdk_52_method_22_code 8 = .ok (.istore 5, 2) := by decide +kernel
theorem d45_10 : decode jdk_52_method_22_code 10 = .ok (.iload 5, 2) := by decide +kernel
theorem d45_12 : decode jdk_52_method_22_code 12 = .ok (.iload 4, 2) := by decide +kernel
theorem d45_14 : decode jdk_52_method_22_code 14 = .ok (.if_icmp .ge 39, 3) := by decide +kernel
theorem d45_17 : decode jdk_52_method_22_code 17 = .ok (.aload_n 0, 1) := by decide +kernel
theorem d45_18 : decode jdk_52_method_22_code 18 = .ok (.iload_n 1, 1) := by decide +kernel
theorem d45_19 : decode jdk_52_method_22_code 19 = .ok (.invokestatic 71, 3) := by decide +kernel
theorem d45_22 : decode jdk_52_method_22_code 22 = .ok (.istore 6, 2) := by decide +kernel
theorem d45_24 : decode jdk_52_method_22_code 24 = .ok (.iload 6, 2) := by decide +kernel
theorem d45_26 : decode jdk_52_method_22_code 26 = .ok (.sipush 255, 3) := by decide +kernel
theorem d45_29 : decode jdk_52_method_22_code 29 = .ok (.if_icmp .le 6, 3) := by decide +kernel
theorem d45_35 : decode jdk_52_method_22_code 35 = .ok (.aload_n 2, 1) := by decide +kernel
theorem d45_36 : decode jdk_52_method_22_code 36 = .ok (.iload_n 3, 1) := by decide +kernel
theorem d45_37 : decode jdk_52_method_22_code 37 = .ok (.iload 6, 2) := by decide +kernel
theorem d45_39 : decode jdk_52_method_22_code 39 = .ok (.i2b, 1) := by decide +kernel
theorem d45_40 : decode jdk_52_method_22_code 40 = .ok (.bastore, 1) := by decide +kernel
theorem d45_41 : decode jdk_52_method_22_code 41 = .ok (.iinc 1 1, 3) := by decide +kernel
theorem d45_44 : decode jdk_52_method_22_code 44 = .ok (.iinc 3 1, 3) := by decide +kernel
theorem d45_47 : decode jdk_52_method_22_code 47 = .ok (.iinc 5 1, 3) := by decide +kernel
theorem d45_50 : decode jdk_52_method_22_code 50 = .ok (.goto (-40), 3) := by decide +kernel
theorem d45_53 : decode jdk_52_method_22_code 53 = .ok (.iload 4, 2) := by decide +kernel
theorem d45_55 : decode jdk_52_method_22_code 55 = .ok (.ireturn, 1) := by decide +kernel
theorem pn_45 : plainName "java/lang/StringUTF16" = true := by first | (simp [plainName, overriddenIn]; done) | decide +kernel
theorem ef_45_rrrrr (m : MethodId) (x0 : Addr) (x1 : Int32) (x2 : Addr) (x3 : Int32) (x4 : Int32) : entryFrame m #[(.ref x0), (.int x1), (.ref x2), (.int x3), (.int x4)] 7 = mkF m 0 #[.val (.ref x0), .val (.int x1), .val (.ref x2), .val (.int x3), .val (.int x4), .unset, .unset] [] := by first | (simp [entryFrame, mkF, argsToLocals, Value.category]; done) | rfl
theorem d45_32 : decode jdk_52_method_22_code 32 = .ok (.iload 5, 2) := by decide +kernel
theorem d45_34 : decode jdk_52_method_22_code 34 = .ok (.ireturn, 1) := by decide +kernel
theorem tnCB {p : Program} {l : Launch} {e : Env} {s : State} {m : MethodId} {args : Array Value} {below : List Frame} {meth : Method} {c : Code} {s₁ : State} {L0 : List Loc} {Z : State} {a0 : Array Value} (G1 : Int32) (G3 : Value) (G4 : Value) (t : Addr) (k : ClassId) (cs : List Int32) (f : Nat) (m_ : Nat) (b : Addr) (kb : ClassId) (i : Nat) (s6 : Slot) (h0 : Heap) (n0 : Nat) (X0 : Stand p l e (Rm 3 0 0 43) s m args below meth c s₁ L0 0 0) (hx : p.tables.exec = Jvm.exec) (hZ : Z.Warmed39 s.vm) (hw : HW a0 Z) (hby : c.code = jdk_52_method_22_code) (hml : c.maxLocals = 7) (hown : s.vm.findClass "java/lang/StringUTF16" = some m.cls) (e0 : s₁.heap = h0) (N0 : Fr n0 L0) (Z0 : n0 ≤ h0.size) (EN : own_env Z G1 G3 G4) (X00 : Old Z n0 h0) (V_t : Arv Z h0 t k .byte (Int32.ofNat (2 * cs.length)) (own_wide cs) (.int 0)) (V_b : Arv Z h0 b kb .byte (Int32.ofNat m_) (own_lat ((cs.drop f).take i)) (.int 0)) (g_b : n0 ≤ b) (htb : t ≠ b) (hcc : ∀ c ∈ cs, own_ch c) (h4 : cs.length ≤ 4) (hfm : f + m_ ≤ cs.length) (hi : i < m_) (hq : ¬ ((255 : Int32) < (cs.getD (f + i) 0))) (h6 : One s6) :
    ∃ (T' : State) (h' : Heap) (L' : List Loc) , Stand p l e (Rm 3 0 0 43) s m args below meth c T' L' 0 0 ∧ T'.heap = h' ∧ Fr n0 L' ∧ n0 ≤ h'.size ∧ Old Z n0 h' ∧ Keep h0 h' [b] ∧ Arv Z h' b kb .byte (Int32.ofNat m_) (own_lat ((cs.drop f).take (i + 1))) (.int 0) ∧ Arv Z h' t k .byte (Int32.ofNat (2 * cs.length)) (own_wide cs) (.int 0) ∧ 
      ∀ target, Steps p.tables e below (T'.setTop (mkF m 10 #[.val (.ref t), .val (.int (Int32.ofNat (f + (i + 1)))), .val (.ref b), .val (.int (Int32.ofNat (i + 1))), .val (.int (Int32.ofNat m_)), .val (.int (Int32.ofNat (i + 1))), .val (.int (cs.getD (f + i) 0))] [])) target → Steps p.tables e below (s₁.setTop (mkF m 10 #[.val (.ref t), .val (.int (Int32.ofNat (f + i))), .val (.ref b), .val (.int (Int32.ofNat i)), .val (.int (Int32.ofNat m_)), .val (.int (Int32.ofNat i)), s6] [])) target := by
  have EN0 := EN
  obtain ⟨O2, P5, O4, rG3, O6, O7, O8⟩ := EN
  obtain ⟨_, _, ⟨T1, L1, k1, n1⟩, -, X1, ⟨Lc1, hQ1, l1, y1, z1⟩, st1⟩ := Jvm.LawKit.callS X0 hx (y := y_17) hown (mvT hZ (hw _ (tk 176 rfl))) (mvT hZ (hw _ (tk 177 rfl))) (mvT hZ (hw _ (tk 23 rfl))) (mvT hZ (hw _ (tk 178 rfl))) (by decide) (backOf (W := 0) (rmGC l Z a0 hw [] G1 G3 G4 t k cs (f + i) h0 n0 Z0 EN0 X00 V_t (own_atch hcc (by omega)) (by omega) (by omega)) hZ (hw _ (tk 178 rfl)) (hw _ (tk 23 rfl)) (by decide) (by decide)) (g := (mkF m 19 #[.val (.ref t), .val (.int (Int32.ofNat (f + i))), .val (.ref b), .val (.int (Int32.ofNat i)), .val (.int (Int32.ofNat m_)), .val (.int (Int32.ofNat i)), s6] [(.int (Int32.ofNat (f + i))), (.ref t)])) rfl (by rw [hml]; rfl) (argsL := [(.ref t), (.int (Int32.ofNat (f + i)))]) (rest := []) (lenOf pd___BI_C rfl) rfl (by show 2 * 0 + _ ≤ _; exact Nat.le_of_eq rfl) (hb hby d45_19) (fun _ _ => ⟨rfl, e0, (by decide : 0 + 0 ≤ _), (by decide : 0 + 0 ≤ _)⟩)
  dsimp only [Pt.U, Pt.locs, Pt.cells, Pt.slots] at X1 l1 y1 z1 st1 hQ1
  subst l1 y1 z1
  obtain ⟨rfl, Nq1, eq1⟩ := hQ1
  have N1 := Fr.app N0 Nq1
  obtain ⟨c2, Ar2, q2, S2, M2, H2, Gz2⟩ := id (V_b.pad (pad_rep (own_lat ((cs.drop f).take i)) (.int 0) 1))
  have hin2 := inb_of (j := (Int32.ofNat i)) S2 (own_in hi (by omega))
  obtain ⟨T2, h2, X2, e2, W2, st2⟩ := stB X1 hx hZ eq1 Ar2 (j := (Int32.ofNat i)) hin2 (g := (mkF m 40 #[.val (.ref t), .val (.int (Int32.ofNat (f + i))), .val (.ref b), .val (.int (Int32.ofNat i)), .val (.int (Int32.ofNat m_)), .val (.int (Int32.ofNat i)), .val (.int (cs.getD (f + i) 0))] [(.int ((cs.getD (f + i) 0).toInt8.toInt32)), (.int (Int32.ofNat i)), (.ref b)])) rfl rfl (hb hby d45_40)
  have V2 : Arv Z h2 b kb .byte (Int32.ofNat m_) (own_lat ((cs.drop f).take (i + 1))) (.int 0) := (by rw [← (own_slb (by omega))]; exact Arv.set Ar2 q2 S2 M2 H2 Gz2 (fits_nar_byte _) W2 i (own_clamp (by omega)) (by rw [List.length_append, own_lat_len, own_dl (by omega)]; simp))
  have N2 := Fr.snoc X2 N1 g_b
  have f3 := (X00.wr W2 g_b)
  have f4 := (V_t.other W2 htb)
  refine ⟨T2, h2, _, X2, e2, N2, (Nat.le_trans Z0 (Keep.of_wr W2).1), f3, ((Keep.refl h0 [b]).wr W2 (Or.inl (tk 0 rfl))), V2, f4, fun target kt => ?_⟩
  show Steps _ _ _ (s₁.setTop (mkF m 10 #[.val (.ref t), .val (.int (Int32.ofNat (f + i))), .val (.ref b), .val (.int (Int32.ofNat i)), .val (.int (Int32.ofNat m_)), .val (.int (Int32.ofNat i)), s6] [])) _
  refine XS.iload X0.here hx rfl (hb hby d45_10) rfl ?_
  refine XS.iload X0.here hx rfl (hb hby d45_12) rfl ?_
  refine XS.icmpNo X0.here hx rfl (hb hby d45_14) rfl (tlt ((own_lt (by omega) (by omega)).mpr hi)).2.1 ?_
  refine XS.aloadN X0.here hx rfl (hb hby d45_17) rfl rfl ?_
  refine XS.iloadN X0.here hx rfl (hb hby d45_18) rfl ?_
  show Steps _ _ _ (s₁.setTop (mkF m 19 #[.val (.ref t), .val (.int (Int32.ofNat (f + i))), .val (.ref b), .val (.int (Int32.ofNat i)), .val (.int (Int32.ofNat m_)), .val (.int (Int32.ofNat i)), s6] [(.int (Int32.ofNat (f + i))), (.ref t)])) _
  refine st1 _ ?_
  show Steps _ _ _ (T1.setTop (mkF m 22 #[.val (.ref t), .val (.int (Int32.ofNat (f + i))), .val (.ref b), .val (.int (Int32.ofNat i)), .val (.int (Int32.ofNat m_)), .val (.int (Int32.ofNat i)), s6] [(.int (cs.getD (f + i) 0))])) _
  refine XS.istore X1.here hx rfl (hb hby d45_22) rfl (l' := #[.val (.ref t), .val (.int (Int32.ofNat (f + i))), .val (.ref b), .val (.int (Int32.ofNat i)), .val (.int (Int32.ofNat m_)), .val (.int (Int32.ofNat i)), .val (.int (cs.getD (f + i) 0))]) (own_os6 h6) ?_
  refine XS.iload X1.here hx rfl (hb hby d45_24) rfl ?_
  refine XS.sipush X1.here hx rfl (hb hby d45_26) ?_
  refine XS.icmpYes X1.here hx rfl (pc0 := 29) (pc' := 35) rfl (hb hby d45_29) rfl (flt hq).2.2.2 (by decide) (by decide) ?_
  refine XS.aloadN X1.here hx rfl (hb hby d45_35) rfl rfl ?_
  refine XS.iloadN X1.here hx rfl (hb hby d45_36) rfl ?_
  refine XS.iload X1.here hx rfl (hb hby d45_37) rfl ?_
  refine XS.i2b X1.here hx rfl (hb hby d45_39) rfl ?_
  show Steps _ _ _ (T1.setTop (mkF m 40 #[.val (.ref t), .val (.int (Int32.ofNat (f + i))), .val (.ref b), .val (.int (Int32.ofNat i)), .val (.int (Int32.ofNat m_)), .val (.int (Int32.ofNat i)), .val (.int (cs.getD (f + i) 0))] [(.int ((cs.getD (f + i) 0).toInt8.toInt32)), (.int (Int32.ofNat i)), (.ref b)])) _
  refine st2 _ ?_
  show Steps _ _ _ (T2.setTop (mkF m 41 #[.val (.ref t), .val (.int (Int32.ofNat (f + i))), .val (.ref b), .val (.int (Int32.ofNat i)), .val (.int (Int32.ofNat m_)), .val (.int (Int32.ofNat i)), .val (.int (cs.getD (f + i) 0))] [])) _
  refine XS.iinc X2.here hx rfl (hb hby d45_41) rfl (l' := #[.val (.ref t), .val (.int ((Int32.ofNat (f + i)) + (1 : Int32))), .val (.ref b), .val (.int (Int32.ofNat i)), .val (.int (Int32.ofNat m_)), .val (.int (Int32.ofNat i)), .val (.int (cs.getD (f + i) 0))]) rfl ?_
  refine XS.iinc X2.here hx rfl (hb hby d45_44) rfl (l' := #[.val (.ref t), .val (.int ((Int32.ofNat (f + i)) + (1 : Int32))), .val (.ref b), .val (.int ((Int32.ofNat i) + (1 : Int32))), .val (.int (Int32.ofNat m_)), .val (.int (Int32.ofNat i)), .val (.int (cs.getD (f + i) 0))]) rfl ?_
  refine XS.iinc X2.here hx rfl (hb hby d45_47) rfl (l' := #[.val (.ref t), .val (.int ((Int32.ofNat (f + i)) + (1 : Int32))), .val (.ref b), .val (.int ((Int32.ofNat i) + (1 : Int32))), .val (.int (Int32.ofNat m_)), .val (.int ((Int32.ofNat i) + (1 : Int32))), .val (.int (cs.getD (f + i) 0))]) rfl ?_
  refine XS.goto X2.here hx rfl (pc0 := 50) (pc' := 10) rfl (hb hby d45_50) (by decide) (by decide) ?_
  show Steps _ _ _ (T2.setTop (mkF m 10 #[.val (.ref t), .val (.int ((Int32.ofNat (f + i)) + (1 : Int32))), .val (.ref b), .val (.int ((Int32.ofNat i) + (1 : Int32))), .val (.int (Int32.ofNat m_)), .val (.int ((Int32.ofNat i) + (1 : Int32))), .val (.int (cs.getD (f + i) 0))] [])) _
  rw [(own_succ (f + i))]
  show Steps _ _ _ (T2.setTop (mkF m 10 #[.val (.ref t), .val (.int (Int32.ofNat (f + (i + 1)))), .val (.ref b), .val (.int ((Int32.ofNat i) + (1 : Int32))), .val (.int (Int32.ofNat m_)), .val (.int ((Int32.ofNat i) + (1 : Int32))), .val (.int (cs.getD (f + i) 0))] [])) _
  rw [(own_succ i)]
  show Steps _ _ _ (T2.setTop (mkF m 10 #[.val (.ref t), .val (.int (Int32.ofNat (f + (i + 1)))), .val (.ref b), .val (.int (Int32.ofNat (i + 1))), .val (.int (Int32.ofNat m_)), .val (.int (Int32.ofNat (i + 1))), .val (.int (cs.getD (f + i) 0))] [])) _
  exact kt
theorem lpCB {p : Program} {l : Launch} {e : Env} {s : State} {m : MethodId} {args : Array Value} {below : List Frame} {meth : Method} {c : Code} {Z : State} {a0 : Array Value} (G1 : Int32) (G3 G4 : Value) (t : Addr) (k : ClassId) (cs : List Int32) (f m_ : Nat) (b : Addr) (kb : ClassId) (n0 : Nat) (hx : p.tables.exec = Jvm.exec) (hZ : Z.Warmed39 s.vm) (hw : HW a0 Z) (hby : c.code = jdk_52_method_22_code) (hml : c.maxLocals = 7) (hown : s.vm.findClass "java/lang/StringUTF16" = some m.cls) (EN : own_env Z G1 G3 G4) (g_b : n0 ≤ b) (htb : t ≠ b) (hcc : ∀ c ∈ cs, own_ch c) (h4 : cs.length ≤ 4) (hfm : f + m_ ≤ cs.length) (n : Nat) (hn : n ≤ m_) (hq : ∀ i, i < n → ¬ ((255 : Int32) < (cs.getD (f + i) 0))) :
    ∀ (q : Nat) (s₁ : State) (L0 : List Loc) (h0 : Heap) (i : Nat) (s6 : Slot) (X0 : Stand p l e (Rm 3 0 0 43) s m args below meth c s₁ L0 0 0) (e0 : s₁.heap = h0) (N0 : Fr n0 L0) (Z0 : n0 ≤ h0.size) (X00 : Old Z n0 h0) (V_t : Arv Z h0 t k .byte (Int32.ofNat (2 * cs.length)) (own_wide cs) (.int 0)) (V_b : Arv Z h0 b kb .byte (Int32.ofNat m_) (own_lat ((cs.drop f).take i)) (.int 0)) (h6 : One s6) (hi : i + q = n),
    ∃ (T' : State) (h' : Heap) (L' : List Loc) (s9 : Slot), Stand p l e (Rm 3 0 0 43) s m args below meth c T' L' 0 0 ∧ T'.heap = h' ∧ Fr n0 L' ∧ n0 ≤ h'.size ∧ Old Z n0 h' ∧ Keep h0 h' [b] ∧ Arv Z h' b kb .byte (Int32.ofNat m_) (own_lat ((cs.drop f).take n)) (.int 0) ∧ Arv Z h' t k .byte (Int32.ofNat (2 * cs.length)) (own_wide cs) (.int 0) ∧ One s9 ∧
      ∀ target, Steps p.tables e below (T'.setTop (mkF m 10 #[.val (.ref t), .val (.int (Int32.ofNat (f + n))), .val (.ref b), .val (.int (Int32.ofNat n)), .val (.int (Int32.ofNat m_)), .val (.int (Int32.ofNat n)), s9] [])) target → Steps p.tables e below (s₁.setTop (mkF m 10 #[.val (.ref t), .val (.int (Int32.ofNat (f + i))), .val (.ref b), .val (.int (Int32.ofNat i)), .val (.int (Int32.ofNat m_)), .val (.int (Int32.ofNat i)), s6] [])) target := by
  intro q
  induction q with
  | zero =>
    intro s₁ L0 h0 i s6 X0 e0 N0 Z0 X00 V_t V_b h6 hi
    obtain rfl : i = n := by omega
    exact ⟨s₁, h0, L0, s6, X0, e0, N0, Z0, X00, Keep.refl _ _, V_b, V_t, h6, fun _ kt => kt⟩
  | succ q ih =>
    intro s₁ L0 h0 i s6 X0 e0 N0 Z0 X00 V_t V_b h6 hi
    obtain ⟨T1, h1, L1, X1, f1, N1, Z1, O1, K1, V1, A1, st1⟩ := tnCB G1 G3 G4 t k cs f m_ b kb i s6 h0 n0 X0 hx hZ hw hby hml hown e0 N0 Z0 EN X00 V_t V_b g_b htb hcc h4 hfm (by omega) (hq i (by omega)) h6
    obtain ⟨T2, h2, L2, s9, X2, f2, N2, Z2, O2, K2, V2, A2, h9, st2⟩ := ih T1 L1 h1 (i + 1) _ X1 f1 N1 Z1 O1 A1 V1 (One.val (w := .int _) rfl) (by omega)
    exact ⟨T2, h2, L2, s9, X2, f2, N2, Z2, O2, K1.trans K2 (fun x hx => Or.inl hx), V2, A2, h9, fun target kt => st1 _ (st2 _ kt)⟩
theorem rmCBL (l : Launch) (Z : State) (a0 : Array Value) (hw : HW a0 Z) (ws : List Jvm.Cond) (G1 : Int32) (G3 : Value) (G4 : Value) (t : Addr) (k : ClassId) (cs : List Int32) (f : Nat) (m_ : Nat) (b : Addr) (kb : ClassId) (h0 : Heap) (n0 : Nat) (Z0 : n0 ≤ h0.size) (EN : own_env Z G1 G3 G4) (X00 : Old Z n0 h0) (V_t : Arv Z h0 t k .byte (Int32.ofNat (2 * cs.length)) (own_wide cs) (.int 0)) (V_b : Arv Z h0 b kb .byte (Int32.ofNat m_) (own_lat ((cs.drop f).take 0)) (.int 0)) (g_b : n0 ≤ b) (htb : t ≠ b) (hcc : ∀ c ∈ cs, own_ch c) (h4 : cs.length ≤ 4) (hfm : f + m_ ≤ cs.length) (hq : ∀ i, i < m_ → ¬ ((255 : Int32) < (cs.getD (f + i) 0))) :
    MetFree l y_41 (head1 (Jvm.Cond.code y_41 jdk_52_method_22_code 7 (some .int) :: ws) (Rm 3 0 0 43)) (fun a_ U_ => a_ = #[(.ref t), (.int (Int32.ofNat f)), (.ref b), (.int 0), (.int (Int32.ofNat m_))] ∧ Z.Warmed39 U_.vm ∧ U_.heap = h0) (fun _ _ _ _ _ => True) (fun _ U_ o_ U1_ => ∃ v_ L_, o_ = .returned v_ ∧ own_QCB Z b kb cs f m_ m_ h0 n0 v_ U1_.heap L_ ∧ FrameEnd U_ o_ U1_ L_ (Rm 3 0 0 43).cells (Rm 3 0 0 43).slots) := by
  refine MetFree.of_bodySF (plainFor_of_name pn_45) hisR ?_
  intro p e s m args below meth c s₁ Bd hml0 hP hK
  obtain ⟨rfl, hZ, hh⟩ := hP
  have hx := Bd.exec
  have hby := Bd.bytes
  have hml : c.maxLocals = 7 := hml0
  have hown : s.vm.findClass "java/lang/StringUTF16" = some m.cls := findClass_of_methodNamed Bd.named
  have hnm := (name_of_methodNamed Bd.named Bd.method).1
  have X0 : Stand p l e (Rm 3 0 0 43) s m #[(.ref t), (.int (Int32.ofNat f)), (.ref b), (.int 0), (.int (Int32.ofNat m_))] below meth c s₁ [] 0 0 := Stand.of_body Bd
  have e0 : s₁.heap = h0 := by rw [← hh, Bd.state]; rfl
  have N0 := Fr.nil n0
  have pre0 : ∀ tt, Steps p.tables e below (s₁.setTop (mkF m 0 #[.val (.ref t), .val (.int (Int32.ofNat f)), .val (.ref b), .val (.int 0), .val (.int (Int32.ofNat m_)), .unset, .unset] [])) tt → Steps p.tables e below (s₁.setTop (entryFrame m #[(.ref t), (.int (Int32.ofNat f)), (.ref b), (.int 0), (.int (Int32.ofNat m_))] 7)) tt := fun tt kk => castTop (ef_45_rrrrr m t (Int32.ofNat f) b (0 : Int32) (Int32.ofNat m_)) kk
  have EN0 := EN
  obtain ⟨O2, P5, O4, rG3, O6, O7, O8⟩ := EN
  obtain ⟨_, _, ⟨T1, L1, k1, n1⟩, -, X1, ⟨Lc1, hQ1, l1, y1, z1⟩, st1⟩ := Jvm.LawKit.callS X0 hx (y := y_8) hown (mvT hZ (hw _ (tk 208 rfl))) (mvT hZ (hw _ (tk 209 rfl))) (mvT hZ (hw _ (tk 23 rfl))) (mvT hZ (hw _ (tk 210 rfl))) (by decide) (backOf (W := 0) (rmUOC l Z a0 hw [] G1 G3 G4 (Int32.ofNat f) (Int32.ofNat m_) t k cs.length (own_wide cs) h0 n0 Z0 EN0 X00 (own_or4 h4 (by omega) (by omega)) (by rw [own_sub (i := cs.length) (j := f) (by omega) (by omega)]; exact fun q => by have := (own_lt (by omega) (by omega)).mp q; omega) V_t (by omega)) hZ (hw _ (tk 210 rfl)) (hw _ (tk 23 rfl)) (by decide) (by decide)) (g := (mkF m 4 #[.val (.ref t), .val (.int (Int32.ofNat f)), .val (.ref b), .val (.int 0), .val (.int (Int32.ofNat m_)), .unset, .unset] [(.ref t), (.int (Int32.ofNat m_)), (.int (Int32.ofNat f))])) rfl (by rw [hml]; rfl) (argsL := [(.int (Int32.ofNat f)), (.int (Int32.ofNat m_)), (.ref t)]) (rest := []) (lenOf pd__II_B_V rfl) rfl (by show 2 * 0 + _ ≤ _; exact Nat.le_of_eq rfl) (hb hby d45_4) (fun _ _ => ⟨rfl, e0, (by decide : 0 + 0 ≤ _), (by decide : 0 + 0 ≤ _)⟩)
  dsimp only [Pt.U, Pt.locs, Pt.cells, Pt.slots] at X1 l1 y1 z1 st1 hQ1
  subst l1 y1 z1
  obtain ⟨rfl, Nq1, eq1⟩ := hQ1
  have N1 := Fr.app N0 Nq1
  obtain ⟨Tv9, hv9, Lv9, s9, Xv9, ev9, Nv9, Zv9, Ov9, Kv9, Vv9, Av9, h6, stv9⟩ := lpCB G1 G3 G4 t k cs f m_ b kb n0 hx hZ hw hby hml hown EN0 g_b htb hcc h4 hfm m_ (by omega) hq m_ T1 _ h0 0 .unset X1 eq1 N1 Z0 X00 V_t V_b One.u (by omega)
  obtain ⟨fs, hr, hrun, hended, hW, hsame⟩ := Xv9.leave (v := some (.int (Int32.ofNat m_))) (fun h => by rw [Bd.returns] at h; cases h)
  refine ⟨_, _, pre0 _ ?_, hrun, hended, _, _, rfl, ?_, ⟨_, rfl⟩, hW, hsame.mono (by decide) (by decide)⟩
  · show Steps _ _ _ (s₁.setTop (mkF m 0 #[.val (.ref t), .val (.int (Int32.ofNat f)), .val (.ref b), .val (.int 0), .val (.int (Int32.ofNat m_)), .unset, .unset] [])) _
    refine XS.iloadN X0.here hx rfl (hb hby d45_0) rfl ?_
    refine XS.iload X0.here hx rfl (hb hby d45_1) rfl ?_
    refine XS.aloadN X0.here hx rfl (hb hby d45_3) rfl rfl ?_
    show Steps _ _ _ (s₁.setTop (mkF m 4 #[.val (.ref t), .val (.int (Int32.ofNat f)), .val (.ref b), .val (.int 0), .val (.int (Int32.ofNat m_)), .unset, .unset] [(.ref t), (.int (Int32.ofNat m_)), (.int (Int32.ofNat f))])) _
    refine st1 _ ?_
    show Steps _ _ _ (T1.setTop (mkF m 7 #[.val (.ref t), .val (.int (Int32.ofNat f)), .val (.ref b), .val (.int 0), .val (.int (Int32.ofNat m_)), .unset, .unset] [])) _
    refine XS.iconst X1.here hx rfl (hb hby d45_7) ?_
    refine XS.istore X1.here hx rfl (hb hby d45_8) rfl (l' := #[.val (.ref t), .val (.int (Int32.ofNat f)), .val (.ref b), .val (.int 0), .val (.int (Int32.ofNat m_)), .val (.int 0), .unset]) rfl ?_
    show Steps _ _ _ (T1.setTop (mkF m 10 #[.val (.ref t), .val (.int (Int32.ofNat (f + 0))), .val (.ref b), .val (.int (Int32.ofNat 0)), .val (.int (Int32.ofNat m_)), .val (.int (Int32.ofNat 0)), .unset] [])) _
    show Steps _ _ _ (T1.setTop (mkF m 10 #[.val (.ref t), .val (.int (Int32.ofNat (f + 0))), .val (.ref b), .val (.int (Int32.ofNat 0)), .val (.int (Int32.ofNat m_)), .val (.int (Int32.ofNat 0)), .unset] [])) _
    refine stv9 _ ?_
    show Steps _ _ _ (Tv9.setTop (mkF m 10 #[.val (.ref t), .val (.int (Int32.ofNat (f + m_))), .val (.ref b), .val (.int (Int32.ofNat m_)), .val (.int (Int32.ofNat m_)), .val (.int (Int32.ofNat m_)), s9] [])) _
    refine XS.iload Xv9.here hx rfl (hb hby d45_10) rfl ?_
    refine XS.iload Xv9.here hx rfl (hb hby d45_12) rfl ?_
    refine XS.icmpYes Xv9.here hx rfl (pc0 := 14) (pc' := 53) rfl (hb hby d45_14) rfl (flt (Int32.lt_irrefl : ¬ ((Int32.ofNat m_) < (Int32.ofNat m_)))).2.1 (by decide) (by decide) ?_
    refine XS.iload Xv9.here hx rfl (hb hby d45_53) rfl ?_
    show Steps _ _ _ (Tv9.setTop (mkF m 55 #[.val (.ref t), .val (.int (Int32.ofNat (f + m_))), .val (.ref b), .val (.int (Int32.ofNat m_)), .val (.int (Int32.ofNat m_)), .val (.int (Int32.ofNat m_)), s9] [(.int (Int32.ofNat m_))])) _
    exact retI Xv9 hx Bd.returns (hb hby d45_55) hr
  · show own_QCB Z b kb cs f m_ m_ h0 n0 _ Tv9.heap _
    rw [ev9]
    exact ⟨rfl, Nv9, ((Keep.refl h0 [b]).trans Kv9 (allS (P := fun zz => zz ∈ [b] ∨ h0.size ≤ zz) (Or.inl (tk 0 rfl)) all0)), Vv9⟩
theorem rmCBU (l : Launch) (Z : State) (a0 : Array Value) (hw : HW a0 Z) (ws : List Jvm.Cond) (G1 : Int32) (G3 : Value) (G4 : Value) (t : Addr) (k : ClassId) (cs : List Int32) (f : Nat) (m_ : Nat) (b : Addr) (kb : ClassId) (n : Nat) (h0 : Heap) (n0 : Nat) (Z0 : n0 ≤ h0.size) (EN : own_env Z G1 G3 G4) (X00 : Old Z n0 h0) (V_t : Arv Z h0 t k .byte (Int32.ofNat (2 * cs.length)) (own_wide cs) (.int 0)) (V_b : Arv Z h0 b kb .byte (Int32.ofNat m_) (own_lat ((cs.drop f).take 0)) (.int 0)) (g_b : n0 ≤ b) (htb : t ≠ b) (hcc : ∀ c ∈ cs, own_ch c) (h4 : cs.length ≤ 4) (hfm : f + m_ ≤ cs.length) (hq : ∀ i, i < n → ¬ ((255 : Int32) < (cs.getD (f + i) 0))) (hn : n < m_) (hbg : (255 : Int32) < (cs.getD (f + n) 0)) :
    MetFree l y_41 (head1 (Jvm.Cond.code y_41 jdk_52_method_22_code 7 (some .int) :: ws) (Rm 3 0 0 43)) (fun a_ U_ => a_ = #[(.ref t), (.int (Int32.ofNat f)), (.ref b), (.int 0), (.int (Int32.ofNat m_))] ∧ Z.Warmed39 U_.vm ∧ U_.heap = h0) (fun _ _ _ _ _ => True) (fun _ U_ o_ U1_ => ∃ v_ L_, o_ = .returned v_ ∧ own_QCB Z b kb cs f m_ n h0 n0 v_ U1_.heap L_ ∧ FrameEnd U_ o_ U1_ L_ (Rm 3 0 0 43).cells (Rm 3 0 0 43).slots) := by
  refine MetFree.of_bodySF (plainFor_of_name pn_45) hisR ?_
  intro p e s m args below meth c s₁ Bd hml0 hP hK
  obtain ⟨rfl, hZ, hh⟩ := hP
  have hx := Bd.exec
  have hby := Bd.bytes
  have hml : c.maxLocals = 7 := hml0
  have hown : s.vm.findClass "java/lang/StringUTF16" = some m.cls := findClass_of_methodNamed Bd.named
  have hnm := (name_of_methodNamed Bd.named Bd.method).1
  have X0 : Stand p l e (Rm 3 0 0 43) s m #[(.ref t), (.int (Int32.ofNat f)), (.ref b), (.int 0), (.int (Int32.ofNat m_))] below meth c s₁ [] 0 0 := Stand.of_body Bd
  have e0 : s₁.heap = h0 := by rw [← hh, Bd.state]; rfl
  have N0 := Fr.nil n0
  have pre0 : ∀ tt, Steps p.tables e below (s₁.setTop (mkF m 0 #[.val (.ref t), .val (.int (Int32.ofNat f)), .val (.ref b), .val (.int 0), .val (.int (Int32.ofNat m_)), .unset, .unset] [])) tt → Steps p.tables e below (s₁.setTop (entryFrame m #[(.ref t), (.int (Int32.ofNat f)), (.ref b), (.int 0), (.int (Int32.ofNat m_))] 7)) tt := fun tt kk => castTop (ef_45_rrrrr m t (Int32.ofNat f) b (0 : Int32) (Int32.ofNat m_)) kk
  have EN0 := EN
  obtain ⟨O2, P5, O4, rG3, O6, O7, O8⟩ := EN
  obtain ⟨_, _, ⟨T1, L1, k1, n1⟩, -, X1, ⟨Lc1, hQ1, l1, y1, z1⟩, st1⟩ := Jvm.LawKit.callS X0 hx (y := y_8) hown (mvT hZ (hw _ (tk 208 rfl))) (mvT hZ (hw _ (tk 209 rfl))) (mvT hZ (hw _ (tk 23 rfl))) (mvT hZ (hw _ (tk 210 rfl))) (by decide) (backOf (W := 0) (rmUOC l Z a0 hw [] G1 G3 G4 (Int32.ofNat f) (Int32.ofNat m_) t k cs.length (own_wide cs) h0 n0 Z0 EN0 X00 (own_or4 h4 (by omega) (by omega)) (by rw [own_sub (i := cs.length) (j := f) (by omega) (by omega)]; exact fun q => by have := (own_lt (by omega) (by omega)).mp q; omega) V_t (by omega)) hZ (hw _ (tk 210 rfl)) (hw _ (tk 23 rfl)) (by decide) (by decide)) (g := (mkF m 4 #[.val (.ref t), .val (.int (Int32.ofNat f)), .val (.ref b), .val (.int 0), .val (.int (Int32.ofNat m_)), .unset, .unset] [(.ref t), (.int (Int32.ofNat m_)), (.int (Int32.ofNat f))])) rfl (by rw [hml]; rfl) (argsL := [(.int (Int32.ofNat f)), (.int (Int32.ofNat m_)), (.ref t)]) (rest := []) (lenOf pd__II_B_V rfl) rfl (by show 2 * 0 + _ ≤ _; exact Nat.le_of_eq rfl) (hb hby d45_4) (fun _ _ => ⟨rfl, e0, (by decide : 0 + 0 ≤ _), (by decide : 0 + 0 ≤ _)⟩)
  dsimp only [Pt.U, Pt.locs, Pt.cells, Pt.slots] at X1 l1 y1 z1 st1 hQ1
  subst l1 y1 z1
  obtain ⟨rfl, Nq1, eq1⟩ := hQ1
  have N1 := Fr.app N0 Nq1
  obtain ⟨Tv9, hv9, Lv9, s9, Xv9, ev9, Nv9, Zv9, Ov9, Kv9, Vv9, Av9, h6, stv9⟩ := lpCB G1 G3 G4 t k cs f m_ b kb n0 hx hZ hw hby hml hown EN0 g_b htb hcc h4 hfm n (by omega) hq n T1 _ h0 0 .unset X1 eq1 N1 Z0 X00 V_t V_b One.u (by omega)
  obtain ⟨_, _, ⟨T31, L31, k31, n31⟩, -, X31, ⟨Lc31, hQ31, l31, y31, z31⟩, st31⟩ := Jvm.LawKit.callS Xv9 hx (y := y_17) hown (mvT hZ (hw _ (tk 176 rfl))) (mvT hZ (hw _ (tk 177 rfl))) (mvT hZ (hw _ (tk 23 rfl))) (mvT hZ (hw _ (tk 178 rfl))) (by decide) (backOf (W := 0) (rmGC l Z a0 hw [] G1 G3 G4 t k cs (f + n) hv9 n0 (Nat.le_trans Z0 Kv9.1) EN0 Ov9 Av9 (own_atch hcc (by omega)) (by omega) (by omega)) hZ (hw _ (tk 178 rfl)) (hw _ (tk 23 rfl)) (by decide) (by decide)) (g := (mkF m 19 #[.val (.ref t), .val (.int (Int32.ofNat (f + n))), .val (.ref b), .val (.int (Int32.ofNat n)), .val (.int (Int32.ofNat m_)), .val (.int (Int32.ofNat n)), s9] [(.int (Int32.ofNat (f + n))), (.ref t)])) rfl (by rw [hml]; rfl) (argsL := [(.ref t), (.int (Int32.ofNat (f + n)))]) (rest := []) (lenOf pd___BI_C rfl) rfl (by show 2 * 0 + _ ≤ _; exact Nat.le_of_eq rfl) (hb hby d45_19) (fun _ _ => ⟨rfl, ev9, (by decide : 0 + 0 ≤ _), (by decide : 0 + 0 ≤ _)⟩)
  dsimp only [Pt.U, Pt.locs, Pt.cells, Pt.slots] at X31 l31 y31 z31 st31 hQ31
  subst l31 y31 z31
  obtain ⟨rfl, Nq31, eq31⟩ := hQ31
  have N31 := Fr.app Nv9 Nq31
  obtain ⟨fs, hr, hrun, hended, hW, hsame⟩ := X31.leave (v := some (.int (Int32.ofNat n))) (fun h => by rw [Bd.returns] at h; cases h)
  refine ⟨_, _, pre0 _ ?_, hrun, hended, _, _, rfl, ?_, ⟨_, rfl⟩, hW, hsame.mono (by decide) (by decide)⟩
  · show Steps _ _ _ (s₁.setTop (mkF m 0 #[.val (.ref t), .val (.int (Int32.ofNat f)), .val (.ref b), .val (.int 0), .val (.int (Int32.ofNat m_)), .unset, .unset] [])) _
    refine XS.iloadN X0.here hx rfl (hb hby d45_0) rfl ?_
    refine XS.iload X0.here hx rfl (hb hby d45_1) rfl ?_
    refine XS.aloadN X0.here hx rfl (hb hby d45_3) rfl rfl ?_
    show Steps _ _ _ (s₁.setTop (mkF m 4 #[.val (.ref t), .val (.int (Int32.ofNat f)), .val (.ref b), .val (.int 0), .val (.int (Int32.ofNat m_)), .unset, .unset] [(.ref t), (.int (Int32.ofNat m_)), (.int (Int32.ofNat f))])) _
    refine st1 _ ?_
    show Steps _ _ _ (T1.setTop (mkF m 7 #[.val (.ref t), .val (.int (Int32.ofNat f)), .val (.ref b), .val (.int 0), .val (.int (Int32.ofNat m_)), .unset, .unset] [])) _
    refine XS.iconst X1.here hx rfl (hb hby d45_7) ?_
    refine XS.istore X1.here hx rfl (hb hby d45_8) rfl (l' := #[.val (.ref t), .val (.int (Int32.ofNat f)), .val (.ref b), .val (.int 0), .val (.int (Int32.ofNat m_)), .val (.int 0), .unset]) rfl ?_
    show Steps _ _ _ (T1.setTop (mkF m 10 #[.val (.ref t), .val (.int (Int32.ofNat (f + 0))), .val (.ref b), .val (.int (Int32.ofNat 0)), .val (.int (Int32.ofNat m_)), .val (.int (Int32.ofNat 0)), .unset] [])) _
    show Steps _ _ _ (T1.setTop (mkF m 10 #[.val (.ref t), .val (.int (Int32.ofNat (f + 0))), .val (.ref b), .val (.int (Int32.ofNat 0)), .val (.int (Int32.ofNat m_)), .val (.int (Int32.ofNat 0)), .unset] [])) _
    refine stv9 _ ?_
    show Steps _ _ _ (Tv9.setTop (mkF m 10 #[.val (.ref t), .val (.int (Int32.ofNat (f + n))), .val (.ref b), .val (.int (Int32.ofNat n)), .val (.int (Int32.ofNat m_)), .val (.int (Int32.ofNat n)), s9] [])) _
    refine XS.iload Xv9.here hx rfl (hb hby d45_10) rfl ?_
    refine XS.iload Xv9.here hx rfl (hb hby d45_12) rfl ?_
    refine XS.icmpNo Xv9.here hx rfl (hb hby d45_14) rfl (tlt ((own_lt (by omega) (by omega)).mpr hn)).2.1 ?_
    refine XS.aloadN Xv9.here hx rfl (hb hby d45_17) rfl rfl ?_
    refine XS.iloadN Xv9.here hx rfl (hb hby d45_18) rfl ?_
    show Steps _ _ _ (Tv9.setTop (mkF m 19 #[.val (.ref t), .val (.int (Int32.ofNat (f + n))), .val (.ref b), .val (.int (Int32.ofNat n)), .val (.int (Int32.ofNat m_)), .val (.int (Int32.ofNat n)), s9] [(.int (Int32.ofNat (f + n))), (.ref t)])) _
    refine st31 _ ?_
    show Steps _ _ _ (T31.setTop (mkF m 22 #[.val (.ref t), .val (.int (Int32.ofNat (f + n))), .val (.ref b), .val (.int (Int32.ofNat n)), .val (.int (Int32.ofNat m_)), .val (.int (Int32.ofNat n)), s9] [(.int (cs.getD (f + n) 0))])) _
    refine XS.istore X31.here hx rfl (hb hby d45_22) rfl (l' := #[.val (.ref t), .val (.int (Int32.ofNat (f + n))), .val (.ref b), .val (.int (Int32.ofNat n)), .val (.int (Int32.ofNat m_)), .val (.int (Int32.ofNat n)), .val (.int (cs.getD (f + n) 0))]) (own_os6 h6) ?_
    refine XS.iload X31.here hx rfl (hb hby d45_24) rfl ?_
    refine XS.sipush X31.here hx rfl (hb hby d45_26) ?_
    refine XS.icmpNo X31.here hx rfl (hb hby d45_29) rfl (tlt hbg).2.2.2 ?_
    refine XS.iload X31.here hx rfl (hb hby d45_32) rfl ?_
    show Steps _ _ _ (T31.setTop (mkF m 34 #[.val (.ref t), .val (.int (Int32.ofNat (f + n))), .val (.ref b), .val (.int (Int32.ofNat n)), .val (.int (Int32.ofNat m_)), .val (.int (Int32.ofNat n)), .val (.int (cs.getD (f + n) 0))] [(.int (Int32.ofNat n))])) _
    exact retI X31 hx Bd.returns (hb hby d45_34) hr
  · show own_QCB Z b kb cs f m_ n h0 n0 _ T31.heap _
    rw [eq31]
    exact ⟨rfl, N31, ((Keep.refl h0 [b]).trans Kv9 (allS (P := fun zz => zz ∈ [b] ∨ h0.size ≤ zz) (Or.inl (tk 0 rfl)) all0)), Vv9⟩
theorem own_dsg {cs : List Int32} {f m n : Nat} (h : n < m) : ((cs.drop f).take m).getD n 0 = cs.getD (f + n) 0 := by
  simp only [List.getD_eq_getElem?_getD, List.getElem?_take, List.getElem?_drop]
  rw [if_pos h]
theorem own_dsc {cs : List Int32} {f m : Nat} (h : ∀ c ∈ cs, own_ch c) : ∀ c ∈ (cs.drop f).take m, own_ch c := fun c q => h c (List.mem_of_mem_drop (List.mem_of_mem_take q))
theorem own_dsl {cs : List Int32} {f m : Nat} (hfm : f + m ≤ cs.length) (hcc : ∀ c ∈ cs, own_ch c) (hq : ∀ i, i < m → ¬ ((255 : Int32) < (cs.getD (f + i) 0))) : own_l1 ((cs.drop f).take m) := fun c hm => by
  obtain ⟨u, hu, e⟩ := List.getElem_of_mem hm
  have hu' : u < m := by rw [own_dl hfm] at hu; exact hu
  have e2 : ((cs.drop f).take m).getD u 0 = c := by rw [List.getD_eq_getElem?_getD, List.getElem?_eq_getElem hu]; exact e
  refine ⟨(own_dsc hcc c hm).1, ?_⟩
  rw [← e2, own_dsg hu']; exact hq u hu'
theorem own_cd1 {m : Nat} (h1 : 1 ≤ m) (h2 : m ≤ 4) : ((((Int32.ofNat m) - (Int32.ofNat (2 * m))).toUInt32 >>> ((31 : Int32) &&& 31).toUInt32).toInt32).toInt8.toInt32 = (1 : Int32) := by
  have t : ∀ m : Fin 4, ((((Int32.ofNat (m.val + 1)) - (Int32.ofNat (2 * (m.val + 1)))).toUInt32 >>> ((31 : Int32) &&& 31).toUInt32).toInt32).toInt8.toInt32 = (1 : Int32) := by decide +kernel
  have := t ⟨m - 1, by omega⟩
  rwa [show m - 1 + 1 = m by omega] at this
theorem rmNBg (l : Launch) (Z : State) (a0 : Array Value) (hw : HW a0 Z) (ws : List Jvm.Cond) (q : Nat) (h0 : Heap) (n0 : Nat) (Z0 : n0 ≤ h0.size) (hq4 : q ≤ 4) :
    MetFree l y_11 (head1 (Jvm.Cond.code y_11 jdk_52_method_3_code 1 (some .int) :: ws) (Rm 0 0 0 0)) (fun a_ U_ => a_ = #[(.int (Int32.ofNat q))] ∧ Z.Warmed39 U_.vm ∧ U_.heap = h0) (fun _ _ _ _ _ => True) (fun _ U_ o_ U1_ => ∃ v_ L_, o_ = .returned v_ ∧ own_Q Z (some (.int (Int32.ofNat (2 * q)))) h0 n0 v_ U1_.heap L_ ∧ FrameEnd U_ o_ U1_ L_ (Rm 0 0 0 0).cells (Rm 0 0 0 0).slots) := by
  refine MetFree.of_bodySF (plainFor_of_name pn_35) hisR ?_
  intro p e s m args below meth c s₁ Bd hml0 hP hK
  obtain ⟨rfl, hZ, hh⟩ := hP
  have hx := Bd.exec
  have hby := Bd.bytes
  have hml : c.maxLocals = 1 := hml0
  have hown : s.vm.findClass "java/lang/StringUTF16" = some m.cls := findClass_of_methodNamed Bd.named
  have hnm := (name_of_methodNamed Bd.named Bd.method).1
  have X0 : Stand p l e (Rm 0 0 0 0) s m #[(.int (Int32.ofNat q))] below meth c s₁ [] 0 0 := Stand.of_body Bd
  have e0 : s₁.heap = h0 := by rw [← hh, Bd.state]; rfl
  have N0 := Fr.nil n0
  have pre0 : ∀ tt, Steps p.tables e below (s₁.setTop (mkF m 0 #[.val (.int (Int32.ofNat q))] [])) tt → Steps p.tables e below (s₁.setTop (entryFrame m #[(.int (Int32.ofNat q))] 1)) tt := fun tt kk => castTop (ef_35_r m (Int32.ofNat q)) kk
  obtain ⟨fs, hr, hrun, hended, hW, hsame⟩ := X0.leave (v := some (.int (Int32.ofNat (2 * q)))) (fun h => by rw [Bd.returns] at h; cases h)
  refine ⟨_, _, pre0 _ ?_, hrun, hended, _, _, rfl, ?_, ⟨_, rfl⟩, hW, hsame.mono (by decide) (by decide)⟩
  · show Steps _ _ _ (s₁.setTop (mkF m 0 #[.val (.int (Int32.ofNat q))] [])) _
    refine XS.iloadN X0.here hx rfl (hb hby d35_0) rfl ?_
    refine XS.ifYes X0.here hx rfl (pc0 := 1) (pc' := 12) rfl (hb hby d35_1) rfl ((if0 _ _).trans (flt (own_n0 (by omega))).2.1) (by decide) (by decide) ?_
    refine XS.iloadN X0.here hx rfl (hb hby d35_12) rfl ?_
    show Steps _ _ _ (s₁.setTop (mkF m 13 #[.val (.int (Int32.ofNat q))] [(.int (Int32.ofNat q))])) _
    refine X0.ldcInt hx hown (mvT hZ (hw _ (tk 169 rfl))) (g := (mkF m 13 #[.val (.int (Int32.ofNat q))] [(.int (Int32.ofNat q))])) rfl (hb hby d35_13) _ ?_
    show Steps _ _ _ (s₁.setTop (mkF m 15 #[.val (.int (Int32.ofNat q))] [(.int 1073741823), (.int (Int32.ofNat q))])) _
    refine XS.icmpYes X0.here hx rfl (pc0 := 15) (pc' := 55) rfl (hb hby d35_15) rfl (tlt ((own_lt (j := 1073741823) (by omega) (by omega)).mpr (by omega))).1 (by decide) (by decide) ?_
    refine XS.iloadN X0.here hx rfl (hb hby d35_55) rfl ?_
    refine XS.iconst X0.here hx rfl (hb hby d35_56) ?_
    refine XS.ishl X0.here hx rfl (hb hby d35_57) rfl ?_
    show Steps _ _ _ (s₁.setTop (mkF m 58 #[.val (.int (Int32.ofNat q))] [(.int ((Int32.ofNat q) <<< ((1 : Int32) &&& 31)))])) _
    rw [(own_shl (by omega))]
    show Steps _ _ _ (s₁.setTop (mkF m 58 #[.val (.int (Int32.ofNat q))] [(.int (Int32.ofNat (2 * q)))])) _
    exact retI X0 hx Bd.returns (hb hby d35_58) hr
  · show own_Q Z (some (.int (Int32.ofNat (2 * q)))) h0 n0 _ s₁.heap _
    rw [e0]
    exact ⟨rfl, N0, rfl⟩
theorem d44_0 : decode jdk_52_method_17_code 0 = .ok (.iload_n 2, 1) := by decide +kernel
theorem d44_1 : decode jdk_52_method_17_code 1 = .ok (.newarray .byte, 2) := by decide +kernel
theorem d44_3 : decode jdk_52_method_17_code 3 = .ok (.astore_n 3, 1) := by decide +kernel
theorem d44_4 : decode jdk_52_method_17_code 4 = .ok (.aload_n 0, 1) := by decide +kernel
theorem d44_5 : decode jdk_52_method_17_code 5 = .ok (.iload_n 1, 1) := by decide +kernel
theorem d44_6 : decode jdk_52_method_17_code 6 = .ok (.aload_n 3, 1) := by decide +kernel
theorem d44_7 : decode jdk_52_method_17_code 7 = .ok (.iconst 0, 1) := by decide +kernel
theorem d44_8 : decode jdk_52_method_17_code 8 = .ok (.iload_n 2, 1) := by decide +kernel
theorem pd___BI_BII_I : parseMethodDescriptor "([BI[BII)I" = some ⟨[(.array .byte), .int, (.array .byte), .int, .int], some .int⟩ := by decide +kernel
theorem d44_9 : decode jdk_52_method_17_code 9 = .ok (.invokestatic 123, 3) := by decide +kernel
theorem d44_12 : decode jdk_52_method_17_code 12 = .ok (.istore 4, 2) := by decide +kernel
theorem d44_14 : decode jdk_52_method_17_code 14 = .ok (.iload 4, 2) := by decide +kernel
theorem d44_16 : decode jdk_52_method_17_code 16 = .ok (.iload_n 2, 1) := by decide +kernel
theorem d44_17 : decode jdk_52_method_17_code 17 = .ok (.if_icmp .eq 47, 3) := by decide +kernel
theorem d44_64 : decode jdk_52_method_17_code 64 = .ok (.aload_n 3, 1) := by decide +kernel
theorem d44_65 : decode jdk_52_method_17_code 65 = .ok (.areturn, 1) := by decide +kernel
theorem pn_44 : plainName "java/lang/StringUTF16" = true := by first | (simp [plainName, overriddenIn]; done) | decide +kernel
theorem ef_44_rrr (m : MethodId) (x0 : Addr) (x1 : Int32) (x2 : Int32) : entryFrame m #[(.ref x0), (.int x1), (.int x2)] 6 = mkF m 0 #[.val (.ref x0), .val (.int x1), .val (.int x2), .unset, .unset, .unset] [] := by first | (simp [entryFrame, mkF, argsToLocals, Value.category]; done) | rfl
theorem rmCELb (l : Launch) (Z : State) (a0 : Array Value) (hw : HW a0 Z) (ws : List Jvm.Cond) (G1 : Int32) (G3 : Value) (G4 : Value) (t : Addr) (k : ClassId) (cs : List Int32) (f : Nat) (m_ : Nat) (h0 : Heap) (n0 : Nat) (Z0 : n0 ≤ h0.size) (EN : own_env Z G1 G3 G4) (X00 : Old Z n0 h0) (V_t : Arv Z h0 t k .byte (Int32.ofNat (2 * cs.length)) (own_wide cs) (.int 0)) (hcc : ∀ c ∈ cs, own_ch c) (h4 : cs.length ≤ 4) (hfm : f + m_ ≤ cs.length) (hm1 : 1 ≤ m_) (hfs : f + m_ < cs.length) (hq : ∀ i, i < m_ → ¬ ((255 : Int32) < (cs.getD (f + i) 0))) :
    MetFree l y_42 (head1 (Jvm.Cond.code y_42 jdk_52_method_17_code 6 (some (.array .byte)) :: ws) (Rm 4 1 4 61)) (fun a_ U_ => a_ = #[(.ref t), (.int (Int32.ofNat f)), (.int (Int32.ofNat m_))] ∧ Z.Warmed39 U_.vm ∧ U_.heap = h0) (fun _ _ _ _ _ => True) (fun _ U_ o_ U1_ => ∃ v_ L_, o_ = .returned v_ ∧ own_QD2 Z (Int32.ofNat m_) (own_lat ((cs.drop f).take m_)) h0 n0 v_ U1_.heap L_ ∧ FrameEnd U_ o_ U1_ L_ (Rm 4 1 4 61).cells (Rm 4 1 4 61).slots) := by
  refine MetFree.of_bodySF (plainFor_of_name pn_44) hisR ?_
  intro p e s m args below meth c s₁ Bd hml0 hP hK
  obtain ⟨rfl, hZ, hh⟩ := hP
  have hx := Bd.exec
  have hby := Bd.bytes
  have hml : c.maxLocals = 6 := hml0
  have hown : s.vm.findClass "java/lang/StringUTF16" = some m.cls := findClass_of_methodNamed Bd.named
  have hnm := (name_of_methodNamed Bd.named Bd.method).1
  have X0 : Stand p l e (Rm 4 1 4 61) s m #[(.ref t), (.int (Int32.ofNat f)), (.int (Int32.ofNat m_))] below meth c s₁ [] 0 0 := Stand.of_body Bd
  have e0 : s₁.heap = h0 := by rw [← hh, Bd.state]; rfl
  have N0 := Fr.nil n0
  have pre0 : ∀ tt, Steps p.tables e below (s₁.setTop (mkF m 0 #[.val (.ref t), .val (.int (Int32.ofNat f)), .val (.int (Int32.ofNat m_)), .unset, .unset, .unset] [])) tt → Steps p.tables e below (s₁.setTop (entryFrame m #[(.ref t), (.int (Int32.ofNat f)), (.int (Int32.ofNat m_))] 6)) tt := fun tt kk => castTop (ef_44_rrr m t (Int32.ofNat f) (Int32.ofNat m_)) kk
  have EN0 := EN
  obtain ⟨O2, P5, O4, rG3, O6, O7, O8⟩ := EN
  obtain ⟨T1, h1, k1, X1, e1, E1, A1, st1⟩ := newP X0 hx hZ (hw _ (tk 25 rfl)) e0 (g := (mkF m 1 #[.val (.ref t), .val (.int (Int32.ofNat f)), .val (.int (Int32.ofNat m_)), .unset, .unset, .unset] [(.int (Int32.ofNat m_))])) rfl (hb hby d44_1) rfl (own_n0 (by omega)) (cap := 4) (by rw [own_clamp (by omega)]; omega) (by decide) (by decide) (by decide)
  obtain ⟨b1, g1⟩ : ∃ z, z = h0.size := ⟨_, rfl⟩
  rw [← g1] at A1 st1
  have g_b1 : n0 ≤ b1 := Nat.le_trans Z0 (Nat.le_of_eq g1.symm)
  have sz_b1 : h0.size ≤ b1 := Nat.le_trans (Nat.le_refl _) (Nat.le_of_eq g1.symm)
  have V1 : Arv Z h1 b1 k1 .byte (Int32.ofNat m_) (own_lat ((cs.drop f).take 0)) (.int 0) := Arv.new A1 (own_n0 (by omega))
  have f3 := (X00.ext E1)
  have f4 := (V_t.ext E1)
  obtain ⟨_, _, ⟨T2, L2, k2, n2⟩, -, X2, ⟨Lc2, hQ2, l2, y2, z2⟩, st2⟩ := Jvm.LawKit.callS X1 hx (y := y_41) hown (mvT hZ (hw _ (tk 205 rfl))) (mvT hZ (hw _ (tk 206 rfl))) (mvT hZ (hw _ (tk 23 rfl))) (mvT hZ (hw _ (tk 207 rfl))) (by decide) (backOf (W := 0) (rmCBL l Z a0 hw [] G1 G3 G4 t k cs f m_ b1 k1 h1 n0 (Nat.le_trans Z0 E1.1) EN0 f3 f4 V1 g_b1 (Nat.ne_of_lt (Nat.lt_of_lt_of_le V_t.lt (Nat.le_of_eq g1.symm))) hcc h4 hfm hq) hZ (hw _ (tk 207 rfl)) (hw _ (tk 23 rfl)) (by decide) (by decide)) (g := (mkF m 9 #[.val (.ref t), .val (.int (Int32.ofNat f)), .val (.int (Int32.ofNat m_)), .val (.ref b1), .unset, .unset] [(.int (Int32.ofNat m_)), (.int 0), (.ref b1), (.int (Int32.ofNat f)), (.ref t)])) rfl (by rw [hml]; rfl) (argsL := [(.ref t), (.int (Int32.ofNat f)), (.ref b1), (.int 0), (.int (Int32.ofNat m_))]) (rest := []) (lenOf pd___BI_BII_I rfl) rfl (by show 2 * 0 + _ ≤ _; exact Nat.le_of_eq rfl) (hb hby d44_9) (fun _ _ => ⟨rfl, e1, (by decide : 1 + 0 ≤ _), (by decide : 4 + 0 ≤ _)⟩)
  dsimp only [Pt.U, Pt.locs, Pt.cells, Pt.slots] at X2 l2 y2 z2 st2 hQ2
  subst l2 y2 z2
  obtain ⟨rfl, Nq2, Kq2, Vq2⟩ := hQ2
  have N2 := Fr.app N0 Nq2
  obtain ⟨fs, hr, hrun, hended, hW, hsame⟩ := X2.leave (v := some (.ref b1)) (fun h => by rw [Bd.returns] at h; cases h)
  refine ⟨_, _, pre0 _ ?_, hrun, hended, _, _, rfl, ?_, ⟨_, rfl⟩, hW, hsame.mono (by decide) (by decide)⟩
  · show Steps _ _ _ (s₁.setTop (mkF m 0 #[.val (.ref t), .val (.int (Int32.ofNat f)), .val (.int (Int32.ofNat m_)), .unset, .unset, .unset] [])) _
    refine XS.iloadN X0.here hx rfl (hb hby d44_0) rfl ?_
    show Steps _ _ _ (s₁.setTop (mkF m 1 #[.val (.ref t), .val (.int (Int32.ofNat f)), .val (.int (Int32.ofNat m_)), .unset, .unset, .unset] [(.int (Int32.ofNat m_))])) _
    refine st1 _ ?_
    show Steps _ _ _ (T1.setTop (mkF m 3 #[.val (.ref t), .val (.int (Int32.ofNat f)), .val (.int (Int32.ofNat m_)), .unset, .unset, .unset] [(.ref b1)])) _
    refine XS.astoreN X1.here hx rfl (hb hby d44_3) rfl rfl (l' := #[.val (.ref t), .val (.int (Int32.ofNat f)), .val (.int (Int32.ofNat m_)), .val (.ref b1), .unset, .unset]) rfl ?_
    refine XS.aloadN X1.here hx rfl (hb hby d44_4) rfl rfl ?_
    refine XS.iloadN X1.here hx rfl (hb hby d44_5) rfl ?_
    refine XS.aloadN X1.here hx rfl (hb hby d44_6) rfl rfl ?_
    refine XS.iconst X1.here hx rfl (hb hby d44_7) ?_
    refine XS.iloadN X1.here hx rfl (hb hby d44_8) rfl ?_
    show Steps _ _ _ (T1.setTop (mkF m 9 #[.val (.ref t), .val (.int (Int32.ofNat f)), .val (.int (Int32.ofNat m_)), .val (.ref b1), .unset, .unset] [(.int (Int32.ofNat m_)), (.int 0), (.ref b1), (.int (Int32.ofNat f)), (.ref t)])) _
    refine st2 _ ?_
    show Steps _ _ _ (T2.setTop (mkF m 12 #[.val (.ref t), .val (.int (Int32.ofNat f)), .val (.int (Int32.ofNat m_)), .val (.ref b1), .unset, .unset] [(.int (Int32.ofNat m_))])) _
    refine XS.istore X2.here hx rfl (hb hby d44_12) rfl (l' := #[.val (.ref t), .val (.int (Int32.ofNat f)), .val (.int (Int32.ofNat m_)), .val (.ref b1), .val (.int (Int32.ofNat m_)), .unset]) rfl ?_
    refine XS.iload X2.here hx rfl (hb hby d44_14) rfl ?_
    refine XS.iloadN X2.here hx rfl (hb hby d44_16) rfl ?_
    refine XS.icmpYes X2.here hx rfl (pc0 := 17) (pc' := 64) rfl (hb hby d44_17) rfl (teq (rfl : (Int32.ofNat m_) = (Int32.ofNat m_))).1 (by decide) (by decide) ?_
    refine XS.aloadN X2.here hx rfl (hb hby d44_64) rfl rfl ?_
    show Steps _ _ _ (T2.setTop (mkF m 65 #[.val (.ref t), .val (.int (Int32.ofNat f)), .val (.int (Int32.ofNat m_)), .val (.ref b1), .val (.int (Int32.ofNat m_)), .unset] [(.ref b1)])) _
    jvm_step X2.here [X2.here.top, hx, (hb hby d44_65), X2.method', Bd.returns, Value.isRef, FieldType.isReference]
    first | (intro acts; rw [hr _ acts rfl rfl rfl]) | rw [hr _ _ rfl rfl rfl]
    exact Steps.refl _
  · show own_QD2 Z (Int32.ofNat m_) (own_lat ((cs.drop f).take m_)) h0 n0 _ T2.heap _
    exact ⟨b1, k1, rfl, N2, g_b1, sz_b1, (((Keep.refl h0 []).ext E1).trans Kq2 (allS (P := fun zz => zz ∈ ([] : List Addr) ∨ h0.size ≤ zz) (Or.inr sz_b1) all0)), Vq2⟩
theorem d44_20 : decode jdk_52_method_17_code 20 = .ok (.aload_n 0, 1) := by decide +kernel
theorem d44_21 : decode jdk_52_method_17_code 21 = .ok (.iload_n 1, 1) := by decide +kernel
theorem d44_22 : decode jdk_52_method_17_code 22 = .ok (.iconst 1, 1) := by decide +kernel
theorem d44_23 : decode jdk_52_method_17_code 23 = .ok (.ishl, 1) := by decide +kernel
theorem d44_24 : decode jdk_52_method_17_code 24 = .ok (.iload_n 1, 1) := by decide +kernel
theorem d44_25 : decode jdk_52_method_17_code 25 = .ok (.iload_n 2, 1) := by decide +kernel
theorem d44_26 : decode jdk_52_method_17_code 26 = .ok (.iadd, 1) := by decide +kernel
theorem d44_27 : decode jdk_52_method_17_code 27 = .ok (.invokestatic 11, 3) := by decide +kernel
theorem d44_30 : decode jdk_52_method_17_code 30 = .ok (.invokestatic 126, 3) := by decide +kernel
theorem d44_33 : decode jdk_52_method_17_code 33 = .ok (.astore 5, 2) := by decide +kernel
theorem d44_35 : decode jdk_52_method_17_code 35 = .ok (.aload 5, 2) := by decide +kernel
theorem d44_37 : decode jdk_52_method_17_code 37 = .ok (.iload 4, 2) := by decide +kernel
theorem d44_39 : decode jdk_52_method_17_code 39 = .ok (.invokestatic 71, 3) := by decide +kernel
theorem d44_42 : decode jdk_52_method_17_code 42 = .ok (.sipush 255, 3) := by decide +kernel
theorem d44_45 : decode jdk_52_method_17_code 45 = .ok (.if_icmp .gt 16, 3) := by decide +kernel
theorem d44_61 : decode jdk_52_method_17_code 61 = .ok (.aload 5, 2) := by decide +kernel
theorem d44_63 : decode jdk_52_method_17_code 63 = .ok (.areturn, 1) := by decide +kernel
theorem rmCEUb (l : Launch) (Z : State) (a0 : Array Value) (hw : HW a0 Z) (ws : List Jvm.Cond) (G1 : Int32) (G3 : Value) (G4 : Value) (t : Addr) (k : ClassId) (cs : List Int32) (f : Nat) (m_ : Nat) (n : Nat) (h0 : Heap) (n0 : Nat) (Z0 : n0 ≤ h0.size) (EN : own_env Z G1 G3 G4) (X00 : Old Z n0 h0) (V_t : Arv Z h0 t k .byte (Int32.ofNat (2 * cs.length)) (own_wide cs) (.int 0)) (hcc : ∀ c ∈ cs, own_ch c) (h4 : cs.length ≤ 4) (hfm : f + m_ ≤ cs.length) (hm1 : 1 ≤ m_) (hfs : f + m_ < cs.length) (hq : ∀ i, i < n → ¬ ((255 : Int32) < (cs.getD (f + i) 0))) (hn : n < m_) (hbg : (255 : Int32) < (cs.getD (f + n) 0)) :
    MetFree l y_42 (head1 (Jvm.Cond.code y_42 jdk_52_method_17_code 6 (some (.array .byte)) :: ws) (Rm 4 2 20 61)) (fun a_ U_ => a_ = #[(.ref t), (.int (Int32.ofNat f)), (.int (Int32.ofNat m_))] ∧ Z.Warmed39 U_.vm ∧ U_.heap = h0) (fun _ _ _ _ _ => True) (fun _ U_ o_ U1_ => ∃ v_ L_, o_ = .returned v_ ∧ own_QD2 Z (Int32.ofNat (2 * ((cs.drop f).take m_).length)) (own_wide ((cs.drop f).take m_)) h0 n0 v_ U1_.heap L_ ∧ FrameEnd U_ o_ U1_ L_ (Rm 4 2 20 61).cells (Rm 4 2 20 61).slots) := by
  refine MetFree.of_bodySF (plainFor_of_name pn_44) hisR ?_
  intro p e s m args below meth c s₁ Bd hml0 hP hK
  obtain ⟨rfl, hZ, hh⟩ := hP
  have hx := Bd.exec
  have hby := Bd.bytes
  have hml : c.maxLocals = 6 := hml0
  have hown : s.vm.findClass "java/lang/StringUTF16" = some m.cls := findClass_of_methodNamed Bd.named
  have hnm := (name_of_methodNamed Bd.named Bd.method).1
  have X0 : Stand p l e (Rm 4 2 20 61) s m #[(.ref t), (.int (Int32.ofNat f)), (.int (Int32.ofNat m_))] below meth c s₁ [] 0 0 := Stand.of_body Bd
  have e0 : s₁.heap = h0 := by rw [← hh, Bd.state]; rfl
  have N0 := Fr.nil n0
  have pre0 : ∀ tt, Steps p.tables e below (s₁.setTop (mkF m 0 #[.val (.ref t), .val (.int (Int32.ofNat f)), .val (.int (Int32.ofNat m_)), .unset, .unset, .unset] [])) tt → Steps p.tables e below (s₁.setTop (entryFrame m #[(.ref t), (.int (Int32.ofNat f)), (.int (Int32.ofNat m_))] 6)) tt := fun tt kk => castTop (ef_44_rrr m t (Int32.ofNat f) (Int32.ofNat m_)) kk
  have EN0 := EN
  obtain ⟨O2, P5, O4, rG3, O6, O7, O8⟩ := EN
  obtain ⟨T1, h1, k1, X1, e1, E1, A1, st1⟩ := newP X0 hx hZ (hw _ (tk 25 rfl)) e0 (g := (mkF m 1 #[.val (.ref t), .val (.int (Int32.ofNat f)), .val (.int (Int32.ofNat m_)), .unset, .unset, .unset] [(.int (Int32.ofNat m_))])) rfl (hb hby d44_1) rfl (own_n0 (by omega)) (cap := 4) (by rw [own_clamp (by omega)]; omega) (by decide) (by decide) (by decide)
  obtain ⟨b1, g1⟩ : ∃ z, z = h0.size := ⟨_, rfl⟩
  rw [← g1] at A1 st1
  have g_b1 : n0 ≤ b1 := Nat.le_trans Z0 (Nat.le_of_eq g1.symm)
  have sz_b1 : h0.size ≤ b1 := Nat.le_trans (Nat.le_refl _) (Nat.le_of_eq g1.symm)
  have V1 : Arv Z h1 b1 k1 .byte (Int32.ofNat m_) (own_lat ((cs.drop f).take 0)) (.int 0) := Arv.new A1 (own_n0 (by omega))
  have f3 := (X00.ext E1)
  have f4 := (V_t.ext E1)
  obtain ⟨_, _, ⟨T2, L2, k2, n2⟩, -, X2, ⟨Lc2, hQ2, l2, y2, z2⟩, st2⟩ := Jvm.LawKit.callS X1 hx (y := y_41) hown (mvT hZ (hw _ (tk 205 rfl))) (mvT hZ (hw _ (tk 206 rfl))) (mvT hZ (hw _ (tk 23 rfl))) (mvT hZ (hw _ (tk 207 rfl))) (by decide) (backOf (W := 0) (rmCBU l Z a0 hw [] G1 G3 G4 t k cs f m_ b1 k1 n h1 n0 (Nat.le_trans Z0 E1.1) EN0 f3 f4 V1 g_b1 (Nat.ne_of_lt (Nat.lt_of_lt_of_le V_t.lt (Nat.le_of_eq g1.symm))) hcc h4 hfm hq hn hbg) hZ (hw _ (tk 207 rfl)) (hw _ (tk 23 rfl)) (by decide) (by decide)) (g := (mkF m 9 #[.val (.ref t), .val (.int (Int32.ofNat f)), .val (.int (Int32.ofNat m_)), .val (.ref b1), .unset, .unset] [(.int (Int32.ofNat m_)), (.int 0), (.ref b1), (.int (Int32.ofNat f)), (.ref t)])) rfl (by rw [hml]; rfl) (argsL := [(.ref t), (.int (Int32.ofNat f)), (.ref b1), (.int 0), (.int (Int32.ofNat m_))]) (rest := []) (lenOf pd___BI_BII_I rfl) rfl (by show 2 * 0 + _ ≤ _; exact Nat.le_of_eq rfl) (hb hby d44_9) (fun _ _ => ⟨rfl, e1, (by decide : 1 + 0 ≤ _), (by decide : 4 + 0 ≤ _)⟩)
  dsimp only [Pt.U, Pt.locs, Pt.cells, Pt.slots] at X2 l2 y2 z2 st2 hQ2
  subst l2 y2 z2
  obtain ⟨rfl, Nq2, Kq2, Vq2⟩ := hQ2
  have N2 := Fr.app N0 Nq2
  obtain ⟨_, _, ⟨T5, L5, k5, n5⟩, -, X5, ⟨Lc5, hQ5, l5, y5, z5⟩, st5⟩ := Jvm.LawKit.callS X2 hx (y := y_11) hown (mvT hZ (hw _ (tk 166 rfl))) (mvT hZ (hw _ (tk 167 rfl))) (mvT hZ (hw _ (tk 23 rfl))) (mvT hZ (hw _ (tk 168 rfl))) (by decide) (backOf (W := 2) (rmNBg l Z a0 hw [] (f + m_) T2.heap n0 (Nat.le_trans Z0 (Nat.le_trans E1.1 Kq2.1)) (by omega)) hZ (hw _ (tk 168 rfl)) (hw _ (tk 23 rfl)) (by decide) (by decide)) (g := (mkF m 27 #[.val (.ref t), .val (.int (Int32.ofNat f)), .val (.int (Int32.ofNat m_)), .val (.ref b1), .val (.int (Int32.ofNat n)), .unset] [(.int (Int32.ofNat (f + m_))), (.int (Int32.ofNat (2 * f))), (.ref t)])) rfl (by rw [hml]; rfl) (argsL := [(.int (Int32.ofNat (f + m_)))]) (rest := [(.int (Int32.ofNat (2 * f))), (.ref t)]) (lenOf pd__I_I rfl) rfl (by show 2 * 0 + _ ≤ _; exact Nat.le_of_eq rfl) (hb hby d44_27) (fun _ _ => ⟨rfl, rfl, (by decide : 1 + 0 ≤ _), (by decide : 4 + 0 ≤ _)⟩)
  dsimp only [Pt.U, Pt.locs, Pt.cells, Pt.slots] at X5 l5 y5 z5 st5 hQ5
  subst l5 y5 z5
  obtain ⟨rfl, Nq5, eq5⟩ := hQ5
  have N5 := Fr.app N2 Nq5
  have f7 := (f4.keep Kq2 (ninS (Nat.ne_of_lt (Nat.lt_of_lt_of_le V_t.lt (Nat.le_of_eq g1.symm))) nin0))
  obtain ⟨_, _, ⟨T6, L6, k6, n6⟩, -, X6, ⟨Lc6, hQ6, l6, y6, z6⟩, st6⟩ := Jvm.LawKit.callS X5 hx (y := y_40) hown (mvT hZ (hw _ (tk 217 rfl))) (mvT hZ (hw _ (tk 136 rfl))) (mvT hZ (hw _ (tk 137 rfl))) (mvT hZ (hw _ (tk 138 rfl))) (by decide) (backOf (W := 0) (rmCR l Z a0 hw [] t k (2 * cs.length) (own_wide cs) (2 * f) (2 * (f + m_)) T2.heap n0 (Nat.le_trans Z0 (Nat.le_trans E1.1 Kq2.1)) f7 (own_wide_len cs) (by omega) (by omega) (by omega)) hZ (hw _ (tk 138 rfl)) (hw _ (tk 137 rfl)) (by decide) (by decide)) (g := (mkF m 30 #[.val (.ref t), .val (.int (Int32.ofNat f)), .val (.int (Int32.ofNat m_)), .val (.ref b1), .val (.int (Int32.ofNat n)), .unset] [(.int (Int32.ofNat (2 * (f + m_)))), (.int (Int32.ofNat (2 * f))), (.ref t)])) rfl (by rw [hml]; rfl) (argsL := [(.ref t), (.int (Int32.ofNat (2 * f))), (.int (Int32.ofNat (2 * (f + m_))))]) (rest := []) (lenOf pd___BII__B rfl) rfl (by show 2 * 0 + _ ≤ _; exact Nat.le_of_eq rfl) (hb hby d44_30) (fun _ _ => ⟨rfl, eq5, (by decide : 1 + 1 ≤ _), (by decide : 4 + 16 ≤ _)⟩)
  dsimp only [Pt.U, Pt.locs, Pt.cells, Pt.slots] at X6 l6 y6 z6 st6 hQ6
  subst l6 y6 z6
  obtain ⟨t6, k6q, rfl, Nq6, gt6, sq6, Kq6, V6q⟩ := hQ6
  have N6 := Fr.app N5 Nq6
  have szt6 : h0.size ≤ t6 := Nat.le_trans (Nat.le_trans E1.1 Kq2.1) sq6
  have Vw8 : Arv Z T6.heap t6 k6q .byte (Int32.ofNat (2 * ((cs.drop f).take m_).length)) (own_wide ((cs.drop f).take m_)) (.int 0) := by
    have q_ := V6q
    rw [show 2 * (f + m_) - 2 * f = 2 * m_ by omega, own_wide_sub] at q_
    rw [own_dl hfm]; exact q_
  have f10 := ((f3.keep Kq2 (allS g_b1 all0)).keep Kq6 all0)
  obtain ⟨_, _, ⟨T9, L9, k9, n9⟩, -, X9, ⟨Lc9, hQ9, l9, y9, z9⟩, st9⟩ := Jvm.LawKit.callS X6 hx (y := y_17) hown (mvT hZ (hw _ (tk 176 rfl))) (mvT hZ (hw _ (tk 177 rfl))) (mvT hZ (hw _ (tk 23 rfl))) (mvT hZ (hw _ (tk 178 rfl))) (by decide) (backOf (W := 0) (rmGC l Z a0 hw [] G1 G3 G4 t6 k6q ((cs.drop f).take m_) n T6.heap n0 (Nat.le_trans Z0 (Nat.le_trans (Nat.le_trans E1.1 Kq2.1) Kq6.1)) EN0 f10 Vw8 (by rw [own_dsg hn]; exact own_atch hcc (by omega)) (by rw [own_dl hfm]; omega) (by rw [own_dl hfm]; exact hn)) hZ (hw _ (tk 178 rfl)) (hw _ (tk 23 rfl)) (by decide) (by decide)) (g := (mkF m 39 #[.val (.ref t), .val (.int (Int32.ofNat f)), .val (.int (Int32.ofNat m_)), .val (.ref b1), .val (.int (Int32.ofNat n)), .val (.ref t6)] [(.int (Int32.ofNat n)), (.ref t6)])) rfl (by rw [hml]; rfl) (argsL := [(.ref t6), (.int (Int32.ofNat n))]) (rest := []) (lenOf pd___BI_C rfl) rfl (by show 2 * 0 + _ ≤ _; exact Nat.le_of_eq rfl) (hb hby d44_39) (fun _ _ => ⟨rfl, rfl, (by decide : 2 + 0 ≤ _), (by decide : 20 + 0 ≤ _)⟩)
  dsimp only [Pt.U, Pt.locs, Pt.cells, Pt.slots] at X9 l9 y9 z9 st9 hQ9
  subst l9 y9 z9
  obtain ⟨rfl, Nq9, eq9⟩ := hQ9
  have N9 := Fr.app N6 Nq9
  obtain ⟨fs, hr, hrun, hended, hW, hsame⟩ := X9.leave (v := some (.ref t6)) (fun h => by rw [Bd.returns] at h; cases h)
  refine ⟨_, _, pre0 _ ?_, hrun, hended, _, _, rfl, ?_, ⟨_, rfl⟩, hW, hsame.mono (by decide) (by decide)⟩
  · show Steps _ _ _ (s₁.setTop (mkF m 0 #[.val (.ref t), .val (.int (Int32.ofNat f)), .val (.int (Int32.ofNat m_)), .unset, .unset, .unset] [])) _
    refine XS.iloadN X0.here hx rfl (hb hby d44_0) rfl ?_
    show Steps _ _ _ (s₁.setTop (mkF m 1 #[.val (.ref t), .val (.int (Int32.ofNat f)), .val (.int (Int32.ofNat m_)), .unset, .unset, .unset] [(.int (Int32.ofNat m_))])) _
    refine st1 _ ?_
    show Steps _ _ _ (T1.setTop (mkF m 3 #[.val (.ref t), .val (.int (Int32.ofNat f)), .val (.int (Int32.ofNat m_)), .unset, .unset, .unset] [(.ref b1)])) _
    refine XS.astoreN X1.here hx rfl (hb hby d44_3) rfl rfl (l' := #[.val (.ref t), .val (.int (Int32.ofNat f)), .val (.int (Int32.ofNat m_)), .val (.ref b1), .unset, .unset]) rfl ?_
    refine XS.aloadN X1.here hx rfl (hb hby d44_4) rfl rfl ?_
    refine XS.iloadN X1.here hx rfl (hb hby d44_5) rfl ?_
    refine XS.aloadN X1.here hx rfl (hb hby d44_6) rfl rfl ?_
    refine XS.iconst X1.here hx rfl (hb hby d44_7) ?_
    refine XS.iloadN X1.here hx rfl (hb hby d44_8) rfl ?_
    show Steps _ _ _ (T1.setTop (mkF m 9 #[.val (.ref t), .val (.int (Int32.ofNat f)), .val (.int (Int32.ofNat m_)), .val (.ref b1), .unset, .unset] [(.int (Int32.ofNat m_)), (.int 0), (.ref b1), (.int (Int32.ofNat f)), (.ref t)])) _
    refine st2 _ ?_
    show Steps _ _ _ (T2.setTop (mkF m 12 #[.val (.ref t), .val (.int (Int32.ofNat f)), .val (.int (Int32.ofNat m_)), .val (.ref b1), .unset, .unset] [(.int (Int32.ofNat n))])) _
    refine XS.istore X2.here hx rfl (hb hby d44_12) rfl (l' := #[.val (.ref t), .val (.int (Int32.ofNat f)), .val (.int (Int32.ofNat m_)), .val (.ref b1), .val (.int (Int32.ofNat n)), .unset]) rfl ?_
    refine XS.iload X2.here hx rfl (hb hby d44_14) rfl ?_
    refine XS.iloadN X2.here hx rfl (hb hby d44_16) rfl ?_
    refine XS.icmpNo X2.here hx rfl (hb hby d44_17) rfl (feq (fun q => by have := (own_eq (by omega) (by omega)).mp q; omega)).1 ?_
    refine XS.aloadN X2.here hx rfl (hb hby d44_20) rfl rfl ?_
    refine XS.iloadN X2.here hx rfl (hb hby d44_21) rfl ?_
    refine XS.iconst X2.here hx rfl (hb hby d44_22) ?_
    refine XS.ishl X2.here hx rfl (hb hby d44_23) rfl ?_
    show Steps _ _ _ (T2.setTop (mkF m 24 #[.val (.ref t), .val (.int (Int32.ofNat f)), .val (.int (Int32.ofNat m_)), .val (.ref b1), .val (.int (Int32.ofNat n)), .unset] [(.int ((Int32.ofNat f) <<< ((1 : Int32) &&& 31))), (.ref t)])) _
    rw [(own_shl (by omega))]
    show Steps _ _ _ (T2.setTop (mkF m 24 #[.val (.ref t), .val (.int (Int32.ofNat f)), .val (.int (Int32.ofNat m_)), .val (.ref b1), .val (.int (Int32.ofNat n)), .unset] [(.int (Int32.ofNat (2 * f))), (.ref t)])) _
    refine XS.iloadN X2.here hx rfl (hb hby d44_24) rfl ?_
    refine XS.iloadN X2.here hx rfl (hb hby d44_25) rfl ?_
    refine XS.iadd X2.here hx rfl (hb hby d44_26) rfl ?_
    show Steps _ _ _ (T2.setTop (mkF m 27 #[.val (.ref t), .val (.int (Int32.ofNat f)), .val (.int (Int32.ofNat m_)), .val (.ref b1), .val (.int (Int32.ofNat n)), .unset] [(.int ((Int32.ofNat f) + (Int32.ofNat m_))), (.int (Int32.ofNat (2 * f))), (.ref t)])) _
    rw [(own_add (i := f) (j := m_))]
    show Steps _ _ _ (T2.setTop (mkF m 27 #[.val (.ref t), .val (.int (Int32.ofNat f)), .val (.int (Int32.ofNat m_)), .val (.ref b1), .val (.int (Int32.ofNat n)), .unset] [(.int (Int32.ofNat (f + m_))), (.int (Int32.ofNat (2 * f))), (.ref t)])) _
    refine st5 _ ?_
    show Steps _ _ _ (T5.setTop (mkF m 30 #[.val (.ref t), .val (.int (Int32.ofNat f)), .val (.int (Int32.ofNat m_)), .val (.ref b1), .val (.int (Int32.ofNat n)), .unset] [(.int (Int32.ofNat (2 * (f + m_)))), (.int (Int32.ofNat (2 * f))), (.ref t)])) _
    refine st6 _ ?_
    show Steps _ _ _ (T6.setTop (mkF m 33 #[.val (.ref t), .val (.int (Int32.ofNat f)), .val (.int (Int32.ofNat m_)), .val (.ref b1), .val (.int (Int32.ofNat n)), .unset] [(.ref t6)])) _
    refine XS.astore X6.here hx rfl (hb hby d44_33) rfl rfl (l' := #[.val (.ref t), .val (.int (Int32.ofNat f)), .val (.int (Int32.ofNat m_)), .val (.ref b1), .val (.int (Int32.ofNat n)), .val (.ref t6)]) rfl ?_
    refine XS.aload X6.here hx rfl (hb hby d44_35) rfl rfl ?_
    refine XS.iload X6.here hx rfl (hb hby d44_37) rfl ?_
    show Steps _ _ _ (T6.setTop (mkF m 39 #[.val (.ref t), .val (.int (Int32.ofNat f)), .val (.int (Int32.ofNat m_)), .val (.ref b1), .val (.int (Int32.ofNat n)), .val (.ref t6)] [(.int (Int32.ofNat n)), (.ref t6)])) _
    refine st9 _ ?_
    show Steps _ _ _ (T9.setTop (mkF m 42 #[.val (.ref t), .val (.int (Int32.ofNat f)), .val (.int (Int32.ofNat m_)), .val (.ref b1), .val (.int (Int32.ofNat n)), .val (.ref t6)] [(.int (((cs.drop f).take m_).getD n 0))])) _
    refine XS.sipush X9.here hx rfl (hb hby d44_42) ?_
    refine XS.icmpYes X9.here hx rfl (pc0 := 45) (pc' := 61) rfl (hb hby d44_45) rfl (tlt (by rw [own_dsg hn]; exact hbg)).2.2.1 (by decide) (by decide) ?_
    refine XS.aload X9.here hx rfl (hb hby d44_61) rfl rfl ?_
    show Steps _ _ _ (T9.setTop (mkF m 63 #[.val (.ref t), .val (.int (Int32.ofNat f)), .val (.int (Int32.ofNat m_)), .val (.ref b1), .val (.int (Int32.ofNat n)), .val (.ref t6)] [(.ref t6)])) _
    jvm_step X9.here [X9.here.top, hx, (hb hby d44_63), X9.method', Bd.returns, Value.isRef, FieldType.isReference]
    first | (intro acts; rw [hr _ acts rfl rfl rfl]) | rw [hr _ _ rfl rfl rfl]
    exact Steps.refl _
  · show own_QD2 Z (Int32.ofNat (2 * ((cs.drop f).take m_).length)) (own_wide ((cs.drop f).take m_)) h0 n0 _ T9.heap _
    rw [eq9]
    exact ⟨t6, k6q, rfl, N9, gt6, szt6, ((((Keep.refl h0 []).ext E1).trans Kq2 (allS (P := fun zz => zz ∈ ([] : List Addr) ∨ h0.size ≤ zz) (Or.inr sz_b1) all0)).trans Kq6 all0), Vw8⟩
theorem rmCNL (l : Launch) (Z : State) (a0 : Array Value) (hw : HW a0 Z) (ws : List Jvm.Cond) (t : Addr) (k : ClassId) (cs : List Int32) (f : Nat) (m_ : Nat) (h0 : Heap) (n0 : Nat) (Z0 : n0 ≤ h0.size) (V_t : Arv Z h0 t k .byte (Int32.ofNat m_) (own_lat ((cs.drop f).take m_)) (.int 0)) (hfm : f + m_ ≤ cs.length) (hm1 : 1 ≤ m_) (h4 : cs.length ≤ 4) :
    MetFree l y_23 (head1 (Jvm.Cond.code y_23 jdk_52_method_15_code 2 (some .byte) :: ws) (Rm 0 0 0 0)) (fun a_ U_ => a_ = #[(.ref t), (.int (Int32.ofNat m_))] ∧ Z.Warmed39 U_.vm ∧ U_.heap = h0) (fun _ _ _ _ _ => True) (fun _ U_ o_ U1_ => ∃ v_ L_, o_ = .returned v_ ∧ own_Q Z (some (.int 0)) h0 n0 v_ U1_.heap L_ ∧ FrameEnd U_ o_ U1_ L_ (Rm 0 0 0 0).cells (Rm 0 0 0 0).slots) := by
  refine MetFree.of_bodySF (plainFor_of_name pn_7) hisR ?_
  intro p e s m args below meth c s₁ Bd hml0 hP hK
  obtain ⟨rfl, hZ, hh⟩ := hP
  have hx := Bd.exec
  have hby := Bd.bytes
  have hml : c.maxLocals = 2 := hml0
  have hown : s.vm.findClass "java/lang/StringUTF16" = some m.cls := findClass_of_methodNamed Bd.named
  have hnm := (name_of_methodNamed Bd.named Bd.method).1
  have X0 : Stand p l e (Rm 0 0 0 0) s m #[(.ref t), (.int (Int32.ofNat m_))] below meth c s₁ [] 0 0 := Stand.of_body Bd
  have e0 : s₁.heap = h0 := by rw [← hh, Bd.state]; rfl
  have N0 := Fr.nil n0
  have pre0 : ∀ tt, Steps p.tables e below (s₁.setTop (mkF m 0 #[.val (.ref t), .val (.int (Int32.ofNat m_))] [])) tt → Steps p.tables e below (s₁.setTop (entryFrame m #[(.ref t), (.int (Int32.ofNat m_))] 2)) tt := fun tt kk => castTop (ef_7_rr m t (Int32.ofNat m_)) kk
  obtain ⟨c1, Ar1, -, S1, M1, -, -⟩ := id V_t
  obtain ⟨fs, hr, hrun, hended, hW, hsame⟩ := X0.leave (v := some (.int 0)) (fun h => by rw [Bd.returns] at h; cases h)
  refine ⟨_, _, pre0 _ ?_, hrun, hended, _, _, rfl, ?_, ⟨_, rfl⟩, hW, hsame.mono (by decide) (by decide)⟩
  · show Steps _ _ _ (s₁.setTop (mkF m 0 #[.val (.ref t), .val (.int (Int32.ofNat m_))] [])) _
    refine XS.iloadN X0.here hx rfl (hb hby d7_0) rfl ?_
    refine XS.aloadN X0.here hx rfl (hb hby d7_1) rfl rfl ?_
    show Steps _ _ _ (s₁.setTop (mkF m 2 #[.val (.ref t), .val (.int (Int32.ofNat m_))] [(.ref t), (.int (Int32.ofNat m_))])) _
    refine X0.arraylength hx (by rw [e0]; exact Ar1.1) (State.isArrayOf_alike hZ.alike Ar1.2.1) (g := (mkF m 2 #[.val (.ref t), .val (.int (Int32.ofNat m_))] [(.ref t), (.int (Int32.ofNat m_))])) rfl rfl (hb hby d7_2) _ ?_
    rw [len_of S1 M1]
    show Steps _ _ _ (s₁.setTop (mkF m 3 #[.val (.ref t), .val (.int (Int32.ofNat m_))] [(.int (Int32.ofNat m_)), (.int (Int32.ofNat m_))])) _
    refine XS.isub X0.here hx rfl (hb hby d7_3) rfl ?_
    show Steps _ _ _ (s₁.setTop (mkF m 4 #[.val (.ref t), .val (.int (Int32.ofNat m_))] [(.int ((Int32.ofNat m_) - (Int32.ofNat m_)))])) _
    rw [(Int32.sub_self (Int32.ofNat m_))]
    show Steps _ _ _ (s₁.setTop (mkF m 4 #[.val (.ref t), .val (.int (Int32.ofNat m_))] [(.int 0)])) _
    refine XS.bipush X0.here hx rfl (hb hby d7_4) ?_
    refine XS.iushr X0.here hx rfl (hb hby d7_6) rfl ?_
    show Steps _ _ _ (s₁.setTop (mkF m 7 #[.val (.ref t), .val (.int (Int32.ofNat m_))] [(.int (((0 : Int32).toUInt32 >>> ((31 : Int32) &&& 31).toUInt32).toInt32))])) _
    rw [(by decide : (((0 : Int32).toUInt32 >>> ((31 : Int32) &&& 31).toUInt32).toInt32) = (0 : Int32))]
    show Steps _ _ _ (s₁.setTop (mkF m 7 #[.val (.ref t), .val (.int (Int32.ofNat m_))] [(.int 0)])) _
    refine XS.i2b X0.here hx rfl (hb hby d7_7) rfl ?_
    show Steps _ _ _ (s₁.setTop (mkF m 8 #[.val (.ref t), .val (.int (Int32.ofNat m_))] [(.int ((0 : Int32).toInt8.toInt32))])) _
    rw [(by decide : ((0 : Int32).toInt8.toInt32) = (0 : Int32))]
    show Steps _ _ _ (s₁.setTop (mkF m 8 #[.val (.ref t), .val (.int (Int32.ofNat m_))] [(.int 0)])) _
    exact retN X0 hx (t := .byte) Bd.returns (by simp) (hb hby d7_8) hr
  · show own_Q Z (some (.int 0)) h0 n0 _ s₁.heap _
    rw [e0]
    exact ⟨rfl, N0, rfl⟩
theorem rmCNU (l : Launch) (Z : State) (a0 : Array Value) (hw : HW a0 Z) (ws : List Jvm.Cond) (t : Addr) (k : ClassId) (cs : List Int32) (f : Nat) (m_ : Nat) (h0 : Heap) (n0 : Nat) (Z0 : n0 ≤ h0.size) (V_t : Arv Z h0 t k .byte (Int32.ofNat (2 * ((cs.drop f).take m_).length)) (own_wide ((cs.drop f).take m_)) (.int 0)) (hfm : f + m_ ≤ cs.length) (hm1 : 1 ≤ m_) (h4 : cs.length ≤ 4) :
    MetFree l y_23 (head1 (Jvm.Cond.code y_23 jdk_52_method_15_code 2 (some .byte) :: ws) (Rm 0 0 0 0)) (fun a_ U_ => a_ = #[(.ref t), (.int (Int32.ofNat m_))] ∧ Z.Warmed39 U_.vm ∧ U_.heap = h0) (fun _ _ _ _ _ => True) (fun _ U_ o_ U1_ => ∃ v_ L_, o_ = .returned v_ ∧ own_Q Z (some (.int 1)) h0 n0 v_ U1_.heap L_ ∧ FrameEnd U_ o_ U1_ L_ (Rm 0 0 0 0).cells (Rm 0 0 0 0).slots) := by
  refine MetFree.of_bodySF (plainFor_of_name pn_7) hisR ?_
  intro p e s m args below meth c s₁ Bd hml0 hP hK
  obtain ⟨rfl, hZ, hh⟩ := hP
  have hx := Bd.exec
  have hby := Bd.bytes
  have hml : c.maxLocals = 2 := hml0
  have hown : s.vm.findClass "java/lang/StringUTF16" = some m.cls := findClass_of_methodNamed Bd.named
  have hnm := (name_of_methodNamed Bd.named Bd.method).1
  have X0 : Stand p l e (Rm 0 0 0 0) s m #[(.ref t), (.int (Int32.ofNat m_))] below meth c s₁ [] 0 0 := Stand.of_body Bd
  have e0 : s₁.heap = h0 := by rw [← hh, Bd.state]; rfl
  have N0 := Fr.nil n0
  have pre0 : ∀ tt, Steps p.tables e below (s₁.setTop (mkF m 0 #[.val (.ref t), .val (.int (Int32.ofNat m_))] [])) tt → Steps p.tables e below (s₁.setTop (entryFrame m #[(.ref t), (.int (Int32.ofNat m_))] 2)) tt := fun tt kk => castTop (ef_7_rr m t (Int32.ofNat m_)) kk
  obtain ⟨c1, Ar1, -, S1, M1, -, -⟩ := id V_t
  obtain ⟨fs, hr, hrun, hended, hW, hsame⟩ := X0.leave (v := some (.int 1)) (fun h => by rw [Bd.returns] at h; cases h)
  refine ⟨_, _, pre0 _ ?_, hrun, hended, _, _, rfl, ?_, ⟨_, rfl⟩, hW, hsame.mono (by decide) (by decide)⟩
  · show Steps _ _ _ (s₁.setTop (mkF m 0 #[.val (.ref t), .val (.int (Int32.ofNat m_))] [])) _
    refine XS.iloadN X0.here hx rfl (hb hby d7_0) rfl ?_
    refine XS.aloadN X0.here hx rfl (hb hby d7_1) rfl rfl ?_
    show Steps _ _ _ (s₁.setTop (mkF m 2 #[.val (.ref t), .val (.int (Int32.ofNat m_))] [(.ref t), (.int (Int32.ofNat m_))])) _
    refine X0.arraylength hx (by rw [e0]; exact Ar1.1) (State.isArrayOf_alike hZ.alike Ar1.2.1) (g := (mkF m 2 #[.val (.ref t), .val (.int (Int32.ofNat m_))] [(.ref t), (.int (Int32.ofNat m_))])) rfl rfl (hb hby d7_2) _ ?_
    rw [len_of S1 M1]
    show Steps _ _ _ (s₁.setTop (mkF m 3 #[.val (.ref t), .val (.int (Int32.ofNat m_))] [(.int (Int32.ofNat (2 * ((cs.drop f).take m_).length))), (.int (Int32.ofNat m_))])) _
    refine XS.isub X0.here hx rfl (hb hby d7_3) rfl ?_
    refine XS.bipush X0.here hx rfl (hb hby d7_4) ?_
    refine XS.iushr X0.here hx rfl (hb hby d7_6) rfl ?_
    refine XS.i2b X0.here hx rfl (hb hby d7_7) rfl ?_
    show Steps _ _ _ (s₁.setTop (mkF m 8 #[.val (.ref t), .val (.int (Int32.ofNat m_))] [(.int (((((Int32.ofNat m_) - (Int32.ofNat (2 * ((cs.drop f).take m_).length))).toUInt32 >>> ((31 : Int32) &&& 31).toUInt32).toInt32).toInt8.toInt32))])) _
    rw [(show (((((Int32.ofNat m_) - (Int32.ofNat (2 * ((cs.drop f).take m_).length))).toUInt32 >>> ((31 : Int32) &&& 31).toUInt32).toInt32).toInt8.toInt32) = (1 : Int32) by rw [own_dl hfm]; exact own_cd1 hm1 (by omega))]
    show Steps _ _ _ (s₁.setTop (mkF m 8 #[.val (.ref t), .val (.int (Int32.ofNat m_))] [(.int 1)])) _
    exact retN X0 hx (t := .byte) Bd.returns (by simp) (hb hby d7_8) hr
  · show own_Q Z (some (.int 1)) h0 n0 _ s₁.heap _
    rw [e0]
    exact ⟨rfl, N0, rfl⟩
def own_QBB (Z : State) (x b : Addr) (cd : Int32) (h0 : Heap) (n0 : Nat) (v : Option Value) (h : Heap) (L : List Loc) : Prop := v = none ∧ Fr n0 L ∧ Keep h0 h [x] ∧ Exa Z h x "java/lang/String" ∧ Fld Z h x "java/lang/String" "value" "[B" (.ref b) ∧ Fld Z h x "java/lang/String" "coder" "B" (.int cd)
theorem d31_0 : decode jdk_42_method_151_code 0 = .ok (.aload_n 0, 1) := by decide +kernel
theorem d31_1 : decode jdk_42_method_151_code 1 = .ok (.invokespecial 1, 3) := by decide +kernel
theorem d31_4 : decode jdk_42_method_151_code 4 = .ok (.aload_n 0, 1) := by decide +kernel
theorem d31_5 : decode jdk_42_method_151_code 5 = .ok (.aload_n 1, 1) := by decide +kernel
theorem d31_6 : decode jdk_42_method_151_code 6 = .ok (.putfield 9, 3) := by decide +kernel
theorem d31_9 : decode jdk_42_method_151_code 9 = .ok (.aload_n 0, 1) := by decide +kernel
theorem d31_10 : decode jdk_42_method_151_code 10 = .ok (.iload_n 2, 1) := by decide +kernel
theorem d31_11 : decode jdk_42_method_151_code 11 = .ok (.putfield 15, 3) := by decide +kernel
theorem d31_14 : decode jdk_42_method_151_code 14 = .ok (.return_, 1) := by decide +kernel
theorem pn_31 : plainName "java/lang/String" = true := by first | (simp [plainName, overriddenIn]; done) | decide +kernel
theorem ef_31_rrr (m : MethodId) (x0 : Addr) (x1 : Addr) (x2 : Int32) : entryFrame m #[(.ref x0), (.ref x1), (.int x2)] 3 = mkF m 0 #[.val (.ref x0), .val (.ref x1), .val (.int x2)] [] := by first | (simp [entryFrame, mkF, argsToLocals, Value.category]; done) | rfl
theorem rmBB0 (l : Launch) (Z : State) (a0 : Array Value) (hw : HW a0 Z) (ws : List Jvm.Cond) (x : Addr) (b : Addr) (h0 : Heap) (n0 : Nat) (Z0 : n0 ≤ h0.size) (E_x : Exa Z h0 x "java/lang/String") (F_coder_x : Fld Z h0 x "java/lang/String" "coder" "B" (.int 0)) (F_value_x : Fld Z h0 x "java/lang/String" "value" "[B" .null) (g_x : n0 ≤ x) :
    MetFree l y_43 (head1 (Jvm.Cond.code y_43 jdk_42_method_151_code 3 none :: ws) (Rm 1 0 0 12)) (fun a_ U_ => a_ = #[(.ref x), (.ref b), (.int 0)] ∧ Z.Warmed39 U_.vm ∧ U_.heap = h0) (fun _ _ _ _ _ => True) (fun _ U_ o_ U1_ => ∃ v_ L_, o_ = .returned v_ ∧ own_QBB Z x b (0 : Int32) h0 n0 v_ U1_.heap L_ ∧ FrameEnd U_ o_ U1_ L_ (Rm 1 0 0 12).cells (Rm 1 0 0 12).slots) := by
  refine MetFree.of_bodySF (plainFor_of_name pn_31) hisR ?_
  intro p e s m args below meth c s₁ Bd hml0 hP hK
  obtain ⟨rfl, hZ, hh⟩ := hP
  have hx := Bd.exec
  have hby := Bd.bytes
  have hml : c.maxLocals = 3 := hml0
  have hown : s.vm.findClass "java/lang/String" = some m.cls := findClass_of_methodNamed Bd.named
  have hnm := (name_of_methodNamed Bd.named Bd.method).1
  have X0 : Stand p l e (Rm 1 0 0 12) s m #[(.ref x), (.ref b), (.int 0)] below meth c s₁ [] 0 0 := Stand.of_body Bd
  have e0 : s₁.heap = h0 := by rw [← hh, Bd.state]; rfl
  have N0 := Fr.nil n0
  have pre0 : ∀ tt, Steps p.tables e below (s₁.setTop (mkF m 0 #[.val (.ref x), .val (.ref b), .val (.int 0)] [])) tt → Steps p.tables e below (s₁.setTop (entryFrame m #[(.ref x), (.ref b), (.int 0)] 3)) tt := fun tt kk => castTop (ef_31_rrr m x b (0 : Int32)) kk
  obtain ⟨T1, X1, e1, st1⟩ := initO X0 hx hZ hown (hw _ (tk 17 rfl)) (hw _ (tk 18 rfl)) (hw _ (tk 19 rfl)) e0 (g := (mkF m 1 #[.val (.ref x), .val (.ref b), .val (.int 0)] [(.ref x)])) rfl (by rw [hml]; rfl) rfl (hb hby d31_1) (by decide) (W := 0) (by show 2 * 0 + _ ≤ _; exact Nat.le_of_eq rfl) (by decide)
  obtain ⟨T2, h2, X2, e2, W2, st2⟩ := putF X1 hx hZ hown (host := "") (Or.inl (hw _ (tk 34 rfl))) Via.refl e1 F_value_x E_x (Or.inr ⟨(hw _ (tk 35 rfl)), rfl, hnm⟩) (hw _ (tk 8 rfl)) (ty := (.array .byte)) (by decide) rfl rfl (g := (mkF m 6 #[.val (.ref x), .val (.ref b), .val (.int 0)] [(.ref b), (.ref x)])) rfl rfl (hb hby d31_6)
  have Fw2 := F_value_x.same W2
  have N2 := Fr.snoc X2 N0 g_x
  have f4 := (E_x.wr W2)
  have f5 := (F_coder_x.other W2 (Or.inr (slot_ne (Or.inr (hw _ (tk 33 rfl))) (Or.inr (hw _ (tk 35 rfl))) (by decide) (t := .byte) (t' := (.array .byte)) (by decide) (by decide))))
  obtain ⟨T3, h3, X3, e3, W3, st3⟩ := putFN X2 hx hZ hown (hw _ (tk 32 rfl)) Via.refl e2 f5 f4 (Or.inr ⟨(hw _ (tk 33 rfl)), rfl, hnm⟩) (hw _ (tk 8 rfl)) (ty := .byte) (v' := (.int 0)) (by decide) rfl (by decide) (g := (mkF m 11 #[.val (.ref x), .val (.ref b), .val (.int 0)] [(.int 0), (.ref x)])) rfl rfl (hb hby d31_11)
  have Fw3 := f5.same W3
  have N3 := Fr.snoc X3 N2 g_x
  have f6 := (f4.wr W3)
  have f7 := (Fw2.other W3 (Or.inr (slot_ne (Or.inr (hw _ (tk 35 rfl))) (Or.inr (hw _ (tk 33 rfl))) (by decide) (t := (.array .byte)) (t' := .byte) (by decide) (by decide))))
  obtain ⟨fs, hr, hrun, hended, hW, hsame⟩ := X3.leave (v := none) (fun _ => rfl)
  refine ⟨_, _, pre0 _ ?_, hrun, hended, _, _, rfl, ?_, ⟨_, rfl⟩, hW, hsame.mono (by decide) (by decide)⟩
  · show Steps _ _ _ (s₁.setTop (mkF m 0 #[.val (.ref x), .val (.ref b), .val (.int 0)] [])) _
    refine XS.aloadN X0.here hx rfl (hb hby d31_0) rfl rfl ?_
    show Steps _ _ _ (s₁.setTop (mkF m 1 #[.val (.ref x), .val (.ref b), .val (.int 0)] [(.ref x)])) _
    refine st1 _ ?_
    show Steps _ _ _ (T1.setTop (mkF m 4 #[.val (.ref x), .val (.ref b), .val (.int 0)] [])) _
    refine XS.aloadN X1.here hx rfl (hb hby d31_4) rfl rfl ?_
    refine XS.aloadN X1.here hx rfl (hb hby d31_5) rfl rfl ?_
    show Steps _ _ _ (T1.setTop (mkF m 6 #[.val (.ref x), .val (.ref b), .val (.int 0)] [(.ref b), (.ref x)])) _
    refine st2 _ ?_
    show Steps _ _ _ (T2.setTop (mkF m 9 #[.val (.ref x), .val (.ref b), .val (.int 0)] [])) _
    refine XS.aloadN X2.here hx rfl (hb hby d31_9) rfl rfl ?_
    refine XS.iloadN X2.here hx rfl (hb hby d31_10) rfl ?_
    show Steps _ _ _ (T2.setTop (mkF m 11 #[.val (.ref x), .val (.ref b), .val (.int 0)] [(.int 0), (.ref x)])) _
    refine st3 _ ?_
    show Steps _ _ _ (T3.setTop (mkF m 14 #[.val (.ref x), .val (.ref b), .val (.int 0)] [])) _
    exact X3.returnOut hx Bd.returns (hb hby d31_14) hr
  · show own_QBB Z x b (0 : Int32) h0 n0 _ T3.heap _
    rw [e3]
    exact ⟨rfl, N3, (((Keep.refl h0 [x]).wr W2 (Or.inl (tk 0 rfl))).wr W3 (Or.inl (tk 0 rfl))), f6, f7, Fw3⟩
theorem rmBB1 (l : Launch) (Z : State) (a0 : Array Value) (hw : HW a0 Z) (ws : List Jvm.Cond) (x : Addr) (b : Addr) (h0 : Heap) (n0 : Nat) (Z0 : n0 ≤ h0.size) (E_x : Exa Z h0 x "java/lang/String") (F_coder_x : Fld Z h0 x "java/lang/String" "coder" "B" (.int 0)) (F_value_x : Fld Z h0 x "java/lang/String" "value" "[B" .null) (g_x : n0 ≤ x) :
    MetFree l y_43 (head1 (Jvm.Cond.code y_43 jdk_42_method_151_code 3 none :: ws) (Rm 1 0 0 12)) (fun a_ U_ => a_ = #[(.ref x), (.ref b), (.int 1)] ∧ Z.Warmed39 U_.vm ∧ U_.heap = h0) (fun _ _ _ _ _ => True) (fun _ U_ o_ U1_ => ∃ v_ L_, o_ = .returned v_ ∧ own_QBB Z x b (1 : Int32) h0 n0 v_ U1_.heap L_ ∧ FrameEnd U_ o_ U1_ L_ (Rm 1 0 0 12).cells (Rm 1 0 0 12).slots) := by
  refine MetFree.of_bodySF (plainFor_of_name pn_31) hisR ?_
  intro p e s m args below meth c s₁ Bd hml0 hP hK
  obtain ⟨rfl, hZ, hh⟩ := hP
  have hx := Bd.exec
  have hby := Bd.bytes
  have hml : c.maxLocals = 3 := hml0
  have hown : s.vm.findClass "java/lang/String" = some m.cls := findClass_of_methodNamed Bd.named
  have hnm := (name_of_methodNamed Bd.named Bd.method).1
  have X0 : Stand p l e (Rm 1 0 0 12) s m #[(.ref x), (.ref b), (.int 1)] below meth c s₁ [] 0 0 := Stand.of_body Bd
  have e0 : s₁.heap = h0 := by rw [← hh, Bd.state]; rfl
  have N0 := Fr.nil n0
  have pre0 : ∀ tt, Steps p.tables e below (s₁.setTop (mkF m 0 #[.val (.ref x), .val (.ref b), .val (.int 1)] [])) tt → Steps p.tables e below (s₁.setTop (entryFrame m #[(.ref x), (.ref b), (.int 1)] 3)) tt := fun tt kk => castTop (ef_31_rrr m x b (1 : Int32)) kk
  obtain ⟨T1, X1, e1, st1⟩ := initO X0 hx hZ hown (hw _ (tk 17 rfl)) (hw _ (tk 18 rfl)) (hw _ (tk 19 rfl)) e0 (g := (mkF m 1 #[.val (.ref x), .val (.ref b), .val (.int 1)] [(.ref x)])) rfl (by rw [hml]; rfl) rfl (hb hby d31_1) (by decide) (W := 0) (by show 2 * 0 + _ ≤ _; exact Nat.le_of_eq rfl) (by decide)
  obtain ⟨T2, h2, X2, e2, W2, st2⟩ := putF X1 hx hZ hown (host := "") (Or.inl (hw _ (tk 34 rfl))) Via.refl e1 F_value_x E_x (Or.inr ⟨(hw _ (tk 35 rfl)), rfl, hnm⟩) (hw _ (tk 8 rfl)) (ty := (.array .byte)) (by decide) rfl rfl (g := (mkF m 6 #[.val (.ref x), .val (.ref b), .val (.int 1)] [(.ref b), (.ref x)])) rfl rfl (hb hby d31_6)
  have Fw2 := F_value_x.same W2
  have N2 := Fr.snoc X2 N0 g_x
  have f4 := (E_x.wr W2)
  have f5 := (F_coder_x.other W2 (Or.inr (slot_ne (Or.inr (hw _ (tk 33 rfl))) (Or.inr (hw _ (tk 35 rfl))) (by decide) (t := .byte) (t' := (.array .byte)) (by decide) (by decide))))
  obtain ⟨T3, h3, X3, e3, W3, st3⟩ := putFN X2 hx hZ hown (hw _ (tk 32 rfl)) Via.refl e2 f5 f4 (Or.inr ⟨(hw _ (tk 33 rfl)), rfl, hnm⟩) (hw _ (tk 8 rfl)) (ty := .byte) (v' := (.int 1)) (by decide) rfl (by decide) (g := (mkF m 11 #[.val (.ref x), .val (.ref b), .val (.int 1)] [(.int 1), (.ref x)])) rfl rfl (hb hby d31_11)
  have Fw3 := f5.same W3
  have N3 := Fr.snoc X3 N2 g_x
  have f6 := (f4.wr W3)
  have f7 := (Fw2.other W3 (Or.inr (slot_ne (Or.inr (hw _ (tk 35 rfl))) (Or.inr (hw _ (tk 33 rfl))) (by decide) (t := (.array .byte)) (t' := .byte) (by decide) (by decide))))
  obtain ⟨fs, hr, hrun, hended, hW, hsame⟩ := X3.leave (v := none) (fun _ => rfl)
  refine ⟨_, _, pre0 _ ?_, hrun, hended, _, _, rfl, ?_, ⟨_, rfl⟩, hW, hsame.mono (by decide) (by decide)⟩
  · show Steps _ _ _ (s₁.setTop (mkF m 0 #[.val (.ref x), .val (.ref b), .val (.int 1)] [])) _
    refine XS.aloadN X0.here hx rfl (hb hby d31_0) rfl rfl ?_
    show Steps _ _ _ (s₁.setTop (mkF m 1 #[.val (.ref x), .val (.ref b), .val (.int 1)] [(.ref x)])) _
    refine st1 _ ?_
    show Steps _ _ _ (T1.setTop (mkF m 4 #[.val (.ref x), .val (.ref b), .val (.int 1)] [])) _
    refine XS.aloadN X1.here hx rfl (hb hby d31_4) rfl rfl ?_
    refine XS.aloadN X1.here hx rfl (hb hby d31_5) rfl rfl ?_
    show Steps _ _ _ (T1.setTop (mkF m 6 #[.val (.ref x), .val (.ref b), .val (.int 1)] [(.ref b), (.ref x)])) _
    refine st2 _ ?_
    show Steps _ _ _ (T2.setTop (mkF m 9 #[.val (.ref x), .val (.ref b), .val (.int 1)] [])) _
    refine XS.aloadN X2.here hx rfl (hb hby d31_9) rfl rfl ?_
    refine XS.iloadN X2.here hx rfl (hb hby d31_10) rfl ?_
    show Steps _ _ _ (T2.setTop (mkF m 11 #[.val (.ref x), .val (.ref b), .val (.int 1)] [(.int 1), (.ref x)])) _
    refine st3 _ ?_
    show Steps _ _ _ (T3.setTop (mkF m 14 #[.val (.ref x), .val (.ref b), .val (.int 1)] [])) _
    exact X3.returnOut hx Bd.returns (hb hby d31_14) hr
  · show own_QBB Z x b (1 : Int32) h0 n0 _ T3.heap _
    rw [e3]
    exact ⟨rfl, N3, (((Keep.refl h0 [x]).wr W2 (Or.inl (tk 0 rfl))).wr W3 (Or.inl (tk 0 rfl))), f6, f7, Fw3⟩
theorem d43_0 : decode jdk_52_method_69_code 0 = .ok (.iload_n 2, 1) := by decide +kernel
theorem d43_1 : decode jdk_52_method_69_code 1 = .ok (.ifCond .ne 7, 3) := by decide +kernel
theorem d43_8 : decode jdk_52_method_69_code 8 = .ok (.getstatic 251, 3) := by decide +kernel
theorem d43_11 : decode jdk_52_method_69_code 11 = .ok (.ifCond .eq 28, 3) := by decide +kernel
theorem d43_14 : decode jdk_52_method_69_code 14 = .ok (.aload_n 0, 1) := by decide +kernel
theorem d43_15 : decode jdk_52_method_69_code 15 = .ok (.iload_n 1, 1) := by decide +kernel
theorem d43_16 : decode jdk_52_method_69_code 16 = .ok (.iload_n 2, 1) := by decide +kernel
theorem d43_17 : decode jdk_52_method_69_code 17 = .ok (.invokestatic 257, 3) := by decide +kernel
theorem d43_20 : decode jdk_52_method_69_code 20 = .ok (.astore_n 3, 1) := by decide +kernel
theorem d43_21 : decode jdk_52_method_69_code 21 = .ok (.aload_n 3, 1) := by decide +kernel
theorem d43_22 : decode jdk_52_method_69_code 22 = .ok (.iload_n 2, 1) := by decide +kernel
theorem d43_23 : decode jdk_52_method_69_code 23 = .ok (.invokestatic 259, 3) := by decide +kernel
theorem d43_26 : decode jdk_52_method_69_code 26 = .ok (.istore 4, 2) := by decide +kernel
theorem d43_28 : decode jdk_52_method_69_code 28 = .ok (.new 3, 3) := by decide +kernel
theorem d43_31 : decode jdk_52_method_69_code 31 = .ok (.dup, 1) := by decide +kernel
theorem d43_32 : decode jdk_52_method_69_code 32 = .ok (.aload_n 3, 1) := by decide +kernel
theorem d43_33 : decode jdk_52_method_69_code 33 = .ok (.iload 4, 2) := by decide +kernel
theorem pd___BB_V : parseMethodDescriptor "([BB)V" = some ⟨[(.array .byte), .byte], none⟩ := by decide +kernel
theorem d43_35 : decode jdk_52_method_69_code 35 = .ok (.invokespecial 263, 3) := by decide +kernel
theorem d43_38 : decode jdk_52_method_69_code 38 = .ok (.areturn, 1) := by decide +kernel
theorem pn_43 : plainName "java/lang/StringUTF16" = true := by first | (simp [plainName, overriddenIn]; done) | decide +kernel
theorem ef_43_rrr (m : MethodId) (x0 : Addr) (x1 : Int32) (x2 : Int32) : entryFrame m #[(.ref x0), (.int x1), (.int x2)] 5 = mkF m 0 #[.val (.ref x0), .val (.int x1), .val (.int x2), .unset, .unset] [] := by first | (simp [entryFrame, mkF, argsToLocals, Value.category]; done) | rfl
theorem rmUNL (l : Launch) (Z : State) (a0 : Array Value) (hw : HW a0 Z) (ws : List Jvm.Cond) (G1 : Int32) (G3 : Value) (G4 : Value) (t : Addr) (k : ClassId) (cs : List Int32) (f : Nat) (m_ : Nat) (h0 : Heap) (n0 : Nat) (Z0 : n0 ≤ h0.size) (EN : own_env Z G1 G3 G4) (X00 : Old Z n0 h0) (V_t : Arv Z h0 t k .byte (Int32.ofNat (2 * cs.length)) (own_wide cs) (.int 0)) (hcc : ∀ c ∈ cs, own_ch c) (h4 : cs.length ≤ 4) (hfm : f + m_ ≤ cs.length) (hm1 : 1 ≤ m_) (hfs : f + m_ < cs.length) (hq : ∀ i, i < m_ → ¬ ((255 : Int32) < (cs.getD (f + i) 0))) :
    MetFree l y_44 (head1 (Jvm.Cond.code y_44 jdk_52_method_69_code 5 (some (.object "java/lang/String")) :: ws) (Rm 5 3 24 78)) (fun a_ U_ => a_ = #[(.ref t), (.int (Int32.ofNat f)), (.int (Int32.ofNat m_))] ∧ Z.Warmed39 U_.vm ∧ U_.heap = h0) (fun _ _ _ _ _ => True) (fun _ U_ o_ U1_ => ∃ v_ L_, o_ = .returned v_ ∧ own_QZ Z ((cs.drop f).take m_) h0 n0 v_ U1_.heap L_ ∧ FrameEnd U_ o_ U1_ L_ (Rm 5 3 24 78).cells (Rm 5 3 24 78).slots) := by
  refine MetFree.of_bodySF (plainFor_of_name pn_43) hisR ?_
  intro p e s m args below meth c s₁ Bd hml0 hP hK
  obtain ⟨rfl, hZ, hh⟩ := hP
  have hx := Bd.exec
  have hby := Bd.bytes
  have hml : c.maxLocals = 5 := hml0
  have hown : s.vm.findClass "java/lang/StringUTF16" = some m.cls := findClass_of_methodNamed Bd.named
  have hnm := (name_of_methodNamed Bd.named Bd.method).1
  have X0 : Stand p l e (Rm 5 3 24 78) s m #[(.ref t), (.int (Int32.ofNat f)), (.int (Int32.ofNat m_))] below meth c s₁ [] 0 0 := Stand.of_body Bd
  have e0 : s₁.heap = h0 := by rw [← hh, Bd.state]; rfl
  have N0 := Fr.nil n0
  have pre0 : ∀ tt, Steps p.tables e below (s₁.setTop (mkF m 0 #[.val (.ref t), .val (.int (Int32.ofNat f)), .val (.int (Int32.ofNat m_)), .unset, .unset] [])) tt → Steps p.tables e below (s₁.setTop (entryFrame m #[(.ref t), (.int (Int32.ofNat f)), (.int (Int32.ofNat m_))] 5)) tt := fun tt kk => castTop (ef_43_rrr m t (Int32.ofNat f) (Int32.ofNat m_)) kk
  have EN0 := EN
  obtain ⟨O2, P5, O4, rG3, O6, O7, O8⟩ := EN
  obtain ⟨T1, X1, e1, st1⟩ := getS2 X0 hx hZ hown (host := "") (Or.inl (hw _ (tk 201 rfl))) Via.refl e0 (Sta.ext X00.2 O2) (g := (mkF m 8 #[.val (.ref t), .val (.int (Int32.ofNat f)), .val (.int (Int32.ofNat m_)), .unset, .unset] [])) rfl (hb hby d43_8)
  obtain ⟨_, _, ⟨T2, L2, k2, n2⟩, -, X2, ⟨Lc2, hQ2, l2, y2, z2⟩, st2⟩ := Jvm.LawKit.callS X1 hx (y := y_42) hown (mvT hZ (hw _ (tk 202 rfl))) (mvT hZ (hw _ (tk 203 rfl))) (mvT hZ (hw _ (tk 23 rfl))) (mvT hZ (hw _ (tk 204 rfl))) (by decide) (backOf (W := 0) (rmCELb l Z a0 hw [] G1 G3 G4 t k cs f m_ h0 n0 Z0 EN0 X00 V_t hcc h4 hfm hm1 hfs hq) hZ (hw _ (tk 204 rfl)) (hw _ (tk 23 rfl)) (by decide) (by decide)) (g := (mkF m 17 #[.val (.ref t), .val (.int (Int32.ofNat f)), .val (.int (Int32.ofNat m_)), .unset, .unset] [(.int (Int32.ofNat m_)), (.int (Int32.ofNat f)), (.ref t)])) rfl (by rw [hml]; rfl) (argsL := [(.ref t), (.int (Int32.ofNat f)), (.int (Int32.ofNat m_))]) (rest := []) (lenOf pd___BII__B rfl) rfl (by show 2 * 0 + _ ≤ _; exact Nat.le_of_eq rfl) (hb hby d43_17) (fun _ _ => ⟨rfl, e1, (by decide : 0 + 1 ≤ _), (by decide : 0 + 4 ≤ _)⟩)
  dsimp only [Pt.U, Pt.locs, Pt.cells, Pt.slots] at X2 l2 y2 z2 st2 hQ2
  subst l2 y2 z2
  obtain ⟨t2, k2q, rfl, Nq2, gt2, sq2, Kq2, V2q⟩ := hQ2
  have N2 := Fr.app N0 Nq2
  have szt2 : h0.size ≤ t2 := Nat.le_trans (Nat.le_refl _) sq2
  obtain ⟨_, _, ⟨T3, L3, k3, n3⟩, -, X3, ⟨Lc3, hQ3, l3, y3, z3⟩, st3⟩ := Jvm.LawKit.callS X2 hx (y := y_23) hown (mvT hZ (hw _ (tk 218 rfl))) (mvT hZ (hw _ (tk 30 rfl))) (mvT hZ (hw _ (tk 23 rfl))) (mvT hZ (hw _ (tk 31 rfl))) (by decide) (backOf (W := 0) (rmCNL l Z a0 hw [] t2 k2q cs f m_ T2.heap n0 (Nat.le_trans Z0 Kq2.1) V2q hfm hm1 h4) hZ (hw _ (tk 31 rfl)) (hw _ (tk 23 rfl)) (by decide) (by decide)) (g := (mkF m 23 #[.val (.ref t), .val (.int (Int32.ofNat f)), .val (.int (Int32.ofNat m_)), .val (.ref t2), .unset] [(.int (Int32.ofNat m_)), (.ref t2)])) rfl (by rw [hml]; rfl) (argsL := [(.ref t2), (.int (Int32.ofNat m_))]) (rest := []) (lenOf pd___BI_B rfl) rfl (by show 2 * 0 + _ ≤ _; exact Nat.le_of_eq rfl) (hb hby d43_23) (fun _ _ => ⟨rfl, rfl, (by decide : 1 + 0 ≤ _), (by decide : 4 + 0 ≤ _)⟩)
  dsimp only [Pt.U, Pt.locs, Pt.cells, Pt.slots] at X3 l3 y3 z3 st3 hQ3
  subst l3 y3 z3
  obtain ⟨rfl, Nq3, eq3⟩ := hQ3
  have N3 := Fr.app N2 Nq3
  obtain ⟨T4, h4, X4, e4, E4, A4, D4, -, st4⟩ := newO X3 hx hZ hown (hw _ (tk 219 rfl)) (hw _ (tk 8 rfl)) (hw _ (tk 9 rfl)) eq3 (g := (mkF m 28 #[.val (.ref t), .val (.int (Int32.ofNat f)), .val (.int (Int32.ofNat m_)), .val (.ref t2), .val (.int 0)] [])) rfl (hb hby d43_28) (by decide) (by decide)
  obtain ⟨b4, g4⟩ : ∃ z, z = T2.heap.size := ⟨_, rfl⟩
  rw [← g4] at A4 D4 st4
  have g_b4 : n0 ≤ b4 := Nat.le_trans (Nat.le_trans Z0 Kq2.1) (Nat.le_of_eq g4.symm)
  have sz_b4 : h0.size ≤ b4 := Nat.le_trans Kq2.1 (Nat.le_of_eq g4.symm)
  have F4_coder : Fld Z h4 b4 "java/lang/String" "coder" "B" (.int 0) := D4 (Or.inr (hw _ (tk 33 rfl))) (ty := .byte) (by decide)
  have F4_value : Fld Z h4 b4 "java/lang/String" "value" "[B" .null := D4 (Or.inr (hw _ (tk 35 rfl))) (ty := (.array .byte)) (by decide)
  obtain ⟨_, _, ⟨T5, L5, k5, n5⟩, -, X5, ⟨Lc5, hQ5, l5, y5, z5⟩, st5⟩ := X4.specialBack hx (y := y_43) rfl hown (mvT hZ (hw _ (tk 220 rfl))) (mvT hZ (hw _ (tk 151 rfl))) (mvT hZ (hw _ (tk 152 rfl))) (by decide) (backOf (W := 1) (rmBB0 l Z a0 hw [] b4 t2 h4 n0 (Nat.le_trans Z0 (Nat.le_trans Kq2.1 E4.1)) A4 F4_coder F4_value g_b4) hZ (hw _ (tk 152 rfl)) (hw _ (tk 9 rfl)) (by decide) (by decide)) (g := (mkF m 35 #[.val (.ref t), .val (.int (Int32.ofNat f)), .val (.int (Int32.ofNat m_)), .val (.ref t2), .val (.int 0)] [(.int 0), (.ref t2), (.ref b4), (.ref b4)])) rfl (by rw [hml]; rfl) (Steps.refl _) (a := b4) (argsL := [(.ref t2), (.int 0)]) (rest := [(.ref b4)]) (lenOf pd___BB_V rfl) rfl (by show 2 * 0 + _ ≤ _; exact Nat.le_of_eq rfl) (hb hby d43_35) (fun _ _ => ⟨rfl, e4, (by decide : 2 + 0 ≤ _), (by decide : 8 + 0 ≤ _)⟩)
  dsimp only [Pt.U, Pt.locs, Pt.cells, Pt.slots] at X5 l5 y5 z5 st5 hQ5
  subst l5 y5 z5
  obtain ⟨rfl, Nq5, Kq5, E5q, Fv5q, Fc5q⟩ := hQ5
  have N5 := Fr.app N3 Nq5
  have f6 := ((V2q.ext E4).keep Kq5 (ninS (Nat.ne_of_lt (Nat.lt_of_lt_of_le V2q.lt (Nat.le_of_eq g4.symm))) nin0))
  obtain ⟨fs, hr, hrun, hended, hW, hsame⟩ := X5.leave (v := some (.ref b4)) (fun h => by rw [Bd.returns] at h; cases h)
  refine ⟨_, _, pre0 _ ?_, hrun, hended, _, _, rfl, ?_, ⟨_, rfl⟩, hW, hsame.mono (by decide) (by decide)⟩
  · show Steps _ _ _ (s₁.setTop (mkF m 0 #[.val (.ref t), .val (.int (Int32.ofNat f)), .val (.int (Int32.ofNat m_)), .unset, .unset] [])) _
    refine XS.iloadN X0.here hx rfl (hb hby d43_0) rfl ?_
    refine XS.ifYes X0.here hx rfl (pc0 := 1) (pc' := 8) rfl (hb hby d43_1) rfl ((if0 _ _).trans (feq (fun q => by have := (own_eq (j := 0) (by omega) (by omega)).mp q; omega)).2) (by decide) (by decide) ?_
    show Steps _ _ _ (s₁.setTop (mkF m 8 #[.val (.ref t), .val (.int (Int32.ofNat f)), .val (.int (Int32.ofNat m_)), .unset, .unset] [])) _
    refine st1 _ ?_
    show Steps _ _ _ (T1.setTop (mkF m 11 #[.val (.ref t), .val (.int (Int32.ofNat f)), .val (.int (Int32.ofNat m_)), .unset, .unset] [(.int G1)])) _
    refine XS.ifNo X1.here hx rfl (hb hby d43_11) rfl ((if0 _ _).trans (feq P5).1) ?_
    refine XS.aloadN X1.here hx rfl (hb hby d43_14) rfl rfl ?_
    refine XS.iloadN X1.here hx rfl (hb hby d43_15) rfl ?_
    refine XS.iloadN X1.here hx rfl (hb hby d43_16) rfl ?_
    show Steps _ _ _ (T1.setTop (mkF m 17 #[.val (.ref t), .val (.int (Int32.ofNat f)), .val (.int (Int32.ofNat m_)), .unset, .unset] [(.int (Int32.ofNat m_)), (.int (Int32.ofNat f)), (.ref t)])) _
    refine st2 _ ?_
    show Steps _ _ _ (T2.setTop (mkF m 20 #[.val (.ref t), .val (.int (Int32.ofNat f)), .val (.int (Int32.ofNat m_)), .unset, .unset] [(.ref t2)])) _
    refine XS.astoreN X2.here hx rfl (hb hby d43_20) rfl rfl (l' := #[.val (.ref t), .val (.int (Int32.ofNat f)), .val (.int (Int32.ofNat m_)), .val (.ref t2), .unset]) rfl ?_
    refine XS.aloadN X2.here hx rfl (hb hby d43_21) rfl rfl ?_
    refine XS.iloadN X2.here hx rfl (hb hby d43_22) rfl ?_
    show Steps _ _ _ (T2.setTop (mkF m 23 #[.val (.ref t), .val (.int (Int32.ofNat f)), .val (.int (Int32.ofNat m_)), .val (.ref t2), .unset] [(.int (Int32.ofNat m_)), (.ref t2)])) _
    refine st3 _ ?_
    show Steps _ _ _ (T3.setTop (mkF m 26 #[.val (.ref t), .val (.int (Int32.ofNat f)), .val (.int (Int32.ofNat m_)), .val (.ref t2), .unset] [(.int 0)])) _
    refine XS.istore X3.here hx rfl (hb hby d43_26) rfl (l' := #[.val (.ref t), .val (.int (Int32.ofNat f)), .val (.int (Int32.ofNat m_)), .val (.ref t2), .val (.int 0)]) rfl ?_
    show Steps _ _ _ (T3.setTop (mkF m 28 #[.val (.ref t), .val (.int (Int32.ofNat f)), .val (.int (Int32.ofNat m_)), .val (.ref t2), .val (.int 0)] [])) _
    refine st4 _ ?_
    show Steps _ _ _ (T4.setTop (mkF m 31 #[.val (.ref t), .val (.int (Int32.ofNat f)), .val (.int (Int32.ofNat m_)), .val (.ref t2), .val (.int 0)] [(.ref b4)])) _
    refine XS.dup X4.here hx rfl (hb hby d43_31) rfl rfl ?_
    refine XS.aloadN X4.here hx rfl (hb hby d43_32) rfl rfl ?_
    refine XS.iload X4.here hx rfl (hb hby d43_33) rfl ?_
    show Steps _ _ _ (T4.setTop (mkF m 35 #[.val (.ref t), .val (.int (Int32.ofNat f)), .val (.int (Int32.ofNat m_)), .val (.ref t2), .val (.int 0)] [(.int 0), (.ref t2), (.ref b4), (.ref b4)])) _
    refine st5.trans ?_
    show Steps _ _ _ (T5.setTop (mkF m 38 #[.val (.ref t), .val (.int (Int32.ofNat f)), .val (.int (Int32.ofNat m_)), .val (.ref t2), .val (.int 0)] [(.ref b4)])) _
    jvm_step X5.here [X5.here.top, hx, (hb hby d43_38), X5.method', Bd.returns, Value.isRef, FieldType.isReference]
    first | (intro acts; rw [hr _ acts rfl rfl rfl]) | rw [hr _ _ rfl rfl rfl]
    exact Steps.refl _
  · show own_QZ Z ((cs.drop f).take m_) h0 n0 _ T5.heap _
    exact ⟨b4, rfl, N5, sz_b4, ((((Keep.refl h0 []).trans Kq2 all0).ext E4).trans Kq5 (allS (P := fun zz => zz ∈ ([] : List Addr) ∨ h0.size ≤ zz) (Or.inr sz_b4) all0)), t2, k2q, E5q, Fv5q, Or.inl ⟨Fc5q, (by rw [own_dl hfm]; exact f6), own_dsl hfm hcc hq⟩⟩
theorem rmUNU (l : Launch) (Z : State) (a0 : Array Value) (hw : HW a0 Z) (ws : List Jvm.Cond) (G1 : Int32) (G3 : Value) (G4 : Value) (t : Addr) (k : ClassId) (cs : List Int32) (f : Nat) (m_ : Nat) (n : Nat) (h0 : Heap) (n0 : Nat) (Z0 : n0 ≤ h0.size) (EN : own_env Z G1 G3 G4) (X00 : Old Z n0 h0) (V_t : Arv Z h0 t k .byte (Int32.ofNat (2 * cs.length)) (own_wide cs) (.int 0)) (hcc : ∀ c ∈ cs, own_ch c) (h4 : cs.length ≤ 4) (hfm : f + m_ ≤ cs.length) (hm1 : 1 ≤ m_) (hfs : f + m_ < cs.length) (hq : ∀ i, i < n → ¬ ((255 : Int32) < (cs.getD (f + i) 0))) (hn : n < m_) (hbg : (255 : Int32) < (cs.getD (f + n) 0)) :
    MetFree l y_44 (head1 (Jvm.Cond.code y_44 jdk_52_method_69_code 5 (some (.object "java/lang/String")) :: ws) (Rm 5 3 24 78)) (fun a_ U_ => a_ = #[(.ref t), (.int (Int32.ofNat f)), (.int (Int32.ofNat m_))] ∧ Z.Warmed39 U_.vm ∧ U_.heap = h0) (fun _ _ _ _ _ => True) (fun _ U_ o_ U1_ => ∃ v_ L_, o_ = .returned v_ ∧ own_QZ Z ((cs.drop f).take m_) h0 n0 v_ U1_.heap L_ ∧ FrameEnd U_ o_ U1_ L_ (Rm 5 3 24 78).cells (Rm 5 3 24 78).slots) := by
  refine MetFree.of_bodySF (plainFor_of_name pn_43) hisR ?_
  intro p e s m args below meth c s₁ Bd hml0 hP hK
  obtain ⟨rfl, hZ, hh⟩ := hP
  have hx := Bd.exec
  have hby := Bd.bytes
  have hml : c.maxLocals = 5 := hml0
  have hown : s.vm.findClass "java/lang/StringUTF16" = some m.cls := findClass_of_methodNamed Bd.named
  have hnm := (name_of_methodNamed Bd.named Bd.method).1
  have X0 : Stand p l e (Rm 5 3 24 78) s m #[(.ref t), (.int (Int32.ofNat f)), (.int (Int32.ofNat m_))] below meth c s₁ [] 0 0 := Stand.of_body Bd
  have e0 : s₁.heap = h0 := by rw [← hh, Bd.state]; rfl
  have N0 := Fr.nil n0
  have pre0 : ∀ tt, Steps p.tables e below (s₁.setTop (mkF m 0 #[.val (.ref t), .val (.int (Int32.ofNat f)), .val (.int (Int32.ofNat m_)), .unset, .unset] [])) tt → Steps p.tables e below (s₁.setTop (entryFrame m #[(.ref t), (.int (Int32.ofNat f)), (.int (Int32.ofNat m_))] 5)) tt := fun tt kk => castTop (ef_43_rrr m t (Int32.ofNat f) (Int32.ofNat m_)) kk
  have EN0 := EN
  obtain ⟨O2, P5, O4, rG3, O6, O7, O8⟩ := EN
  obtain ⟨T1, X1, e1, st1⟩ := getS2 X0 hx hZ hown (host := "") (Or.inl (hw _ (tk 201 rfl))) Via.refl e0 (Sta.ext X00.2 O2) (g := (mkF m 8 #[.val (.ref t), .val (.int (Int32.ofNat f)), .val (.int (Int32.ofNat m_)), .unset, .unset] [])) rfl (hb hby d43_8)
  obtain ⟨_, _, ⟨T2, L2, k2, n2⟩, -, X2, ⟨Lc2, hQ2, l2, y2, z2⟩, st2⟩ := Jvm.LawKit.callS X1 hx (y := y_42) hown (mvT hZ (hw _ (tk 202 rfl))) (mvT hZ (hw _ (tk 203 rfl))) (mvT hZ (hw _ (tk 23 rfl))) (mvT hZ (hw _ (tk 204 rfl))) (by decide) (backOf (W := 0) (rmCEUb l Z a0 hw [] G1 G3 G4 t k cs f m_ n h0 n0 Z0 EN0 X00 V_t hcc h4 hfm hm1 hfs hq hn hbg) hZ (hw _ (tk 204 rfl)) (hw _ (tk 23 rfl)) (by decide) (by decide)) (g := (mkF m 17 #[.val (.ref t), .val (.int (Int32.ofNat f)), .val (.int (Int32.ofNat m_)), .unset, .unset] [(.int (Int32.ofNat m_)), (.int (Int32.ofNat f)), (.ref t)])) rfl (by rw [hml]; rfl) (argsL := [(.ref t), (.int (Int32.ofNat f)), (.int (Int32.ofNat m_))]) (rest := []) (lenOf pd___BII__B rfl) rfl (by show 2 * 0 + _ ≤ _; exact Nat.le_of_eq rfl) (hb hby d43_17) (fun _ _ => ⟨rfl, e1, (by decide : 0 + 2 ≤ _), (by decide : 0 + 20 ≤ _)⟩)
  dsimp only [Pt.U, Pt.locs, Pt.cells, Pt.slots] at X2 l2 y2 z2 st2 hQ2
  subst l2 y2 z2
  obtain ⟨t2, k2q, rfl, Nq2, gt2, sq2, Kq2, V2q⟩ := hQ2
  have N2 := Fr.app N0 Nq2
  have szt2 : h0.size ≤ t2 := Nat.le_trans (Nat.le_refl _) sq2
  obtain ⟨_, _, ⟨T3, L3, k3, n3⟩, -, X3, ⟨Lc3, hQ3, l3, y3, z3⟩, st3⟩ := Jvm.LawKit.callS X2 hx (y := y_23) hown (mvT hZ (hw _ (tk 218 rfl))) (mvT hZ (hw _ (tk 30 rfl))) (mvT hZ (hw _ (tk 23 rfl))) (mvT hZ (hw _ (tk 31 rfl))) (by decide) (backOf (W := 0) (rmCNU l Z a0 hw [] t2 k2q cs f m_ T2.heap n0 (Nat.le_trans Z0 Kq2.1) V2q hfm hm1 h4) hZ (hw _ (tk 31 rfl)) (hw _ (tk 23 rfl)) (by decide) (by decide)) (g := (mkF m 23 #[.val (.ref t), .val (.int (Int32.ofNat f)), .val (.int (Int32.ofNat m_)), .val (.ref t2), .unset] [(.int (Int32.ofNat m_)), (.ref t2)])) rfl (by rw [hml]; rfl) (argsL := [(.ref t2), (.int (Int32.ofNat m_))]) (rest := []) (lenOf pd___BI_B rfl) rfl (by show 2 * 0 + _ ≤ _; exact Nat.le_of_eq rfl) (hb hby d43_23) (fun _ _ => ⟨rfl, rfl, (by decide : 2 + 0 ≤ _), (by decide : 20 + 0 ≤ _)⟩)
  dsimp only [Pt.U, Pt.locs, Pt.cells, Pt.slots] at X3 l3 y3 z3 st3 hQ3
  subst l3 y3 z3
  obtain ⟨rfl, Nq3, eq3⟩ := hQ3
  have N3 := Fr.app N2 Nq3
  obtain ⟨T4, h4, X4, e4, E4, A4, D4, -, st4⟩ := newO X3 hx hZ hown (hw _ (tk 219 rfl)) (hw _ (tk 8 rfl)) (hw _ (tk 9 rfl)) eq3 (g := (mkF m 28 #[.val (.ref t), .val (.int (Int32.ofNat f)), .val (.int (Int32.ofNat m_)), .val (.ref t2), .val (.int 1)] [])) rfl (hb hby d43_28) (by decide) (by decide)
  obtain ⟨b4, g4⟩ : ∃ z, z = T2.heap.size := ⟨_, rfl⟩
  rw [← g4] at A4 D4 st4
  have g_b4 : n0 ≤ b4 := Nat.le_trans (Nat.le_trans Z0 Kq2.1) (Nat.le_of_eq g4.symm)
  have sz_b4 : h0.size ≤ b4 := Nat.le_trans Kq2.1 (Nat.le_of_eq g4.symm)
  have F4_coder : Fld Z h4 b4 "java/lang/String" "coder" "B" (.int 0) := D4 (Or.inr (hw _ (tk 33 rfl))) (ty := .byte) (by decide)
  have F4_value : Fld Z h4 b4 "java/lang/String" "value" "[B" .null := D4 (Or.inr (hw _ (tk 35 rfl))) (ty := (.array .byte)) (by decide)
  obtain ⟨_, _, ⟨T5, L5, k5, n5⟩, -, X5, ⟨Lc5, hQ5, l5, y5, z5⟩, st5⟩ := X4.specialBack hx (y := y_43) rfl hown (mvT hZ (hw _ (tk 220 rfl))) (mvT hZ (hw _ (tk 151 rfl))) (mvT hZ (hw _ (tk 152 rfl))) (by decide) (backOf (W := 1) (rmBB1 l Z a0 hw [] b4 t2 h4 n0 (Nat.le_trans Z0 (Nat.le_trans Kq2.1 E4.1)) A4 F4_coder F4_value g_b4) hZ (hw _ (tk 152 rfl)) (hw _ (tk 9 rfl)) (by decide) (by decide)) (g := (mkF m 35 #[.val (.ref t), .val (.int (Int32.ofNat f)), .val (.int (Int32.ofNat m_)), .val (.ref t2), .val (.int 1)] [(.int 1), (.ref t2), (.ref b4), (.ref b4)])) rfl (by rw [hml]; rfl) (Steps.refl _) (a := b4) (argsL := [(.ref t2), (.int 1)]) (rest := [(.ref b4)]) (lenOf pd___BB_V rfl) rfl (by show 2 * 0 + _ ≤ _; exact Nat.le_of_eq rfl) (hb hby d43_35) (fun _ _ => ⟨rfl, e4, (by decide : 3 + 0 ≤ _), (by decide : 24 + 0 ≤ _)⟩)
  dsimp only [Pt.U, Pt.locs, Pt.cells, Pt.slots] at X5 l5 y5 z5 st5 hQ5
  subst l5 y5 z5
  obtain ⟨rfl, Nq5, Kq5, E5q, Fv5q, Fc5q⟩ := hQ5
  have N5 := Fr.app N3 Nq5
  have f6 := ((V2q.ext E4).keep Kq5 (ninS (Nat.ne_of_lt (Nat.lt_of_lt_of_le V2q.lt (Nat.le_of_eq g4.symm))) nin0))
  obtain ⟨fs, hr, hrun, hended, hW, hsame⟩ := X5.leave (v := some (.ref b4)) (fun h => by rw [Bd.returns] at h; cases h)
  refine ⟨_, _, pre0 _ ?_, hrun, hended, _, _, rfl, ?_, ⟨_, rfl⟩, hW, hsame.mono (by decide) (by decide)⟩
  · show Steps _ _ _ (s₁.setTop (mkF m 0 #[.val (.ref t), .val (.int (Int32.ofNat f)), .val (.int (Int32.ofNat m_)), .unset, .unset] [])) _
    refine XS.iloadN X0.here hx rfl (hb hby d43_0) rfl ?_
    refine XS.ifYes X0.here hx rfl (pc0 := 1) (pc' := 8) rfl (hb hby d43_1) rfl ((if0 _ _).trans (feq (fun q => by have := (own_eq (j := 0) (by omega) (by omega)).mp q; omega)).2) (by decide) (by decide) ?_
    show Steps _ _ _ (s₁.setTop (mkF m 8 #[.val (.ref t), .val (.int (Int32.ofNat f)), .val (.int (Int32.ofNat m_)), .unset, .unset] [])) _
    refine st1 _ ?_
    show Steps _ _ _ (T1.setTop (mkF m 11 #[.val (.ref t), .val (.int (Int32.ofNat f)), .val (.int (Int32.ofNat m_)), .unset, .unset] [(.int G1)])) _
    refine XS.ifNo X1.here hx rfl (hb hby d43_11) rfl ((if0 _ _).trans (feq P5).1) ?_
    refine XS.aloadN X1.here hx rfl (hb hby d43_14) rfl rfl ?_
    refine XS.iloadN X1.here hx rfl (hb hby d43_15) rfl ?_
    refine XS.iloadN X1.here hx rfl (hb hby d43_16) rfl ?_
    show Steps _ _ _ (T1.setTop (mkF m 17 #[.val (.ref t), .val (.int (Int32.ofNat f)), .val (.int (Int32.ofNat m_)), .unset, .unset] [(.int (Int32.ofNat m_)), (.int (Int32.ofNat f)), (.ref t)])) _
    refine st2 _ ?_
    show Steps _ _ _ (T2.setTop (mkF m 20 #[.val (.ref t), .val (.int (Int32.ofNat f)), .val (.int (Int32.ofNat m_)), .unset, .unset] [(.ref t2)])) _
    refine XS.astoreN X2.here hx rfl (hb hby d43_20) rfl rfl (l' := #[.val (.ref t), .val (.int (Int32.ofNat f)), .val (.int (Int32.ofNat m_)), .val (.ref t2), .unset]) rfl ?_
    refine XS.aloadN X2.here hx rfl (hb hby d43_21) rfl rfl ?_
    refine XS.iloadN X2.here hx rfl (hb hby d43_22) rfl ?_
    show Steps _ _ _ (T2.setTop (mkF m 23 #[.val (.ref t), .val (.int (Int32.ofNat f)), .val (.int (Int32.ofNat m_)), .val (.ref t2), .unset] [(.int (Int32.ofNat m_)), (.ref t2)])) _
    refine st3 _ ?_
    show Steps _ _ _ (T3.setTop (mkF m 26 #[.val (.ref t), .val (.int (Int32.ofNat f)), .val (.int (Int32.ofNat m_)), .val (.ref t2), .unset] [(.int 1)])) _
    refine XS.istore X3.here hx rfl (hb hby d43_26) rfl (l' := #[.val (.ref t), .val (.int (Int32.ofNat f)), .val (.int (Int32.ofNat m_)), .val (.ref t2), .val (.int 1)]) rfl ?_
    show Steps _ _ _ (T3.setTop (mkF m 28 #[.val (.ref t), .val (.int (Int32.ofNat f)), .val (.int (Int32.ofNat m_)), .val (.ref t2), .val (.int 1)] [])) _
    refine st4 _ ?_
    show Steps _ _ _ (T4.setTop (mkF m 31 #[.val (.ref t), .val (.int (Int32.ofNat f)), .val (.int (Int32.ofNat m_)), .val (.ref t2), .val (.int 1)] [(.ref b4)])) _
    refine XS.dup X4.here hx rfl (hb hby d43_31) rfl rfl ?_
    refine XS.aloadN X4.here hx rfl (hb hby d43_32) rfl rfl ?_
    refine XS.iload X4.here hx rfl (hb hby d43_33) rfl ?_
    show Steps _ _ _ (T4.setTop (mkF m 35 #[.val (.ref t), .val (.int (Int32.ofNat f)), .val (.int (Int32.ofNat m_)), .val (.ref t2), .val (.int 1)] [(.int 1), (.ref t2), (.ref b4), (.ref b4)])) _
    refine st5.trans ?_
    show Steps _ _ _ (T5.setTop (mkF m 38 #[.val (.ref t), .val (.int (Int32.ofNat f)), .val (.int (Int32.ofNat m_)), .val (.ref t2), .val (.int 1)] [(.ref b4)])) _
    jvm_step X5.here [X5.here.top, hx, (hb hby d43_38), X5.method', Bd.returns, Value.isRef, FieldType.isReference]
    first | (intro acts; rw [hr _ acts rfl rfl rfl]) | rw [hr _ _ rfl rfl rfl]
    exact Steps.refl _
  · show own_QZ Z ((cs.drop f).take m_) h0 n0 _ T5.heap _
    exact ⟨b4, rfl, N5, sz_b4, ((((Keep.refl h0 []).trans Kq2 all0).ext E4).trans Kq5 (allS (P := fun zz => zz ∈ ([] : List Addr) ∨ h0.size ≤ zz) (Or.inr sz_b4) all0)), t2, k2q, E5q, Fv5q, Or.inr ⟨Fc5q, f6⟩⟩
theorem own_firstm {P : Nat → Prop} : ∀ m, (∀ i, i < m → ¬ P i) ∨ ∃ n, n < m ∧ (∀ i, i < n → ¬ P i) ∧ P n
  | 0 => Or.inl fun i hi => absurd hi (Nat.not_lt_zero i)
  | m + 1 => by
    rcases own_firstm (P := P) m with h | ⟨n, h1, h2, h3⟩
    · by_cases q : P m
      · exact Or.inr ⟨m, by omega, h, q⟩
      · exact Or.inl fun i hi => by
          by_cases e : i = m
          · rw [e]; exact q
          · exact h i (by omega)
    · exact Or.inr ⟨n, by omega, h2, h3⟩
theorem own_subm (f m : Nat) : Int32.ofNat (f + m) - Int32.ofNat f = Int32.ofNat m := by rw [← own_add, Int32.add_comm]; simp
theorem own_l1d {cs : List Int32} {f m : Nat} (h : own_l1 cs) : own_l1 ((cs.drop f).take m) := fun c q => h c (List.mem_of_mem_drop (List.mem_of_mem_take q))
theorem rmUNs (l : Launch) (Z : State) (a0 : Array Value) (hw : HW a0 Z) (ws : List Jvm.Cond) (G1 : Int32) (G3 : Value) (G4 : Value) (t : Addr) (k : ClassId) (cs : List Int32) (f : Nat) (m_ : Nat) (h0 : Heap) (n0 : Nat) (Z0 : n0 ≤ h0.size) (EN : own_env Z G1 G3 G4) (X00 : Old Z n0 h0) (V_t : Arv Z h0 t k .byte (Int32.ofNat (2 * cs.length)) (own_wide cs) (.int 0)) (hcc : ∀ c ∈ cs, own_ch c) (h4 : cs.length ≤ 4) (hfm : f + m_ ≤ cs.length) (hm1 : 1 ≤ m_) (hfs : f + m_ < cs.length) :
    MetFree l y_44 (head1 (Jvm.Cond.code y_44 jdk_52_method_69_code 5 (some (.object "java/lang/String")) :: ws) (Rm 5 3 24 78)) (fun a_ U_ => a_ = #[(.ref t), (.int (Int32.ofNat f)), (.int (Int32.ofNat m_))] ∧ Z.Warmed39 U_.vm ∧ U_.heap = h0) (fun _ _ _ _ _ => True) (fun _ U_ o_ U1_ => ∃ v_ L_, o_ = .returned v_ ∧ own_QZ Z ((cs.drop f).take m_) h0 n0 v_ U1_.heap L_ ∧ FrameEnd U_ o_ U1_ L_ (Rm 5 3 24 78).cells (Rm 5 3 24 78).slots) := by
  rcases own_firstm (P := fun i => (255 : Int32) < (cs.getD (f + i) 0)) m_ with hq | ⟨n, hn, hq, hbg⟩
  · exact rmUNL l Z a0 hw ws G1 G3 G4 t k cs f m_ h0 n0 Z0 EN X00 V_t hcc h4 hfm hm1 hfs hq
  · exact rmUNU l Z a0 hw ws G1 G3 G4 t k cs f m_ n h0 n0 Z0 EN X00 V_t hcc h4 hfm hm1 hfs hq hn hbg
theorem d27_0 : decode jdk_43_method_47_code 0 = .ok (.iload_n 2, 1) := by decide +kernel
theorem d27_1 : decode jdk_43_method_47_code 1 = .ok (.ifCond .ne 6, 3) := by decide +kernel
theorem d27_7 : decode jdk_43_method_47_code 7 = .ok (.new 1, 3) := by decide +kernel
theorem d27_10 : decode jdk_43_method_47_code 10 = .ok (.dup, 1) := by decide +kernel
theorem d27_11 : decode jdk_43_method_47_code 11 = .ok (.aload_n 0, 1) := by decide +kernel
theorem d27_12 : decode jdk_43_method_47_code 12 = .ok (.iload_n 1, 1) := by decide +kernel
theorem d27_13 : decode jdk_43_method_47_code 13 = .ok (.iload_n 1, 1) := by decide +kernel
theorem d27_14 : decode jdk_43_method_47_code 14 = .ok (.iload_n 2, 1) := by decide +kernel
theorem d27_15 : decode jdk_43_method_47_code 15 = .ok (.iadd, 1) := by decide +kernel
theorem d27_16 : decode jdk_43_method_47_code 16 = .ok (.invokestatic 232, 3) := by decide +kernel
theorem d27_19 : decode jdk_43_method_47_code 19 = .ok (.iconst 0, 1) := by decide +kernel
theorem d27_20 : decode jdk_43_method_47_code 20 = .ok (.invokespecial 112, 3) := by decide +kernel
theorem d27_23 : decode jdk_43_method_47_code 23 = .ok (.areturn, 1) := by decide +kernel
theorem pn_27 : plainName "java/lang/StringLatin1" = true := by first | (simp [plainName, overriddenIn]; done) | decide +kernel
theorem ef_27_rrr (m : MethodId) (x0 : Addr) (x1 : Int32) (x2 : Int32) : entryFrame m #[(.ref x0), (.int x1), (.int x2)] 3 = mkF m 0 #[.val (.ref x0), .val (.int x1), .val (.int x2)] [] := by first | (simp [entryFrame, mkF, argsToLocals, Value.category]; done) | rfl
theorem rmLNs (l : Launch) (Z : State) (a0 : Array Value) (hw : HW a0 Z) (ws : List Jvm.Cond) (G1 : Int32) (G3 : Value) (G4 : Value) (t : Addr) (k : ClassId) (cs : List Int32) (f : Nat) (m_ : Nat) (h0 : Heap) (n0 : Nat) (Z0 : n0 ≤ h0.size) (EN : own_env Z G1 G3 G4) (X00 : Old Z n0 h0) (V_t : Arv Z h0 t k .byte (Int32.ofNat cs.length) (own_lat cs) (.int 0)) (hl : own_l1 cs) (h4 : cs.length ≤ 4) (hfm : f + m_ ≤ cs.length) (hm1 : 1 ≤ m_) (hfs : f + m_ < cs.length) :
    MetFree l y_45 (head1 (Jvm.Cond.code y_45 jdk_43_method_47_code 3 (some (.object "java/lang/String")) :: ws) (Rm 3 2 20 50)) (fun a_ U_ => a_ = #[(.ref t), (.int (Int32.ofNat f)), (.int (Int32.ofNat m_))] ∧ Z.Warmed39 U_.vm ∧ U_.heap = h0) (fun _ _ _ _ _ => True) (fun _ U_ o_ U1_ => ∃ v_ L_, o_ = .returned v_ ∧ own_QZ Z ((cs.drop f).take m_) h0 n0 v_ U1_.heap L_ ∧ FrameEnd U_ o_ U1_ L_ (Rm 3 2 20 50).cells (Rm 3 2 20 50).slots) := by
  refine MetFree.of_bodySF (plainFor_of_name pn_27) hisR ?_
  intro p e s m args below meth c s₁ Bd hml0 hP hK
  obtain ⟨rfl, hZ, hh⟩ := hP
  have hx := Bd.exec
  have hby := Bd.bytes
  have hml : c.maxLocals = 3 := hml0
  have hown : s.vm.findClass "java/lang/StringLatin1" = some m.cls := findClass_of_methodNamed Bd.named
  have hnm := (name_of_methodNamed Bd.named Bd.method).1
  have X0 : Stand p l e (Rm 3 2 20 50) s m #[(.ref t), (.int (Int32.ofNat f)), (.int (Int32.ofNat m_))] below meth c s₁ [] 0 0 := Stand.of_body Bd
  have e0 : s₁.heap = h0 := by rw [← hh, Bd.state]; rfl
  have N0 := Fr.nil n0
  have pre0 : ∀ tt, Steps p.tables e below (s₁.setTop (mkF m 0 #[.val (.ref t), .val (.int (Int32.ofNat f)), .val (.int (Int32.ofNat m_))] [])) tt → Steps p.tables e below (s₁.setTop (entryFrame m #[(.ref t), (.int (Int32.ofNat f)), (.int (Int32.ofNat m_))] 3)) tt := fun tt kk => castTop (ef_27_rrr m t (Int32.ofNat f) (Int32.ofNat m_)) kk
  have EN0 := EN
  obtain ⟨O2, P5, O4, rG3, O6, O7, O8⟩ := EN
  obtain ⟨T1, h1, X1, e1, E1, A1, D1, -, st1⟩ := newO X0 hx hZ hown (hw _ (tk 134 rfl)) (hw _ (tk 8 rfl)) (hw _ (tk 9 rfl)) e0 (g := (mkF m 7 #[.val (.ref t), .val (.int (Int32.ofNat f)), .val (.int (Int32.ofNat m_))] [])) rfl (hb hby d27_7) (by decide) (by decide)
  obtain ⟨b1, g1⟩ : ∃ z, z = h0.size := ⟨_, rfl⟩
  rw [← g1] at A1 D1 st1
  have g_b1 : n0 ≤ b1 := Nat.le_trans Z0 (Nat.le_of_eq g1.symm)
  have sz_b1 : h0.size ≤ b1 := Nat.le_trans (Nat.le_refl _) (Nat.le_of_eq g1.symm)
  have F1_coder : Fld Z h1 b1 "java/lang/String" "coder" "B" (.int 0) := D1 (Or.inr (hw _ (tk 33 rfl))) (ty := .byte) (by decide)
  have F1_value : Fld Z h1 b1 "java/lang/String" "value" "[B" .null := D1 (Or.inr (hw _ (tk 35 rfl))) (ty := (.array .byte)) (by decide)
  have f3 := (V_t.ext E1)
  obtain ⟨_, _, ⟨T2, L2, k2, n2⟩, -, X2, ⟨Lc2, hQ2, l2, y2, z2⟩, st2⟩ := Jvm.LawKit.callS X1 hx (y := y_40) hown (mvT hZ (hw _ (tk 135 rfl))) (mvT hZ (hw _ (tk 136 rfl))) (mvT hZ (hw _ (tk 137 rfl))) (mvT hZ (hw _ (tk 138 rfl))) (by decide) (backOf (W := 2) (rmCR l Z a0 hw [] t k cs.length (own_lat cs) f (f + m_) h1 n0 (Nat.le_trans Z0 E1.1) f3 (own_lat_len cs) (by omega) hfs (by omega)) hZ (hw _ (tk 138 rfl)) (hw _ (tk 137 rfl)) (by decide) (by decide)) (g := (mkF m 16 #[.val (.ref t), .val (.int (Int32.ofNat f)), .val (.int (Int32.ofNat m_))] [(.int (Int32.ofNat (f + m_))), (.int (Int32.ofNat f)), (.ref t), (.ref b1), (.ref b1)])) rfl (by rw [hml]; rfl) (argsL := [(.ref t), (.int (Int32.ofNat f)), (.int (Int32.ofNat (f + m_)))]) (rest := [(.ref b1), (.ref b1)]) (lenOf pd___BII__B rfl) rfl (by show 2 * 0 + _ ≤ _; exact Nat.le_of_eq rfl) (hb hby d27_16) (fun _ _ => ⟨rfl, e1, (by decide : 1 + 1 ≤ _), (by decide : 4 + 16 ≤ _)⟩)
  dsimp only [Pt.U, Pt.locs, Pt.cells, Pt.slots] at X2 l2 y2 z2 st2 hQ2
  subst l2 y2 z2
  obtain ⟨t2, k2q, rfl, Nq2, gt2, sq2, Kq2, V2q⟩ := hQ2
  have N2 := Fr.app N0 Nq2
  have szt2 : h0.size ≤ t2 := Nat.le_trans E1.1 sq2
  have f5 := (A1.keep Kq2)
  have f6 := (F1_coder.keep Kq2 nin0)
  have f7 := (F1_value.keep Kq2 nin0)
  obtain ⟨_, _, ⟨T4, L4, k4, n4⟩, -, X4, ⟨Lc4, hQ4, l4, y4, z4⟩, st4⟩ := X2.specialBack hx (y := y_43) rfl hown (mvT hZ (hw _ (tk 150 rfl))) (mvT hZ (hw _ (tk 151 rfl))) (mvT hZ (hw _ (tk 152 rfl))) (by decide) (backOf (W := 1) (rmBB0 l Z a0 hw [] b1 t2 T2.heap n0 (Nat.le_trans Z0 (Nat.le_trans E1.1 Kq2.1)) f5 f6 f7 g_b1) hZ (hw _ (tk 152 rfl)) (hw _ (tk 9 rfl)) (by decide) (by decide)) (g := (mkF m 20 #[.val (.ref t), .val (.int (Int32.ofNat f)), .val (.int (Int32.ofNat m_))] [(.int 0), (.ref t2), (.ref b1), (.ref b1)])) rfl (by rw [hml]; rfl) (Steps.refl _) (a := b1) (argsL := [(.ref t2), (.int 0)]) (rest := [(.ref b1)]) (lenOf pd___BB_V rfl) rfl (by show 2 * 0 + _ ≤ _; exact Nat.le_of_eq rfl) (hb hby d27_20) (fun _ _ => ⟨rfl, rfl, (by decide : 2 + 0 ≤ _), (by decide : 20 + 0 ≤ _)⟩)
  dsimp only [Pt.U, Pt.locs, Pt.cells, Pt.slots] at X4 l4 y4 z4 st4 hQ4
  subst l4 y4 z4
  obtain ⟨rfl, Nq4, Kq4, E4q, Fv4q, Fc4q⟩ := hQ4
  have N4 := Fr.app N2 Nq4
  have f8 := (V2q.keep Kq4 (ninS (Ne.symm (Nat.ne_of_lt (Nat.lt_of_lt_of_le A1.lt sq2))) nin0))
  obtain ⟨fs, hr, hrun, hended, hW, hsame⟩ := X4.leave (v := some (.ref b1)) (fun h => by rw [Bd.returns] at h; cases h)
  refine ⟨_, _, pre0 _ ?_, hrun, hended, _, _, rfl, ?_, ⟨_, rfl⟩, hW, hsame.mono (by decide) (by decide)⟩
  · show Steps _ _ _ (s₁.setTop (mkF m 0 #[.val (.ref t), .val (.int (Int32.ofNat f)), .val (.int (Int32.ofNat m_))] [])) _
    refine XS.iloadN X0.here hx rfl (hb hby d27_0) rfl ?_
    refine XS.ifYes X0.here hx rfl (pc0 := 1) (pc' := 7) rfl (hb hby d27_1) rfl ((if0 _ _).trans (feq (fun q => by have := (own_eq (j := 0) (by omega) (by omega)).mp q; omega)).2) (by decide) (by decide) ?_
    show Steps _ _ _ (s₁.setTop (mkF m 7 #[.val (.ref t), .val (.int (Int32.ofNat f)), .val (.int (Int32.ofNat m_))] [])) _
    refine st1 _ ?_
    show Steps _ _ _ (T1.setTop (mkF m 10 #[.val (.ref t), .val (.int (Int32.ofNat f)), .val (.int (Int32.ofNat m_))] [(.ref b1)])) _
    refine XS.dup X1.here hx rfl (hb hby d27_10) rfl rfl ?_
    refine XS.aloadN X1.here hx rfl (hb hby d27_11) rfl rfl ?_
    refine XS.iloadN X1.here hx rfl (hb hby d27_12) rfl ?_
    refine XS.iloadN X1.here hx rfl (hb hby d27_13) rfl ?_
    refine XS.iloadN X1.here hx rfl (hb hby d27_14) rfl ?_
    refine XS.iadd X1.here hx rfl (hb hby d27_15) rfl ?_
    show Steps _ _ _ (T1.setTop (mkF m 16 #[.val (.ref t), .val (.int (Int32.ofNat f)), .val (.int (Int32.ofNat m_))] [(.int ((Int32.ofNat f) + (Int32.ofNat m_))), (.int (Int32.ofNat f)), (.ref t), (.ref b1), (.ref b1)])) _
    rw [(own_add (i := f) (j := m_))]
    show Steps _ _ _ (T1.setTop (mkF m 16 #[.val (.ref t), .val (.int (Int32.ofNat f)), .val (.int (Int32.ofNat m_))] [(.int (Int32.ofNat (f + m_))), (.int (Int32.ofNat f)), (.ref t), (.ref b1), (.ref b1)])) _
    refine st2 _ ?_
    show Steps _ _ _ (T2.setTop (mkF m 19 #[.val (.ref t), .val (.int (Int32.ofNat f)), .val (.int (Int32.ofNat m_))] [(.ref t2), (.ref b1), (.ref b1)])) _
    refine XS.iconst X2.here hx rfl (hb hby d27_19) ?_
    show Steps _ _ _ (T2.setTop (mkF m 20 #[.val (.ref t), .val (.int (Int32.ofNat f)), .val (.int (Int32.ofNat m_))] [(.int 0), (.ref t2), (.ref b1), (.ref b1)])) _
    refine st4.trans ?_
    show Steps _ _ _ (T4.setTop (mkF m 23 #[.val (.ref t), .val (.int (Int32.ofNat f)), .val (.int (Int32.ofNat m_))] [(.ref b1)])) _
    jvm_step X4.here [X4.here.top, hx, (hb hby d27_23), X4.method', Bd.returns, Value.isRef, FieldType.isReference]
    first | (intro acts; rw [hr _ acts rfl rfl rfl]) | rw [hr _ _ rfl rfl rfl]
    exact Steps.refl _
  · show own_QZ Z ((cs.drop f).take m_) h0 n0 _ T4.heap _
    exact ⟨b1, rfl, N4, sz_b1, ((((Keep.refl h0 []).ext E1).trans Kq2 all0).trans Kq4 (allS (P := fun zz => zz ∈ ([] : List Addr) ∨ h0.size ≤ zz) (Or.inr sz_b1) all0)), t2, k2q, E4q, Fv4q, Or.inl ⟨Fc4q, (by have q_ := f8; rw [show f + m_ - f = m_ by omega, own_lat_sub] at q_; rw [own_dl hfm]; exact q_), own_l1d hl⟩⟩
theorem d24_0 : decode jdk_42_method_92_code 0 = .ok (.aload_n 0, 1) := by decide +kernel
theorem d24_1 : decode jdk_42_method_92_code 1 = .ok (.invokevirtual 505, 3) := by decide +kernel
theorem d24_4 : decode jdk_42_method_92_code 4 = .ok (.istore_n 3, 1) := by decide +kernel
theorem d24_5 : decode jdk_42_method_92_code 5 = .ok (.iload_n 1, 1) := by decide +kernel
theorem d24_6 : decode jdk_42_method_92_code 6 = .ok (.iload_n 2, 1) := by decide +kernel
theorem d24_7 : decode jdk_42_method_92_code 7 = .ok (.iload_n 3, 1) := by decide +kernel
theorem d24_8 : decode jdk_42_method_92_code 8 = .ok (.invokestatic 521, 3) := by decide +kernel
theorem d24_11 : decode jdk_42_method_92_code 11 = .ok (.iload_n 1, 1) := by decide +kernel
theorem d24_12 : decode jdk_42_method_92_code 12 = .ok (.ifCond .ne 10, 3) := by decide +kernel
theorem d24_15 : decode jdk_42_method_92_code 15 = .ok (.iload_n 2, 1) := by decide +kernel
theorem d24_16 : decode jdk_42_method_92_code 16 = .ok (.iload_n 3, 1) := by decide +kernel
theorem d24_17 : decode jdk_42_method_92_code 17 = .ok (.if_icmp .ne 5, 3) := by decide +kernel
theorem d24_22 : decode jdk_42_method_92_code 22 = .ok (.iload_n 2, 1) := by decide +kernel
theorem d24_23 : decode jdk_42_method_92_code 23 = .ok (.iload_n 1, 1) := by decide +kernel
theorem d24_24 : decode jdk_42_method_92_code 24 = .ok (.isub, 1) := by decide +kernel
theorem d24_25 : decode jdk_42_method_92_code 25 = .ok (.istore 4, 2) := by decide +kernel
theorem d24_27 : decode jdk_42_method_92_code 27 = .ok (.aload_n 0, 1) := by decide +kernel
theorem d24_28 : decode jdk_42_method_92_code 28 = .ok (.invokevirtual 492, 3) := by decide +kernel
theorem d24_31 : decode jdk_42_method_92_code 31 = .ok (.ifCond .eq 16, 3) := by decide +kernel
theorem d24_34 : decode jdk_42_method_92_code 34 = .ok (.aload_n 0, 1) := by decide +kernel
theorem d24_35 : decode jdk_42_method_92_code 35 = .ok (.getfield 9, 3) := by decide +kernel
theorem d24_38 : decode jdk_42_method_92_code 38 = .ok (.iload_n 1, 1) := by decide +kernel
theorem d24_39 : decode jdk_42_method_92_code 39 = .ok (.iload 4, 2) := by decide +kernel
theorem pd___BII_Ljava_lang_String_ : parseMethodDescriptor "([BII)Ljava/lang/String;" = some ⟨[(.array .byte), .int, .int], some (.object "java/lang/String")⟩ := by decide +kernel
theorem d24_41 : decode jdk_42_method_92_code 41 = .ok (.invokestatic 685, 3) := by decide +kernel
theorem d24_44 : decode jdk_42_method_92_code 44 = .ok (.goto 13, 3) := by decide +kernel
theorem d24_57 : decode jdk_42_method_92_code 57 = .ok (.areturn, 1) := by decide +kernel
theorem d24_47 : decode jdk_42_method_92_code 47 = .ok (.aload_n 0, 1) := by decide +kernel
theorem d24_48 : decode jdk_42_method_92_code 48 = .ok (.getfield 9, 3) := by decide +kernel
theorem d24_51 : decode jdk_42_method_92_code 51 = .ok (.iload_n 1, 1) := by decide +kernel
theorem d24_52 : decode jdk_42_method_92_code 52 = .ok (.iload 4, 2) := by decide +kernel
theorem d24_54 : decode jdk_42_method_92_code 54 = .ok (.invokestatic 689, 3) := by decide +kernel
theorem pn_24 : plainName "java/lang/String" = true := by first | (simp [plainName, overriddenIn]; done) | decide +kernel
theorem ef_24_rrr (m : MethodId) (x0 : Addr) (x1 : Int32) (x2 : Int32) : entryFrame m #[(.ref x0), (.int x1), (.int x2)] 5 = mkF m 0 #[.val (.ref x0), .val (.int x1), .val (.int x2), .unset, .unset] [] := by first | (simp [entryFrame, mkF, argsToLocals, Value.category]; done) | rfl
theorem rmSSl1 (l : Launch) (Z : State) (a0 : Array Value) (hw : HW a0 Z) (ws : List Jvm.Cond) (G1 : Int32) (G3 : Value) (G4 : Value) (x : Addr) (t : Addr) (k : ClassId) (cs : List Int32) (f : Nat) (m_ : Nat) (h0 : Heap) (n0 : Nat) (Z0 : n0 ≤ h0.size) (EN : own_env Z G1 G3 G4) (X00 : Old Z n0 h0) (E_x : Exa Z h0 x "java/lang/String") (F_value_x : Fld Z h0 x "java/lang/String" "value" "[B" (.ref t)) (F_coder_x : Fld Z h0 x "java/lang/String" "coder" "B" (.int 0)) (V_t : Arv Z h0 t k .byte (Int32.ofNat cs.length) (own_lat cs) (.int 0)) (hl : own_l1 cs) (hlen : cs.length ≤ 15) (hcc : ∀ c ∈ cs, own_ch c) (h4 : cs.length ≤ 4) (hfm : f + m_ ≤ cs.length) (hm1 : 1 ≤ m_) (hfs : f + m_ < cs.length) (hf : (Int32.ofNat f) = (0 : Int32)) :
    MetFree l y_46 (head1 (Jvm.Cond.code y_46 jdk_42_method_92_code 5 (some (.object "java/lang/String")) :: ws) (Rm 6 3 24 94)) (fun a_ U_ => a_ = #[(.ref x), (.int (Int32.ofNat f)), (.int (Int32.ofNat (f + m_)))] ∧ Z.Warmed39 U_.vm ∧ U_.heap = h0) (fun _ _ _ _ _ => True) (fun _ U_ o_ U1_ => ∃ v_ L_, o_ = .returned v_ ∧ own_QZ Z ((cs.drop f).take m_) h0 n0 v_ U1_.heap L_ ∧ FrameEnd U_ o_ U1_ L_ (Rm 6 3 24 94).cells (Rm 6 3 24 94).slots) := by
  refine MetFree.of_bodySF (plainFor_of_name pn_24) hisR ?_
  intro p e s m args below meth c s₁ Bd hml0 hP hK
  obtain ⟨rfl, hZ, hh⟩ := hP
  have hx := Bd.exec
  have hby := Bd.bytes
  have hml : c.maxLocals = 5 := hml0
  have hown : s.vm.findClass "java/lang/String" = some m.cls := findClass_of_methodNamed Bd.named
  have hnm := (name_of_methodNamed Bd.named Bd.method).1
  have X0 : Stand p l e (Rm 6 3 24 94) s m #[(.ref x), (.int (Int32.ofNat f)), (.int (Int32.ofNat (f + m_)))] below meth c s₁ [] 0 0 := Stand.of_body Bd
  have e0 : s₁.heap = h0 := by rw [← hh, Bd.state]; rfl
  have N0 := Fr.nil n0
  have pre0 : ∀ tt, Steps p.tables e below (s₁.setTop (mkF m 0 #[.val (.ref x), .val (.int (Int32.ofNat f)), .val (.int (Int32.ofNat (f + m_))), .unset, .unset] [])) tt → Steps p.tables e below (s₁.setTop (entryFrame m #[(.ref x), (.int (Int32.ofNat f)), (.int (Int32.ofNat (f + m_)))] 5)) tt := fun tt kk => castTop (ef_24_rrr m x (Int32.ofNat f) (Int32.ofNat (f + m_))) kk
  have EN0 := EN
  obtain ⟨O2, P5, O4, rG3, O6, O7, O8⟩ := EN
  obtain ⟨cq1, kq1, q1a, q1b, q1c⟩ := isOf hZ e0 E_x
  obtain ⟨_, _, ⟨T1, L1, k1, n1⟩, -, X1, ⟨Lc1, hQ1, l1, y1, z1⟩, st1⟩ := X0.virtualBack hx (y := y_15) (z := y_15) hown (mvT hZ (hw _ (tk 103 rfl))) (mvT hZ (hw _ (tk 61 rfl))) (notFace_of_selects (args := #[]) (mvT hZ (hw _ (tk 63 rfl)))) (mvT hZ (hw _ (tk 63 rfl))) (mvT hZ (hw _ (tk 62 rfl))) (by decide) (backOf (W := 0) (rmLE l Z a0 hw [] G1 G3 G4 x cs h0 n0 Z0 EN0 X00 ⟨t, k, E_x, F_value_x, Or.inl ⟨F_coder_x, V_t, hl⟩⟩ hlen) hZ (hw _ (tk 64 rfl)) (hw _ (tk 9 rfl)) (by decide) (by decide)) q1a q1c (g := (mkF m 1 #[.val (.ref x), .val (.int (Int32.ofNat f)), .val (.int (Int32.ofNat (f + m_))), .unset, .unset] [(.ref x)])) rfl (by rw [hml]; rfl) (Steps.refl _) (argsL := []) (rest := []) (lenOf pd___I rfl) rfl (by show 2 * 0 + _ ≤ _; exact Nat.le_of_eq rfl) (hb hby d24_1) (fun _ _ => ⟨rfl, e0, (by decide : 0 + 0 ≤ _), (by decide : 0 + 0 ≤ _)⟩)
  dsimp only [Pt.U, Pt.locs, Pt.cells, Pt.slots] at X1 l1 y1 z1 st1 hQ1
  subst l1 y1 z1
  obtain ⟨rfl, Nq1, eq1⟩ := hQ1
  have N1 := Fr.app N0 Nq1
  obtain ⟨_, _, ⟨T2, L2, k2, n2⟩, -, X2, ⟨Lc2, hQ2, l2, y2, z2⟩, st2⟩ := Jvm.LawKit.callS X1 hx (y := y_5) hown (mvT hZ (hw _ (tk 125 rfl))) (mvT hZ (hw _ (tk 126 rfl))) (mvT hZ (hw _ (tk 9 rfl))) (mvT hZ (hw _ (tk 127 rfl))) (by decide) (backOf (W := 0) (rmSBE l Z a0 hw [] G1 G3 G4 (Int32.ofNat f) (Int32.ofNat (f + m_)) (Int32.ofNat cs.length) h0 n0 Z0 EN0 X00 (own_n0 (by omega)) (fun q => by have := (own_lt (by omega) (by omega)).mp q; omega) (fun q => by have := (own_lt (by omega) (by omega)).mp q; omega)) hZ (hw _ (tk 127 rfl)) (hw _ (tk 9 rfl)) (by decide) (by decide)) (g := (mkF m 8 #[.val (.ref x), .val (.int (Int32.ofNat f)), .val (.int (Int32.ofNat (f + m_))), .val (.int (Int32.ofNat cs.length)), .unset] [(.int (Int32.ofNat cs.length)), (.int (Int32.ofNat (f + m_))), (.int (Int32.ofNat f))])) rfl (by rw [hml]; rfl) (argsL := [(.int (Int32.ofNat f)), (.int (Int32.ofNat (f + m_))), (.int (Int32.ofNat cs.length))]) (rest := []) (lenOf pd__III_V rfl) rfl (by show 2 * 0 + _ ≤ _; exact Nat.le_of_eq rfl) (hb hby d24_8) (fun _ _ => ⟨rfl, eq1, (by decide : 0 + 0 ≤ _), (by decide : 0 + 0 ≤ _)⟩)
  dsimp only [Pt.U, Pt.locs, Pt.cells, Pt.slots] at X2 l2 y2 z2 st2 hQ2
  subst l2 y2 z2
  obtain ⟨rfl, Nq2, eq2⟩ := hQ2
  have N2 := Fr.app N1 Nq2
  obtain ⟨cq3, kq3, q3a, q3b, q3c⟩ := isOf hZ eq2 E_x
  obtain ⟨_, _, ⟨T3, L3, k3, n3⟩, -, X3, ⟨Lc3, hQ3, l3, y3, z3⟩, st3⟩ := X2.virtualBack hx (y := y_14) (z := y_14) hown (mvT hZ (hw _ (tk 75 rfl))) (mvT hZ (hw _ (tk 76 rfl))) (notFace_of_selects (args := #[]) (mvT hZ (hw _ (tk 78 rfl)))) (mvT hZ (hw _ (tk 78 rfl))) (mvT hZ (hw _ (tk 77 rfl))) (by decide) (backOf (W := 0) (rmSL0 l Z a0 hw [] G1 G3 G4 x h0 n0 Z0 EN0 X00 E_x F_coder_x) hZ (hw _ (tk 79 rfl)) (hw _ (tk 9 rfl)) (by decide) (by decide)) q3a q3c (g := (mkF m 28 #[.val (.ref x), .val (.int (Int32.ofNat f)), .val (.int (Int32.ofNat (f + m_))), .val (.int (Int32.ofNat cs.length)), .val (.int (Int32.ofNat m_))] [(.ref x)])) rfl (by rw [hml]; rfl) (Steps.refl _) (argsL := []) (rest := []) (lenOf pd___Z rfl) rfl (by show 2 * 0 + _ ≤ _; exact Nat.le_of_eq rfl) (hb hby d24_28) (fun _ _ => ⟨rfl, eq2, (by decide : 0 + 0 ≤ _), (by decide : 0 + 0 ≤ _)⟩)
  dsimp only [Pt.U, Pt.locs, Pt.cells, Pt.slots] at X3 l3 y3 z3 st3 hQ3
  subst l3 y3 z3
  obtain ⟨rfl, Nq3, eq3⟩ := hQ3
  have N3 := Fr.app N2 Nq3
  obtain ⟨T4, X4, e4, st4⟩ := getF X3 hx hZ hown (host := "") (Or.inl (hw _ (tk 34 rfl))) Via.refl eq3 F_value_x (g := (mkF m 35 #[.val (.ref x), .val (.int (Int32.ofNat f)), .val (.int (Int32.ofNat (f + m_))), .val (.int (Int32.ofNat cs.length)), .val (.int (Int32.ofNat m_))] [(.ref x)])) rfl rfl (hb hby d24_35)
  obtain ⟨_, _, ⟨T5, L5, k5, n5⟩, -, X5, ⟨Lc5, hQ5, l5, y5, z5⟩, st5⟩ := Jvm.LawKit.callS X4 hx (y := y_45) hown (mvT hZ (hw _ (tk 131 rfl))) (mvT hZ (hw _ (tk 132 rfl))) (mvT hZ (hw _ (tk 82 rfl))) (mvT hZ (hw _ (tk 133 rfl))) (by decide) (backOf (W := 0) (rmLNs l Z a0 hw [] G1 G3 G4 t k cs f m_ h0 n0 Z0 EN0 X00 V_t hl h4 hfm hm1 hfs) hZ (hw _ (tk 133 rfl)) (hw _ (tk 82 rfl)) (by decide) (by decide)) (g := (mkF m 41 #[.val (.ref x), .val (.int (Int32.ofNat f)), .val (.int (Int32.ofNat (f + m_))), .val (.int (Int32.ofNat cs.length)), .val (.int (Int32.ofNat m_))] [(.int (Int32.ofNat m_)), (.int (Int32.ofNat f)), (.ref t)])) rfl (by rw [hml]; rfl) (argsL := [(.ref t), (.int (Int32.ofNat f)), (.int (Int32.ofNat m_))]) (rest := []) (lenOf pd___BII_Ljava_lang_String_ rfl) rfl (by show 2 * 0 + _ ≤ _; exact Nat.le_of_eq rfl) (hb hby d24_41) (fun _ _ => ⟨rfl, e4, (by decide : 0 + 2 ≤ _), (by decide : 0 + 20 ≤ _)⟩)
  dsimp only [Pt.U, Pt.locs, Pt.cells, Pt.slots] at X5 l5 y5 z5 st5 hQ5
  subst l5 y5 z5
  obtain ⟨x5, rfl, Nq5, sz5, Kq5, S5⟩ := hQ5
  have N5 := Fr.app N3 Nq5
  have g5x : n0 ≤ x5 := Nat.le_trans Z0 sz5
  have szx5 : h0.size ≤ x5 := Nat.le_trans (Nat.le_refl _) sz5
  have E5q := own_st_exa S5
  obtain ⟨fs, hr, hrun, hended, hW, hsame⟩ := X5.leave (v := some (.ref x5)) (fun h => by rw [Bd.returns] at h; cases h)
  refine ⟨_, _, pre0 _ ?_, hrun, hended, _, _, rfl, ?_, ⟨_, rfl⟩, hW, hsame.mono (by decide) (by decide)⟩
  · show Steps _ _ _ (s₁.setTop (mkF m 0 #[.val (.ref x), .val (.int (Int32.ofNat f)), .val (.int (Int32.ofNat (f + m_))), .unset, .unset] [])) _
    refine XS.aloadN X0.here hx rfl (hb hby d24_0) rfl rfl ?_
    show Steps _ _ _ (s₁.setTop (mkF m 1 #[.val (.ref x), .val (.int (Int32.ofNat f)), .val (.int (Int32.ofNat (f + m_))), .unset, .unset] [(.ref x)])) _
    refine st1.trans ?_
    show Steps _ _ _ (T1.setTop (mkF m 4 #[.val (.ref x), .val (.int (Int32.ofNat f)), .val (.int (Int32.ofNat (f + m_))), .unset, .unset] [(.int (Int32.ofNat cs.length))])) _
    refine XS.istoreN X1.here hx rfl (hb hby d24_4) rfl (l' := #[.val (.ref x), .val (.int (Int32.ofNat f)), .val (.int (Int32.ofNat (f + m_))), .val (.int (Int32.ofNat cs.length)), .unset]) rfl ?_
    refine XS.iloadN X1.here hx rfl (hb hby d24_5) rfl ?_
    refine XS.iloadN X1.here hx rfl (hb hby d24_6) rfl ?_
    refine XS.iloadN X1.here hx rfl (hb hby d24_7) rfl ?_
    show Steps _ _ _ (T1.setTop (mkF m 8 #[.val (.ref x), .val (.int (Int32.ofNat f)), .val (.int (Int32.ofNat (f + m_))), .val (.int (Int32.ofNat cs.length)), .unset] [(.int (Int32.ofNat cs.length)), (.int (Int32.ofNat (f + m_))), (.int (Int32.ofNat f))])) _
    refine st2 _ ?_
    show Steps _ _ _ (T2.setTop (mkF m 11 #[.val (.ref x), .val (.int (Int32.ofNat f)), .val (.int (Int32.ofNat (f + m_))), .val (.int (Int32.ofNat cs.length)), .unset] [])) _
    refine XS.iloadN X2.here hx rfl (hb hby d24_11) rfl ?_
    refine XS.ifNo X2.here hx rfl (hb hby d24_12) rfl ((if0 _ _).trans (teq hf).2) ?_
    refine XS.iloadN X2.here hx rfl (hb hby d24_15) rfl ?_
    refine XS.iloadN X2.here hx rfl (hb hby d24_16) rfl ?_
    refine XS.icmpYes X2.here hx rfl (pc0 := 17) (pc' := 22) rfl (hb hby d24_17) rfl (feq (fun q => by have := (own_eq (by omega) (by omega)).mp q; omega)).2 (by decide) (by decide) ?_
    refine XS.iloadN X2.here hx rfl (hb hby d24_22) rfl ?_
    refine XS.iloadN X2.here hx rfl (hb hby d24_23) rfl ?_
    refine XS.isub X2.here hx rfl (hb hby d24_24) rfl ?_
    show Steps _ _ _ (T2.setTop (mkF m 25 #[.val (.ref x), .val (.int (Int32.ofNat f)), .val (.int (Int32.ofNat (f + m_))), .val (.int (Int32.ofNat cs.length)), .unset] [(.int ((Int32.ofNat (f + m_)) - (Int32.ofNat f)))])) _
    rw [(own_subm f m_)]
    show Steps _ _ _ (T2.setTop (mkF m 25 #[.val (.ref x), .val (.int (Int32.ofNat f)), .val (.int (Int32.ofNat (f + m_))), .val (.int (Int32.ofNat cs.length)), .unset] [(.int (Int32.ofNat m_))])) _
    refine XS.istore X2.here hx rfl (hb hby d24_25) rfl (l' := #[.val (.ref x), .val (.int (Int32.ofNat f)), .val (.int (Int32.ofNat (f + m_))), .val (.int (Int32.ofNat cs.length)), .val (.int (Int32.ofNat m_))]) rfl ?_
    refine XS.aloadN X2.here hx rfl (hb hby d24_27) rfl rfl ?_
    show Steps _ _ _ (T2.setTop (mkF m 28 #[.val (.ref x), .val (.int (Int32.ofNat f)), .val (.int (Int32.ofNat (f + m_))), .val (.int (Int32.ofNat cs.length)), .val (.int (Int32.ofNat m_))] [(.ref x)])) _
    refine st3.trans ?_
    show Steps _ _ _ (T3.setTop (mkF m 31 #[.val (.ref x), .val (.int (Int32.ofNat f)), .val (.int (Int32.ofNat (f + m_))), .val (.int (Int32.ofNat cs.length)), .val (.int (Int32.ofNat m_))] [(.int 1)])) _
    refine XS.ifNo X3.here hx rfl (hb hby d24_31) rfl ((if0 _ _).trans (feq (by decide : ¬ ((1 : Int32) = (0 : Int32)))).1) ?_
    refine XS.aloadN X3.here hx rfl (hb hby d24_34) rfl rfl ?_
    show Steps _ _ _ (T3.setTop (mkF m 35 #[.val (.ref x), .val (.int (Int32.ofNat f)), .val (.int (Int32.ofNat (f + m_))), .val (.int (Int32.ofNat cs.length)), .val (.int (Int32.ofNat m_))] [(.ref x)])) _
    refine st4 _ ?_
    show Steps _ _ _ (T4.setTop (mkF m 38 #[.val (.ref x), .val (.int (Int32.ofNat f)), .val (.int (Int32.ofNat (f + m_))), .val (.int (Int32.ofNat cs.length)), .val (.int (Int32.ofNat m_))] [(.ref t)])) _
    refine XS.iloadN X4.here hx rfl (hb hby d24_38) rfl ?_
    refine XS.iload X4.here hx rfl (hb hby d24_39) rfl ?_
    show Steps _ _ _ (T4.setTop (mkF m 41 #[.val (.ref x), .val (.int (Int32.ofNat f)), .val (.int (Int32.ofNat (f + m_))), .val (.int (Int32.ofNat cs.length)), .val (.int (Int32.ofNat m_))] [(.int (Int32.ofNat m_)), (.int (Int32.ofNat f)), (.ref t)])) _
    refine st5 _ ?_
    show Steps _ _ _ (T5.setTop (mkF m 44 #[.val (.ref x), .val (.int (Int32.ofNat f)), .val (.int (Int32.ofNat (f + m_))), .val (.int (Int32.ofNat cs.length)), .val (.int (Int32.ofNat m_))] [(.ref x5)])) _
    refine XS.goto X5.here hx rfl (pc0 := 44) (pc' := 57) rfl (hb hby d24_44) (by decide) (by decide) ?_
    show Steps _ _ _ (T5.setTop (mkF m 57 #[.val (.ref x), .val (.int (Int32.ofNat f)), .val (.int (Int32.ofNat (f + m_))), .val (.int (Int32.ofNat cs.length)), .val (.int (Int32.ofNat m_))] [(.ref x5)])) _
    jvm_step X5.here [X5.here.top, hx, (hb hby d24_57), X5.method', Bd.returns, Value.isRef, FieldType.isReference]
    first | (intro acts; rw [hr _ acts rfl rfl rfl]) | rw [hr _ _ rfl rfl rfl]
    exact Steps.refl _
  · show own_QZ Z ((cs.drop f).take m_) h0 n0 _ T5.heap _
    exact ⟨x5, rfl, N5, szx5, ((Keep.refl h0 []).trans Kq5 all0), S5⟩
theorem rmSSl0 (l : Launch) (Z : State) (a0 : Array Value) (hw : HW a0 Z) (ws : List Jvm.Cond) (G1 : Int32) (G3 : Value) (G4 : Value) (x : Addr) (t : Addr) (k : ClassId) (cs : List Int32) (f : Nat) (m_ : Nat) (h0 : Heap) (n0 : Nat) (Z0 : n0 ≤ h0.size) (EN : own_env Z G1 G3 G4) (X00 : Old Z n0 h0) (E_x : Exa Z h0 x "java/lang/String") (F_value_x : Fld Z h0 x "java/lang/String" "value" "[B" (.ref t)) (F_coder_x : Fld Z h0 x "java/lang/String" "coder" "B" (.int 0)) (V_t : Arv Z h0 t k .byte (Int32.ofNat cs.length) (own_lat cs) (.int 0)) (hl : own_l1 cs) (hlen : cs.length ≤ 15) (hcc : ∀ c ∈ cs, own_ch c) (h4 : cs.length ≤ 4) (hfm : f + m_ ≤ cs.length) (hm1 : 1 ≤ m_) (hfs : f + m_ < cs.length) (hf : ¬ ((Int32.ofNat f) = (0 : Int32))) :
    MetFree l y_46 (head1 (Jvm.Cond.code y_46 jdk_42_method_92_code 5 (some (.object "java/lang/String")) :: ws) (Rm 6 3 24 94)) (fun a_ U_ => a_ = #[(.ref x), (.int (Int32.ofNat f)), (.int (Int32.ofNat (f + m_)))] ∧ Z.Warmed39 U_.vm ∧ U_.heap = h0) (fun _ _ _ _ _ => True) (fun _ U_ o_ U1_ => ∃ v_ L_, o_ = .returned v_ ∧ own_QZ Z ((cs.drop f).take m_) h0 n0 v_ U1_.heap L_ ∧ FrameEnd U_ o_ U1_ L_ (Rm 6 3 24 94).cells (Rm 6 3 24 94).slots) := by
  refine MetFree.of_bodySF (plainFor_of_name pn_24) hisR ?_
  intro p e s m args below meth c s₁ Bd hml0 hP hK
  obtain ⟨rfl, hZ, hh⟩ := hP
  have hx := Bd.exec
  have hby := Bd.bytes
  have hml : c.maxLocals = 5 := hml0
  have hown : s.vm.findClass "java/lang/String" = some m.cls := findClass_of_methodNamed Bd.named
  have hnm := (name_of_methodNamed Bd.named Bd.method).1
  have X0 : Stand p l e (Rm 6 3 24 94) s m #[(.ref x), (.int (Int32.ofNat f)), (.int (Int32.ofNat (f + m_)))] below meth c s₁ [] 0 0 := Stand.of_body Bd
  have e0 : s₁.heap = h0 := by rw [← hh, Bd.state]; rfl
  have N0 := Fr.nil n0
  have pre0 : ∀ tt, Steps p.tables e below (s₁.setTop (mkF m 0 #[.val (.ref x), .val (.int (Int32.ofNat f)), .val (.int (Int32.ofNat (f + m_))), .unset, .unset] [])) tt → Steps p.tables e below (s₁.setTop (entryFrame m #[(.ref x), (.int (Int32.ofNat f)), (.int (Int32.ofNat (f + m_)))] 5)) tt := fun tt kk => castTop (ef_24_rrr m x (Int32.ofNat f) (Int32.ofNat (f + m_))) kk
  have EN0 := EN
  obtain ⟨O2, P5, O4, rG3, O6, O7, O8⟩ := EN
  obtain ⟨cq1, kq1, q1a, q1b, q1c⟩ := isOf hZ e0 E_x
  obtain ⟨_, _, ⟨T1, L1, k1, n1⟩, -, X1, ⟨Lc1, hQ1, l1, y1, z1⟩, st1⟩ := X0.virtualBack hx (y := y_15) (z := y_15) hown (mvT hZ (hw _ (tk 103 rfl))) (mvT hZ (hw _ (tk 61 rfl))) (notFace_of_selects (args := #[]) (mvT hZ (hw _ (tk 63 rfl)))) (mvT hZ (hw _ (tk 63 rfl))) (mvT hZ (hw _ (tk 62 rfl))) (by decide) (backOf (W := 0) (rmLE l Z a0 hw [] G1 G3 G4 x cs h0 n0 Z0 EN0 X00 ⟨t, k, E_x, F_value_x, Or.inl ⟨F_coder_x, V_t, hl⟩⟩ hlen) hZ (hw _ (tk 64 rfl)) (hw _ (tk 9 rfl)) (by decide) (by decide)) q1a q1c (g := (mkF m 1 #[.val (.ref x), .val (.int (Int32.ofNat f)), .val (.int (Int32.ofNat (f + m_))), .unset, .unset] [(.ref x)])) rfl (by rw [hml]; rfl) (Steps.refl _) (argsL := []) (rest := []) (lenOf pd___I rfl) rfl (by show 2 * 0 + _ ≤ _; exact Nat.le_of_eq rfl) (hb hby d24_1) (fun _ _ => ⟨rfl, e0, (by decide : 0 + 0 ≤ _), (by decide : 0 + 0 ≤ _)⟩)
  dsimp only [Pt.U, Pt.locs, Pt.cells, Pt.slots] at X1 l1 y1 z1 st1 hQ1
  subst l1 y1 z1
  obtain ⟨rfl, Nq1, eq1⟩ := hQ1
  have N1 := Fr.app N0 Nq1
  obtain ⟨_, _, ⟨T2, L2, k2, n2⟩, -, X2, ⟨Lc2, hQ2, l2, y2, z2⟩, st2⟩ := Jvm.LawKit.callS X1 hx (y := y_5) hown (mvT hZ (hw _ (tk 125 rfl))) (mvT hZ (hw _ (tk 126 rfl))) (mvT hZ (hw _ (tk 9 rfl))) (mvT hZ (hw _ (tk 127 rfl))) (by decide) (backOf (W := 0) (rmSBE l Z a0 hw [] G1 G3 G4 (Int32.ofNat f) (Int32.ofNat (f + m_)) (Int32.ofNat cs.length) h0 n0 Z0 EN0 X00 (own_n0 (by omega)) (fun q => by have := (own_lt (by omega) (by omega)).mp q; omega) (fun q => by have := (own_lt (by omega) (by omega)).mp q; omega)) hZ (hw _ (tk 127 rfl)) (hw _ (tk 9 rfl)) (by decide) (by decide)) (g := (mkF m 8 #[.val (.ref x), .val (.int (Int32.ofNat f)), .val (.int (Int32.ofNat (f + m_))), .val (.int (Int32.ofNat cs.length)), .unset] [(.int (Int32.ofNat cs.length)), (.int (Int32.ofNat (f + m_))), (.int (Int32.ofNat f))])) rfl (by rw [hml]; rfl) (argsL := [(.int (Int32.ofNat f)), (.int (Int32.ofNat (f + m_))), (.int (Int32.ofNat cs.length))]) (rest := []) (lenOf pd__III_V rfl) rfl (by show 2 * 0 + _ ≤ _; exact Nat.le_of_eq rfl) (hb hby d24_8) (fun _ _ => ⟨rfl, eq1, (by decide : 0 + 0 ≤ _), (by decide : 0 + 0 ≤ _)⟩)
  dsimp only [Pt.U, Pt.locs, Pt.cells, Pt.slots] at X2 l2 y2 z2 st2 hQ2
  subst l2 y2 z2
  obtain ⟨rfl, Nq2, eq2⟩ := hQ2
  have N2 := Fr.app N1 Nq2
  obtain ⟨cq3, kq3, q3a, q3b, q3c⟩ := isOf hZ eq2 E_x
  obtain ⟨_, _, ⟨T3, L3, k3, n3⟩, -, X3, ⟨Lc3, hQ3, l3, y3, z3⟩, st3⟩ := X2.virtualBack hx (y := y_14) (z := y_14) hown (mvT hZ (hw _ (tk 75 rfl))) (mvT hZ (hw _ (tk 76 rfl))) (notFace_of_selects (args := #[]) (mvT hZ (hw _ (tk 78 rfl)))) (mvT hZ (hw _ (tk 78 rfl))) (mvT hZ (hw _ (tk 77 rfl))) (by decide) (backOf (W := 0) (rmSL0 l Z a0 hw [] G1 G3 G4 x h0 n0 Z0 EN0 X00 E_x F_coder_x) hZ (hw _ (tk 79 rfl)) (hw _ (tk 9 rfl)) (by decide) (by decide)) q3a q3c (g := (mkF m 28 #[.val (.ref x), .val (.int (Int32.ofNat f)), .val (.int (Int32.ofNat (f + m_))), .val (.int (Int32.ofNat cs.length)), .val (.int (Int32.ofNat m_))] [(.ref x)])) rfl (by rw [hml]; rfl) (Steps.refl _) (argsL := []) (rest := []) (lenOf pd___Z rfl) rfl (by show 2 * 0 + _ ≤ _; exact Nat.le_of_eq rfl) (hb hby d24_28) (fun _ _ => ⟨rfl, eq2, (by decide : 0 + 0 ≤ _), (by decide : 0 + 0 ≤ _)⟩)
  dsimp only [Pt.U, Pt.locs, Pt.cells, Pt.slots] at X3 l3 y3 z3 st3 hQ3
  subst l3 y3 z3
  obtain ⟨rfl, Nq3, eq3⟩ := hQ3
  have N3 := Fr.app N2 Nq3
  obtain ⟨T4, X4, e4, st4⟩ := getF X3 hx hZ hown (host := "") (Or.inl (hw _ (tk 34 rfl))) Via.refl eq3 F_value_x (g := (mkF m 35 #[.val (.ref x), .val (.int (Int32.ofNat f)), .val (.int (Int32.ofNat (f + m_))), .val (.int (Int32.ofNat cs.length)), .val (.int (Int32.ofNat m_))] [(.ref x)])) rfl rfl (hb hby d24_35)
  obtain ⟨_, _, ⟨T5, L5, k5, n5⟩, -, X5, ⟨Lc5, hQ5, l5, y5, z5⟩, st5⟩ := Jvm.LawKit.callS X4 hx (y := y_45) hown (mvT hZ (hw _ (tk 131 rfl))) (mvT hZ (hw _ (tk 132 rfl))) (mvT hZ (hw _ (tk 82 rfl))) (mvT hZ (hw _ (tk 133 rfl))) (by decide) (backOf (W := 0) (rmLNs l Z a0 hw [] G1 G3 G4 t k cs f m_ h0 n0 Z0 EN0 X00 V_t hl h4 hfm hm1 hfs) hZ (hw _ (tk 133 rfl)) (hw _ (tk 82 rfl)) (by decide) (by decide)) (g := (mkF m 41 #[.val (.ref x), .val (.int (Int32.ofNat f)), .val (.int (Int32.ofNat (f + m_))), .val (.int (Int32.ofNat cs.length)), .val (.int (Int32.ofNat m_))] [(.int (Int32.ofNat m_)), (.int (Int32.ofNat f)), (.ref t)])) rfl (by rw [hml]; rfl) (argsL := [(.ref t), (.int (Int32.ofNat f)), (.int (Int32.ofNat m_))]) (rest := []) (lenOf pd___BII_Ljava_lang_String_ rfl) rfl (by show 2 * 0 + _ ≤ _; exact Nat.le_of_eq rfl) (hb hby d24_41) (fun _ _ => ⟨rfl, e4, (by decide : 0 + 2 ≤ _), (by decide : 0 + 20 ≤ _)⟩)
  dsimp only [Pt.U, Pt.locs, Pt.cells, Pt.slots] at X5 l5 y5 z5 st5 hQ5
  subst l5 y5 z5
  obtain ⟨x5, rfl, Nq5, sz5, Kq5, S5⟩ := hQ5
  have N5 := Fr.app N3 Nq5
  have g5x : n0 ≤ x5 := Nat.le_trans Z0 sz5
  have szx5 : h0.size ≤ x5 := Nat.le_trans (Nat.le_refl _) sz5
  have E5q := own_st_exa S5
  obtain ⟨fs, hr, hrun, hended, hW, hsame⟩ := X5.leave (v := some (.ref x5)) (fun h => by rw [Bd.returns] at h; cases h)
  refine ⟨_, _, pre0 _ ?_, hrun, hended, _, _, rfl, ?_, ⟨_, rfl⟩, hW, hsame.mono (by decide) (by decide)⟩
  · show Steps _ _ _ (s₁.setTop (mkF m 0 #[.val (.ref x), .val (.int (Int32.ofNat f)), .val (.int (Int32.ofNat (f + m_))), .unset, .unset] [])) _
    refine XS.aloadN X0.here hx rfl (hb hby d24_0) rfl rfl ?_
    show Steps _ _ _ (s₁.setTop (mkF m 1 #[.val (.ref x), .val (.int (Int32.ofNat f)), .val (.int (Int32.ofNat (f + m_))), .unset, .unset] [(.ref x)])) _
    refine st1.trans ?_
    show Steps _ _ _ (T1.setTop (mkF m 4 #[.val (.ref x), .val (.int (Int32.ofNat f)), .val (.int (Int32.ofNat (f + m_))), .unset, .unset] [(.int (Int32.ofNat cs.length))])) _
    refine XS.istoreN X1.here hx rfl (hb hby d24_4) rfl (l' := #[.val (.ref x), .val (.int (Int32.ofNat f)), .val (.int (Int32.ofNat (f + m_))), .val (.int (Int32.ofNat cs.length)), .unset]) rfl ?_
    refine XS.iloadN X1.here hx rfl (hb hby d24_5) rfl ?_
    refine XS.iloadN X1.here hx rfl (hb hby d24_6) rfl ?_
    refine XS.iloadN X1.here hx rfl (hb hby d24_7) rfl ?_
    show Steps _ _ _ (T1.setTop (mkF m 8 #[.val (.ref x), .val (.int (Int32.ofNat f)), .val (.int (Int32.ofNat (f + m_))), .val (.int (Int32.ofNat cs.length)), .unset] [(.int (Int32.ofNat cs.length)), (.int (Int32.ofNat (f + m_))), (.int (Int32.ofNat f))])) _
    refine st2 _ ?_
    show Steps _ _ _ (T2.setTop (mkF m 11 #[.val (.ref x), .val (.int (Int32.ofNat f)), .val (.int (Int32.ofNat (f + m_))), .val (.int (Int32.ofNat cs.length)), .unset] [])) _
    refine XS.iloadN X2.here hx rfl (hb hby d24_11) rfl ?_
    refine XS.ifYes X2.here hx rfl (pc0 := 12) (pc' := 22) rfl (hb hby d24_12) rfl ((if0 _ _).trans (feq hf).2) (by decide) (by decide) ?_
    refine XS.iloadN X2.here hx rfl (hb hby d24_22) rfl ?_
    refine XS.iloadN X2.here hx rfl (hb hby d24_23) rfl ?_
    refine XS.isub X2.here hx rfl (hb hby d24_24) rfl ?_
    show Steps _ _ _ (T2.setTop (mkF m 25 #[.val (.ref x), .val (.int (Int32.ofNat f)), .val (.int (Int32.ofNat (f + m_))), .val (.int (Int32.ofNat cs.length)), .unset] [(.int ((Int32.ofNat (f + m_)) - (Int32.ofNat f)))])) _
    rw [(own_subm f m_)]
    show Steps _ _ _ (T2.setTop (mkF m 25 #[.val (.ref x), .val (.int (Int32.ofNat f)), .val (.int (Int32.ofNat (f + m_))), .val (.int (Int32.ofNat cs.length)), .unset] [(.int (Int32.ofNat m_))])) _
    refine XS.istore X2.here hx rfl (hb hby d24_25) rfl (l' := #[.val (.ref x), .val (.int (Int32.ofNat f)), .val (.int (Int32.ofNat (f + m_))), .val (.int (Int32.ofNat cs.length)), .val (.int (Int32.ofNat m_))]) rfl ?_
    refine XS.aloadN X2.here hx rfl (hb hby d24_27) rfl rfl ?_
    show Steps _ _ _ (T2.setTop (mkF m 28 #[.val (.ref x), .val (.int (Int32.ofNat f)), .val (.int (Int32.ofNat (f + m_))), .val (.int (Int32.ofNat cs.length)), .val (.int (Int32.ofNat m_))] [(.ref x)])) _
    refine st3.trans ?_
    show Steps _ _ _ (T3.setTop (mkF m 31 #[.val (.ref x), .val (.int (Int32.ofNat f)), .val (.int (Int32.ofNat (f + m_))), .val (.int (Int32.ofNat cs.length)), .val (.int (Int32.ofNat m_))] [(.int 1)])) _
    refine XS.ifNo X3.here hx rfl (hb hby d24_31) rfl ((if0 _ _).trans (feq (by decide : ¬ ((1 : Int32) = (0 : Int32)))).1) ?_
    refine XS.aloadN X3.here hx rfl (hb hby d24_34) rfl rfl ?_
    show Steps _ _ _ (T3.setTop (mkF m 35 #[.val (.ref x), .val (.int (Int32.ofNat f)), .val (.int (Int32.ofNat (f + m_))), .val (.int (Int32.ofNat cs.length)), .val (.int (Int32.ofNat m_))] [(.ref x)])) _
    refine st4 _ ?_
    show Steps _ _ _ (T4.setTop (mkF m 38 #[.val (.ref x), .val (.int (Int32.ofNat f)), .val (.int (Int32.ofNat (f + m_))), .val (.int (Int32.ofNat cs.length)), .val (.int (Int32.ofNat m_))] [(.ref t)])) _
    refine XS.iloadN X4.here hx rfl (hb hby d24_38) rfl ?_
    refine XS.iload X4.here hx rfl (hb hby d24_39) rfl ?_
    show Steps _ _ _ (T4.setTop (mkF m 41 #[.val (.ref x), .val (.int (Int32.ofNat f)), .val (.int (Int32.ofNat (f + m_))), .val (.int (Int32.ofNat cs.length)), .val (.int (Int32.ofNat m_))] [(.int (Int32.ofNat m_)), (.int (Int32.ofNat f)), (.ref t)])) _
    refine st5 _ ?_
    show Steps _ _ _ (T5.setTop (mkF m 44 #[.val (.ref x), .val (.int (Int32.ofNat f)), .val (.int (Int32.ofNat (f + m_))), .val (.int (Int32.ofNat cs.length)), .val (.int (Int32.ofNat m_))] [(.ref x5)])) _
    refine XS.goto X5.here hx rfl (pc0 := 44) (pc' := 57) rfl (hb hby d24_44) (by decide) (by decide) ?_
    show Steps _ _ _ (T5.setTop (mkF m 57 #[.val (.ref x), .val (.int (Int32.ofNat f)), .val (.int (Int32.ofNat (f + m_))), .val (.int (Int32.ofNat cs.length)), .val (.int (Int32.ofNat m_))] [(.ref x5)])) _
    jvm_step X5.here [X5.here.top, hx, (hb hby d24_57), X5.method', Bd.returns, Value.isRef, FieldType.isReference]
    first | (intro acts; rw [hr _ acts rfl rfl rfl]) | rw [hr _ _ rfl rfl rfl]
    exact Steps.refl _
  · show own_QZ Z ((cs.drop f).take m_) h0 n0 _ T5.heap _
    exact ⟨x5, rfl, N5, szx5, ((Keep.refl h0 []).trans Kq5 all0), S5⟩
theorem rmSSw1 (l : Launch) (Z : State) (a0 : Array Value) (hw : HW a0 Z) (ws : List Jvm.Cond) (G1 : Int32) (G3 : Value) (G4 : Value) (x : Addr) (t : Addr) (k : ClassId) (cs : List Int32) (f : Nat) (m_ : Nat) (h0 : Heap) (n0 : Nat) (Z0 : n0 ≤ h0.size) (EN : own_env Z G1 G3 G4) (X00 : Old Z n0 h0) (E_x : Exa Z h0 x "java/lang/String") (F_value_x : Fld Z h0 x "java/lang/String" "value" "[B" (.ref t)) (F_coder_x : Fld Z h0 x "java/lang/String" "coder" "B" (.int 1)) (V_t : Arv Z h0 t k .byte (Int32.ofNat (2 * cs.length)) (own_wide cs) (.int 0)) (hlen : cs.length ≤ 15) (hcc : ∀ c ∈ cs, own_ch c) (h4 : cs.length ≤ 4) (hfm : f + m_ ≤ cs.length) (hm1 : 1 ≤ m_) (hfs : f + m_ < cs.length) (hf : (Int32.ofNat f) = (0 : Int32)) :
    MetFree l y_46 (head1 (Jvm.Cond.code y_46 jdk_42_method_92_code 5 (some (.object "java/lang/String")) :: ws) (Rm 6 3 24 94)) (fun a_ U_ => a_ = #[(.ref x), (.int (Int32.ofNat f)), (.int (Int32.ofNat (f + m_)))] ∧ Z.Warmed39 U_.vm ∧ U_.heap = h0) (fun _ _ _ _ _ => True) (fun _ U_ o_ U1_ => ∃ v_ L_, o_ = .returned v_ ∧ own_QZ Z ((cs.drop f).take m_) h0 n0 v_ U1_.heap L_ ∧ FrameEnd U_ o_ U1_ L_ (Rm 6 3 24 94).cells (Rm 6 3 24 94).slots) := by
  refine MetFree.of_bodySF (plainFor_of_name pn_24) hisR ?_
  intro p e s m args below meth c s₁ Bd hml0 hP hK
  obtain ⟨rfl, hZ, hh⟩ := hP
  have hx := Bd.exec
  have hby := Bd.bytes
  have hml : c.maxLocals = 5 := hml0
  have hown : s.vm.findClass "java/lang/String" = some m.cls := findClass_of_methodNamed Bd.named
  have hnm := (name_of_methodNamed Bd.named Bd.method).1
  have X0 : Stand p l e (Rm 6 3 24 94) s m #[(.ref x), (.int (Int32.ofNat f)), (.int (Int32.ofNat (f + m_)))] below meth c s₁ [] 0 0 := Stand.of_body Bd
  have e0 : s₁.heap = h0 := by rw [← hh, Bd.state]; rfl
  have N0 := Fr.nil n0
  have pre0 : ∀ tt, Steps p.tables e below (s₁.setTop (mkF m 0 #[.val (.ref x), .val (.int (Int32.ofNat f)), .val (.int (Int32.ofNat (f + m_))), .unset, .unset] [])) tt → Steps p.tables e below (s₁.setTop (entryFrame m #[(.ref x), (.int (Int32.ofNat f)), (.int (Int32.ofNat (f + m_)))] 5)) tt := fun tt kk => castTop (ef_24_rrr m x (Int32.ofNat f) (Int32.ofNat (f + m_))) kk
  have EN0 := EN
  obtain ⟨O2, P5, O4, rG3, O6, O7, O8⟩ := EN
  obtain ⟨cq1, kq1, q1a, q1b, q1c⟩ := isOf hZ e0 E_x
  obtain ⟨_, _, ⟨T1, L1, k1, n1⟩, -, X1, ⟨Lc1, hQ1, l1, y1, z1⟩, st1⟩ := X0.virtualBack hx (y := y_15) (z := y_15) hown (mvT hZ (hw _ (tk 103 rfl))) (mvT hZ (hw _ (tk 61 rfl))) (notFace_of_selects (args := #[]) (mvT hZ (hw _ (tk 63 rfl)))) (mvT hZ (hw _ (tk 63 rfl))) (mvT hZ (hw _ (tk 62 rfl))) (by decide) (backOf (W := 0) (rmLE l Z a0 hw [] G1 G3 G4 x cs h0 n0 Z0 EN0 X00 ⟨t, k, E_x, F_value_x, Or.inr ⟨F_coder_x, V_t⟩⟩ hlen) hZ (hw _ (tk 64 rfl)) (hw _ (tk 9 rfl)) (by decide) (by decide)) q1a q1c (g := (mkF m 1 #[.val (.ref x), .val (.int (Int32.ofNat f)), .val (.int (Int32.ofNat (f + m_))), .unset, .unset] [(.ref x)])) rfl (by rw [hml]; rfl) (Steps.refl _) (argsL := []) (rest := []) (lenOf pd___I rfl) rfl (by show 2 * 0 + _ ≤ _; exact Nat.le_of_eq rfl) (hb hby d24_1) (fun _ _ => ⟨rfl, e0, (by decide : 0 + 0 ≤ _), (by decide : 0 + 0 ≤ _)⟩)
  dsimp only [Pt.U, Pt.locs, Pt.cells, Pt.slots] at X1 l1 y1 z1 st1 hQ1
  subst l1 y1 z1
  obtain ⟨rfl, Nq1, eq1⟩ := hQ1
  have N1 := Fr.app N0 Nq1
  obtain ⟨_, _, ⟨T2, L2, k2, n2⟩, -, X2, ⟨Lc2, hQ2, l2, y2, z2⟩, st2⟩ := Jvm.LawKit.callS X1 hx (y := y_5) hown (mvT hZ (hw _ (tk 125 rfl))) (mvT hZ (hw _ (tk 126 rfl))) (mvT hZ (hw _ (tk 9 rfl))) (mvT hZ (hw _ (tk 127 rfl))) (by decide) (backOf (W := 0) (rmSBE l Z a0 hw [] G1 G3 G4 (Int32.ofNat f) (Int32.ofNat (f + m_)) (Int32.ofNat cs.length) h0 n0 Z0 EN0 X00 (own_n0 (by omega)) (fun q => by have := (own_lt (by omega) (by omega)).mp q; omega) (fun q => by have := (own_lt (by omega) (by omega)).mp q; omega)) hZ (hw _ (tk 127 rfl)) (hw _ (tk 9 rfl)) (by decide) (by decide)) (g := (mkF m 8 #[.val (.ref x), .val (.int (Int32.ofNat f)), .val (.int (Int32.ofNat (f + m_))), .val (.int (Int32.ofNat cs.length)), .unset] [(.int (Int32.ofNat cs.length)), (.int (Int32.ofNat (f + m_))), (.int (Int32.ofNat f))])) rfl (by rw [hml]; rfl) (argsL := [(.int (Int32.ofNat f)), (.int (Int32.ofNat (f + m_))), (.int (Int32.ofNat cs.length))]) (rest := []) (lenOf pd__III_V rfl) rfl (by show 2 * 0 + _ ≤ _; exact Nat.le_of_eq rfl) (hb hby d24_8) (fun _ _ => ⟨rfl, eq1, (by decide : 0 + 0 ≤ _), (by decide : 0 + 0 ≤ _)⟩)
  dsimp only [Pt.U, Pt.locs, Pt.cells, Pt.slots] at X2 l2 y2 z2 st2 hQ2
  subst l2 y2 z2
  obtain ⟨rfl, Nq2, eq2⟩ := hQ2
  have N2 := Fr.app N1 Nq2
  obtain ⟨cq3, kq3, q3a, q3b, q3c⟩ := isOf hZ eq2 E_x
  obtain ⟨_, _, ⟨T3, L3, k3, n3⟩, -, X3, ⟨Lc3, hQ3, l3, y3, z3⟩, st3⟩ := X2.virtualBack hx (y := y_14) (z := y_14) hown (mvT hZ (hw _ (tk 75 rfl))) (mvT hZ (hw _ (tk 76 rfl))) (notFace_of_selects (args := #[]) (mvT hZ (hw _ (tk 78 rfl)))) (mvT hZ (hw _ (tk 78 rfl))) (mvT hZ (hw _ (tk 77 rfl))) (by decide) (backOf (W := 0) (rmSL1 l Z a0 hw [] G1 G3 G4 x h0 n0 Z0 EN0 X00 E_x F_coder_x) hZ (hw _ (tk 79 rfl)) (hw _ (tk 9 rfl)) (by decide) (by decide)) q3a q3c (g := (mkF m 28 #[.val (.ref x), .val (.int (Int32.ofNat f)), .val (.int (Int32.ofNat (f + m_))), .val (.int (Int32.ofNat cs.length)), .val (.int (Int32.ofNat m_))] [(.ref x)])) rfl (by rw [hml]; rfl) (Steps.refl _) (argsL := []) (rest := []) (lenOf pd___Z rfl) rfl (by show 2 * 0 + _ ≤ _; exact Nat.le_of_eq rfl) (hb hby d24_28) (fun _ _ => ⟨rfl, eq2, (by decide : 0 + 0 ≤ _), (by decide : 0 + 0 ≤ _)⟩)
  dsimp only [Pt.U, Pt.locs, Pt.cells, Pt.slots] at X3 l3 y3 z3 st3 hQ3
  subst l3 y3 z3
  obtain ⟨rfl, Nq3, eq3⟩ := hQ3
  have N3 := Fr.app N2 Nq3
  obtain ⟨T4, X4, e4, st4⟩ := getF X3 hx hZ hown (host := "") (Or.inl (hw _ (tk 34 rfl))) Via.refl eq3 F_value_x (g := (mkF m 48 #[.val (.ref x), .val (.int (Int32.ofNat f)), .val (.int (Int32.ofNat (f + m_))), .val (.int (Int32.ofNat cs.length)), .val (.int (Int32.ofNat m_))] [(.ref x)])) rfl rfl (hb hby d24_48)
  obtain ⟨_, _, ⟨T5, L5, k5, n5⟩, -, X5, ⟨Lc5, hQ5, l5, y5, z5⟩, st5⟩ := Jvm.LawKit.callS X4 hx (y := y_44) hown (mvT hZ (hw _ (tk 198 rfl))) (mvT hZ (hw _ (tk 199 rfl))) (mvT hZ (hw _ (tk 23 rfl))) (mvT hZ (hw _ (tk 200 rfl))) (by decide) (backOf (W := 0) (rmUNs l Z a0 hw [] G1 G3 G4 t k cs f m_ h0 n0 Z0 EN0 X00 V_t hcc h4 hfm hm1 hfs) hZ (hw _ (tk 200 rfl)) (hw _ (tk 23 rfl)) (by decide) (by decide)) (g := (mkF m 54 #[.val (.ref x), .val (.int (Int32.ofNat f)), .val (.int (Int32.ofNat (f + m_))), .val (.int (Int32.ofNat cs.length)), .val (.int (Int32.ofNat m_))] [(.int (Int32.ofNat m_)), (.int (Int32.ofNat f)), (.ref t)])) rfl (by rw [hml]; rfl) (argsL := [(.ref t), (.int (Int32.ofNat f)), (.int (Int32.ofNat m_))]) (rest := []) (lenOf pd___BII_Ljava_lang_String_ rfl) rfl (by show 2 * 0 + _ ≤ _; exact Nat.le_of_eq rfl) (hb hby d24_54) (fun _ _ => ⟨rfl, e4, (by decide : 0 + 3 ≤ _), (by decide : 0 + 24 ≤ _)⟩)
  dsimp only [Pt.U, Pt.locs, Pt.cells, Pt.slots] at X5 l5 y5 z5 st5 hQ5
  subst l5 y5 z5
  obtain ⟨x5, rfl, Nq5, sz5, Kq5, S5⟩ := hQ5
  have N5 := Fr.app N3 Nq5
  have g5x : n0 ≤ x5 := Nat.le_trans Z0 sz5
  have szx5 : h0.size ≤ x5 := Nat.le_trans (Nat.le_refl _) sz5
  have E5q := own_st_exa S5
  obtain ⟨fs, hr, hrun, hended, hW, hsame⟩ := X5.leave (v := some (.ref x5)) (fun h => by rw [Bd.returns] at h; cases h)
  refine ⟨_, _, pre0 _ ?_, hrun, hended, _, _, rfl, ?_, ⟨_, rfl⟩, hW, hsame.mono (by decide) (by decide)⟩
  · show Steps _ _ _ (s₁.setTop (mkF m 0 #[.val (.ref x), .val (.int (Int32.ofNat f)), .val (.int (Int32.ofNat (f + m_))), .unset, .unset] [])) _
    refine XS.aloadN X0.here hx rfl (hb hby d24_0) rfl rfl ?_
    show Steps _ _ _ (s₁.setTop (mkF m 1 #[.val (.ref x), .val (.int (Int32.ofNat f)), .val (.int (Int32.ofNat (f + m_))), .unset, .unset] [(.ref x)])) _
    refine st1.trans ?_
    show Steps _ _ _ (T1.setTop (mkF m 4 #[.val (.ref x), .val (.int (Int32.ofNat f)), .val (.int (Int32.ofNat (f + m_))), .unset, .unset] [(.int (Int32.ofNat cs.length))])) _
    refine XS.istoreN X1.here hx rfl (hb hby d24_4) rfl (l' := #[.val (.ref x), .val (.int (Int32.ofNat f)), .val (.int (Int32.ofNat (f + m_))), .val (.int (Int32.ofNat cs.length)), .unset]) rfl ?_
    refine XS.iloadN X1.here hx rfl (hb hby d24_5) rfl ?_
    refine XS.iloadN X1.here hx rfl (hb hby d24_6) rfl ?_
    refine XS.iloadN X1.here hx rfl (hb hby d24_7) rfl ?_
    show Steps _ _ _ (T1.setTop (mkF m 8 #[.val (.ref x), .val (.int (Int32.ofNat f)), .val (.int (Int32.ofNat (f + m_))), .val (.int (Int32.ofNat cs.length)), .unset] [(.int (Int32.ofNat cs.length)), (.int (Int32.ofNat (f + m_))), (.int (Int32.ofNat f))])) _
    refine st2 _ ?_
    show Steps _ _ _ (T2.setTop (mkF m 11 #[.val (.ref x), .val (.int (Int32.ofNat f)), .val (.int (Int32.ofNat (f + m_))), .val (.int (Int32.ofNat cs.length)), .unset] [])) _
    refine XS.iloadN X2.here hx rfl (hb hby d24_11) rfl ?_
    refine XS.ifNo X2.here hx rfl (hb hby d24_12) rfl ((if0 _ _).trans (teq hf).2) ?_
    refine XS.iloadN X2.here hx rfl (hb hby d24_15) rfl ?_
    refine XS.iloadN X2.here hx rfl (hb hby d24_16) rfl ?_
    refine XS.icmpYes X2.here hx rfl (pc0 := 17) (pc' := 22) rfl (hb hby d24_17) rfl (feq (fun q => by have := (own_eq (by omega) (by omega)).mp q; omega)).2 (by decide) (by decide) ?_
    refine XS.iloadN X2.here hx rfl (hb hby d24_22) rfl ?_
    refine XS.iloadN X2.here hx rfl (hb hby d24_23) rfl ?_
    refine XS.isub X2.here hx rfl (hb hby d24_24) rfl ?_
    show Steps _ _ _ (T2.setTop (mkF m 25 #[.val (.ref x), .val (.int (Int32.ofNat f)), .val (.int (Int32.ofNat (f + m_))), .val (.int (Int32.ofNat cs.length)), .unset] [(.int ((Int32.ofNat (f + m_)) - (Int32.ofNat f)))])) _
    rw [(own_subm f m_)]
    show Steps _ _ _ (T2.setTop (mkF m 25 #[.val (.ref x), .val (.int (Int32.ofNat f)), .val (.int (Int32.ofNat (f + m_))), .val (.int (Int32.ofNat cs.length)), .unset] [(.int (Int32.ofNat m_))])) _
    refine XS.istore X2.here hx rfl (hb hby d24_25) rfl (l' := #[.val (.ref x), .val (.int (Int32.ofNat f)), .val (.int (Int32.ofNat (f + m_))), .val (.int (Int32.ofNat cs.length)), .val (.int (Int32.ofNat m_))]) rfl ?_
    refine XS.aloadN X2.here hx rfl (hb hby d24_27) rfl rfl ?_
    show Steps _ _ _ (T2.setTop (mkF m 28 #[.val (.ref x), .val (.int (Int32.ofNat f)), .val (.int (Int32.ofNat (f + m_))), .val (.int (Int32.ofNat cs.length)), .val (.int (Int32.ofNat m_))] [(.ref x)])) _
    refine st3.trans ?_
    show Steps _ _ _ (T3.setTop (mkF m 31 #[.val (.ref x), .val (.int (Int32.ofNat f)), .val (.int (Int32.ofNat (f + m_))), .val (.int (Int32.ofNat cs.length)), .val (.int (Int32.ofNat m_))] [(.int 0)])) _
    refine XS.ifYes X3.here hx rfl (pc0 := 31) (pc' := 47) rfl (hb hby d24_31) rfl ((if0 _ _).trans (teq (by decide : (0 : Int32) = (0 : Int32))).1) (by decide) (by decide) ?_
    refine XS.aloadN X3.here hx rfl (hb hby d24_47) rfl rfl ?_
    show Steps _ _ _ (T3.setTop (mkF m 48 #[.val (.ref x), .val (.int (Int32.ofNat f)), .val (.int (Int32.ofNat (f + m_))), .val (.int (Int32.ofNat cs.length)), .val (.int (Int32.ofNat m_))] [(.ref x)])) _
    refine st4 _ ?_
    show Steps _ _ _ (T4.setTop (mkF m 51 #[.val (.ref x), .val (.int (Int32.ofNat f)), .val (.int (Int32.ofNat (f + m_))), .val (.int (Int32.ofNat cs.length)), .val (.int (Int32.ofNat m_))] [(.ref t)])) _
    refine XS.iloadN X4.here hx rfl (hb hby d24_51) rfl ?_
    refine XS.iload X4.here hx rfl (hb hby d24_52) rfl ?_
    show Steps _ _ _ (T4.setTop (mkF m 54 #[.val (.ref x), .val (.int (Int32.ofNat f)), .val (.int (Int32.ofNat (f + m_))), .val (.int (Int32.ofNat cs.length)), .val (.int (Int32.ofNat m_))] [(.int (Int32.ofNat m_)), (.int (Int32.ofNat f)), (.ref t)])) _
    refine st5 _ ?_
    show Steps _ _ _ (T5.setTop (mkF m 57 #[.val (.ref x), .val (.int (Int32.ofNat f)), .val (.int (Int32.ofNat (f + m_))), .val (.int (Int32.ofNat cs.length)), .val (.int (Int32.ofNat m_))] [(.ref x5)])) _
    jvm_step X5.here [X5.here.top, hx, (hb hby d24_57), X5.method', Bd.returns, Value.isRef, FieldType.isReference]
    first | (intro acts; rw [hr _ acts rfl rfl rfl]) | rw [hr _ _ rfl rfl rfl]
    exact Steps.refl _
  · show own_QZ Z ((cs.drop f).take m_) h0 n0 _ T5.heap _
    exact ⟨x5, rfl, N5, szx5, ((Keep.refl h0 []).trans Kq5 all0), S5⟩
theorem rmSSw0 (l : Launch) (Z : State) (a0 : Array Value) (hw : HW a0 Z) (ws : List Jvm.Cond) (G1 : Int32) (G3 : Value) (G4 : Value) (x : Addr) (t : Addr) (k : ClassId) (cs : List Int32) (f : Nat) (m_ : Nat) (h0 : Heap) (n0 : Nat) (Z0 : n0 ≤ h0.size) (EN : own_env Z G1 G3 G4) (X00 : Old Z n0 h0) (E_x : Exa Z h0 x "java/lang/String") (F_value_x : Fld Z h0 x "java/lang/String" "value" "[B" (.ref t)) (F_coder_x : Fld Z h0 x "java/lang/String" "coder" "B" (.int 1)) (V_t : Arv Z h0 t k .byte (Int32.ofNat (2 * cs.length)) (own_wide cs) (.int 0)) (hlen : cs.length ≤ 15) (hcc : ∀ c ∈ cs, own_ch c) (h4 : cs.length ≤ 4) (hfm : f + m_ ≤ cs.length) (hm1 : 1 ≤ m_) (hfs : f + m_ < cs.length) (hf : ¬ ((Int32.ofNat f) = (0 : Int32))) :
    MetFree l y_46 (head1 (Jvm.Cond.code y_46 jdk_42_method_92_code 5 (some (.object "java/lang/String")) :: ws) (Rm 6 3 24 94)) (fun a_ U_ => a_ = #[(.ref x), (.int (Int32.ofNat f)), (.int (Int32.ofNat (f + m_)))] ∧ Z.Warmed39 U_.vm ∧ U_.heap = h0) (fun _ _ _ _ _ => True) (fun _ U_ o_ U1_ => ∃ v_ L_, o_ = .returned v_ ∧ own_QZ Z ((cs.drop f).take m_) h0 n0 v_ U1_.heap L_ ∧ FrameEnd U_ o_ U1_ L_ (Rm 6 3 24 94).cells (Rm 6 3 24 94).slots) := by
  refine MetFree.of_bodySF (plainFor_of_name pn_24) hisR ?_
  intro p e s m args below meth c s₁ Bd hml0 hP hK
  obtain ⟨rfl, hZ, hh⟩ := hP
  have hx := Bd.exec
  have hby := Bd.bytes
  have hml : c.maxLocals = 5 := hml0
  have hown : s.vm.findClass "java/lang/String" = some m.cls := findClass_of_methodNamed Bd.named
  have hnm := (name_of_methodNamed Bd.named Bd.method).1
  have X0 : Stand p l e (Rm 6 3 24 94) s m #[(.ref x), (.int (Int32.ofNat f)), (.int (Int32.ofNat (f + m_)))] below meth c s₁ [] 0 0 := Stand.of_body Bd
  have e0 : s₁.heap = h0 := by rw [← hh, Bd.state]; rfl
  have N0 := Fr.nil n0
  have pre0 : ∀ tt, Steps p.tables e below (s₁.setTop (mkF m 0 #[.val (.ref x), .val (.int (Int32.ofNat f)), .val (.int (Int32.ofNat (f + m_))), .unset, .unset] [])) tt → Steps p.tables e below (s₁.setTop (entryFrame m #[(.ref x), (.int (Int32.ofNat f)), (.int (Int32.ofNat (f + m_)))] 5)) tt := fun tt kk => castTop (ef_24_rrr m x (Int32.ofNat f) (Int32.ofNat (f + m_))) kk
  have EN0 := EN
  obtain ⟨O2, P5, O4, rG3, O6, O7, O8⟩ := EN
  obtain ⟨cq1, kq1, q1a, q1b, q1c⟩ := isOf hZ e0 E_x
  obtain ⟨_, _, ⟨T1, L1, k1, n1⟩, -, X1, ⟨Lc1, hQ1, l1, y1, z1⟩, st1⟩ := X0.virtualBack hx (y := y_15) (z := y_15) hown (mvT hZ (hw _ (tk 103 rfl))) (mvT hZ (hw _ (tk 61 rfl))) (notFace_of_selects (args := #[]) (mvT hZ (hw _ (tk 63 rfl)))) (mvT hZ (hw _ (tk 63 rfl))) (mvT hZ (hw _ (tk 62 rfl))) (by decide) (backOf (W := 0) (rmLE l Z a0 hw [] G1 G3 G4 x cs h0 n0 Z0 EN0 X00 ⟨t, k, E_x, F_value_x, Or.inr ⟨F_coder_x, V_t⟩⟩ hlen) hZ (hw _ (tk 64 rfl)) (hw _ (tk 9 rfl)) (by decide) (by decide)) q1a q1c (g := (mkF m 1 #[.val (.ref x), .val (.int (Int32.ofNat f)), .val (.int (Int32.ofNat (f + m_))), .unset, .unset] [(.ref x)])) rfl (by rw [hml]; rfl) (Steps.refl _) (argsL := []) (rest := []) (lenOf pd___I rfl) rfl (by show 2 * 0 + _ ≤ _; exact Nat.le_of_eq rfl) (hb hby d24_1) (fun _ _ => ⟨rfl, e0, (by decide : 0 + 0 ≤ _), (by decide : 0 + 0 ≤ _)⟩)
  dsimp only [Pt.U, Pt.locs, Pt.cells, Pt.slots] at X1 l1 y1 z1 st1 hQ1
  subst l1 y1 z1
  obtain ⟨rfl, Nq1, eq1⟩ := hQ1
  have N1 := Fr.app N0 Nq1
  obtain ⟨_, _, ⟨T2, L2, k2, n2⟩, -, X2, ⟨Lc2, hQ2, l2, y2, z2⟩, st2⟩ := Jvm.LawKit.callS X1 hx (y := y_5) hown (mvT hZ (hw _ (tk 125 rfl))) (mvT hZ (hw _ (tk 126 rfl))) (mvT hZ (hw _ (tk 9 rfl))) (mvT hZ (hw _ (tk 127 rfl))) (by decide) (backOf (W := 0) (rmSBE l Z a0 hw [] G1 G3 G4 (Int32.ofNat f) (Int32.ofNat (f + m_)) (Int32.ofNat cs.length) h0 n0 Z0 EN0 X00 (own_n0 (by omega)) (fun q => by have := (own_lt (by omega) (by omega)).mp q; omega) (fun q => by have := (own_lt (by omega) (by omega)).mp q; omega)) hZ (hw _ (tk 127 rfl)) (hw _ (tk 9 rfl)) (by decide) (by decide)) (g := (mkF m 8 #[.val (.ref x), .val (.int (Int32.ofNat f)), .val (.int (Int32.ofNat (f + m_))), .val (.int (Int32.ofNat cs.length)), .unset] [(.int (Int32.ofNat cs.length)), (.int (Int32.ofNat (f + m_))), (.int (Int32.ofNat f))])) rfl (by rw [hml]; rfl) (argsL := [(.int (Int32.ofNat f)), (.int (Int32.ofNat (f + m_))), (.int (Int32.ofNat cs.length))]) (rest := []) (lenOf pd__III_V rfl) rfl (by show 2 * 0 + _ ≤ _; exact Nat.le_of_eq rfl) (hb hby d24_8) (fun _ _ => ⟨rfl, eq1, (by decide : 0 + 0 ≤ _), (by decide : 0 + 0 ≤ _)⟩)
  dsimp only [Pt.U, Pt.locs, Pt.cells, Pt.slots] at X2 l2 y2 z2 st2 hQ2
  subst l2 y2 z2
  obtain ⟨rfl, Nq2, eq2⟩ := hQ2
  have N2 := Fr.app N1 Nq2
  obtain ⟨cq3, kq3, q3a, q3b, q3c⟩ := isOf hZ eq2 E_x
  obtain ⟨_, _, ⟨T3, L3, k3, n3⟩, -, X3, ⟨Lc3, hQ3, l3, y3, z3⟩, st3⟩ := X2.virtualBack hx (y := y_14) (z := y_14) hown (mvT hZ (hw _ (tk 75 rfl))) (mvT hZ (hw _ (tk 76 rfl))) (notFace_of_selects (args := #[]) (mvT hZ (hw _ (tk 78 rfl)))) (mvT hZ (hw _ (tk 78 rfl))) (mvT hZ (hw _ (tk 77 rfl))) (by decide) (backOf (W := 0) (rmSL1 l Z a0 hw [] G1 G3 G4 x h0 n0 Z0 EN0 X00 E_x F_coder_x) hZ (hw _ (tk 79 rfl)) (hw _ (tk 9 rfl)) (by decide) (by decide)) q3a q3c (g := (mkF m 28 #[.val (.ref x), .val (.int (Int32.ofNat f)), .val (.int (Int32.ofNat (f + m_))), .val (.int (Int32.ofNat cs.length)), .val (.int (Int32.ofNat m_))] [(.ref x)])) rfl (by rw [hml]; rfl) (Steps.refl _) (argsL := []) (rest := []) (lenOf pd___Z rfl) rfl (by show 2 * 0 + _ ≤ _; exact Nat.le_of_eq rfl) (hb hby d24_28) (fun _ _ => ⟨rfl, eq2, (by decide : 0 + 0 ≤ _), (by decide : 0 + 0 ≤ _)⟩)
  dsimp only [Pt.U, Pt.locs, Pt.cells, Pt.slots] at X3 l3 y3 z3 st3 hQ3
  subst l3 y3 z3
  obtain ⟨rfl, Nq3, eq3⟩ := hQ3
  have N3 := Fr.app N2 Nq3
  obtain ⟨T4, X4, e4, st4⟩ := getF X3 hx hZ hown (host := "") (Or.inl (hw _ (tk 34 rfl))) Via.refl eq3 F_value_x (g := (mkF m 48 #[.val (.ref x), .val (.int (Int32.ofNat f)), .val (.int (Int32.ofNat (f + m_))), .val (.int (Int32.ofNat cs.length)), .val (.int (Int32.ofNat m_))] [(.ref x)])) rfl rfl (hb hby d24_48)
  obtain ⟨_, _, ⟨T5, L5, k5, n5⟩, -, X5, ⟨Lc5, hQ5, l5, y5, z5⟩, st5⟩ := Jvm.LawKit.callS X4 hx (y := y_44) hown (mvT hZ (hw _ (tk 198 rfl))) (mvT hZ (hw _ (tk 199 rfl))) (mvT hZ (hw _ (tk 23 rfl))) (mvT hZ (hw _ (tk 200 rfl))) (by decide) (backOf (W := 0) (rmUNs l Z a0 hw [] G1 G3 G4 t k cs f m_ h0 n0 Z0 EN0 X00 V_t hcc h4 hfm hm1 hfs) hZ (hw _ (tk 200 rfl)) (hw _ (tk 23 rfl)) (by decide) (by decide)) (g := (mkF m 54 #[.val (.ref x), .val (.int (Int32.ofNat f)), .val (.int (Int32.ofNat (f + m_))), .val (.int (Int32.ofNat cs.length)), .val (.int (Int32.ofNat m_))] [(.int (Int32.ofNat m_)), (.int (Int32.ofNat f)), (.ref t)])) rfl (by rw [hml]; rfl) (argsL := [(.ref t), (.int (Int32.ofNat f)), (.int (Int32.ofNat m_))]) (rest := []) (lenOf pd___BII_Ljava_lang_String_ rfl) rfl (by show 2 * 0 + _ ≤ _; exact Nat.le_of_eq rfl) (hb hby d24_54) (fun _ _ => ⟨rfl, e4, (by decide : 0 + 3 ≤ _), (by decide : 0 + 24 ≤ _)⟩)
  dsimp only [Pt.U, Pt.locs, Pt.cells, Pt.slots] at X5 l5 y5 z5 st5 hQ5
  subst l5 y5 z5
  obtain ⟨x5, rfl, Nq5, sz5, Kq5, S5⟩ := hQ5
  have N5 := Fr.app N3 Nq5
  have g5x : n0 ≤ x5 := Nat.le_trans Z0 sz5
  have szx5 : h0.size ≤ x5 := Nat.le_trans (Nat.le_refl _) sz5
  have E5q := own_st_exa S5
  obtain ⟨fs, hr, hrun, hended, hW, hsame⟩ := X5.leave (v := some (.ref x5)) (fun h => by rw [Bd.returns] at h; cases h)
  refine ⟨_, _, pre0 _ ?_, hrun, hended, _, _, rfl, ?_, ⟨_, rfl⟩, hW, hsame.mono (by decide) (by decide)⟩
  · show Steps _ _ _ (s₁.setTop (mkF m 0 #[.val (.ref x), .val (.int (Int32.ofNat f)), .val (.int (Int32.ofNat (f + m_))), .unset, .unset] [])) _
    refine XS.aloadN X0.here hx rfl (hb hby d24_0) rfl rfl ?_
    show Steps _ _ _ (s₁.setTop (mkF m 1 #[.val (.ref x), .val (.int (Int32.ofNat f)), .val (.int (Int32.ofNat (f + m_))), .unset, .unset] [(.ref x)])) _
    refine st1.trans ?_
    show Steps _ _ _ (T1.setTop (mkF m 4 #[.val (.ref x), .val (.int (Int32.ofNat f)), .val (.int (Int32.ofNat (f + m_))), .unset, .unset] [(.int (Int32.ofNat cs.length))])) _
    refine XS.istoreN X1.here hx rfl (hb hby d24_4) rfl (l' := #[.val (.ref x), .val (.int (Int32.ofNat f)), .val (.int (Int32.ofNat (f + m_))), .val (.int (Int32.ofNat cs.length)), .unset]) rfl ?_
    refine XS.iloadN X1.here hx rfl (hb hby d24_5) rfl ?_
    refine XS.iloadN X1.here hx rfl (hb hby d24_6) rfl ?_
    refine XS.iloadN X1.here hx rfl (hb hby d24_7) rfl ?_
    show Steps _ _ _ (T1.setTop (mkF m 8 #[.val (.ref x), .val (.int (Int32.ofNat f)), .val (.int (Int32.ofNat (f + m_))), .val (.int (Int32.ofNat cs.length)), .unset] [(.int (Int32.ofNat cs.length)), (.int (Int32.ofNat (f + m_))), (.int (Int32.ofNat f))])) _
    refine st2 _ ?_
    show Steps _ _ _ (T2.setTop (mkF m 11 #[.val (.ref x), .val (.int (Int32.ofNat f)), .val (.int (Int32.ofNat (f + m_))), .val (.int (Int32.ofNat cs.length)), .unset] [])) _
    refine XS.iloadN X2.here hx rfl (hb hby d24_11) rfl ?_
    refine XS.ifYes X2.here hx rfl (pc0 := 12) (pc' := 22) rfl (hb hby d24_12) rfl ((if0 _ _).trans (feq hf).2) (by decide) (by decide) ?_
    refine XS.iloadN X2.here hx rfl (hb hby d24_22) rfl ?_
    refine XS.iloadN X2.here hx rfl (hb hby d24_23) rfl ?_
    refine XS.isub X2.here hx rfl (hb hby d24_24) rfl ?_
    show Steps _ _ _ (T2.setTop (mkF m 25 #[.val (.ref x), .val (.int (Int32.ofNat f)), .val (.int (Int32.ofNat (f + m_))), .val (.int (Int32.ofNat cs.length)), .unset] [(.int ((Int32.ofNat (f + m_)) - (Int32.ofNat f)))])) _
    rw [(own_subm f m_)]
    show Steps _ _ _ (T2.setTop (mkF m 25 #[.val (.ref x), .val (.int (Int32.ofNat f)), .val (.int (Int32.ofNat (f + m_))), .val (.int (Int32.ofNat cs.length)), .unset] [(.int (Int32.ofNat m_))])) _
    refine XS.istore X2.here hx rfl (hb hby d24_25) rfl (l' := #[.val (.ref x), .val (.int (Int32.ofNat f)), .val (.int (Int32.ofNat (f + m_))), .val (.int (Int32.ofNat cs.length)), .val (.int (Int32.ofNat m_))]) rfl ?_
    refine XS.aloadN X2.here hx rfl (hb hby d24_27) rfl rfl ?_
    show Steps _ _ _ (T2.setTop (mkF m 28 #[.val (.ref x), .val (.int (Int32.ofNat f)), .val (.int (Int32.ofNat (f + m_))), .val (.int (Int32.ofNat cs.length)), .val (.int (Int32.ofNat m_))] [(.ref x)])) _
    refine st3.trans ?_
    show Steps _ _ _ (T3.setTop (mkF m 31 #[.val (.ref x), .val (.int (Int32.ofNat f)), .val (.int (Int32.ofNat (f + m_))), .val (.int (Int32.ofNat cs.length)), .val (.int (Int32.ofNat m_))] [(.int 0)])) _
    refine XS.ifYes X3.here hx rfl (pc0 := 31) (pc' := 47) rfl (hb hby d24_31) rfl ((if0 _ _).trans (teq (by decide : (0 : Int32) = (0 : Int32))).1) (by decide) (by decide) ?_
    refine XS.aloadN X3.here hx rfl (hb hby d24_47) rfl rfl ?_
    show Steps _ _ _ (T3.setTop (mkF m 48 #[.val (.ref x), .val (.int (Int32.ofNat f)), .val (.int (Int32.ofNat (f + m_))), .val (.int (Int32.ofNat cs.length)), .val (.int (Int32.ofNat m_))] [(.ref x)])) _
    refine st4 _ ?_
    show Steps _ _ _ (T4.setTop (mkF m 51 #[.val (.ref x), .val (.int (Int32.ofNat f)), .val (.int (Int32.ofNat (f + m_))), .val (.int (Int32.ofNat cs.length)), .val (.int (Int32.ofNat m_))] [(.ref t)])) _
    refine XS.iloadN X4.here hx rfl (hb hby d24_51) rfl ?_
    refine XS.iload X4.here hx rfl (hb hby d24_52) rfl ?_
    show Steps _ _ _ (T4.setTop (mkF m 54 #[.val (.ref x), .val (.int (Int32.ofNat f)), .val (.int (Int32.ofNat (f + m_))), .val (.int (Int32.ofNat cs.length)), .val (.int (Int32.ofNat m_))] [(.int (Int32.ofNat m_)), (.int (Int32.ofNat f)), (.ref t)])) _
    refine st5 _ ?_
    show Steps _ _ _ (T5.setTop (mkF m 57 #[.val (.ref x), .val (.int (Int32.ofNat f)), .val (.int (Int32.ofNat (f + m_))), .val (.int (Int32.ofNat cs.length)), .val (.int (Int32.ofNat m_))] [(.ref x5)])) _
    jvm_step X5.here [X5.here.top, hx, (hb hby d24_57), X5.method', Bd.returns, Value.isRef, FieldType.isReference]
    first | (intro acts; rw [hr _ acts rfl rfl rfl]) | rw [hr _ _ rfl rfl rfl]
    exact Steps.refl _
  · show own_QZ Z ((cs.drop f).take m_) h0 n0 _ T5.heap _
    exact ⟨x5, rfl, N5, szx5, ((Keep.refl h0 []).trans Kq5 all0), S5⟩
theorem rmSS (l : Launch) (Z : State) (a0 : Array Value) (hw : HW a0 Z) (ws : List Jvm.Cond) (G1 : Int32) (G3 G4 : Value) (x : Addr) (cs : List Int32) (f m_ : Nat) (h0 : Heap) (n0 : Nat) (Z0 : n0 ≤ h0.size) (EN : own_env Z G1 G3 G4) (X00 : Old Z n0 h0) (S : own_st Z h0 x cs) (hcc : ∀ c ∈ cs, own_ch c) (h4 : cs.length ≤ 4) (hfm : f + m_ ≤ cs.length) (hm1 : 1 ≤ m_) (hfs : f + m_ < cs.length) :
    MetFree l y_46 (head1 (Jvm.Cond.code y_46 jdk_42_method_92_code 5 (some (.object "java/lang/String")) :: ws) (Rm 6 3 24 94)) (fun a_ U_ => a_ = #[(.ref x), (.int (Int32.ofNat f)), (.int (Int32.ofNat (f + m_)))] ∧ Z.Warmed39 U_.vm ∧ U_.heap = h0) (fun _ _ _ _ _ => True) (fun _ U_ o_ U1_ => ∃ v_ L_, o_ = .returned v_ ∧ own_QZ Z ((cs.drop f).take m_) h0 n0 v_ U1_.heap L_ ∧ FrameEnd U_ o_ U1_ L_ (Rm 6 3 24 94).cells (Rm 6 3 24 94).slots) := by
  have hlen : cs.length ≤ 15 := by omega
  obtain ⟨t, k, S1, S2, ⟨S3, S4, S5⟩ | ⟨S3, S4⟩⟩ := S
  · by_cases hf : (Int32.ofNat f) = (0 : Int32)
    · exact rmSSl1 l Z a0 hw ws G1 G3 G4 x t k cs f m_ h0 n0 Z0 EN X00 S1 S2 S3 S4 S5 hlen hcc h4 hfm hm1 hfs hf
    · exact rmSSl0 l Z a0 hw ws G1 G3 G4 x t k cs f m_ h0 n0 Z0 EN X00 S1 S2 S3 S4 S5 hlen hcc h4 hfm hm1 hfs hf
  · by_cases hf : (Int32.ofNat f) = (0 : Int32)
    · exact rmSSw1 l Z a0 hw ws G1 G3 G4 x t k cs f m_ h0 n0 Z0 EN X00 S1 S2 S3 S4 hlen hcc h4 hfm hm1 hfs hf
    · exact rmSSw0 l Z a0 hw ws G1 G3 G4 x t k cs f m_ h0 n0 Z0 EN X00 S1 S2 S3 S4 hlen hcc h4 hfm hm1 hfs hf
def own_QU (Z : State) (r x : Addr) (cs : List Int32) (f m_ : Nat) (h0 : Heap) (n0 : Nat) (v : Option Value) (h : Heap) (L : List Loc) : Prop := ∃ y : Addr, v = some (.ref y) ∧ Fr n0 L ∧ h0.size ≤ y ∧ Keep h0 h [r] ∧ own_st Z h y ((cs.drop f).take m_) ∧ Exa Z h r "com/example/atomize/atomize/http/FieldValueReader" ∧ Fld Z h r "com/example/atomize/atomize/http/FieldValueReader" "text" "Ljava/lang/String;" (.ref x) ∧ Fld Z h r "com/example/atomize/atomize/http/FieldValueReader" "position" "I" (.int (Int32.ofNat (f + m_ + 1)))
theorem d17_0 : decode prog_5_method_6_code 0 = .ok (.aload_n 0, 1) := by decide +kernel
theorem d17_1 : decode prog_5_method_6_code 1 = .ok (.getfield 13, 3) := by decide +kernel
theorem d17_4 : decode prog_5_method_6_code 4 = .ok (.iload_n 1, 1) := by decide +kernel
theorem d17_5 : decode prog_5_method_6_code 5 = .ok (.aload_n 0, 1) := by decide +kernel
theorem d17_6 : decode prog_5_method_6_code 6 = .ok (.getfield 19, 3) := by decide +kernel
theorem d17_9 : decode prog_5_method_6_code 9 = .ok (.invokevirtual 54, 3) := by decide +kernel
theorem d17_12 : decode prog_5_method_6_code 12 = .ok (.istore_n 3, 1) := by decide +kernel
theorem d17_13 : decode prog_5_method_6_code 13 = .ok (.iload_n 3, 1) := by decide +kernel
theorem d17_14 : decode prog_5_method_6_code 14 = .ok (.ifCond .ge 9, 3) := by decide +kernel
theorem d17_23 : decode prog_5_method_6_code 23 = .ok (.aload_n 0, 1) := by decide +kernel
theorem d17_24 : decode prog_5_method_6_code 24 = .ok (.getfield 13, 3) := by decide +kernel
theorem d17_27 : decode prog_5_method_6_code 27 = .ok (.aload_n 0, 1) := by decide +kernel
theorem d17_28 : decode prog_5_method_6_code 28 = .ok (.getfield 19, 3) := by decide +kernel
theorem d17_31 : decode prog_5_method_6_code 31 = .ok (.iload_n 3, 1) := by decide +kernel
theorem pd__II_Ljava_lang_String_ : parseMethodDescriptor "(II)Ljava/lang/String;" = some ⟨[.int, .int], some (.object "java/lang/String")⟩ := by decide +kernel
theorem d17_32 : decode prog_5_method_6_code 32 = .ok (.invokevirtual 58, 3) := by decide +kernel
theorem d17_35 : decode prog_5_method_6_code 35 = .ok (.astore 4, 2) := by decide +kernel
theorem d17_37 : decode prog_5_method_6_code 37 = .ok (.aload_n 0, 1) := by decide +kernel
theorem d17_38 : decode prog_5_method_6_code 38 = .ok (.iload_n 3, 1) := by decide +kernel
theorem d17_39 : decode prog_5_method_6_code 39 = .ok (.iconst 1, 1) := by decide +kernel
theorem d17_40 : decode prog_5_method_6_code 40 = .ok (.iadd, 1) := by decide +kernel
theorem d17_41 : decode prog_5_method_6_code 41 = .ok (.putfield 19, 3) := by decide +kernel
theorem d17_44 : decode prog_5_method_6_code 44 = .ok (.aload 4, 2) := by decide +kernel
theorem d17_46 : decode prog_5_method_6_code 46 = .ok (.areturn, 1) := by decide +kernel
theorem pn_17 : plainName "com/example/atomize/atomize/http/FieldValueReader" = true := by first | (simp [plainName, overriddenIn]; done) | decide +kernel
theorem ef_17_rrr (m : MethodId) (x0 : Addr) (x1 : Int32) (x2 : Addr) : entryFrame m #[(.ref x0), (.int x1), (.ref x2)] 5 = mkF m 0 #[.val (.ref x0), .val (.int x1), .val (.ref x2), .unset, .unset] [] := by first | (simp [entryFrame, mkF, argsToLocals, Value.category]; done) | rfl
theorem rmUP (l : Launch) (Z : State) (a0 : Array Value) (hw : HW a0 Z) (ws : List Jvm.Cond) (G1 : Int32) (G3 : Value) (G4 : Value) (r : Addr) (a1 : Addr) (x : Addr) (cs : List Int32) (f : Nat) (m_ : Nat) (h0 : Heap) (n0 : Nat) (Z0 : n0 ≤ h0.size) (EN : own_env Z G1 G3 G4) (X00 : Old Z n0 h0) (E_r : Exa Z h0 r "com/example/atomize/atomize/http/FieldValueReader") (F_text_r : Fld Z h0 r "com/example/atomize/atomize/http/FieldValueReader" "text" "Ljava/lang/String;" (.ref x)) (F_position_r : Fld Z h0 r "com/example/atomize/atomize/http/FieldValueReader" "position" "I" (.int (Int32.ofNat f))) (g_r : n0 ≤ r) (S_x : own_st Z h0 x cs) (hlen : cs.length ≤ 15) (hcc : ∀ c ∈ cs, own_ch c) (h4 : cs.length ≤ 4) (hfm : f + m_ ≤ cs.length) (hm1 : 1 ≤ m_) (hfs : f + m_ < cs.length) (hz0 : cs.getD (f + m_) 0 = 0) (hnz : ∀ i, f ≤ i → i < f + m_ → ¬ (cs.getD i 0 = 0)) :
    MetFree l y_47 (head1 (Jvm.Cond.code y_47 prog_5_method_6_code 5 (some (.object "java/lang/String")) :: ws) (Rm 7 3 24 110)) (fun a_ U_ => a_ = #[(.ref r), (.int 0), (.ref a1)] ∧ Z.Warmed39 U_.vm ∧ U_.heap = h0) (fun _ _ _ _ _ => True) (fun _ U_ o_ U1_ => ∃ v_ L_, o_ = .returned v_ ∧ own_QU Z r x cs f m_ h0 n0 v_ U1_.heap L_ ∧ FrameEnd U_ o_ U1_ L_ (Rm 7 3 24 110).cells (Rm 7 3 24 110).slots) := by
  refine MetFree.of_bodySF (plainFor_of_name pn_17) hisR ?_
  intro p e s m args below meth c s₁ Bd hml0 hP hK
  obtain ⟨rfl, hZ, hh⟩ := hP
  have hx := Bd.exec
  have hby := Bd.bytes
  have hml : c.maxLocals = 5 := hml0
  have hown : s.vm.findClass "com/example/atomize/atomize/http/FieldValueReader" = some m.cls := findClass_of_methodNamed Bd.named
  have hnm := (name_of_methodNamed Bd.named Bd.method).1
  have X0 : Stand p l e (Rm 7 3 24 110) s m #[(.ref r), (.int 0), (.ref a1)] below meth c s₁ [] 0 0 := Stand.of_body Bd
  have e0 : s₁.heap = h0 := by rw [← hh, Bd.state]; rfl
  have N0 := Fr.nil n0
  have pre0 : ∀ tt, Steps p.tables e below (s₁.setTop (mkF m 0 #[.val (.ref r), .val (.int 0), .val (.ref a1), .unset, .unset] [])) tt → Steps p.tables e below (s₁.setTop (entryFrame m #[(.ref r), (.int 0), (.ref a1)] 5)) tt := fun tt kk => castTop (ef_17_rrr m r (0 : Int32) a1) kk
  have EN0 := EN
  obtain ⟨O2, P5, O4, rG3, O6, O7, O8⟩ := EN
  have E_x := own_st_exa S_x
  have hz := hfs
  have hjz : f ≤ f + m_ := by omega
  obtain ⟨T1, X1, e1, st1⟩ := getF X0 hx hZ hown (host := "") (Or.inl (hw _ (tk 49 rfl))) Via.refl e0 F_text_r (g := (mkF m 1 #[.val (.ref r), .val (.int 0), .val (.ref a1), .unset, .unset] [(.ref r)])) rfl rfl (hb hby d17_1)
  obtain ⟨T2, X2, e2, st2⟩ := getF X1 hx hZ hown (host := "") (Or.inl (hw _ (tk 58 rfl))) Via.refl e1 F_position_r (g := (mkF m 6 #[.val (.ref r), .val (.int 0), .val (.ref a1), .unset, .unset] [(.ref r), (.int 0), (.ref x)])) rfl rfl (hb hby d17_6)
  obtain ⟨cq3, kq3, q3a, q3b, q3c⟩ := isOf hZ e2 E_x
  obtain ⟨_, _, ⟨T3, L3, k3, n3⟩, -, X3, ⟨Lc3, hQ3, l3, y3, z3⟩, st3⟩ := X2.virtualBack hx (y := y_37) (z := y_37) hown (mvT hZ (hw _ (tk 98 rfl))) (mvT hZ (hw _ (tk 99 rfl))) (notFace_of_selects (args := #[]) (mvT hZ (hw _ (tk 101 rfl)))) (mvT hZ (hw _ (tk 101 rfl))) (mvT hZ (hw _ (tk 100 rfl))) (by decide) (backOf (W := 0) (rmSX l Z a0 hw [] G1 G3 G4 x cs f (f + m_) h0 n0 Z0 EN0 X00 S_x hlen hcc hz hz0 hnz hjz) hZ (hw _ (tk 102 rfl)) (hw _ (tk 9 rfl)) (by decide) (by decide)) q3a q3c (g := (mkF m 9 #[.val (.ref r), .val (.int 0), .val (.ref a1), .unset, .unset] [(.int (Int32.ofNat f)), (.int 0), (.ref x)])) rfl (by rw [hml]; rfl) (Steps.refl _) (argsL := [(.int 0), (.int (Int32.ofNat f))]) (rest := []) (lenOf pd__II_I rfl) rfl (by show 2 * 0 + _ ≤ _; exact Nat.le_of_eq rfl) (hb hby d17_9) (fun _ _ => ⟨rfl, e2, (by decide : 0 + 0 ≤ _), (by decide : 0 + 0 ≤ _)⟩)
  dsimp only [Pt.U, Pt.locs, Pt.cells, Pt.slots] at X3 l3 y3 z3 st3 hQ3
  subst l3 y3 z3
  obtain ⟨rfl, Nq3, eq3⟩ := hQ3
  have N3 := Fr.app N0 Nq3
  obtain ⟨T4, X4, e4, st4⟩ := getF X3 hx hZ hown (host := "") (Or.inl (hw _ (tk 49 rfl))) Via.refl eq3 F_text_r (g := (mkF m 24 #[.val (.ref r), .val (.int 0), .val (.ref a1), .val (.int (Int32.ofNat (f + m_))), .unset] [(.ref r)])) rfl rfl (hb hby d17_24)
  obtain ⟨T5, X5, e5, st5⟩ := getF X4 hx hZ hown (host := "") (Or.inl (hw _ (tk 58 rfl))) Via.refl e4 F_position_r (g := (mkF m 28 #[.val (.ref r), .val (.int 0), .val (.ref a1), .val (.int (Int32.ofNat (f + m_))), .unset] [(.ref r), (.ref x)])) rfl rfl (hb hby d17_28)
  obtain ⟨cq6, kq6, q6a, q6b, q6c⟩ := isOf hZ e5 E_x
  obtain ⟨_, _, ⟨T6, L6, k6, n6⟩, -, X6, ⟨Lc6, hQ6, l6, y6, z6⟩, st6⟩ := X5.virtualBack hx (y := y_46) (z := y_46) hown (mvT hZ (hw _ (tk 120 rfl))) (mvT hZ (hw _ (tk 121 rfl))) (notFace_of_selects (args := #[]) (mvT hZ (hw _ (tk 123 rfl)))) (mvT hZ (hw _ (tk 123 rfl))) (mvT hZ (hw _ (tk 122 rfl))) (by decide) (backOf (W := 0) (rmSS l Z a0 hw [] G1 G3 G4 x cs f m_ h0 n0 Z0 EN0 X00 S_x hcc h4 hfm hm1 hfs) hZ (hw _ (tk 124 rfl)) (hw _ (tk 9 rfl)) (by decide) (by decide)) q6a q6c (g := (mkF m 32 #[.val (.ref r), .val (.int 0), .val (.ref a1), .val (.int (Int32.ofNat (f + m_))), .unset] [(.int (Int32.ofNat (f + m_))), (.int (Int32.ofNat f)), (.ref x)])) rfl (by rw [hml]; rfl) (Steps.refl _) (argsL := [(.int (Int32.ofNat f)), (.int (Int32.ofNat (f + m_)))]) (rest := []) (lenOf pd__II_Ljava_lang_String_ rfl) rfl (by show 2 * 0 + _ ≤ _; exact Nat.le_of_eq rfl) (hb hby d17_32) (fun _ _ => ⟨rfl, e5, (by decide : 0 + 3 ≤ _), (by decide : 0 + 24 ≤ _)⟩)
  dsimp only [Pt.U, Pt.locs, Pt.cells, Pt.slots] at X6 l6 y6 z6 st6 hQ6
  subst l6 y6 z6
  obtain ⟨x6, rfl, Nq6, sz6, Kq6, S6⟩ := hQ6
  have N6 := Fr.app N3 Nq6
  have g6x : n0 ≤ x6 := Nat.le_trans Z0 sz6
  have szx6 : h0.size ≤ x6 := Nat.le_trans (Nat.le_refl _) sz6
  have E6q := own_st_exa S6
  have f8 := (E_r.keep Kq6)
  have f9 := (F_position_r.keep Kq6 nin0)
  obtain ⟨T7, h7, X7, e7, W7, st7⟩ := putF X6 hx hZ hown (host := "") (Or.inl (hw _ (tk 58 rfl))) Via.refl rfl f9 f8 (Or.inl (hw _ (tk 59 rfl))) (hw _ (tk 37 rfl)) (ty := .int) (by decide) rfl rfl (g := (mkF m 41 #[.val (.ref r), .val (.int 0), .val (.ref a1), .val (.int (Int32.ofNat (f + m_))), .val (.ref x6)] [(.int (Int32.ofNat (f + m_ + 1))), (.ref r)])) rfl rfl (hb hby d17_41)
  have Fw7 := f9.same W7
  have N7 := Fr.snoc X7 N6 g_r
  have St10 := (own_st_keepR S6 (Keep.of_wr W7) f8 (by decide) (hw _ (tk 37 rfl)))
  have f11 := (f8.wr W7)
  have f12 := ((F_text_r.keep Kq6 nin0).other W7 (Or.inr (slot_ne (Or.inr (hw _ (tk 50 rfl))) (Or.inl (hw _ (tk 59 rfl))) (by decide) (t := (.object "java/lang/String")) (t' := .int) (by decide) (by decide))))
  obtain ⟨fs, hr, hrun, hended, hW, hsame⟩ := X7.leave (v := some (.ref x6)) (fun h => by rw [Bd.returns] at h; cases h)
  refine ⟨_, _, pre0 _ ?_, hrun, hended, _, _, rfl, ?_, ⟨_, rfl⟩, hW, hsame.mono (by decide) (by decide)⟩
  · show Steps _ _ _ (s₁.setTop (mkF m 0 #[.val (.ref r), .val (.int 0), .val (.ref a1), .unset, .unset] [])) _
    refine XS.aloadN X0.here hx rfl (hb hby d17_0) rfl rfl ?_
    show Steps _ _ _ (s₁.setTop (mkF m 1 #[.val (.ref r), .val (.int 0), .val (.ref a1), .unset, .unset] [(.ref r)])) _
    refine st1 _ ?_
    show Steps _ _ _ (T1.setTop (mkF m 4 #[.val (.ref r), .val (.int 0), .val (.ref a1), .unset, .unset] [(.ref x)])) _
    refine XS.iloadN X1.here hx rfl (hb hby d17_4) rfl ?_
    refine XS.aloadN X1.here hx rfl (hb hby d17_5) rfl rfl ?_
    show Steps _ _ _ (T1.setTop (mkF m 6 #[.val (.ref r), .val (.int 0), .val (.ref a1), .unset, .unset] [(.ref r), (.int 0), (.ref x)])) _
    refine st2 _ ?_
    show Steps _ _ _ (T2.setTop (mkF m 9 #[.val (.ref r), .val (.int 0), .val (.ref a1), .unset, .unset] [(.int (Int32.ofNat f)), (.int 0), (.ref x)])) _
    refine st3.trans ?_
    show Steps _ _ _ (T3.setTop (mkF m 12 #[.val (.ref r), .val (.int 0), .val (.ref a1), .unset, .unset] [(.int (Int32.ofNat (f + m_)))])) _
    refine XS.istoreN X3.here hx rfl (hb hby d17_12) rfl (l' := #[.val (.ref r), .val (.int 0), .val (.ref a1), .val (.int (Int32.ofNat (f + m_))), .unset]) rfl ?_
    refine XS.iloadN X3.here hx rfl (hb hby d17_13) rfl ?_
    refine XS.ifYes X3.here hx rfl (pc0 := 14) (pc' := 23) rfl (hb hby d17_14) rfl ((if0 _ _).trans (flt (own_n0 (by omega))).2.1) (by decide) (by decide) ?_
    refine XS.aloadN X3.here hx rfl (hb hby d17_23) rfl rfl ?_
    show Steps _ _ _ (T3.setTop (mkF m 24 #[.val (.ref r), .val (.int 0), .val (.ref a1), .val (.int (Int32.ofNat (f + m_))), .unset] [(.ref r)])) _
    refine st4 _ ?_
    show Steps _ _ _ (T4.setTop (mkF m 27 #[.val (.ref r), .val (.int 0), .val (.ref a1), .val (.int (Int32.ofNat (f + m_))), .unset] [(.ref x)])) _
    refine XS.aloadN X4.here hx rfl (hb hby d17_27) rfl rfl ?_
    show Steps _ _ _ (T4.setTop (mkF m 28 #[.val (.ref r), .val (.int 0), .val (.ref a1), .val (.int (Int32.ofNat (f + m_))), .unset] [(.ref r), (.ref x)])) _
    refine st5 _ ?_
    show Steps _ _ _ (T5.setTop (mkF m 31 #[.val (.ref r), .val (.int 0), .val (.ref a1), .val (.int (Int32.ofNat (f + m_))), .unset] [(.int (Int32.ofNat f)), (.ref x)])) _
    refine XS.iloadN X5.here hx rfl (hb hby d17_31) rfl ?_
    show Steps _ _ _ (T5.setTop (mkF m 32 #[.val (.ref r), .val (.int 0), .val (.ref a1), .val (.int (Int32.ofNat (f + m_))), .unset] [(.int (Int32.ofNat (f + m_))), (.int (Int32.ofNat f)), (.ref x)])) _
    refine st6.trans ?_
    show Steps _ _ _ (T6.setTop (mkF m 35 #[.val (.ref r), .val (.int 0), .val (.ref a1), .val (.int (Int32.ofNat (f + m_))), .unset] [(.ref x6)])) _
    refine XS.astore X6.here hx rfl (hb hby d17_35) rfl rfl (l' := #[.val (.ref r), .val (.int 0), .val (.ref a1), .val (.int (Int32.ofNat (f + m_))), .val (.ref x6)]) rfl ?_
    refine XS.aloadN X6.here hx rfl (hb hby d17_37) rfl rfl ?_
    refine XS.iloadN X6.here hx rfl (hb hby d17_38) rfl ?_
    refine XS.iconst X6.here hx rfl (hb hby d17_39) ?_
    refine XS.iadd X6.here hx rfl (hb hby d17_40) rfl ?_
    show Steps _ _ _ (T6.setTop (mkF m 41 #[.val (.ref r), .val (.int 0), .val (.ref a1), .val (.int (Int32.ofNat (f + m_))), .val (.ref x6)] [(.int ((Int32.ofNat (f + m_)) + (1 : Int32))), (.ref r)])) _
    rw [(own_succ (f + m_))]
    show Steps _ _ _ (T6.setTop (mkF m 41 #[.val (.ref r), .val (.int 0), .val (.ref a1), .val (.int (Int32.ofNat (f + m_))), .val (.ref x6)] [(.int (Int32.ofNat (f + m_ + 1))), (.ref r)])) _
    refine st7 _ ?_
    show Steps _ _ _ (T7.setTop (mkF m 44 #[.val (.ref r), .val (.int 0), .val (.ref a1), .val (.int (Int32.ofNat (f + m_))), .val (.ref x6)] [])) _
    refine XS.aload X7.here hx rfl (hb hby d17_44) rfl rfl ?_
    show Steps _ _ _ (T7.setTop (mkF m 46 #[.val (.ref r), .val (.int 0), .val (.ref a1), .val (.int (Int32.ofNat (f + m_))), .val (.ref x6)] [(.ref x6)])) _
    jvm_step X7.here [X7.here.top, hx, (hb hby d17_46), X7.method', Bd.returns, Value.isRef, FieldType.isReference]
    first | (intro acts; rw [hr _ acts rfl rfl rfl]) | rw [hr _ _ rfl rfl rfl]
    exact Steps.refl _
  · show own_QU Z r x cs f m_ h0 n0 _ T7.heap _
    rw [e7]
    exact ⟨x6, rfl, N7, szx6, (((Keep.refl h0 [r]).trans Kq6 all0).wr W7 (Or.inl (tk 0 rfl))), St10, f11, f12, Fw7⟩
theorem own_backSN {p : Program} {l : Launch} {e : Env} {R : Room} {s : State} {args : Array Value} {below : List Frame} {Z : State} {a0 : Array Value} {EL : List (String × Nat)} {h : Heap} {vm0 : Vm} {y : MethodName} {bytes : ByteArray} {maxL : Nat} {ret : Option FieldType} {rm : Room} {len W : Nat} {as' : Array Value} {Q : Option Value → Heap → List Loc → Prop}
    (hM : MetFree l y (head1 [Cond.code y bytes maxL ret] rm) (fun a U => a = as' ∧ Z.Warmed39 U.vm ∧ U.heap = h ∧ CHv Z EL U.vm h) (fun _ _ _ _ _ => True) (fun _ U o U' => ∃ v L, o = .returned v ∧ Q v U'.heap L ∧ ReturnedEndW U o U' L rm.cells rm.slots))
    (hZ : Z.Warmed39 vm0) (wc : (Cond.code y bytes maxL ret).before a0 Z = true) (wz : (Cond.initialized y.cls).before a0 Z = true) (hf : rm.frames + 1 ≤ R.frames) (hl : W + (maxL + 11) + rm.locals ≤ R.locals) (hEL : EW Z a0 EL) (H : CHv Z EL vm0 h) :
    BackS l R p e below (s.setVm vm0) args y len W (fun A a => a = as' ∧ A.U.heap = h ∧ A.cells + rm.cells ≤ R.cells ∧ A.slots + rm.slots ≤ R.slots)
      (fun A _ v B => ∃ L, Q v B.U.heap L ∧ B.locs = A.locs ++ L ∧ B.cells = A.cells + rm.cells ∧ B.slots = A.slots + rm.slots) := by
  refine BackS.of_freeW (bytes := bytes) (maxL := maxL) (ret := ret) (E := fun _ first o t L k n => k = rm.cells ∧ n = rm.slots ∧ (∃ v, o = .returned v ∧ Q v t.heap L)) hM hf hl ?_ ?_ (fun _ _ _ _ _ _ _ _ _ => trivial) ?_ ?_
  · intro m meth c A a Y hp
    have hU : Z.Warmed39 A.U.vm := wtrans (s := s.setVm vm0) hZ Y.warmed
    exact ⟨by show (Cond.and _ .tt).before a A.U = true; rw [Cond.before_and, mv hU wc]; rfl, mv hU wc, mv hU wz, hp.2.2.1, hp.2.2.2⟩
  · intro m meth c A a g mk Y hp
    exact ⟨hp.1, wtrans (s := s.setVm vm0) hZ Y.warmed, hp.2.1, (CHv.at Y hZ hEL H).1⟩
  · intro _ _ _ _ ⟨v, L, h1, h2, h3⟩
    exact ⟨L, _, _, h3, rfl, rfl, ⟨v, h1, h2⟩⟩
  · intro m meth c A a g mk v t L k n Y hp _ _ ⟨e1, e2, ⟨v', e3, e4⟩⟩
    cases e3
    subst e1 e2
    exact ⟨L, e4, rfl, rfl, rfl⟩
/-! `ldc_w` of the empty String, read: the library reads a literal behind `ldc` alone -/
theorem own_wsay {Z : State} {vm : Vm} {h : Heap} {a : Addr} {u : Array UInt16} (hal : Z.vm.Alike vm) (hu : stringBytes u = #[]) (F : SlOf (Wst Z vm h) a u) :
    ∃ (b : Addr) (k : ClassId), Exa Z h a "java/lang/String" ∧ Fld Z h a "java/lang/String" "coder" "B" (.int 0) ∧ Fld Z h a "java/lang/String" "value" "[B" (.ref b) ∧ Arv Z h b k .byte 0 [] (.int 0) := by
  obtain ⟨q, cS, rfl, ⟨S, hS, hcl⟩, ⟨kS, k1, -, k3⟩, hB, hby⟩ := F
  subst hcl
  have fS : Z.vm.findClass "java/lang/String" = some q.sC.cls := by rw [← hal.findClass]; exact hS
  have fB : Z.vm.findClass "[B" = some q.SA.cls := by rw [← hal.findClass]; exact hB
  obtain ⟨z, hz, -⟩ := Vm.findClass_spec fS
  obtain ⟨z', hz', ez⟩ := hal.2.2 _ _ hz
  obtain ⟨y, hy, -⟩ := Vm.findClass_spec fB
  obtain ⟨y', hy', ey⟩ := hal.2.2 _ _ hy
  have ezk : z' = kS := Option.some.inj (hz'.symm.trans k1)
  obtain ⟨_, _, _, v1, v2⟩ := S.ffV
  obtain ⟨_, _, _, c1, c2⟩ := S.ffC
  obtain ⟨_, v3⟩ := ff_back (U := Wst Z vm h) hal v1
  obtain ⟨_, c3⟩ := ff_back (U := Wst Z vm h) hal c1
  obtain ⟨s1, s2, s3, -, -, s6, s7, s8, s9, s10, ⟨r1, k9, r2, comp, r3⟩, s12, -⟩ := S
  have e9 : k9 = y' := Option.some.inj (r2.symm.trans hy')
  have n0 : q.SA.slots.size = 0 := by rw [hby, hu]; rfl
  have nx : ∀ j, ¬ j < q.SA.slots.size := fun j => by rw [n0]; exact Nat.not_lt_zero j
  refine ⟨q.sd, q.SA.cls, ⟨q.sC, z, s1, fS, hz, s3, fun _ => ?_⟩, ⟨q.sC, _, _, _, q.fSC, s1, c3, s7, s2, s3, ?_, s9⟩, ⟨q.sC, _, _, _, q.fSV, s1, v3, s6, s2, s3, ?_, s8⟩, q.SA, ⟨s10, ⟨r1, y, hy, comp, ?_⟩, s12⟩, rfl, n0, by decide, fun j hj => absurd hj (nx j), fun j hj => absurd hj (nx j)⟩
  · rw [k3, ← ezk, ez]
  · rw [← hal.assignable]; exact c2
  · rw [← hal.assignable]; exact v2
  · rw [e9, ey] at r3; exact r3
theorem own_sb0 {u : Array UInt16} (h : utf16ToString? u = some "") : stringBytes u = #[] := by
  have e := Jvm.ClassFile.units_of_text h (fun c hc => by simp at hc)
  obtain rfl : u = #[] := Array.toList_inj.mp (by rw [e]; simp)
  simp [stringBytes]
set_option maxHeartbeats 4000000 in
theorem own_ldcW {p : Program} {l : Launch} {e : Env} {R : Room} {s : State} {vm0 : Vm} {m : MethodId} {args : Array Value} {below : List Frame} {meth : Method} {c : Code} {T : State} {locs : List Loc} {cells slots : Nat} {Z : State} {a0 : Array Value} {EL : List (String × Nat)} {h : Heap} {own : String} {index : Nat}
    (X : Stand p l e R (s.setVm vm0) m args below meth c T locs cells slots) (hx : p.tables.exec = Jvm.exec) (hZ : Z.Warmed39 vm0) (hown : vm0.findClass own = some m.cls) (w : (Cond.stringLink own index "").before a0 Z = true) (wS : ∀ a ∈ Bundle.stringAtoms, a.before a0 Z = true)
    (eT : T.heap = h) {k0 : Nat} (hS : s.Since vm0 k0) (hk : k0 ≤ h.size) (hEL : EW Z a0 EL) (hmem : (own, index) ∈ EL) (H : CHv Z EL vm0 h) {g : JFrame} (hg : g.method = m) (hd : decode c.code g.pc = .ok (.ldc_w index, 3)) (hc : cells + 2 ≤ R.cells) (hl : slots + 4 ≤ R.slots) :
    ∃ (a : Addr) (T' : State) (h' : Heap) (k1 : Nat) (b : Addr) (k : ClassId), Stand p l e R (s.setVm T'.vm) m args below meth c T' locs (cells + 2) (slots + 4) ∧ T'.heap = h' ∧ Ext h h' ∧ s.Since T'.vm k1 ∧ k1 ≤ h'.size ∧ Z.Warmed39 (s.setVm T'.vm).vm ∧ (s.setVm T'.vm).vm.findClass own = some m.cls ∧
      Exa Z h' a "java/lang/String" ∧ Fld Z h' a "java/lang/String" "coder" "B" (.int 0) ∧ Fld Z h' a "java/lang/String" "value" "[B" (.ref b) ∧ Arv Z h' b k .byte 0 [] (.int 0) ∧
      ∀ target, Steps p.tables e below (T'.setTop { g with pc := g.pc + 3, stack := .ref a :: g.stack }) target → Steps p.tables e below (T.setTop g) target := by
  subst eT hg
  have hW : Z.Warmed39 T.vm := wtrans (s := s.setVm vm0) hZ X.warmed
  have hf : T.vm.findClass own = some g.method.cls := by rw [X.warmed.wide.alike.findClass]; exact hown
  have w2 : (Cond.stringLink own index "").before a0 (Wst Z T.vm T.heap) = true := mvS (s := { Z with heap := T.heap }) hW w
  obtain ⟨k, cf, i, u, hk1, hcf, hp, hu, hnm, htext, hres⟩ := Cond.stringLink_spec (s := Wst Z T.vm T.heap) hf w2
  have hk1 : T.vm.classes[g.method.cls]? = some k := hk1
  have hu0 := own_sb0 htext
  suffices G : ∃ (a : Addr) (T' : State), Stand p l e R (s.setVm T'.vm) g.method args below meth c T' locs (cells + 2) (slots + 4) ∧ T.Warmed39 T'.vm ∧ T.Interned1 T' ∧ Ext T.heap T'.heap ∧ SlOf (Wst Z T'.vm T'.heap) a u ∧
      ∀ target, Steps p.tables e below (T'.setTop { g with pc := g.pc + 3, stack := .ref a :: g.stack }) target → Steps p.tables e below (T.setTop g) target by
    obtain ⟨a, T', X', hT, hI, E, F, st⟩ := G
    have h1 : (s.setVm vm0).Warmed39 T'.vm := State.Warmed39.trans (t := T) X.warmed.wide hT
    have h2 : Z.Warmed39 T'.vm := State.Warmed39.trans (t := s.setVm vm0) hZ h1
    obtain ⟨b, kb, F1, F2, F3, F4⟩ := own_wsay h2.alike hu0 F
    exact ⟨a, T', _, _, b, kb, X', rfl, E, hS.trans ⟨h1, State.Booked.step (X.warmed.no_new_pair _) X.same.2.1 hI⟩ (Nat.le_trans hk E.1), Nat.le_refl _, h2, by show T'.vm.findClass own = _; rw [hT.alike.findClass]; exact hf, F1, F2, F3, F4, st⟩
  have book : ∀ a, (k.resolved[index]? = some (some (.string a)) ∨ (k.resolved[index]? = some none ∧ T.vm.interned.find? (fun p => p.1 == u) = some (u, a))) → SlOf (Wst Z T.vm T.heap) a u :=
    fun a q => (CHv.at X hZ hEL H).1 _ hmem u a ⟨g.method.cls, k, cf, i, hf, hk1, hcf, hp, hu, q⟩
  have n1 : k.cf.bind (namesOf? ·.constantPool index) = some (.string "") := by rw [hcf]; exact hnm
  have n2 : k.cf.bind (·.constantPool[index]?) = some (.string i) := by rw [hcf]; exact hp
  have n3 : k.cf.bind (·.constantPool.utf8? i) = some u := by rw [hcf]; simp [ConstantPool.utf8?, hu]
  have XM := X.mono (cells' := cells + 2) (slots' := slots + 4) (by omega) (by omega)
  rcases hres with ho | ⟨a, ha⟩
  · cases hq : T.vm.interned.find? (fun p => p.1 == u) with
    | some pr =>
      obtain ⟨u1, a⟩ := pr
      obtain rfl : u1 = u := by simpa using Array.find?_some hq
      have hT : T.Warmed39 (T.vm.noted g.method.cls index (.string a)) := (State.Warmed39.refl T).notedString hk1 (Or.inl ho) n1 n2 n3 hq
      refine ⟨a, T.setVm (T.vm.noted g.method.cls index (.string a)), XM.retabled (State.Warmed39.trans (t := T) X.warmed.wide hT), hT, ⟨Nat.le_refl _, Or.inl rfl⟩, ⟨Nat.le_refl _, fun _ _ q => q⟩, SlOf.moved (book a (Or.inr ⟨ho, hq⟩)) hT.alike (fun _ _ q => q), fun target kt => ?_⟩
      jvm_step X.here [hx, hd, ldc_w.wp_string_found (e := e) (s := T) (f := g) X.here.top hk1 hcf hp hu ho hq]
      exact kt
    | none =>
      obtain ⟨Y, LY, y4, yv, yc⟩ := StringT.of_atoms wS
      obtain ⟨kS, kB, LT, ty⟩ := LY.warmer hW.alike
      have fs : T.fitsSlot = Z.fitsSlot := (show T.fitsSlot = (Z.setVm T.vm).fitsSlot from rfl).trans (State.fitsSlot_setVm hW.alike)
      have wh : (withString T Y.cB Y.cS kS Y.fv Y.fc u).heap = (T.heap.push (bytesOf Y.cB u)).push (stringAt Y.cS kS Y.fv Y.fc u T.heap.size) := by rw [withString_eq]; rfl
      have b0 : (bytesOf Y.cB u).slots.size = 0 := by rw [bytesOf_slots, bytesSlots_eq, hu0]; rfl
      have b4 : (stringAt Y.cS kS Y.fv Y.fc u T.heap.size).slots.size = 4 := by simp [string0, Cell.setSlot, ty, y4]
      have X2 := (X.pushed (bytesOf Y.cB u)).pushed (stringAt Y.cS kS Y.fv Y.fc u T.heap.size)
      rw [← withString_eq, b0, b4] at X2
      have hp1 : ({ T.vm with interned := T.vm.interned.push (u, T.heap.size + 1) } : Vm).interned.find? (fun p => p.1 == u) = some (u, T.heap.size + 1) := by
        show (T.vm.interned.push (u, T.heap.size + 1)).find? _ = _
        rw [Array.find?_push, hq]; simp
      have hT : T.Warmed39 (({ T.vm with interned := T.vm.interned.push (u, T.heap.size + 1) } : Vm).noted g.method.cls index (.string (T.heap.size + 1))) :=
        ((State.Warmed39.refl T).interns u (T.heap.size + 1)).notedString hk1 (Or.inl ho) n1 n2 n3 hp1
      generalize hV : (({ T.vm with interned := T.vm.interned.push (u, T.heap.size + 1) } : Vm).noted g.method.cls index (.string (T.heap.size + 1))) = V at hT
      have vi : V.interned = T.vm.interned.push (u, T.heap.size + 1) := by rw [← hV]; rfl
      have sz : ((withString T Y.cB Y.cS kS Y.fv Y.fc u).setVm V).heap.size = T.heap.size + 2 := by show (withString T Y.cB Y.cS kS Y.fv Y.fc u).heap.size = _; rw [wh]; simp
      have F := made_sl (W := (withString T Y.cB Y.cS kS Y.fv Y.fc u).setVm V) (n := T.heap.size) (units := u) wS LY y4 ty (State.Warmed39.trans (t := T) hW hT).alike (by show (withString T Y.cB Y.cS kS Y.fv Y.fc u).heap[T.heap.size]? = _; rw [wh, Array.getElem?_push, if_neg (by rw [Array.size_push]; omega), Array.getElem?_push, if_pos rfl]) (by show (withString T Y.cB Y.cS kS Y.fv Y.fc u).heap[T.heap.size + 1]? = _; rw [wh, Array.getElem?_push, if_pos (by rw [Array.size_push])]) (Jvm.ClassFile.lat_of_text htext (fun c hc => by simp at hc)) (by rw [hu0]; decide) 0
      refine ⟨T.heap.size + 1, (withString T Y.cB Y.cS kS Y.fv Y.fc u).setVm V, (X2.mono (cells' := cells + 2) (slots' := slots + 4) (by omega) (by omega)).retabled (State.Warmed39.trans (t := T) X.warmed.wide hT), hT, ⟨sz ▸ Nat.le_add_right _ 2, Or.inr ⟨u, T.heap.size + 1, vi, Nat.le_succ _, sz ▸ Nat.lt_succ_self _⟩⟩, ext_of (fun b hb => ?_), ?_, fun target kt => ?_⟩
      · show (withString T Y.cB Y.cS kS Y.fv Y.fc u).heap[b]? = _
        rw [wh, Array.getElem?_push, if_neg (by rw [Array.size_push]; omega), Array.getElem?_push, if_neg (by omega)]
      · obtain ⟨q, cS, q1, q2, q3, q4, q5, -⟩ := F
        exact SlOf.moved (s := (withString T Y.cB Y.cS kS Y.fv Y.fc u).setVm V) ⟨q, cS, q1, q2, q3, q4, q5⟩ (Vm.Alike.refl _) (fun _ _ q => q)
      · subst hV
        refine Steps.instr (c := _) (by simpa using X.here) ?_
        simp [jvm, wpRun, exec, X.here.top, hx, hd]
        refine ldc_w.wp_string_new (e := e) (s := T) (f := g) X.here.top hk1 hcf hp hu ho hq LT.found LT.cls LT.initialized LT.ordinary LT.foundB LT.clsB LT.kindB LT.value LT.coder (by rw [hu0]; exact Nat.not_lt_zero _) (by rw [hu0]; simp) (X.cellsAbove hc) (by have := X.slotsAbove hl; show T.slotsUsed + (stringBytes u).size + kS.instanceTypes.size ≤ _; rw [hu0, ty, y4]; simpa using this)
          (stringBytes_fit LT.clsB LT.kindB u) LT.valueSlot LT.coderSlot (by rw [fs]; exact yv _) (by rw [fs]; exact yc _) (fun d' acts' => ?_)
        intro acts2
        have t1 : (withString T Y.cB Y.cS kS Y.fv Y.fc u).topJava?.isSome := by simpa [withString] using X.here.top
        have t2 : ((withString T Y.cB Y.cS kS Y.fv Y.fc u).setVm (({ T.vm with interned := T.vm.interned.push (u, T.heap.size + 1) } : Vm).noted g.method.cls index (.string (T.heap.size + 1)))).topJava?.isSome := by simpa using t1
        simp [jvm, afterInstr, t1, t2]
        rw [State.modifyTopJava_setTop]
        exact kt
  · refine ⟨a, T, XM.retabled X.warmed.wide, State.Warmed39.refl T, ⟨Nat.le_refl _, Or.inl rfl⟩, ⟨Nat.le_refl _, fun _ _ q => q⟩, book a (Or.inl ha), fun target kt => ?_⟩
    jvm_step X.here [hx, hd, ldc_w.wp_string (e := e) (s := T) (f := g) X.here.top hk1 hcf hp ha]
    exact kt
def own_QE (Z : State)  (h0 : Heap) (n0 : Nat) (v : Option Value) (h : Heap) (L : List Loc) : Prop := ∃ y : Addr, v = some (.ref y) ∧ Fr n0 L ∧ Keep h0 h [] ∧ own_st Z h y ([] : List Int32)
theorem own_wS : ∀ d ∈ Bundle.stringAtoms, d ∈ tables_1 := by decide +kernel
theorem own_mem295 : ("java/lang/StringUTF16", (295 : Nat)) ∈ consts_1 := by simp [consts_1]
theorem d43_4 : decode jdk_52_method_69_code 4 = .ok (.ldc_w 295, 3) := by decide +kernel
theorem d43_7 : decode jdk_52_method_69_code 7 = .ok (.areturn, 1) := by decide +kernel
theorem own_mem151 : ("java/lang/StringLatin1", (151 : Nat)) ∈ consts_1 := by simp [consts_1]
theorem d27_4 : decode jdk_43_method_47_code 4 = .ok (.ldc 151, 2) := by decide +kernel
theorem d27_6 : decode jdk_43_method_47_code 6 = .ok (.areturn, 1) := by decide +kernel
theorem rmUN0 (l : Launch) (Z : State) (a0 : Array Value) (hw : HW a0 Z) (ws : List Jvm.Cond) (t : Addr) (f : Nat) (h0 : Heap) (n0 : Nat) (Z0 : n0 ≤ h0.size) :
    MetFree l y_44 (head1 (Jvm.Cond.code y_44 jdk_52_method_69_code 5 (some (.object "java/lang/String")) :: ws) (Rm 0 2 4 0)) (fun a_ U_ => a_ = #[(.ref t), (.int (Int32.ofNat f)), (.int 0)] ∧ Z.Warmed39 U_.vm ∧ U_.heap = h0 ∧ CHv Z consts_1 U_.vm h0) (fun _ _ _ _ _ => True) (fun _ U_ o_ U1_ => ∃ v_ L_, o_ = .returned v_ ∧ own_QE Z  h0 n0 v_ U1_.heap L_ ∧ ReturnedEndW U_ o_ U1_ L_ (Rm 0 2 4 0).cells (Rm 0 2 4 0).slots) := by
  refine MetFree.of_bodySF (plainFor_of_name pn_43) hisR ?_
  intro p e s m args below meth c s₁ Bd hml0 hP hK
  obtain ⟨rfl, hZ, hh, H0⟩ := hP
  have hx := Bd.exec
  have hby := Bd.bytes
  have hml : c.maxLocals = 5 := hml0
  have hown : s.vm.findClass "java/lang/StringUTF16" = some m.cls := findClass_of_methodNamed Bd.named
  have hnm := (name_of_methodNamed Bd.named Bd.method).1
  have X0 : Stand p l e (Rm 0 2 4 0) s m #[(.ref t), (.int (Int32.ofNat f)), (.int 0)] below meth c s₁ [] 0 0 := Stand.of_body Bd
  have e0 : s₁.heap = h0 := by rw [← hh, Bd.state]; rfl
  have N0 := Fr.nil n0
  have pre0 : ∀ tt, Steps p.tables e below (s₁.setTop (mkF m 0 #[.val (.ref t), .val (.int (Int32.ofNat f)), .val (.int 0), .unset, .unset] [])) tt → Steps p.tables e below (s₁.setTop (entryFrame m #[(.ref t), (.int (Int32.ofNat f)), (.int 0)] 5)) tt := fun tt kk => castTop (ef_43_rrr m t (Int32.ofNat f) (0 : Int32)) kk
  have hS0 : s.Since s.vm 0 := (State.WarmedH.refl s).since 0
  have hk0 : 0 ≤ h0.size := Nat.zero_le _
  obtain ⟨b1, T1, h1, k1, d1, kb1, X1, e1, E1, hS1, hk1, hZ1, hown1, Ea1, Ca1, Va1, Ka1, st1⟩ := own_ldcW (s := s) (vm0 := s.vm) X0 hx hZ hown (hw _ (tk 228 rfl)) (fun d hd => hw d (own_wS d hd)) e0 hS0 hk0 (own_EW hw) own_mem295 (CHr.refl H0).1 (g := (mkF m 4 #[.val (.ref t), .val (.int (Int32.ofNat f)), .val (.int 0), .unset, .unset] [])) rfl (hb hby d43_4) (by decide) (by decide)
  obtain ⟨fs, hr, hrun, hended, hfin⟩ := X1.leaveW hS1 (by rw [e1]; exact hk1) (v := some (.ref b1)) (fun h => by rw [Bd.returns] at h; cases h)
  refine ⟨_, _, pre0 _ ?_, hrun, hended, _, _, rfl, ?_, hfin.1, hfin.2.1, hfin.2.2.1, hfin.2.2.2.mono (by decide) (by decide)⟩
  · show Steps _ _ _ (s₁.setTop (mkF m 0 #[.val (.ref t), .val (.int (Int32.ofNat f)), .val (.int 0), .unset, .unset] [])) _
    refine XS.iloadN X0.here hx rfl (hb hby d43_0) rfl ?_
    refine XS.ifNo X0.here hx rfl (hb hby d43_1) rfl ((if0 _ _).trans (teq (by decide : (0 : Int32) = (0 : Int32))).2) ?_
    show Steps _ _ _ (s₁.setTop (mkF m 4 #[.val (.ref t), .val (.int (Int32.ofNat f)), .val (.int 0), .unset, .unset] [])) _
    refine st1 _ ?_
    show Steps _ _ _ (T1.setTop (mkF m 7 #[.val (.ref t), .val (.int (Int32.ofNat f)), .val (.int 0), .unset, .unset] [(.ref b1)])) _
    jvm_step X1.here [X1.here.top, hx, (hb hby d43_7), X1.method', Bd.returns, Value.isRef, FieldType.isReference]
    first | (intro acts; rw [hr _ acts rfl rfl rfl]) | rw [hr _ _ rfl rfl rfl]
    exact Steps.refl _
  · show own_QE Z  h0 n0 _ T1.heap _
    rw [e1]
    exact ⟨b1, rfl, N0, ((Keep.refl h0 []).ext E1), d1, kb1, Ea1, Va1, Or.inl ⟨Ca1, Ka1, fun _ q => nomatch q⟩⟩
theorem rmLN0 (l : Launch) (Z : State) (a0 : Array Value) (hw : HW a0 Z) (ws : List Jvm.Cond) (t : Addr) (f : Nat) (h0 : Heap) (n0 : Nat) (Z0 : n0 ≤ h0.size) :
    MetFree l y_45 (head1 (Jvm.Cond.code y_45 jdk_43_method_47_code 3 (some (.object "java/lang/String")) :: ws) (Rm 0 2 4 0)) (fun a_ U_ => a_ = #[(.ref t), (.int (Int32.ofNat f)), (.int 0)] ∧ Z.Warmed39 U_.vm ∧ U_.heap = h0 ∧ CHv Z consts_1 U_.vm h0) (fun _ _ _ _ _ => True) (fun _ U_ o_ U1_ => ∃ v_ L_, o_ = .returned v_ ∧ own_QE Z  h0 n0 v_ U1_.heap L_ ∧ ReturnedEndW U_ o_ U1_ L_ (Rm 0 2 4 0).cells (Rm 0 2 4 0).slots) := by
  refine MetFree.of_bodySF (plainFor_of_name pn_27) hisR ?_
  intro p e s m args below meth c s₁ Bd hml0 hP hK
  obtain ⟨rfl, hZ, hh, H0⟩ := hP
  have hx := Bd.exec
  have hby := Bd.bytes
  have hml : c.maxLocals = 3 := hml0
  have hown : s.vm.findClass "java/lang/StringLatin1" = some m.cls := findClass_of_methodNamed Bd.named
  have hnm := (name_of_methodNamed Bd.named Bd.method).1
  have X0 : Stand p l e (Rm 0 2 4 0) s m #[(.ref t), (.int (Int32.ofNat f)), (.int 0)] below meth c s₁ [] 0 0 := Stand.of_body Bd
  have e0 : s₁.heap = h0 := by rw [← hh, Bd.state]; rfl
  have N0 := Fr.nil n0
  have pre0 : ∀ tt, Steps p.tables e below (s₁.setTop (mkF m 0 #[.val (.ref t), .val (.int (Int32.ofNat f)), .val (.int 0)] [])) tt → Steps p.tables e below (s₁.setTop (entryFrame m #[(.ref t), (.int (Int32.ofNat f)), (.int 0)] 3)) tt := fun tt kk => castTop (ef_27_rrr m t (Int32.ofNat f) (0 : Int32)) kk
  have hS0 : s.Since s.vm 0 := (State.WarmedH.refl s).since 0
  have hk0 : 0 ≤ h0.size := Nat.zero_le _
  obtain ⟨b1, T1, h1, k1, d1, kb1, X1, e1, E1, hS1, hk1, hZ1, hown1, Ea1, Ca1, Va1, Ka1, la1, lb1, Cx1, -, ne1, st1⟩ := ldcCH (s := s) (vm0 := s.vm) X0 hx hZ hown (hw _ (tk 229 rfl)) (fun d hd => hw d (own_wS d hd)) e0 hS0 hk0 (own_EW hw) own_mem151 (CHr.refl H0).1 (vs := []) (z := 0) ⟨by decide, rfl⟩ (by decide) rfl (g := (mkF m 4 #[.val (.ref t), .val (.int (Int32.ofNat f)), .val (.int 0)] [])) rfl (hb hby d27_4) (n := 0) (by decide) (by decide) (by decide) (by decide)
  have C1 := CHr.trans (CHr.refl H0) Cx1
  obtain ⟨fs, hr, hrun, hended, hfin⟩ := X1.leaveW hS1 (by rw [e1]; exact hk1) (v := some (.ref b1)) (fun h => by rw [Bd.returns] at h; cases h)
  refine ⟨_, _, pre0 _ ?_, hrun, hended, _, _, rfl, ?_, hfin.1, hfin.2.1, hfin.2.2.1, hfin.2.2.2.mono (by decide) (by decide)⟩
  · show Steps _ _ _ (s₁.setTop (mkF m 0 #[.val (.ref t), .val (.int (Int32.ofNat f)), .val (.int 0)] [])) _
    refine XS.iloadN X0.here hx rfl (hb hby d27_0) rfl ?_
    refine XS.ifNo X0.here hx rfl (hb hby d27_1) rfl ((if0 _ _).trans (teq (by decide : (0 : Int32) = (0 : Int32))).2) ?_
    show Steps _ _ _ (s₁.setTop (mkF m 4 #[.val (.ref t), .val (.int (Int32.ofNat f)), .val (.int 0)] [])) _
    refine st1 _ ?_
    show Steps _ _ _ (T1.setTop (mkF m 6 #[.val (.ref t), .val (.int (Int32.ofNat f)), .val (.int 0)] [(.ref b1)])) _
    jvm_step X1.here [X1.here.top, hx, (hb hby d27_6), X1.method', Bd.returns, Value.isRef, FieldType.isReference]
    first | (intro acts; rw [hr _ acts rfl rfl rfl]) | rw [hr _ _ rfl rfl rfl]
    exact Steps.refl _
  · show own_QE Z  h0 n0 _ T1.heap _
    rw [e1]
    exact ⟨b1, rfl, N0, ((Keep.refl h0 []).ext E1), d1, kb1, Ea1, Va1, Or.inl ⟨Ca1, Ka1, fun _ q => nomatch q⟩⟩
theorem rmSZl (l : Launch) (Z : State) (a0 : Array Value) (hw : HW a0 Z) (ws : List Jvm.Cond) (G1 : Int32) (G3 : Value) (G4 : Value) (x : Addr) (t : Addr) (k : ClassId) (cs : List Int32) (f : Nat) (h0 : Heap) (n0 : Nat) (Z0 : n0 ≤ h0.size) (EN : own_env Z G1 G3 G4) (X00 : Old Z n0 h0) (E_x : Exa Z h0 x "java/lang/String") (F_value_x : Fld Z h0 x "java/lang/String" "value" "[B" (.ref t)) (F_coder_x : Fld Z h0 x "java/lang/String" "coder" "B" (.int 0)) (V_t : Arv Z h0 t k .byte (Int32.ofNat cs.length) (own_lat cs) (.int 0)) (hl : own_l1 cs) (hlen : cs.length ≤ 15) (hfs : f < cs.length) (hf : 1 ≤ f) :
    MetFree l y_46 (head1 (Jvm.Cond.code y_46 jdk_42_method_92_code 5 (some (.object "java/lang/String")) :: ws) (Rm 2 2 4 29)) (fun a_ U_ => a_ = #[(.ref x), (.int (Int32.ofNat f)), (.int (Int32.ofNat f))] ∧ Z.Warmed39 U_.vm ∧ U_.heap = h0 ∧ CHv Z consts_1 U_.vm h0) (fun _ _ _ _ _ => True) (fun _ U_ o_ U1_ => ∃ v_ L_, o_ = .returned v_ ∧ own_QE Z  h0 n0 v_ U1_.heap L_ ∧ ReturnedEndW U_ o_ U1_ L_ (Rm 2 2 4 29).cells (Rm 2 2 4 29).slots) := by
  refine MetFree.of_bodySF (plainFor_of_name pn_24) hisR ?_
  intro p e s m args below meth c s₁ Bd hml0 hP hK
  obtain ⟨rfl, hZ, hh, H0⟩ := hP
  have hx := Bd.exec
  have hby := Bd.bytes
  have hml : c.maxLocals = 5 := hml0
  have hown : s.vm.findClass "java/lang/String" = some m.cls := findClass_of_methodNamed Bd.named
  have hnm := (name_of_methodNamed Bd.named Bd.method).1
  have X0 : Stand p l e (Rm 2 2 4 29) s m #[(.ref x), (.int (Int32.ofNat f)), (.int (Int32.ofNat f))] below meth c s₁ [] 0 0 := Stand.of_body Bd
  have e0 : s₁.heap = h0 := by rw [← hh, Bd.state]; rfl
  have N0 := Fr.nil n0
  have pre0 : ∀ tt, Steps p.tables e below (s₁.setTop (mkF m 0 #[.val (.ref x), .val (.int (Int32.ofNat f)), .val (.int (Int32.ofNat f)), .unset, .unset] [])) tt → Steps p.tables e below (s₁.setTop (entryFrame m #[(.ref x), (.int (Int32.ofNat f)), (.int (Int32.ofNat f))] 5)) tt := fun tt kk => castTop (ef_24_rrr m x (Int32.ofNat f) (Int32.ofNat f)) kk
  have hS0 : s.Since s.vm 0 := (State.WarmedH.refl s).since 0
  have hk0 : 0 ≤ h0.size := Nat.zero_le _
  have EN0 := EN
  obtain ⟨O2, P5, O4, rG3, O6, O7, O8⟩ := EN
  obtain ⟨cq1, kq1, q1a, q1b, q1c⟩ := isOf hZ e0 E_x
  obtain ⟨_, _, ⟨T1, L1, k1, n1⟩, -, X1, ⟨Lc1, hQ1, l1, y1, z1⟩, st1⟩ := X0.virtualBack hx (y := y_15) (z := y_15) hown (mvT hZ (hw _ (tk 103 rfl))) (mvT hZ (hw _ (tk 61 rfl))) (notFace_of_selects (args := #[]) (mvT hZ (hw _ (tk 63 rfl)))) (mvT hZ (hw _ (tk 63 rfl))) (mvT hZ (hw _ (tk 62 rfl))) (by decide) (backOf (W := 0) (rmLE l Z a0 hw [] G1 G3 G4 x cs h0 n0 Z0 EN0 X00 ⟨t, k, E_x, F_value_x, Or.inl ⟨F_coder_x, V_t, hl⟩⟩ hlen) hZ (hw _ (tk 64 rfl)) (hw _ (tk 9 rfl)) (by decide) (by decide)) q1a q1c (g := (mkF m 1 #[.val (.ref x), .val (.int (Int32.ofNat f)), .val (.int (Int32.ofNat f)), .unset, .unset] [(.ref x)])) rfl (by rw [hml]; rfl) (Steps.refl _) (argsL := []) (rest := []) (lenOf pd___I rfl) rfl (by show 2 * 0 + _ ≤ _; exact Nat.le_of_eq rfl) (hb hby d24_1) (fun _ _ => ⟨rfl, e0, (by decide : 0 + 0 ≤ _), (by decide : 0 + 0 ≤ _)⟩)
  dsimp only [Pt.U, Pt.locs, Pt.cells, Pt.slots] at X1 l1 y1 z1 st1 hQ1
  subst l1 y1 z1
  obtain ⟨rfl, Nq1, eq1⟩ := hQ1
  have N1 := Fr.app N0 Nq1
  obtain ⟨_, _, ⟨T2, L2, k2, n2⟩, -, X2, ⟨Lc2, hQ2, l2, y2, z2⟩, st2⟩ := Jvm.LawKit.callS X1 hx (y := y_5) hown (mvT hZ (hw _ (tk 125 rfl))) (mvT hZ (hw _ (tk 126 rfl))) (mvT hZ (hw _ (tk 9 rfl))) (mvT hZ (hw _ (tk 127 rfl))) (by decide) (backOf (W := 0) (rmSBE l Z a0 hw [] G1 G3 G4 (Int32.ofNat f) (Int32.ofNat f) (Int32.ofNat cs.length) h0 n0 Z0 EN0 X00 (own_n0 (by omega)) Int32.lt_irrefl (fun q => by have := (own_lt (by omega) (by omega)).mp q; omega)) hZ (hw _ (tk 127 rfl)) (hw _ (tk 9 rfl)) (by decide) (by decide)) (g := (mkF m 8 #[.val (.ref x), .val (.int (Int32.ofNat f)), .val (.int (Int32.ofNat f)), .val (.int (Int32.ofNat cs.length)), .unset] [(.int (Int32.ofNat cs.length)), (.int (Int32.ofNat f)), (.int (Int32.ofNat f))])) rfl (by rw [hml]; rfl) (argsL := [(.int (Int32.ofNat f)), (.int (Int32.ofNat f)), (.int (Int32.ofNat cs.length))]) (rest := []) (lenOf pd__III_V rfl) rfl (by show 2 * 0 + _ ≤ _; exact Nat.le_of_eq rfl) (hb hby d24_8) (fun _ _ => ⟨rfl, eq1, (by decide : 0 + 0 ≤ _), (by decide : 0 + 0 ≤ _)⟩)
  dsimp only [Pt.U, Pt.locs, Pt.cells, Pt.slots] at X2 l2 y2 z2 st2 hQ2
  subst l2 y2 z2
  obtain ⟨rfl, Nq2, eq2⟩ := hQ2
  have N2 := Fr.app N1 Nq2
  obtain ⟨cq3, kq3, q3a, q3b, q3c⟩ := isOf hZ eq2 E_x
  obtain ⟨_, _, ⟨T3, L3, k3, n3⟩, -, X3, ⟨Lc3, hQ3, l3, y3, z3⟩, st3⟩ := X2.virtualBack hx (y := y_14) (z := y_14) hown (mvT hZ (hw _ (tk 75 rfl))) (mvT hZ (hw _ (tk 76 rfl))) (notFace_of_selects (args := #[]) (mvT hZ (hw _ (tk 78 rfl)))) (mvT hZ (hw _ (tk 78 rfl))) (mvT hZ (hw _ (tk 77 rfl))) (by decide) (backOf (W := 0) (rmSL0 l Z a0 hw [] G1 G3 G4 x h0 n0 Z0 EN0 X00 E_x F_coder_x) hZ (hw _ (tk 79 rfl)) (hw _ (tk 9 rfl)) (by decide) (by decide)) q3a q3c (g := (mkF m 28 #[.val (.ref x), .val (.int (Int32.ofNat f)), .val (.int (Int32.ofNat f)), .val (.int (Int32.ofNat cs.length)), .val (.int 0)] [(.ref x)])) rfl (by rw [hml]; rfl) (Steps.refl _) (argsL := []) (rest := []) (lenOf pd___Z rfl) rfl (by show 2 * 0 + _ ≤ _; exact Nat.le_of_eq rfl) (hb hby d24_28) (fun _ _ => ⟨rfl, eq2, (by decide : 0 + 0 ≤ _), (by decide : 0 + 0 ≤ _)⟩)
  dsimp only [Pt.U, Pt.locs, Pt.cells, Pt.slots] at X3 l3 y3 z3 st3 hQ3
  subst l3 y3 z3
  obtain ⟨rfl, Nq3, eq3⟩ := hQ3
  have N3 := Fr.app N2 Nq3
  obtain ⟨T4, X4, e4, st4⟩ := getF X3 hx hZ hown (host := "") (Or.inl (hw _ (tk 34 rfl))) Via.refl eq3 F_value_x (g := (mkF m 35 #[.val (.ref x), .val (.int (Int32.ofNat f)), .val (.int (Int32.ofNat f)), .val (.int (Int32.ofNat cs.length)), .val (.int 0)] [(.ref x)])) rfl rfl (hb hby d24_35)
  obtain ⟨_, _, ⟨T5, L5, k5, n5⟩, -, X5', hS5', gr5, ⟨Lc5, hQ5, l5, y5, z5⟩, st5⟩ := callSS X4 hx (y := y_45) hown (mvT hZ (hw _ (tk 131 rfl))) (mvT hZ (hw _ (tk 132 rfl))) (mvT hZ (hw _ (tk 82 rfl))) (mvT hZ (hw _ (tk 133 rfl))) (by decide) (own_backSN (W := 0) (s := s) (rmLN0 l Z a0 hw [] t f h0 n0 Z0) hZ (hw _ (tk 133 rfl)) (hw _ (tk 82 rfl)) (by decide) (by decide) (own_EW hw) (CHr.refl H0).1) (g := (mkF m 41 #[.val (.ref x), .val (.int (Int32.ofNat f)), .val (.int (Int32.ofNat f)), .val (.int (Int32.ofNat cs.length)), .val (.int 0)] [(.int 0), (.int (Int32.ofNat f)), (.ref t)])) rfl (by rw [hml]; rfl) (argsL := [(.ref t), (.int (Int32.ofNat f)), (.int 0)]) (rest := []) (lenOf pd___BII_Ljava_lang_String_ rfl) rfl (by show 2 * 0 + _ ≤ _; exact Nat.le_of_eq rfl) (hb hby d24_41) (fun _ _ => ⟨rfl, e4, (by decide : 0 + 2 ≤ _), (by decide : 0 + 4 ≤ _)⟩)
  dsimp only [Pt.U, Pt.locs, Pt.cells, Pt.slots] at X5' hS5' gr5 l5 y5 z5 st5 hQ5
  subst l5 y5 z5
  obtain ⟨X5, hS5, hZ5, hown5⟩ := rebS (s := s) (vm0 := s.vm) hS0 (by rw [e4]; exact hk0) X5' hS5' gr5 hZ hown
  obtain ⟨y5, rfl, Nq5, Kq5, S5⟩ := hQ5
  have N5 := Fr.app N3 Nq5
  have E5q := own_st_exa S5
  obtain ⟨fs, hr, hrun, hended, hfin⟩ := X5.leaveW hS5 ((Nat.le_refl _)) (v := some (.ref y5)) (fun h => by rw [Bd.returns] at h; cases h)
  refine ⟨_, _, pre0 _ ?_, hrun, hended, _, _, rfl, ?_, hfin.1, hfin.2.1, hfin.2.2.1, hfin.2.2.2.mono (by decide) (by decide)⟩
  · show Steps _ _ _ (s₁.setTop (mkF m 0 #[.val (.ref x), .val (.int (Int32.ofNat f)), .val (.int (Int32.ofNat f)), .unset, .unset] [])) _
    refine XS.aloadN X0.here hx rfl (hb hby d24_0) rfl rfl ?_
    show Steps _ _ _ (s₁.setTop (mkF m 1 #[.val (.ref x), .val (.int (Int32.ofNat f)), .val (.int (Int32.ofNat f)), .unset, .unset] [(.ref x)])) _
    refine st1.trans ?_
    show Steps _ _ _ (T1.setTop (mkF m 4 #[.val (.ref x), .val (.int (Int32.ofNat f)), .val (.int (Int32.ofNat f)), .unset, .unset] [(.int (Int32.ofNat cs.length))])) _
    refine XS.istoreN X1.here hx rfl (hb hby d24_4) rfl (l' := #[.val (.ref x), .val (.int (Int32.ofNat f)), .val (.int (Int32.ofNat f)), .val (.int (Int32.ofNat cs.length)), .unset]) rfl ?_
    refine XS.iloadN X1.here hx rfl (hb hby d24_5) rfl ?_
    refine XS.iloadN X1.here hx rfl (hb hby d24_6) rfl ?_
    refine XS.iloadN X1.here hx rfl (hb hby d24_7) rfl ?_
    show Steps _ _ _ (T1.setTop (mkF m 8 #[.val (.ref x), .val (.int (Int32.ofNat f)), .val (.int (Int32.ofNat f)), .val (.int (Int32.ofNat cs.length)), .unset] [(.int (Int32.ofNat cs.length)), (.int (Int32.ofNat f)), (.int (Int32.ofNat f))])) _
    refine st2 _ ?_
    show Steps _ _ _ (T2.setTop (mkF m 11 #[.val (.ref x), .val (.int (Int32.ofNat f)), .val (.int (Int32.ofNat f)), .val (.int (Int32.ofNat cs.length)), .unset] [])) _
    refine XS.iloadN X2.here hx rfl (hb hby d24_11) rfl ?_
    refine XS.ifYes X2.here hx rfl (pc0 := 12) (pc' := 22) rfl (hb hby d24_12) rfl ((if0 _ _).trans (feq (fun q => by have := (own_eq (j := 0) (by omega) (by omega)).mp q; omega)).2) (by decide) (by decide) ?_
    refine XS.iloadN X2.here hx rfl (hb hby d24_22) rfl ?_
    refine XS.iloadN X2.here hx rfl (hb hby d24_23) rfl ?_
    refine XS.isub X2.here hx rfl (hb hby d24_24) rfl ?_
    show Steps _ _ _ (T2.setTop (mkF m 25 #[.val (.ref x), .val (.int (Int32.ofNat f)), .val (.int (Int32.ofNat f)), .val (.int (Int32.ofNat cs.length)), .unset] [(.int ((Int32.ofNat f) - (Int32.ofNat f)))])) _
    rw [(Int32.sub_self (Int32.ofNat f))]
    show Steps _ _ _ (T2.setTop (mkF m 25 #[.val (.ref x), .val (.int (Int32.ofNat f)), .val (.int (Int32.ofNat f)), .val (.int (Int32.ofNat cs.length)), .unset] [(.int 0)])) _
    refine XS.istore X2.here hx rfl (hb hby d24_25) rfl (l' := #[.val (.ref x), .val (.int (Int32.ofNat f)), .val (.int (Int32.ofNat f)), .val (.int (Int32.ofNat cs.length)), .val (.int 0)]) rfl ?_
    refine XS.aloadN X2.here hx rfl (hb hby d24_27) rfl rfl ?_
    show Steps _ _ _ (T2.setTop (mkF m 28 #[.val (.ref x), .val (.int (Int32.ofNat f)), .val (.int (Int32.ofNat f)), .val (.int (Int32.ofNat cs.length)), .val (.int 0)] [(.ref x)])) _
    refine st3.trans ?_
    show Steps _ _ _ (T3.setTop (mkF m 31 #[.val (.ref x), .val (.int (Int32.ofNat f)), .val (.int (Int32.ofNat f)), .val (.int (Int32.ofNat cs.length)), .val (.int 0)] [(.int 1)])) _
    refine XS.ifNo X3.here hx rfl (hb hby d24_31) rfl ((if0 _ _).trans (feq (by decide : ¬ ((1 : Int32) = (0 : Int32)))).1) ?_
    refine XS.aloadN X3.here hx rfl (hb hby d24_34) rfl rfl ?_
    show Steps _ _ _ (T3.setTop (mkF m 35 #[.val (.ref x), .val (.int (Int32.ofNat f)), .val (.int (Int32.ofNat f)), .val (.int (Int32.ofNat cs.length)), .val (.int 0)] [(.ref x)])) _
    refine st4 _ ?_
    show Steps _ _ _ (T4.setTop (mkF m 38 #[.val (.ref x), .val (.int (Int32.ofNat f)), .val (.int (Int32.ofNat f)), .val (.int (Int32.ofNat cs.length)), .val (.int 0)] [(.ref t)])) _
    refine XS.iloadN X4.here hx rfl (hb hby d24_38) rfl ?_
    refine XS.iload X4.here hx rfl (hb hby d24_39) rfl ?_
    show Steps _ _ _ (T4.setTop (mkF m 41 #[.val (.ref x), .val (.int (Int32.ofNat f)), .val (.int (Int32.ofNat f)), .val (.int (Int32.ofNat cs.length)), .val (.int 0)] [(.int 0), (.int (Int32.ofNat f)), (.ref t)])) _
    refine st5.trans ?_
    show Steps _ _ _ (T5.setTop (mkF m 44 #[.val (.ref x), .val (.int (Int32.ofNat f)), .val (.int (Int32.ofNat f)), .val (.int (Int32.ofNat cs.length)), .val (.int 0)] [(.ref y5)])) _
    refine XS.goto X5.here hx rfl (pc0 := 44) (pc' := 57) rfl (hb hby d24_44) (by decide) (by decide) ?_
    show Steps _ _ _ (T5.setTop (mkF m 57 #[.val (.ref x), .val (.int (Int32.ofNat f)), .val (.int (Int32.ofNat f)), .val (.int (Int32.ofNat cs.length)), .val (.int 0)] [(.ref y5)])) _
    jvm_step X5.here [X5.here.top, hx, (hb hby d24_57), X5.method', Bd.returns, Value.isRef, FieldType.isReference]
    first | (intro acts; rw [hr _ acts rfl rfl rfl]) | rw [hr _ _ rfl rfl rfl]
    exact Steps.refl _
  · show own_QE Z  h0 n0 _ T5.heap _
    exact ⟨y5, rfl, N5, ((Keep.refl h0 []).trans Kq5 all0), S5⟩
theorem rmSZw (l : Launch) (Z : State) (a0 : Array Value) (hw : HW a0 Z) (ws : List Jvm.Cond) (G1 : Int32) (G3 : Value) (G4 : Value) (x : Addr) (t : Addr) (k : ClassId) (cs : List Int32) (f : Nat) (h0 : Heap) (n0 : Nat) (Z0 : n0 ≤ h0.size) (EN : own_env Z G1 G3 G4) (X00 : Old Z n0 h0) (E_x : Exa Z h0 x "java/lang/String") (F_value_x : Fld Z h0 x "java/lang/String" "value" "[B" (.ref t)) (F_coder_x : Fld Z h0 x "java/lang/String" "coder" "B" (.int 1)) (V_t : Arv Z h0 t k .byte (Int32.ofNat (2 * cs.length)) (own_wide cs) (.int 0)) (hlen : cs.length ≤ 15) (hfs : f < cs.length) (hf : 1 ≤ f) :
    MetFree l y_46 (head1 (Jvm.Cond.code y_46 jdk_42_method_92_code 5 (some (.object "java/lang/String")) :: ws) (Rm 2 2 4 29)) (fun a_ U_ => a_ = #[(.ref x), (.int (Int32.ofNat f)), (.int (Int32.ofNat f))] ∧ Z.Warmed39 U_.vm ∧ U_.heap = h0 ∧ CHv Z consts_1 U_.vm h0) (fun _ _ _ _ _ => True) (fun _ U_ o_ U1_ => ∃ v_ L_, o_ = .returned v_ ∧ own_QE Z  h0 n0 v_ U1_.heap L_ ∧ ReturnedEndW U_ o_ U1_ L_ (Rm 2 2 4 29).cells (Rm 2 2 4 29).slots) := by
  refine MetFree.of_bodySF (plainFor_of_name pn_24) hisR ?_
  intro p e s m args below meth c s₁ Bd hml0 hP hK
  obtain ⟨rfl, hZ, hh, H0⟩ := hP
  have hx := Bd.exec
  have hby := Bd.bytes
  have hml : c.maxLocals = 5 := hml0
  have hown : s.vm.findClass "java/lang/String" = some m.cls := findClass_of_methodNamed Bd.named
  have hnm := (name_of_methodNamed Bd.named Bd.method).1
  have X0 : Stand p l e (Rm 2 2 4 29) s m #[(.ref x), (.int (Int32.ofNat f)), (.int (Int32.ofNat f))] below meth c s₁ [] 0 0 := Stand.of_body Bd
  have e0 : s₁.heap = h0 := by rw [← hh, Bd.state]; rfl
  have N0 := Fr.nil n0
  have pre0 : ∀ tt, Steps p.tables e below (s₁.setTop (mkF m 0 #[.val (.ref x), .val (.int (Int32.ofNat f)), .val (.int (Int32.ofNat f)), .unset, .unset] [])) tt → Steps p.tables e below (s₁.setTop (entryFrame m #[(.ref x), (.int (Int32.ofNat f)), (.int (Int32.ofNat f))] 5)) tt := fun tt kk => castTop (ef_24_rrr m x (Int32.ofNat f) (Int32.ofNat f)) kk
  have hS0 : s.Since s.vm 0 := (State.WarmedH.refl s).since 0
  have hk0 : 0 ≤ h0.size := Nat.zero_le _
  have EN0 := EN
  obtain ⟨O2, P5, O4, rG3, O6, O7, O8⟩ := EN
  obtain ⟨cq1, kq1, q1a, q1b, q1c⟩ := isOf hZ e0 E_x
  obtain ⟨_, _, ⟨T1, L1, k1, n1⟩, -, X1, ⟨Lc1, hQ1, l1, y1, z1⟩, st1⟩ := X0.virtualBack hx (y := y_15) (z := y_15) hown (mvT hZ (hw _ (tk 103 rfl))) (mvT hZ (hw _ (tk 61 rfl))) (notFace_of_selects (args := #[]) (mvT hZ (hw _ (tk 63 rfl)))) (mvT hZ (hw _ (tk 63 rfl))) (mvT hZ (hw _ (tk 62 rfl))) (by decide) (backOf (W := 0) (rmLE l Z a0 hw [] G1 G3 G4 x cs h0 n0 Z0 EN0 X00 ⟨t, k, E_x, F_value_x, Or.inr ⟨F_coder_x, V_t⟩⟩ hlen) hZ (hw _ (tk 64 rfl)) (hw _ (tk 9 rfl)) (by decide) (by decide)) q1a q1c (g := (mkF m 1 #[.val (.ref x), .val (.int (Int32.ofNat f)), .val (.int (Int32.ofNat f)), .unset, .unset] [(.ref x)])) rfl (by rw [hml]; rfl) (Steps.refl _) (argsL := []) (rest := []) (lenOf pd___I rfl) rfl (by show 2 * 0 + _ ≤ _; exact Nat.le_of_eq rfl) (hb hby d24_1) (fun _ _ => ⟨rfl, e0, (by decide : 0 + 0 ≤ _), (by decide : 0 + 0 ≤ _)⟩)
  dsimp only [Pt.U, Pt.locs, Pt.cells, Pt.slots] at X1 l1 y1 z1 st1 hQ1
  subst l1 y1 z1
  obtain ⟨rfl, Nq1, eq1⟩ := hQ1
  have N1 := Fr.app N0 Nq1
  obtain ⟨_, _, ⟨T2, L2, k2, n2⟩, -, X2, ⟨Lc2, hQ2, l2, y2, z2⟩, st2⟩ := Jvm.LawKit.callS X1 hx (y := y_5) hown (mvT hZ (hw _ (tk 125 rfl))) (mvT hZ (hw _ (tk 126 rfl))) (mvT hZ (hw _ (tk 9 rfl))) (mvT hZ (hw _ (tk 127 rfl))) (by decide) (backOf (W := 0) (rmSBE l Z a0 hw [] G1 G3 G4 (Int32.ofNat f) (Int32.ofNat f) (Int32.ofNat cs.length) h0 n0 Z0 EN0 X00 (own_n0 (by omega)) Int32.lt_irrefl (fun q => by have := (own_lt (by omega) (by omega)).mp q; omega)) hZ (hw _ (tk 127 rfl)) (hw _ (tk 9 rfl)) (by decide) (by decide)) (g := (mkF m 8 #[.val (.ref x), .val (.int (Int32.ofNat f)), .val (.int (Int32.ofNat f)), .val (.int (Int32.ofNat cs.length)), .unset] [(.int (Int32.ofNat cs.length)), (.int (Int32.ofNat f)), (.int (Int32.ofNat f))])) rfl (by rw [hml]; rfl) (argsL := [(.int (Int32.ofNat f)), (.int (Int32.ofNat f)), (.int (Int32.ofNat cs.length))]) (rest := []) (lenOf pd__III_V rfl) rfl (by show 2 * 0 + _ ≤ _; exact Nat.le_of_eq rfl) (hb hby d24_8) (fun _ _ => ⟨rfl, eq1, (by decide : 0 + 0 ≤ _), (by decide : 0 + 0 ≤ _)⟩)
  dsimp only [Pt.U, Pt.locs, Pt.cells, Pt.slots] at X2 l2 y2 z2 st2 hQ2
  subst l2 y2 z2
  obtain ⟨rfl, Nq2, eq2⟩ := hQ2
  have N2 := Fr.app N1 Nq2
  obtain ⟨cq3, kq3, q3a, q3b, q3c⟩ := isOf hZ eq2 E_x
  obtain ⟨_, _, ⟨T3, L3, k3, n3⟩, -, X3, ⟨Lc3, hQ3, l3, y3, z3⟩, st3⟩ := X2.virtualBack hx (y := y_14) (z := y_14) hown (mvT hZ (hw _ (tk 75 rfl))) (mvT hZ (hw _ (tk 76 rfl))) (notFace_of_selects (args := #[]) (mvT hZ (hw _ (tk 78 rfl)))) (mvT hZ (hw _ (tk 78 rfl))) (mvT hZ (hw _ (tk 77 rfl))) (by decide) (backOf (W := 0) (rmSL1 l Z a0 hw [] G1 G3 G4 x h0 n0 Z0 EN0 X00 E_x F_coder_x) hZ (hw _ (tk 79 rfl)) (hw _ (tk 9 rfl)) (by decide) (by decide)) q3a q3c (g := (mkF m 28 #[.val (.ref x), .val (.int (Int32.ofNat f)), .val (.int (Int32.ofNat f)), .val (.int (Int32.ofNat cs.length)), .val (.int 0)] [(.ref x)])) rfl (by rw [hml]; rfl) (Steps.refl _) (argsL := []) (rest := []) (lenOf pd___Z rfl) rfl (by show 2 * 0 + _ ≤ _; exact Nat.le_of_eq rfl) (hb hby d24_28) (fun _ _ => ⟨rfl, eq2, (by decide : 0 + 0 ≤ _), (by decide : 0 + 0 ≤ _)⟩)
  dsimp only [Pt.U, Pt.locs, Pt.cells, Pt.slots] at X3 l3 y3 z3 st3 hQ3
  subst l3 y3 z3
  obtain ⟨rfl, Nq3, eq3⟩ := hQ3
  have N3 := Fr.app N2 Nq3
  obtain ⟨T4, X4, e4, st4⟩ := getF X3 hx hZ hown (host := "") (Or.inl (hw _ (tk 34 rfl))) Via.refl eq3 F_value_x (g := (mkF m 48 #[.val (.ref x), .val (.int (Int32.ofNat f)), .val (.int (Int32.ofNat f)), .val (.int (Int32.ofNat cs.length)), .val (.int 0)] [(.ref x)])) rfl rfl (hb hby d24_48)
  obtain ⟨_, _, ⟨T5, L5, k5, n5⟩, -, X5', hS5', gr5, ⟨Lc5, hQ5, l5, y5, z5⟩, st5⟩ := callSS X4 hx (y := y_44) hown (mvT hZ (hw _ (tk 198 rfl))) (mvT hZ (hw _ (tk 199 rfl))) (mvT hZ (hw _ (tk 23 rfl))) (mvT hZ (hw _ (tk 200 rfl))) (by decide) (own_backSN (W := 0) (s := s) (rmUN0 l Z a0 hw [] t f h0 n0 Z0) hZ (hw _ (tk 200 rfl)) (hw _ (tk 23 rfl)) (by decide) (by decide) (own_EW hw) (CHr.refl H0).1) (g := (mkF m 54 #[.val (.ref x), .val (.int (Int32.ofNat f)), .val (.int (Int32.ofNat f)), .val (.int (Int32.ofNat cs.length)), .val (.int 0)] [(.int 0), (.int (Int32.ofNat f)), (.ref t)])) rfl (by rw [hml]; rfl) (argsL := [(.ref t), (.int (Int32.ofNat f)), (.int 0)]) (rest := []) (lenOf pd___BII_Ljava_lang_String_ rfl) rfl (by show 2 * 0 + _ ≤ _; exact Nat.le_of_eq rfl) (hb hby d24_54) (fun _ _ => ⟨rfl, e4, (by decide : 0 + 2 ≤ _), (by decide : 0 + 4 ≤ _)⟩)
  dsimp only [Pt.U, Pt.locs, Pt.cells, Pt.slots] at X5' hS5' gr5 l5 y5 z5 st5 hQ5
  subst l5 y5 z5
  obtain ⟨X5, hS5, hZ5, hown5⟩ := rebS (s := s) (vm0 := s.vm) hS0 (by rw [e4]; exact hk0) X5' hS5' gr5 hZ hown
  obtain ⟨y5, rfl, Nq5, Kq5, S5⟩ := hQ5
  have N5 := Fr.app N3 Nq5
  have E5q := own_st_exa S5
  obtain ⟨fs, hr, hrun, hended, hfin⟩ := X5.leaveW hS5 ((Nat.le_refl _)) (v := some (.ref y5)) (fun h => by rw [Bd.returns] at h; cases h)
  refine ⟨_, _, pre0 _ ?_, hrun, hended, _, _, rfl, ?_, hfin.1, hfin.2.1, hfin.2.2.1, hfin.2.2.2.mono (by decide) (by decide)⟩
  · show Steps _ _ _ (s₁.setTop (mkF m 0 #[.val (.ref x), .val (.int (Int32.ofNat f)), .val (.int (Int32.ofNat f)), .unset, .unset] [])) _
    refine XS.aloadN X0.here hx rfl (hb hby d24_0) rfl rfl ?_
    show Steps _ _ _ (s₁.setTop (mkF m 1 #[.val (.ref x), .val (.int (Int32.ofNat f)), .val (.int (Int32.ofNat f)), .unset, .unset] [(.ref x)])) _
    refine st1.trans ?_
    show Steps _ _ _ (T1.setTop (mkF m 4 #[.val (.ref x), .val (.int (Int32.ofNat f)), .val (.int (Int32.ofNat f)), .unset, .unset] [(.int (Int32.ofNat cs.length))])) _
    refine XS.istoreN X1.here hx rfl (hb hby d24_4) rfl (l' := #[.val (.ref x), .val (.int (Int32.ofNat f)), .val (.int (Int32.ofNat f)), .val (.int (Int32.ofNat cs.length)), .unset]) rfl ?_
    refine XS.iloadN X1.here hx rfl (hb hby d24_5) rfl ?_
    refine XS.iloadN X1.here hx rfl (hb hby d24_6) rfl ?_
    refine XS.iloadN X1.here hx rfl (hb hby d24_7) rfl ?_
    show Steps _ _ _ (T1.setTop (mkF m 8 #[.val (.ref x), .val (.int (Int32.ofNat f)), .val (.int (Int32.ofNat f)), .val (.int (Int32.ofNat cs.length)), .unset] [(.int (Int32.ofNat cs.length)), (.int (Int32.ofNat f)), (.int (Int32.ofNat f))])) _
    refine st2 _ ?_
    show Steps _ _ _ (T2.setTop (mkF m 11 #[.val (.ref x), .val (.int (Int32.ofNat f)), .val (.int (Int32.ofNat f)), .val (.int (Int32.ofNat cs.length)), .unset] [])) _
    refine XS.iloadN X2.here hx rfl (hb hby d24_11) rfl ?_
    refine XS.ifYes X2.here hx rfl (pc0 := 12) (pc' := 22) rfl (hb hby d24_12) rfl ((if0 _ _).trans (feq (fun q => by have := (own_eq (j := 0) (by omega) (by omega)).mp q; omega)).2) (by decide) (by decide) ?_
    refine XS.iloadN X2.here hx rfl (hb hby d24_22) rfl ?_
    refine XS.iloadN X2.here hx rfl (hb hby d24_23) rfl ?_
    refine XS.isub X2.here hx rfl (hb hby d24_24) rfl ?_
    show Steps _ _ _ (T2.setTop (mkF m 25 #[.val (.ref x), .val (.int (Int32.ofNat f)), .val (.int (Int32.ofNat f)), .val (.int (Int32.ofNat cs.length)), .unset] [(.int ((Int32.ofNat f) - (Int32.ofNat f)))])) _
    rw [(Int32.sub_self (Int32.ofNat f))]
    show Steps _ _ _ (T2.setTop (mkF m 25 #[.val (.ref x), .val (.int (Int32.ofNat f)), .val (.int (Int32.ofNat f)), .val (.int (Int32.ofNat cs.length)), .unset] [(.int 0)])) _
    refine XS.istore X2.here hx rfl (hb hby d24_25) rfl (l' := #[.val (.ref x), .val (.int (Int32.ofNat f)), .val (.int (Int32.ofNat f)), .val (.int (Int32.ofNat cs.length)), .val (.int 0)]) rfl ?_
    refine XS.aloadN X2.here hx rfl (hb hby d24_27) rfl rfl ?_
    show Steps _ _ _ (T2.setTop (mkF m 28 #[.val (.ref x), .val (.int (Int32.ofNat f)), .val (.int (Int32.ofNat f)), .val (.int (Int32.ofNat cs.length)), .val (.int 0)] [(.ref x)])) _
    refine st3.trans ?_
    show Steps _ _ _ (T3.setTop (mkF m 31 #[.val (.ref x), .val (.int (Int32.ofNat f)), .val (.int (Int32.ofNat f)), .val (.int (Int32.ofNat cs.length)), .val (.int 0)] [(.int 0)])) _
    refine XS.ifYes X3.here hx rfl (pc0 := 31) (pc' := 47) rfl (hb hby d24_31) rfl ((if0 _ _).trans (teq (by decide : (0 : Int32) = (0 : Int32))).1) (by decide) (by decide) ?_
    refine XS.aloadN X3.here hx rfl (hb hby d24_47) rfl rfl ?_
    show Steps _ _ _ (T3.setTop (mkF m 48 #[.val (.ref x), .val (.int (Int32.ofNat f)), .val (.int (Int32.ofNat f)), .val (.int (Int32.ofNat cs.length)), .val (.int 0)] [(.ref x)])) _
    refine st4 _ ?_
    show Steps _ _ _ (T4.setTop (mkF m 51 #[.val (.ref x), .val (.int (Int32.ofNat f)), .val (.int (Int32.ofNat f)), .val (.int (Int32.ofNat cs.length)), .val (.int 0)] [(.ref t)])) _
    refine XS.iloadN X4.here hx rfl (hb hby d24_51) rfl ?_
    refine XS.iload X4.here hx rfl (hb hby d24_52) rfl ?_
    show Steps _ _ _ (T4.setTop (mkF m 54 #[.val (.ref x), .val (.int (Int32.ofNat f)), .val (.int (Int32.ofNat f)), .val (.int (Int32.ofNat cs.length)), .val (.int 0)] [(.int 0), (.int (Int32.ofNat f)), (.ref t)])) _
    refine st5.trans ?_
    show Steps _ _ _ (T5.setTop (mkF m 57 #[.val (.ref x), .val (.int (Int32.ofNat f)), .val (.int (Int32.ofNat f)), .val (.int (Int32.ofNat cs.length)), .val (.int 0)] [(.ref y5)])) _
    jvm_step X5.here [X5.here.top, hx, (hb hby d24_57), X5.method', Bd.returns, Value.isRef, FieldType.isReference]
    first | (intro acts; rw [hr _ acts rfl rfl rfl]) | rw [hr _ _ rfl rfl rfl]
    exact Steps.refl _
  · show own_QE Z  h0 n0 _ T5.heap _
    exact ⟨y5, rfl, N5, ((Keep.refl h0 []).trans Kq5 all0), S5⟩
theorem rmSZ (l : Launch) (Z : State) (a0 : Array Value) (hw : HW a0 Z) (ws : List Jvm.Cond) (G1 : Int32) (G3 G4 : Value) (x : Addr) (cs : List Int32) (f : Nat) (h0 : Heap) (n0 : Nat) (Z0 : n0 ≤ h0.size) (EN : own_env Z G1 G3 G4) (X00 : Old Z n0 h0) (S : own_st Z h0 x cs) (hlen : cs.length ≤ 15) (hfs : f < cs.length) (hf : 1 ≤ f) :
    MetFree l y_46 (head1 (Jvm.Cond.code y_46 jdk_42_method_92_code 5 (some (.object "java/lang/String")) :: ws) (Rm 2 2 4 29)) (fun a_ U_ => a_ = #[(.ref x), (.int (Int32.ofNat f)), (.int (Int32.ofNat f))] ∧ Z.Warmed39 U_.vm ∧ U_.heap = h0 ∧ CHv Z consts_1 U_.vm h0) (fun _ _ _ _ _ => True) (fun _ U_ o_ U1_ => ∃ v_ L_, o_ = .returned v_ ∧ own_QE Z h0 n0 v_ U1_.heap L_ ∧ ReturnedEndW U_ o_ U1_ L_ (Rm 2 2 4 29).cells (Rm 2 2 4 29).slots) := by
  obtain ⟨t, k, S1, S2, ⟨S3, S4, S5⟩ | ⟨S3, S4⟩⟩ := S
  · exact rmSZl l Z a0 hw ws G1 G3 G4 x t k cs f h0 n0 Z0 EN X00 S1 S2 S3 S4 S5 hlen hfs hf
  · exact rmSZw l Z a0 hw ws G1 G3 G4 x t k cs f h0 n0 Z0 EN X00 S1 S2 S3 S4 hlen hfs hf
def own_QV (Z : State) (r x : Addr) (f : Nat) (h0 : Heap) (n0 : Nat) (v : Option Value) (h : Heap) (L : List Loc) : Prop := ∃ y : Addr, v = some (.ref y) ∧ Fr n0 L ∧ Keep h0 h [r] ∧ own_st Z h y ([] : List Int32) ∧ Exa Z h r "com/example/atomize/atomize/http/FieldValueReader" ∧ Fld Z h r "com/example/atomize/atomize/http/FieldValueReader" "text" "Ljava/lang/String;" (.ref x) ∧ Fld Z h r "com/example/atomize/atomize/http/FieldValueReader" "position" "I" (.int (Int32.ofNat (f + 1)))
theorem rmUZ (l : Launch) (Z : State) (a0 : Array Value) (hw : HW a0 Z) (ws : List Jvm.Cond) (G1 : Int32) (G3 : Value) (G4 : Value) (r : Addr) (a1 : Addr) (x : Addr) (cs : List Int32) (f : Nat) (h0 : Heap) (n0 : Nat) (Z0 : n0 ≤ h0.size) (EN : own_env Z G1 G3 G4) (X00 : Old Z n0 h0) (E_r : Exa Z h0 r "com/example/atomize/atomize/http/FieldValueReader") (F_text_r : Fld Z h0 r "com/example/atomize/atomize/http/FieldValueReader" "text" "Ljava/lang/String;" (.ref x)) (F_position_r : Fld Z h0 r "com/example/atomize/atomize/http/FieldValueReader" "position" "I" (.int (Int32.ofNat f))) (g_r : n0 ≤ r) (S_x : own_st Z h0 x cs) (hlen : cs.length ≤ 15) (hcc : ∀ c ∈ cs, own_ch c) (hfs : f < cs.length) (hf : 1 ≤ f) (hz0 : cs.getD f 0 = 0) :
    MetFree l y_47 (head1 (Jvm.Cond.code y_47 prog_5_method_6_code 5 (some (.object "java/lang/String")) :: ws) (Rm 6 2 4 87)) (fun a_ U_ => a_ = #[(.ref r), (.int 0), (.ref a1)] ∧ Z.Warmed39 U_.vm ∧ U_.heap = h0 ∧ CHv Z consts_1 U_.vm h0) (fun _ _ _ _ _ => True) (fun _ U_ o_ U1_ => ∃ v_ L_, o_ = .returned v_ ∧ own_QV Z r x f h0 n0 v_ U1_.heap L_ ∧ ReturnedEndW U_ o_ U1_ L_ (Rm 6 2 4 87).cells (Rm 6 2 4 87).slots) := by
  refine MetFree.of_bodySF (plainFor_of_name pn_17) hisR ?_
  intro p e s m args below meth c s₁ Bd hml0 hP hK
  obtain ⟨rfl, hZ, hh, H0⟩ := hP
  have hx := Bd.exec
  have hby := Bd.bytes
  have hml : c.maxLocals = 5 := hml0
  have hown : s.vm.findClass "com/example/atomize/atomize/http/FieldValueReader" = some m.cls := findClass_of_methodNamed Bd.named
  have hnm := (name_of_methodNamed Bd.named Bd.method).1
  have X0 : Stand p l e (Rm 6 2 4 87) s m #[(.ref r), (.int 0), (.ref a1)] below meth c s₁ [] 0 0 := Stand.of_body Bd
  have e0 : s₁.heap = h0 := by rw [← hh, Bd.state]; rfl
  have N0 := Fr.nil n0
  have pre0 : ∀ tt, Steps p.tables e below (s₁.setTop (mkF m 0 #[.val (.ref r), .val (.int 0), .val (.ref a1), .unset, .unset] [])) tt → Steps p.tables e below (s₁.setTop (entryFrame m #[(.ref r), (.int 0), (.ref a1)] 5)) tt := fun tt kk => castTop (ef_17_rrr m r (0 : Int32) a1) kk
  have hS0 : s.Since s.vm 0 := (State.WarmedH.refl s).since 0
  have hk0 : 0 ≤ h0.size := Nat.zero_le _
  have EN0 := EN
  obtain ⟨O2, P5, O4, rG3, O6, O7, O8⟩ := EN
  have E_x := own_st_exa S_x
  have hz := hfs
  have hjz : f ≤ f := Nat.le_refl f
  have hnz : ∀ i, f ≤ i → i < f → ¬ (cs.getD i 0 = 0) := fun i h1 h2 => absurd h2 (Nat.not_lt.mpr h1)
  obtain ⟨T1, X1, e1, st1⟩ := getF X0 hx hZ hown (host := "") (Or.inl (hw _ (tk 49 rfl))) Via.refl e0 F_text_r (g := (mkF m 1 #[.val (.ref r), .val (.int 0), .val (.ref a1), .unset, .unset] [(.ref r)])) rfl rfl (hb hby d17_1)
  obtain ⟨T2, X2, e2, st2⟩ := getF X1 hx hZ hown (host := "") (Or.inl (hw _ (tk 58 rfl))) Via.refl e1 F_position_r (g := (mkF m 6 #[.val (.ref r), .val (.int 0), .val (.ref a1), .unset, .unset] [(.ref r), (.int 0), (.ref x)])) rfl rfl (hb hby d17_6)
  obtain ⟨cq3, kq3, q3a, q3b, q3c⟩ := isOf hZ e2 E_x
  obtain ⟨_, _, ⟨T3, L3, k3, n3⟩, -, X3, ⟨Lc3, hQ3, l3, y3, z3⟩, st3⟩ := X2.virtualBack hx (y := y_37) (z := y_37) hown (mvT hZ (hw _ (tk 98 rfl))) (mvT hZ (hw _ (tk 99 rfl))) (notFace_of_selects (args := #[]) (mvT hZ (hw _ (tk 101 rfl)))) (mvT hZ (hw _ (tk 101 rfl))) (mvT hZ (hw _ (tk 100 rfl))) (by decide) (backOf (W := 0) (rmSX l Z a0 hw [] G1 G3 G4 x cs f f h0 n0 Z0 EN0 X00 S_x hlen hcc hz hz0 hnz hjz) hZ (hw _ (tk 102 rfl)) (hw _ (tk 9 rfl)) (by decide) (by decide)) q3a q3c (g := (mkF m 9 #[.val (.ref r), .val (.int 0), .val (.ref a1), .unset, .unset] [(.int (Int32.ofNat f)), (.int 0), (.ref x)])) rfl (by rw [hml]; rfl) (Steps.refl _) (argsL := [(.int 0), (.int (Int32.ofNat f))]) (rest := []) (lenOf pd__II_I rfl) rfl (by show 2 * 0 + _ ≤ _; exact Nat.le_of_eq rfl) (hb hby d17_9) (fun _ _ => ⟨rfl, e2, (by decide : 0 + 0 ≤ _), (by decide : 0 + 0 ≤ _)⟩)
  dsimp only [Pt.U, Pt.locs, Pt.cells, Pt.slots] at X3 l3 y3 z3 st3 hQ3
  subst l3 y3 z3
  obtain ⟨rfl, Nq3, eq3⟩ := hQ3
  have N3 := Fr.app N0 Nq3
  obtain ⟨T4, X4, e4, st4⟩ := getF X3 hx hZ hown (host := "") (Or.inl (hw _ (tk 49 rfl))) Via.refl eq3 F_text_r (g := (mkF m 24 #[.val (.ref r), .val (.int 0), .val (.ref a1), .val (.int (Int32.ofNat f)), .unset] [(.ref r)])) rfl rfl (hb hby d17_24)
  obtain ⟨T5, X5, e5, st5⟩ := getF X4 hx hZ hown (host := "") (Or.inl (hw _ (tk 58 rfl))) Via.refl e4 F_position_r (g := (mkF m 28 #[.val (.ref r), .val (.int 0), .val (.ref a1), .val (.int (Int32.ofNat f)), .unset] [(.ref r), (.ref x)])) rfl rfl (hb hby d17_28)
  obtain ⟨cq6, kq6, q6a, q6b, q6c⟩ := isOf hZ e5 E_x
  obtain ⟨_, _, ⟨T6, L6, k6, n6⟩, -, X6', hS6', gr6, ⟨Lc6, hQ6, l6, y6, z6⟩, st6⟩ := X5.virtualBackS hx (y := y_46) (z := y_46) hown (mvT hZ (hw _ (tk 120 rfl))) (mvT hZ (hw _ (tk 121 rfl))) (notFace_of_selects (args := #[]) (mvT hZ (hw _ (tk 123 rfl)))) (mvT hZ (hw _ (tk 123 rfl))) (mvT hZ (hw _ (tk 122 rfl))) (by decide) (own_backSN (W := 0) (s := s) (rmSZ l Z a0 hw [] G1 G3 G4 x cs f h0 n0 Z0 EN0 X00 S_x hlen hfs hf) hZ (hw _ (tk 124 rfl)) (hw _ (tk 9 rfl)) (by decide) (by decide) (own_EW hw) (CHr.refl H0).1) q6a q6c (g := (mkF m 32 #[.val (.ref r), .val (.int 0), .val (.ref a1), .val (.int (Int32.ofNat f)), .unset] [(.int (Int32.ofNat f)), (.int (Int32.ofNat f)), (.ref x)])) rfl (by rw [hml]; rfl) (Steps.refl _) (argsL := [(.int (Int32.ofNat f)), (.int (Int32.ofNat f))]) (rest := []) (lenOf pd__II_Ljava_lang_String_ rfl) rfl (by show 2 * 0 + _ ≤ _; exact Nat.le_of_eq rfl) (hb hby d17_32) (fun _ _ => ⟨rfl, e5, (by decide : 0 + 2 ≤ _), (by decide : 0 + 4 ≤ _)⟩)
  dsimp only [Pt.U, Pt.locs, Pt.cells, Pt.slots] at X6' hS6' gr6 l6 y6 z6 st6 hQ6
  subst l6 y6 z6
  obtain ⟨X6, hS6, hZ6, hown6⟩ := rebS (s := s) (vm0 := s.vm) hS0 (by rw [e5]; exact hk0) X6' hS6' gr6 hZ hown
  obtain ⟨y6, rfl, Nq6, Kq6, S6⟩ := hQ6
  have N6 := Fr.app N3 Nq6
  have E6q := own_st_exa S6
  have f8 := (E_r.keep Kq6)
  have f9 := (F_position_r.keep Kq6 nin0)
  obtain ⟨T7, h7, X7, e7, W7, st7⟩ := putF X6 hx hZ6 hown6 (host := "") (Or.inl (hw _ (tk 58 rfl))) Via.refl rfl f9 f8 (Or.inl (hw _ (tk 59 rfl))) (hw _ (tk 37 rfl)) (ty := .int) (by decide) rfl rfl (g := (mkF m 41 #[.val (.ref r), .val (.int 0), .val (.ref a1), .val (.int (Int32.ofNat f)), .val (.ref y6)] [(.int (Int32.ofNat (f + 1))), (.ref r)])) rfl rfl (hb hby d17_41)
  have Fw7 := f9.same W7
  have N7 := Fr.snoc X7 N6 g_r
  have St10 := (own_st_keepR S6 (Keep.of_wr W7) f8 (by decide) (hw _ (tk 37 rfl)))
  have f11 := (f8.wr W7)
  have f12 := ((F_text_r.keep Kq6 nin0).other W7 (Or.inr (slot_ne (Or.inr (hw _ (tk 50 rfl))) (Or.inl (hw _ (tk 59 rfl))) (by decide) (t := (.object "java/lang/String")) (t' := .int) (by decide) (by decide))))
  obtain ⟨fs, hr, hrun, hended, hfin⟩ := X7.leaveW hS6 (by rw [e7]; exact (Nat.le_trans (Nat.le_refl _) (Keep.of_wr W7).1)) (v := some (.ref y6)) (fun h => by rw [Bd.returns] at h; cases h)
  refine ⟨_, _, pre0 _ ?_, hrun, hended, _, _, rfl, ?_, hfin.1, hfin.2.1, hfin.2.2.1, hfin.2.2.2.mono (by decide) (by decide)⟩
  · show Steps _ _ _ (s₁.setTop (mkF m 0 #[.val (.ref r), .val (.int 0), .val (.ref a1), .unset, .unset] [])) _
    refine XS.aloadN X0.here hx rfl (hb hby d17_0) rfl rfl ?_
    show Steps _ _ _ (s₁.setTop (mkF m 1 #[.val (.ref r), .val (.int 0), .val (.ref a1), .unset, .unset] [(.ref r)])) _
    refine st1 _ ?_
    show Steps _ _ _ (T1.setTop (mkF m 4 #[.val (.ref r), .val (.int 0), .val (.ref a1), .unset, .unset] [(.ref x)])) _
    refine XS.iloadN X1.here hx rfl (hb hby d17_4) rfl ?_
    refine XS.aloadN X1.here hx rfl (hb hby d17_5) rfl rfl ?_
    show Steps _ _ _ (T1.setTop (mkF m 6 #[.val (.ref r), .val (.int 0), .val (.ref a1), .unset, .unset] [(.ref r), (.int 0), (.ref x)])) _
    refine st2 _ ?_
    show Steps _ _ _ (T2.setTop (mkF m 9 #[.val (.ref r), .val (.int 0), .val (.ref a1), .unset, .unset] [(.int (Int32.ofNat f)), (.int 0), (.ref x)])) _
    refine st3.trans ?_
    show Steps _ _ _ (T3.setTop (mkF m 12 #[.val (.ref r), .val (.int 0), .val (.ref a1), .unset, .unset] [(.int (Int32.ofNat f))])) _
    refine XS.istoreN X3.here hx rfl (hb hby d17_12) rfl (l' := #[.val (.ref r), .val (.int 0), .val (.ref a1), .val (.int (Int32.ofNat f)), .unset]) rfl ?_
    refine XS.iloadN X3.here hx rfl (hb hby d17_13) rfl ?_
    refine XS.ifYes X3.here hx rfl (pc0 := 14) (pc' := 23) rfl (hb hby d17_14) rfl ((if0 _ _).trans (flt (own_n0 (by omega))).2.1) (by decide) (by decide) ?_
    refine XS.aloadN X3.here hx rfl (hb hby d17_23) rfl rfl ?_
    show Steps _ _ _ (T3.setTop (mkF m 24 #[.val (.ref r), .val (.int 0), .val (.ref a1), .val (.int (Int32.ofNat f)), .unset] [(.ref r)])) _
    refine st4 _ ?_
    show Steps _ _ _ (T4.setTop (mkF m 27 #[.val (.ref r), .val (.int 0), .val (.ref a1), .val (.int (Int32.ofNat f)), .unset] [(.ref x)])) _
    refine XS.aloadN X4.here hx rfl (hb hby d17_27) rfl rfl ?_
    show Steps _ _ _ (T4.setTop (mkF m 28 #[.val (.ref r), .val (.int 0), .val (.ref a1), .val (.int (Int32.ofNat f)), .unset] [(.ref r), (.ref x)])) _
    refine st5 _ ?_
    show Steps _ _ _ (T5.setTop (mkF m 31 #[.val (.ref r), .val (.int 0), .val (.ref a1), .val (.int (Int32.ofNat f)), .unset] [(.int (Int32.ofNat f)), (.ref x)])) _
    refine XS.iloadN X5.here hx rfl (hb hby d17_31) rfl ?_
    show Steps _ _ _ (T5.setTop (mkF m 32 #[.val (.ref r), .val (.int 0), .val (.ref a1), .val (.int (Int32.ofNat f)), .unset] [(.int (Int32.ofNat f)), (.int (Int32.ofNat f)), (.ref x)])) _
    refine st6.trans ?_
    show Steps _ _ _ (T6.setTop (mkF m 35 #[.val (.ref r), .val (.int 0), .val (.ref a1), .val (.int (Int32.ofNat f)), .unset] [(.ref y6)])) _
    refine XS.astore X6.here hx rfl (hb hby d17_35) rfl rfl (l' := #[.val (.ref r), .val (.int 0), .val (.ref a1), .val (.int (Int32.ofNat f)), .val (.ref y6)]) rfl ?_
    refine XS.aloadN X6.here hx rfl (hb hby d17_37) rfl rfl ?_
    refine XS.iloadN X6.here hx rfl (hb hby d17_38) rfl ?_
    refine XS.iconst X6.here hx rfl (hb hby d17_39) ?_
    refine XS.iadd X6.here hx rfl (hb hby d17_40) rfl ?_
    show Steps _ _ _ (T6.setTop (mkF m 41 #[.val (.ref r), .val (.int 0), .val (.ref a1), .val (.int (Int32.ofNat f)), .val (.ref y6)] [(.int ((Int32.ofNat f) + (1 : Int32))), (.ref r)])) _
    rw [(own_succ f)]
    show Steps _ _ _ (T6.setTop (mkF m 41 #[.val (.ref r), .val (.int 0), .val (.ref a1), .val (.int (Int32.ofNat f)), .val (.ref y6)] [(.int (Int32.ofNat (f + 1))), (.ref r)])) _
    refine st7 _ ?_
    show Steps _ _ _ (T7.setTop (mkF m 44 #[.val (.ref r), .val (.int 0), .val (.ref a1), .val (.int (Int32.ofNat f)), .val (.ref y6)] [])) _
    refine XS.aload X7.here hx rfl (hb hby d17_44) rfl rfl ?_
    show Steps _ _ _ (T7.setTop (mkF m 46 #[.val (.ref r), .val (.int 0), .val (.ref a1), .val (.int (Int32.ofNat f)), .val (.ref y6)] [(.ref y6)])) _
    jvm_step X7.here [X7.here.top, hx, (hb hby d17_46), X7.method', Bd.returns, Value.isRef, FieldType.isReference]
    first | (intro acts; rw [hr _ acts rfl rfl rfl]) | rw [hr _ _ rfl rfl rfl]
    exact Steps.refl _
  · show own_QV Z r x f h0 n0 _ T7.heap _
    rw [e7]
    exact ⟨y6, rfl, N7, (((Keep.refl h0 [r]).trans Kq6 all0).wr W7 (Or.inl (tk 0 rfl))), St10, f11, f12, Fw7⟩
theorem own_pos (x : Int32) : 0 ≤ (x &&& (2147483647 : Int32)).toInt := by
  have h : (x &&& 2147483647).toBitVec.toNat < 2147483648 := by
    simp only [Int32.toBitVec_and, BitVec.toNat_and]
    exact Nat.lt_succ_of_le Nat.and_le_right
  show 0 ≤ (x &&& 2147483647).toBitVec.toInt
  rw [BitVec.toInt_eq_toNat_cond, if_pos (by omega)]
  omega
theorem own_remg (x : Int32) (n : Int32) (k : Nat) (hn : n.toInt = k) (hk : 0 < k) (hb : k ≤ 65535) : ∃ j : Nat, j < k ∧ ((x &&& (2147483647 : Int32)) % n) = Int32.ofNat j := by
  have h0 := own_pos x
  have e : ((x &&& (2147483647 : Int32)) % n).toInt = (x &&& (2147483647 : Int32)).toInt % k := by
    rw [Int32.toInt_mod, hn, Int.tmod_eq_emod_of_nonneg h0]
  have l1 := Int.emod_nonneg (x &&& (2147483647 : Int32)).toInt (b := k) (by omega)
  have l2 := Int.emod_lt_of_pos (x &&& (2147483647 : Int32)).toInt (b := k) (by omega)
  refine ⟨((x &&& (2147483647 : Int32)).toInt % k).toNat, by omega, Int32.toInt_inj.mp ?_⟩
  rw [e, Int32.toInt_ofNat_of_lt (by omega)]
  omega
theorem own_drw (x : Int32) : own_ch (nar .char ((((x &&& (2147483647 : Int32)) % (65535 : Int32)) + (1 : Int32)).toUInt32.toUInt16.toUInt32.toInt32)) ∧ ¬ (nar .char ((((x &&& (2147483647 : Int32)) % (65535 : Int32)) + (1 : Int32)).toUInt32.toUInt16.toUInt32.toInt32) = 0) := by
  refine ⟨own_narch _, ?_⟩
  obtain ⟨j, hj, e⟩ := own_remg x (65535 : Int32) 65535 (by decide) (by decide) (by decide)
  rw [e, own_succ]
  have c1 : own_ch (Int32.ofNat (j + 1)) := ⟨own_n0 (by omega), fun q => by have := (own_lt (i := 65535) (by omega) (by omega)).mp q; omega⟩
  rw [own_i2c c1, own_narc c1]
  exact fun q => by have := (own_eq (j := 0) (by omega) (by omega)).mp q; omega
def own_QDR (Z : State)  (h0 : Heap) (n0 : Nat) (v : Option Value) (h : Heap) (L : List Loc) : Prop := ∃ r, v = some (.int r) ∧ (own_ch r ∧ ¬ (r = 0)) ∧ Fr n0 L ∧ h = h0
theorem d1_0 : decode method_2_code 0 = .ok (.iload_n 0, 1) := by decide +kernel
theorem d1_1 : decode method_2_code 1 = .ok (.ldc 7, 2) := by decide +kernel
theorem d1_3 : decode method_2_code 3 = .ok (.iand, 1) := by decide +kernel
theorem d1_4 : decode method_2_code 4 = .ok (.ldc 8, 2) := by decide +kernel
theorem d1_6 : decode method_2_code 6 = .ok (.irem, 1) := by decide +kernel
theorem d1_7 : decode method_2_code 7 = .ok (.iconst 1, 1) := by decide +kernel
theorem d1_8 : decode method_2_code 8 = .ok (.iadd, 1) := by decide +kernel
theorem d1_9 : decode method_2_code 9 = .ok (.i2c, 1) := by decide +kernel
theorem d1_10 : decode method_2_code 10 = .ok (.ireturn, 1) := by decide +kernel
theorem pn_1 : plainName "com/example/atomize/atomize/http/FieldValueReaderExpectPinLaw" = true := by first | (simp [plainName, overriddenIn]; done) | decide +kernel
theorem ef_1_r (m : MethodId) (x0 : Int32) : entryFrame m #[(.int x0)] 1 = mkF m 0 #[.val (.int x0)] [] := by first | (simp [entryFrame, mkF, argsToLocals, Value.category]; done) | rfl
theorem rmDR (l : Launch) (Z : State) (a0 : Array Value) (hw : HW a0 Z) (ws : List Jvm.Cond) (p1 : Int32) (h0 : Heap) (n0 : Nat) (Z0 : n0 ≤ h0.size) :
    MetFree l y_48 (head1 (Jvm.Cond.code y_48 method_2_code 1 (some .char) :: ws) (Rm 0 0 0 0)) (fun a_ U_ => a_ = #[(.int p1)] ∧ Z.Warmed39 U_.vm ∧ U_.heap = h0) (fun _ _ _ _ _ => True) (fun _ U_ o_ U1_ => ∃ v_ L_, o_ = .returned v_ ∧ own_QDR Z  h0 n0 v_ U1_.heap L_ ∧ FrameEnd U_ o_ U1_ L_ (Rm 0 0 0 0).cells (Rm 0 0 0 0).slots) := by
  refine MetFree.of_bodySF (plainFor_of_name pn_1) hisR ?_
  intro p e s m args below meth c s₁ Bd hml0 hP hK
  obtain ⟨rfl, hZ, hh⟩ := hP
  have hx := Bd.exec
  have hby := Bd.bytes
  have hml : c.maxLocals = 1 := hml0
  have hown : s.vm.findClass "com/example/atomize/atomize/http/FieldValueReaderExpectPinLaw" = some m.cls := findClass_of_methodNamed Bd.named
  have hnm := (name_of_methodNamed Bd.named Bd.method).1
  have X0 : Stand p l e (Rm 0 0 0 0) s m #[(.int p1)] below meth c s₁ [] 0 0 := Stand.of_body Bd
  have e0 : s₁.heap = h0 := by rw [← hh, Bd.state]; rfl
  have N0 := Fr.nil n0
  have pre0 : ∀ tt, Steps p.tables e below (s₁.setTop (mkF m 0 #[.val (.int p1)] [])) tt → Steps p.tables e below (s₁.setTop (entryFrame m #[(.int p1)] 1)) tt := fun tt kk => castTop (ef_1_r m p1) kk
  obtain ⟨fs, hr, hrun, hended, hW, hsame⟩ := X0.leave (v := some (.int (nar .char ((((p1 &&& (2147483647 : Int32)) % (65535 : Int32)) + (1 : Int32)).toUInt32.toUInt16.toUInt32.toInt32)))) (fun h => by rw [Bd.returns] at h; cases h)
  refine ⟨_, _, pre0 _ ?_, hrun, hended, _, _, rfl, ?_, ⟨_, rfl⟩, hW, hsame.mono (by decide) (by decide)⟩
  · show Steps _ _ _ (s₁.setTop (mkF m 0 #[.val (.int p1)] [])) _
    refine XS.iloadN X0.here hx rfl (hb hby d1_0) rfl ?_
    show Steps _ _ _ (s₁.setTop (mkF m 1 #[.val (.int p1)] [(.int p1)])) _
    refine X0.ldcInt hx hown (mvT hZ (hw _ (tk 4 rfl))) (g := (mkF m 1 #[.val (.int p1)] [(.int p1)])) rfl (hb hby d1_1) _ ?_
    show Steps _ _ _ (s₁.setTop (mkF m 3 #[.val (.int p1)] [(.int 2147483647), (.int p1)])) _
    refine XS.iand X0.here hx rfl (hb hby d1_3) rfl ?_
    show Steps _ _ _ (s₁.setTop (mkF m 4 #[.val (.int p1)] [(.int (p1 &&& (2147483647 : Int32)))])) _
    refine X0.ldcInt hx hown (mvT hZ (hw _ (tk 5 rfl))) (g := (mkF m 4 #[.val (.int p1)] [(.int (p1 &&& (2147483647 : Int32)))])) rfl (hb hby d1_4) _ ?_
    show Steps _ _ _ (s₁.setTop (mkF m 6 #[.val (.int p1)] [(.int 65535), (.int (p1 &&& (2147483647 : Int32)))])) _
    refine iremM X0 hx (g := (mkF m 6 #[.val (.int p1)] [(.int 65535), (.int (p1 &&& (2147483647 : Int32)))])) rfl (hb hby d1_6) rfl (by decide) ?_
    show Steps _ _ _ (s₁.setTop (mkF m 7 #[.val (.int p1)] [(.int ((p1 &&& (2147483647 : Int32)) % (65535 : Int32)))])) _
    refine XS.iconst X0.here hx rfl (hb hby d1_7) ?_
    refine XS.iadd X0.here hx rfl (hb hby d1_8) rfl ?_
    refine XS.i2c X0.here hx rfl (hb hby d1_9) rfl ?_
    show Steps _ _ _ (s₁.setTop (mkF m 10 #[.val (.int p1)] [(.int ((((p1 &&& (2147483647 : Int32)) % (65535 : Int32)) + (1 : Int32)).toUInt32.toUInt16.toUInt32.toInt32))])) _
    exact retN X0 hx (t := .char) Bd.returns (by simp) (hb hby d1_10) hr
  · show own_QDR Z  h0 n0 _ s₁.heap _
    rw [e0]
    exact ⟨_, rfl, own_drw p1, N0, rfl⟩
theorem pd___C_V : parseMethodDescriptor "([C)V" = some ⟨[(.array .char)], none⟩ := by decide +kernel
theorem fr1 {p : Program} {l : Launch} {e : Env} {s : State} {m : MethodId} {args : Array Value} {below : List Frame} {meth : Method} {c : Code} {s₁ : State} {L0 : List Loc} {Z : State} {a0 : Array Value} (G1 : Int32) (G3 : Value) (G4 : Value) (p1 : Int32) (p2 : Int32) (p3 : Int32) (p4 : Int32) (h0 : Heap) (n0 : Nat) (X0 : Stand p l e room_1 s m args below meth c s₁ L0 0 0) (hx : p.tables.exec = Jvm.exec) (hZ : Z.Warmed39 s.vm) (hw : HW a0 Z) (hby : c.code = code) (hml : c.maxLocals = 13) (hown : s.vm.findClass "com/example/atomize/atomize/http/FieldValueReaderExpectPinLaw" = some m.cls) (e0 : s₁.heap = h0) (N0 : Fr n0 L0) (Z0 : n0 ≤ h0.size) (EN : own_env Z G1 G3 G4) (X00 : Old Z n0 h0) :
    ∃ (T' : State) (h' : Heap) (L' : List Loc) (c0 : Int32) (c1 : Int32) (c2 : Int32) (ar : Addr) (ka : ClassId) (x : Addr), Stand p l e room_1 s m args below meth c T' L' 4 20 ∧ T'.heap = h' ∧ Fr n0 L' ∧ n0 ≤ h'.size ∧ Old Z n0 h' ∧ Keep h0 h' [] ∧ Arv Z h' ar ka .char (4 : Int32) (([c0, c1, c2, 0] : List Int32).map Value.int) (.int 0) ∧ own_st Z h' x ([c0, c1, c2, 0] : List Int32) ∧ (own_ch c0 ∧ ¬ (c0 = 0)) ∧ (own_ch c1 ∧ ¬ (c1 = 0)) ∧ (own_ch c2 ∧ ¬ (c2 = 0)) ∧ 
      ∀ target, Steps p.tables e below (T'.setTop (mkF m 57 #[.val (.int p1), .val (.int p2), .val (.int p3), .val (.int p4), .val (.int c0), .val (.int c1), .val (.int c2), .val (.ref ar), .val (.ref x), .unset, .unset, .unset, .unset] [])) target → Steps p.tables e below (s₁.setTop (mkF m 0 #[.val (.int p1), .val (.int p2), .val (.int p3), .val (.int p4), .unset, .unset, .unset, .unset, .unset, .unset, .unset, .unset, .unset] [])) target := by
  have EN0 := EN
  obtain ⟨O2, P5, O4, rG3, O6, O7, O8⟩ := EN
  obtain ⟨_, _, ⟨T1, L1, k1, n1⟩, -, X1, ⟨Lc1, hQ1, l1, y1, z1⟩, st1⟩ := Jvm.LawKit.callS X0 hx (y := y_48) hown (mvT hZ (hw _ (tk 0 rfl))) (mvT hZ (hw _ (tk 1 rfl))) (mvT hZ (hw _ (tk 2 rfl))) (mvT hZ (hw _ (tk 3 rfl))) (by decide) (backOf (W := 0) (rmDR l Z a0 hw [] p1 h0 n0 Z0) hZ (hw _ (tk 3 rfl)) (hw _ (tk 2 rfl)) (by decide) (by decide)) (g := (mkF m 1 #[.val (.int p1), .val (.int p2), .val (.int p3), .val (.int p4), .unset, .unset, .unset, .unset, .unset, .unset, .unset, .unset, .unset] [(.int p1)])) rfl (by rw [hml]; rfl) (argsL := [(.int p1)]) (rest := []) (lenOf pd__I_C rfl) rfl (by show 2 * 0 + _ ≤ _; exact Nat.le_of_eq rfl) (hb hby at_1) (fun _ _ => ⟨rfl, e0, (by decide : 0 + 0 ≤ _), (by decide : 0 + 0 ≤ _)⟩)
  dsimp only [Pt.U, Pt.locs, Pt.cells, Pt.slots] at X1 l1 y1 z1 st1 hQ1
  subst l1 y1 z1
  obtain ⟨r1, rfl, cr1, Nq1, eq1⟩ := hQ1
  have N1 := Fr.app N0 Nq1
  obtain ⟨_, _, ⟨T2, L2, k2, n2⟩, -, X2, ⟨Lc2, hQ2, l2, y2, z2⟩, st2⟩ := Jvm.LawKit.callS X1 hx (y := y_48) hown (mvT hZ (hw _ (tk 0 rfl))) (mvT hZ (hw _ (tk 1 rfl))) (mvT hZ (hw _ (tk 2 rfl))) (mvT hZ (hw _ (tk 3 rfl))) (by decide) (backOf (W := 0) (rmDR l Z a0 hw [] p2 h0 n0 Z0) hZ (hw _ (tk 3 rfl)) (hw _ (tk 2 rfl)) (by decide) (by decide)) (g := (mkF m 7 #[.val (.int p1), .val (.int p2), .val (.int p3), .val (.int p4), .val (.int r1), .unset, .unset, .unset, .unset, .unset, .unset, .unset, .unset] [(.int p2)])) rfl (by rw [hml]; rfl) (argsL := [(.int p2)]) (rest := []) (lenOf pd__I_C rfl) rfl (by show 2 * 0 + _ ≤ _; exact Nat.le_of_eq rfl) (hb hby at_7) (fun _ _ => ⟨rfl, eq1, (by decide : 0 + 0 ≤ _), (by decide : 0 + 0 ≤ _)⟩)
  dsimp only [Pt.U, Pt.locs, Pt.cells, Pt.slots] at X2 l2 y2 z2 st2 hQ2
  subst l2 y2 z2
  obtain ⟨r2, rfl, cr2, Nq2, eq2⟩ := hQ2
  have N2 := Fr.app N1 Nq2
  obtain ⟨_, _, ⟨T3, L3, k3, n3⟩, -, X3, ⟨Lc3, hQ3, l3, y3, z3⟩, st3⟩ := Jvm.LawKit.callS X2 hx (y := y_48) hown (mvT hZ (hw _ (tk 0 rfl))) (mvT hZ (hw _ (tk 1 rfl))) (mvT hZ (hw _ (tk 2 rfl))) (mvT hZ (hw _ (tk 3 rfl))) (by decide) (backOf (W := 0) (rmDR l Z a0 hw [] p3 h0 n0 Z0) hZ (hw _ (tk 3 rfl)) (hw _ (tk 2 rfl)) (by decide) (by decide)) (g := (mkF m 13 #[.val (.int p1), .val (.int p2), .val (.int p3), .val (.int p4), .val (.int r1), .val (.int r2), .unset, .unset, .unset, .unset, .unset, .unset, .unset] [(.int p3)])) rfl (by rw [hml]; rfl) (argsL := [(.int p3)]) (rest := []) (lenOf pd__I_C rfl) rfl (by show 2 * 0 + _ ≤ _; exact Nat.le_of_eq rfl) (hb hby at_13) (fun _ _ => ⟨rfl, eq2, (by decide : 0 + 0 ≤ _), (by decide : 0 + 0 ≤ _)⟩)
  dsimp only [Pt.U, Pt.locs, Pt.cells, Pt.slots] at X3 l3 y3 z3 st3 hQ3
  subst l3 y3 z3
  obtain ⟨r3, rfl, cr3, Nq3, eq3⟩ := hQ3
  have N3 := Fr.app N2 Nq3
  obtain ⟨T4, h4, k4, X4, e4, E4, A4, st4⟩ := newP X3 hx hZ (hw _ (tk 6 rfl)) eq3 (g := (mkF m 19 #[.val (.int p1), .val (.int p2), .val (.int p3), .val (.int p4), .val (.int r1), .val (.int r2), .val (.int r3), .unset, .unset, .unset, .unset, .unset, .unset] [(.int 4)])) rfl (hb hby at_19) rfl (by decide) (cap := 4) (by decide) (by decide) (by decide) (by decide)
  obtain ⟨b4, g4⟩ : ∃ z, z = h0.size := ⟨_, rfl⟩
  rw [← g4] at A4 st4
  have g_b4 : n0 ≤ b4 := Nat.le_trans Z0 (Nat.le_of_eq g4.symm)
  have sz_b4 : h0.size ≤ b4 := Nat.le_trans (Nat.le_refl _) (Nat.le_of_eq g4.symm)
  have V4 : Arv Z h4 b4 k4 .char (4 : Int32) [(.int 0), (.int 0), (.int 0), (.int 0)] (.int 0) := (Arv.new A4 (by decide)).pad (pad_rep [] (.int 0) 4)
  obtain ⟨c5, Ar5, q5, S5, M5, H5, Gz5⟩ := id V4
  obtain ⟨T5, h5, X5, e5, W5, st5⟩ := stC X4 hx hZ e4 Ar5 (j := (0 : Int32)) (inb_of S5 ⟨by decide, by decide⟩) (g := (mkF m 28 #[.val (.int p1), .val (.int p2), .val (.int p3), .val (.int p4), .val (.int r1), .val (.int r2), .val (.int r3), .val (.ref b4), .unset, .unset, .unset, .unset, .unset] [(.int r1), (.int 0), (.ref b4)])) rfl rfl (hb hby at_28)
  have V5 : Arv Z h5 b4 k4 .char (4 : Int32) [(.int (nar .char r1)), (.int 0), (.int 0), (.int 0)] (.int 0) := Arv.set Ar5 q5 S5 M5 H5 Gz5 (fits_nar_char _) W5 0 rfl (Nat.le_of_ble_eq_true rfl)
  have N5 := Fr.snoc X5 N3 g_b4
  obtain ⟨c6, Ar6, q6, S6, M6, H6, Gz6⟩ := id V5
  obtain ⟨T6, h6, X6, e6, W6, st6⟩ := stC X5 hx hZ e5 Ar6 (j := (1 : Int32)) (inb_of S6 ⟨by decide, by decide⟩) (g := (mkF m 34 #[.val (.int p1), .val (.int p2), .val (.int p3), .val (.int p4), .val (.int r1), .val (.int r2), .val (.int r3), .val (.ref b4), .unset, .unset, .unset, .unset, .unset] [(.int r2), (.int 1), (.ref b4)])) rfl rfl (hb hby at_34)
  have V6 : Arv Z h6 b4 k4 .char (4 : Int32) [(.int (nar .char r1)), (.int (nar .char r2)), (.int 0), (.int 0)] (.int 0) := Arv.set Ar6 q6 S6 M6 H6 Gz6 (fits_nar_char _) W6 1 rfl (Nat.le_of_ble_eq_true rfl)
  have N6 := Fr.snoc X6 N5 g_b4
  obtain ⟨c7, Ar7, q7, S7, M7, H7, Gz7⟩ := id V6
  obtain ⟨T7, h7, X7, e7, W7, st7⟩ := stC X6 hx hZ e6 Ar7 (j := (2 : Int32)) (inb_of S7 ⟨by decide, by decide⟩) (g := (mkF m 40 #[.val (.int p1), .val (.int p2), .val (.int p3), .val (.int p4), .val (.int r1), .val (.int r2), .val (.int r3), .val (.ref b4), .unset, .unset, .unset, .unset, .unset] [(.int r3), (.int 2), (.ref b4)])) rfl rfl (hb hby at_40)
  have V7 : Arv Z h7 b4 k4 .char (4 : Int32) [(.int (nar .char r1)), (.int (nar .char r2)), (.int (nar .char r3)), (.int 0)] (.int 0) := Arv.set Ar7 q7 S7 M7 H7 Gz7 (fits_nar_char _) W7 2 rfl (Nat.le_of_ble_eq_true rfl)
  have N7 := Fr.snoc X7 N6 g_b4
  obtain ⟨c8, Ar8, q8, S8, M8, H8, Gz8⟩ := id V7
  obtain ⟨T8, h8, X8, e8, W8, st8⟩ := stC X7 hx hZ e7 Ar8 (j := (3 : Int32)) (inb_of S8 ⟨by decide, by decide⟩) (g := (mkF m 45 #[.val (.int p1), .val (.int p2), .val (.int p3), .val (.int p4), .val (.int r1), .val (.int r2), .val (.int r3), .val (.ref b4), .unset, .unset, .unset, .unset, .unset] [(.int 0), (.int 3), (.ref b4)])) rfl rfl (hb hby at_45)
  have V8 : Arv Z h8 b4 k4 .char (4 : Int32) [(.int (nar .char r1)), (.int (nar .char r2)), (.int (nar .char r3)), (.int (nar .char (0 : Int32)))] (.int 0) := Arv.set Ar8 q8 S8 M8 H8 Gz8 (fits_nar_char _) W8 3 rfl (Nat.le_of_ble_eq_true rfl)
  have N8 := Fr.snoc X8 N7 g_b4
  obtain ⟨T9, h9, X9, e9, E9, A9, D9, -, st9⟩ := newO X8 hx hZ hown (hw _ (tk 7 rfl)) (hw _ (tk 8 rfl)) (hw _ (tk 9 rfl)) e8 (g := (mkF m 46 #[.val (.int p1), .val (.int p2), .val (.int p3), .val (.int p4), .val (.int r1), .val (.int r2), .val (.int r3), .val (.ref b4), .unset, .unset, .unset, .unset, .unset] [])) rfl (hb hby at_46) (by decide) (by decide)
  obtain ⟨b9, g9⟩ : ∃ z, z = h8.size := ⟨_, rfl⟩
  rw [← g9] at A9 D9 st9
  have g_b9 : n0 ≤ b9 := Nat.le_trans (Nat.le_trans Z0 (Nat.le_trans (Nat.le_trans (Nat.le_trans (Nat.le_trans E4.1 (Keep.of_wr W5).1) (Keep.of_wr W6).1) (Keep.of_wr W7).1) (Keep.of_wr W8).1)) (Nat.le_of_eq g9.symm)
  have sz_b9 : h0.size ≤ b9 := Nat.le_trans (Nat.le_trans (Nat.le_trans (Nat.le_trans (Nat.le_trans E4.1 (Keep.of_wr W5).1) (Keep.of_wr W6).1) (Keep.of_wr W7).1) (Keep.of_wr W8).1) (Nat.le_of_eq g9.symm)
  have F9_coder : Fld Z h9 b9 "java/lang/String" "coder" "B" (.int 0) := D9 (Or.inr (hw _ (tk 33 rfl))) (ty := .byte) (by decide)
  have F9_value : Fld Z h9 b9 "java/lang/String" "value" "[B" .null := D9 (Or.inr (hw _ (tk 35 rfl))) (ty := (.array .byte)) (by decide)
  have f11 := ((((((X00.ext E4).wr W5 g_b4).wr W6 g_b4).wr W7 g_b4).wr W8 g_b4).ext E9)
  have f12 := (V8.ext E9)
  obtain ⟨_, _, ⟨T10, L10, k10, n10⟩, -, X10, ⟨Lc10, hQ10, l10, y10, z10⟩, st10⟩ := X9.specialBack hx (y := y_25) rfl hown (mvT hZ (hw _ (tk 10 rfl))) (mvT hZ (hw _ (tk 11 rfl))) (mvT hZ (hw _ (tk 12 rfl))) (by decide) (backOf (W := 1) (rmIC l Z a0 hw [] G1 G3 G4 b9 b4 k4 ([(nar .char r1), (nar .char r2), (nar .char r3), (nar .char (0 : Int32))] : List Int32) h9 n0 (Nat.le_trans Z0 (Nat.le_trans (Nat.le_trans (Nat.le_trans (Nat.le_trans (Nat.le_trans E4.1 (Keep.of_wr W5).1) (Keep.of_wr W6).1) (Keep.of_wr W7).1) (Keep.of_wr W8).1) E9.1)) EN0 f11 A9 F9_coder F9_value g_b9 f12 rfl (by intro c hc; simp only [List.mem_cons, List.not_mem_nil, or_false] at hc; rcases hc with rfl | rfl | rfl | rfl <;> exact own_narch _)) hZ (hw _ (tk 12 rfl)) (hw _ (tk 9 rfl)) (by decide) (by decide)) (g := (mkF m 52 #[.val (.int p1), .val (.int p2), .val (.int p3), .val (.int p4), .val (.int r1), .val (.int r2), .val (.int r3), .val (.ref b4), .unset, .unset, .unset, .unset, .unset] [(.ref b4), (.ref b9), (.ref b9)])) rfl (by rw [hml]; rfl) (Steps.refl _) (a := b9) (argsL := [(.ref b4)]) (rest := [(.ref b9)]) (lenOf pd___C_V rfl) rfl (by show 2 * 0 + _ ≤ _; exact Nat.le_of_eq rfl) (hb hby at_52) (fun _ _ => ⟨rfl, e9, (by decide : 2 + 2 ≤ _), (by decide : 8 + 12 ≤ _)⟩)
  dsimp only [Pt.U, Pt.locs, Pt.cells, Pt.slots] at X10 l10 y10 z10 st10 hQ10
  subst l10 y10 z10
  obtain ⟨rfl, Nq10, Kq10, S10⟩ := hQ10
  have N10 := Fr.app N8 Nq10
  have f13 := (f11.keep Kq10 (allS g_b9 all0))
  have f14 := (f12.keep Kq10 (ninS (Nat.ne_of_lt (Nat.lt_of_lt_of_le (Nat.lt_of_lt_of_le V4.lt (Nat.le_trans (Nat.le_trans (Nat.le_trans (Keep.of_wr W5).1 (Keep.of_wr W6).1) (Keep.of_wr W7).1) (Keep.of_wr W8).1)) (Nat.le_of_eq g9.symm))) nin0))
  refine ⟨T10, T10.heap, _, r1, r2, r3, b4, k4, b9, X10, rfl, N10, (Nat.le_trans Z0 (Nat.le_trans (Nat.le_trans (Nat.le_trans (Nat.le_trans (Nat.le_trans (Nat.le_trans E4.1 (Keep.of_wr W5).1) (Keep.of_wr W6).1) (Keep.of_wr W7).1) (Keep.of_wr W8).1) E9.1) Kq10.1)), f13, ((((((((Keep.refl h0 []).ext E4).wr W5 (Or.inr sz_b4)).wr W6 (Or.inr sz_b4)).wr W7 (Or.inr sz_b4)).wr W8 (Or.inr sz_b4)).ext E9).trans Kq10 (allS (P := fun zz => zz ∈ ([] : List Addr) ∨ h0.size ≤ zz) (Or.inr sz_b9) all0)), (by have q_ := f14; rw [own_narc cr1.1, own_narc cr2.1, own_narc cr3.1] at q_; exact q_), (by have q_ := S10; rw [own_narc cr1.1, own_narc cr2.1, own_narc cr3.1] at q_; exact q_), cr1, cr2, cr3, fun target kt => ?_⟩
  show Steps _ _ _ (s₁.setTop (mkF m 0 #[.val (.int p1), .val (.int p2), .val (.int p3), .val (.int p4), .unset, .unset, .unset, .unset, .unset, .unset, .unset, .unset, .unset] [])) _
  refine XS.iloadN X0.here hx rfl (hb hby at_0) rfl ?_
  show Steps _ _ _ (s₁.setTop (mkF m 1 #[.val (.int p1), .val (.int p2), .val (.int p3), .val (.int p4), .unset, .unset, .unset, .unset, .unset, .unset, .unset, .unset, .unset] [(.int p1)])) _
  refine st1 _ ?_
  show Steps _ _ _ (T1.setTop (mkF m 4 #[.val (.int p1), .val (.int p2), .val (.int p3), .val (.int p4), .unset, .unset, .unset, .unset, .unset, .unset, .unset, .unset, .unset] [(.int r1)])) _
  refine XS.istore X1.here hx rfl (hb hby at_4) rfl (l' := #[.val (.int p1), .val (.int p2), .val (.int p3), .val (.int p4), .val (.int r1), .unset, .unset, .unset, .unset, .unset, .unset, .unset, .unset]) rfl ?_
  refine XS.iloadN X1.here hx rfl (hb hby at_6) rfl ?_
  show Steps _ _ _ (T1.setTop (mkF m 7 #[.val (.int p1), .val (.int p2), .val (.int p3), .val (.int p4), .val (.int r1), .unset, .unset, .unset, .unset, .unset, .unset, .unset, .unset] [(.int p2)])) _
  refine st2 _ ?_
  show Steps _ _ _ (T2.setTop (mkF m 10 #[.val (.int p1), .val (.int p2), .val (.int p3), .val (.int p4), .val (.int r1), .unset, .unset, .unset, .unset, .unset, .unset, .unset, .unset] [(.int r2)])) _
  refine XS.istore X2.here hx rfl (hb hby at_10) rfl (l' := #[.val (.int p1), .val (.int p2), .val (.int p3), .val (.int p4), .val (.int r1), .val (.int r2), .unset, .unset, .unset, .unset, .unset, .unset, .unset]) rfl ?_
  refine XS.iloadN X2.here hx rfl (hb hby at_12) rfl ?_
  show Steps _ _ _ (T2.setTop (mkF m 13 #[.val (.int p1), .val (.int p2), .val (.int p3), .val (.int p4), .val (.int r1), .val (.int r2), .unset, .unset, .unset, .unset, .unset, .unset, .unset] [(.int p3)])) _
  refine st3 _ ?_
  show Steps _ _ _ (T3.setTop (mkF m 16 #[.val (.int p1), .val (.int p2), .val (.int p3), .val (.int p4), .val (.int r1), .val (.int r2), .unset, .unset, .unset, .unset, .unset, .unset, .unset] [(.int r3)])) _
  refine XS.istore X3.here hx rfl (hb hby at_16) rfl (l' := #[.val (.int p1), .val (.int p2), .val (.int p3), .val (.int p4), .val (.int r1), .val (.int r2), .val (.int r3), .unset, .unset, .unset, .unset, .unset, .unset]) rfl ?_
  refine XS.iconst X3.here hx rfl (hb hby at_18) ?_
  show Steps _ _ _ (T3.setTop (mkF m 19 #[.val (.int p1), .val (.int p2), .val (.int p3), .val (.int p4), .val (.int r1), .val (.int r2), .val (.int r3), .unset, .unset, .unset, .unset, .unset, .unset] [(.int 4)])) _
  refine st4 _ ?_
  show Steps _ _ _ (T4.setTop (mkF m 21 #[.val (.int p1), .val (.int p2), .val (.int p3), .val (.int p4), .val (.int r1), .val (.int r2), .val (.int r3), .unset, .unset, .unset, .unset, .unset, .unset] [(.ref b4)])) _
  refine XS.astore X4.here hx rfl (hb hby at_21) rfl rfl (l' := #[.val (.int p1), .val (.int p2), .val (.int p3), .val (.int p4), .val (.int r1), .val (.int r2), .val (.int r3), .val (.ref b4), .unset, .unset, .unset, .unset, .unset]) rfl ?_
  refine XS.aload X4.here hx rfl (hb hby at_23) rfl rfl ?_
  refine XS.iconst X4.here hx rfl (hb hby at_25) ?_
  refine XS.iload X4.here hx rfl (hb hby at_26) rfl ?_
  show Steps _ _ _ (T4.setTop (mkF m 28 #[.val (.int p1), .val (.int p2), .val (.int p3), .val (.int p4), .val (.int r1), .val (.int r2), .val (.int r3), .val (.ref b4), .unset, .unset, .unset, .unset, .unset] [(.int r1), (.int 0), (.ref b4)])) _
  refine st5 _ ?_
  show Steps _ _ _ (T5.setTop (mkF m 29 #[.val (.int p1), .val (.int p2), .val (.int p3), .val (.int p4), .val (.int r1), .val (.int r2), .val (.int r3), .val (.ref b4), .unset, .unset, .unset, .unset, .unset] [])) _
  refine XS.aload X5.here hx rfl (hb hby at_29) rfl rfl ?_
  refine XS.iconst X5.here hx rfl (hb hby at_31) ?_
  refine XS.iload X5.here hx rfl (hb hby at_32) rfl ?_
  show Steps _ _ _ (T5.setTop (mkF m 34 #[.val (.int p1), .val (.int p2), .val (.int p3), .val (.int p4), .val (.int r1), .val (.int r2), .val (.int r3), .val (.ref b4), .unset, .unset, .unset, .unset, .unset] [(.int r2), (.int 1), (.ref b4)])) _
  refine st6 _ ?_
  show Steps _ _ _ (T6.setTop (mkF m 35 #[.val (.int p1), .val (.int p2), .val (.int p3), .val (.int p4), .val (.int r1), .val (.int r2), .val (.int r3), .val (.ref b4), .unset, .unset, .unset, .unset, .unset] [])) _
  refine XS.aload X6.here hx rfl (hb hby at_35) rfl rfl ?_
  refine XS.iconst X6.here hx rfl (hb hby at_37) ?_
  refine XS.iload X6.here hx rfl (hb hby at_38) rfl ?_
  show Steps _ _ _ (T6.setTop (mkF m 40 #[.val (.int p1), .val (.int p2), .val (.int p3), .val (.int p4), .val (.int r1), .val (.int r2), .val (.int r3), .val (.ref b4), .unset, .unset, .unset, .unset, .unset] [(.int r3), (.int 2), (.ref b4)])) _
  refine st7 _ ?_
  show Steps _ _ _ (T7.setTop (mkF m 41 #[.val (.int p1), .val (.int p2), .val (.int p3), .val (.int p4), .val (.int r1), .val (.int r2), .val (.int r3), .val (.ref b4), .unset, .unset, .unset, .unset, .unset] [])) _
  refine XS.aload X7.here hx rfl (hb hby at_41) rfl rfl ?_
  refine XS.iconst X7.here hx rfl (hb hby at_43) ?_
  refine XS.iconst X7.here hx rfl (hb hby at_44) ?_
  show Steps _ _ _ (T7.setTop (mkF m 45 #[.val (.int p1), .val (.int p2), .val (.int p3), .val (.int p4), .val (.int r1), .val (.int r2), .val (.int r3), .val (.ref b4), .unset, .unset, .unset, .unset, .unset] [(.int 0), (.int 3), (.ref b4)])) _
  refine st8 _ ?_
  show Steps _ _ _ (T8.setTop (mkF m 46 #[.val (.int p1), .val (.int p2), .val (.int p3), .val (.int p4), .val (.int r1), .val (.int r2), .val (.int r3), .val (.ref b4), .unset, .unset, .unset, .unset, .unset] [])) _
  refine st9 _ ?_
  show Steps _ _ _ (T9.setTop (mkF m 49 #[.val (.int p1), .val (.int p2), .val (.int p3), .val (.int p4), .val (.int r1), .val (.int r2), .val (.int r3), .val (.ref b4), .unset, .unset, .unset, .unset, .unset] [(.ref b9)])) _
  refine XS.dup X9.here hx rfl (hb hby at_49) rfl rfl ?_
  refine XS.aload X9.here hx rfl (hb hby at_50) rfl rfl ?_
  show Steps _ _ _ (T9.setTop (mkF m 52 #[.val (.int p1), .val (.int p2), .val (.int p3), .val (.int p4), .val (.int r1), .val (.int r2), .val (.int r3), .val (.ref b4), .unset, .unset, .unset, .unset, .unset] [(.ref b4), (.ref b9), (.ref b9)])) _
  refine st10.trans ?_
  show Steps _ _ _ (T10.setTop (mkF m 55 #[.val (.int p1), .val (.int p2), .val (.int p3), .val (.int p4), .val (.int r1), .val (.int r2), .val (.int r3), .val (.ref b4), .unset, .unset, .unset, .unset, .unset] [(.ref b9)])) _
  refine XS.astore X10.here hx rfl (hb hby at_55) rfl rfl (l' := #[.val (.int p1), .val (.int p2), .val (.int p3), .val (.int p4), .val (.int r1), .val (.int r2), .val (.int r3), .val (.ref b4), .val (.ref b9), .unset, .unset, .unset, .unset]) rfl ?_
  exact kt
def Q0 (Z : State) (h0 : Heap) (n0 : Nat) (v : Option Value) (h : Heap) (L : List Loc) : Prop := v = some (.int 1) ∧ Fr n0 L
theorem own_nz3 {c0 c1 c2 : Int32} (h0 : ¬ (c0 = 0)) (h1 : ¬ (c1 = 0)) (h2 : ¬ (c2 = 0)) (f : Nat) : ∀ i, f ≤ i → i < 3 → ¬ (([c0, c1, c2, 0] : List Int32).getD i 0 = 0) := by
  intro i _ hi
  match i, hi with
  | 0, _ => exact h0
  | 1, _ => exact h1
  | 2, _ => exact h2
theorem own_c4 {c0 c1 c2 : Int32} (h0 : own_ch c0) (h1 : own_ch c1) (h2 : own_ch c2) : ∀ c ∈ ([c0, c1, c2, 0] : List Int32), own_ch c := by
  intro c hc
  simp only [List.mem_cons, List.not_mem_nil, or_false] at hc
  rcases hc with rfl | rfl | rfl | rfl
  · exact h0
  · exact h1
  · exact h2
  · exact ⟨by decide, by decide⟩
theorem pd__Ljava_lang_String_Ljava_lang_String_Ljava_lang_String__V : parseMethodDescriptor "(Ljava/lang/String;Ljava/lang/String;Ljava/lang/String;)V" = some ⟨[(.object "java/lang/String"), (.object "java/lang/String"), (.object "java/lang/String")], none⟩ := by decide +kernel
theorem pd__C_V : parseMethodDescriptor "(C)V" = some ⟨[.char], none⟩ := by decide +kernel
theorem pn_0 : plainName "com/example/atomize/atomize/http/FieldValueReaderExpectPinLaw" = true := by first | (simp [plainName, overriddenIn]; done) | decide +kernel
theorem ef_0_rrrr (m : MethodId) (x0 : Int32) (x1 : Int32) (x2 : Int32) (x3 : Int32) : entryFrame m #[(.int x0), (.int x1), (.int x2), (.int x3)] maxLocals = mkF m 0 #[.val (.int x0), .val (.int x1), .val (.int x2), .val (.int x3), .unset, .unset, .unset, .unset, .unset, .unset, .unset, .unset, .unset] [] := by first | (simp [entryFrame, mkF, argsToLocals, Value.category, maxLocals]; done) | rfl
theorem rm0_4 (l : Launch) (Z : State) (a0 : Array Value) (hw : HW a0 Z) (ws : List Jvm.Cond) (G1 : Int32) (G3 : Value) (G4 : Value) (p1 : Int32) (p2 : Int32) (p3 : Int32) (p4 : Int32) (h0 : Heap) (n0 : Nat) (Z0 : n0 ≤ h0.size) (EN : own_env Z G1 G3 G4) (X00 : Old Z n0 h0) (hn5 : ((p4 &&& (2147483647 : Int32)) % (5 : Int32)) = (4 : Int32)) :
    MetFree l x (head1 (Jvm.Cond.code x code maxLocals ret :: ws) room_1) (fun a_ U_ => a_ = #[(.int p1), (.int p2), (.int p3), (.int p4)] ∧ Z.Warmed39 U_.vm ∧ U_.heap = h0) (fun _ _ _ _ _ => True) (fun _ U_ o_ U1_ => ∃ v_ L_, o_ = .returned v_ ∧ Q0 Z  h0 n0 v_ U1_.heap L_ ∧ ReturnedEndW U_ o_ U1_ L_ 40 5312) := by
  refine MetFree.of_bodySF (plainFor_of_name pn_0) hisR ?_
  intro p e s m args below meth c s₁ Bd hml0 hP hK
  obtain ⟨rfl, hZ, hh⟩ := hP
  have hx := Bd.exec
  have hby := Bd.bytes
  have hml : c.maxLocals = 13 := hml0
  have hown : s.vm.findClass "com/example/atomize/atomize/http/FieldValueReaderExpectPinLaw" = some m.cls := findClass_of_methodNamed Bd.named
  have hnm := (name_of_methodNamed Bd.named Bd.method).1
  have X0 : Stand p l e room_1 s m #[(.int p1), (.int p2), (.int p3), (.int p4)] below meth c s₁ [] 0 0 := Stand.of_body Bd
  have e0 : s₁.heap = h0 := by rw [← hh, Bd.state]; rfl
  have N0 := Fr.nil n0
  have pre0 : ∀ tt, Steps p.tables e below (s₁.setTop (mkF m 0 #[.val (.int p1), .val (.int p2), .val (.int p3), .val (.int p4), .unset, .unset, .unset, .unset, .unset, .unset, .unset, .unset, .unset] [])) tt → Steps p.tables e below (s₁.setTop (entryFrame m #[(.int p1), (.int p2), (.int p3), (.int p4)] maxLocals)) tt := fun tt kk => castTop (ef_0_rrrr m p1 p2 p3 p4) kk
  have hS0 : s.Since s.vm 0 := (State.WarmedH.refl s).since 0
  have hk0 : 0 ≤ h0.size := Nat.zero_le _
  have EN0 := EN
  obtain ⟨O2, P5, O4, rG3, O6, O7, O8⟩ := EN
  obtain ⟨Tv1, hv1, Lv1, c0, c1, c2, ar, ka, x, Xv1, ev1, Nv1, Zv1, Ov1, Kv1, Vv1, Sv1, d0, d1, d2, stv1⟩ := fr1 G1 G3 G4 p1 p2 p3 p4 h0 n0 X0 hx hZ hw hby hml hown e0 N0 Z0 EN0 X00
  have Exv := own_st_exa Sv1
  have hcc4 := own_c4 d0.1 d1.1 d2.1
  obtain ⟨T11, h11, X11, e11, E11, A11, D11, -, st11⟩ := newO Xv1 hx hZ hown (hw _ (tk 36 rfl)) (hw _ (tk 37 rfl)) (hw _ (tk 38 rfl)) ev1 (g := (mkF m 57 #[.val (.int p1), .val (.int p2), .val (.int p3), .val (.int p4), .val (.int c0), .val (.int c1), .val (.int c2), .val (.ref ar), .val (.ref x), .unset, .unset, .unset, .unset] [])) rfl (hb hby at_57) (by decide) (by decide)
  obtain ⟨b11, g11⟩ : ∃ z, z = hv1.size := ⟨_, rfl⟩
  rw [← g11] at A11 D11 st11
  have g_b11 : n0 ≤ b11 := Nat.le_trans (Nat.le_trans Z0 Kv1.1) (Nat.le_of_eq g11.symm)
  have sz_b11 : h0.size ≤ b11 := Nat.le_trans Kv1.1 (Nat.le_of_eq g11.symm)
  have F11_name : Fld Z h11 b11 "com/example/atomize/atomize/http/FieldValueReader" "name" "Ljava/lang/String;" .null := D11 (Or.inr (hw _ (tk 48 rfl))) (ty := (.object "java/lang/String")) (by decide)
  have F11_text : Fld Z h11 b11 "com/example/atomize/atomize/http/FieldValueReader" "text" "Ljava/lang/String;" .null := D11 (Or.inr (hw _ (tk 50 rfl))) (ty := (.object "java/lang/String")) (by decide)
  have F11_grammar : Fld Z h11 b11 "com/example/atomize/atomize/http/FieldValueReader" "grammar" "Ljava/lang/String;" .null := D11 (Or.inr (hw _ (tk 52 rfl))) (ty := (.object "java/lang/String")) (by decide)
  have F11_position : Fld Z h11 b11 "com/example/atomize/atomize/http/FieldValueReader" "position" "I" (.int 0) := D11 (Or.inl (hw _ (tk 59 rfl))) (ty := .int) (by decide)
  obtain ⟨b12, T12, h12, k12, X12, e12, E12, hS12, hk12, hZ12, hown12, st12⟩ := ldcS (s := s) (vm0 := s.vm) X11 hx hZ hown (hw _ (tk 39 rfl)) (fun d hd => hw d (own_wS d hd)) e11 hS0 (Nat.le_trans hk0 (Nat.le_trans Kv1.1 E11.1)) (g := (mkF m 61 #[.val (.int p1), .val (.int p2), .val (.int p3), .val (.int p4), .val (.int c0), .val (.int c1), .val (.int c2), .val (.ref ar), .val (.ref x), .unset, .unset, .unset, .unset] [(.ref b11), (.ref b11)])) rfl (hb hby at_61) (n := 4) (by decide) (by decide) (by decide) (by decide)
  obtain ⟨b13, T13, h13, k13, X13, e13, E13, hS13, hk13, hZ13, hown13, st13⟩ := ldcS (s := s) (vm0 := T12.vm) X12 hx hZ12 hown12 (hw _ (tk 42 rfl)) (fun d hd => hw d (own_wS d hd)) e12 hS12 hk12 (g := (mkF m 65 #[.val (.int p1), .val (.int p2), .val (.int p3), .val (.int p4), .val (.int c0), .val (.int c1), .val (.int c2), .val (.ref ar), .val (.ref x), .unset, .unset, .unset, .unset] [(.ref x), (.ref b12), (.ref b11), (.ref b11)])) rfl (hb hby at_65) (n := 4) (by decide) (by decide) (by decide) (by decide)
  have f15 := ((A11.ext E12).ext E13)
  have f16 := ((F11_name.ext E12).ext E13)
  have f17 := ((F11_text.ext E12).ext E13)
  have f18 := ((F11_grammar.ext E12).ext E13)
  have f19 := ((F11_position.ext E12).ext E13)
  obtain ⟨_, _, ⟨T14, L14, k14, n14⟩, -, X14, ⟨Lc14, hQ14, l14, y14, z14⟩, st14⟩ := X13.specialBack hx (y := y_26) rfl hown13 (mvT hZ13 (hw _ (tk 43 rfl))) (mvT hZ13 (hw _ (tk 44 rfl))) (mvT hZ13 (hw _ (tk 45 rfl))) (by decide) (backOf (W := 1) (rmFI l Z a0 hw [] b11 b12 x b13 h13 n0 (Nat.le_trans Z0 (Nat.le_trans (Nat.le_trans (Nat.le_trans Kv1.1 E11.1) E12.1) E13.1)) f15 f16 f17 f18 f19 g_b11) hZ13 (hw _ (tk 45 rfl)) (hw _ (tk 38 rfl)) (by decide) (by decide)) (g := (mkF m 67 #[.val (.int p1), .val (.int p2), .val (.int p3), .val (.int p4), .val (.int c0), .val (.int c1), .val (.int c2), .val (.ref ar), .val (.ref x), .unset, .unset, .unset, .unset] [(.ref b13), (.ref x), (.ref b12), (.ref b11), (.ref b11)])) rfl (by rw [hml]; rfl) (Steps.refl _) (a := b11) (argsL := [(.ref b12), (.ref x), (.ref b13)]) (rest := [(.ref b11)]) (lenOf pd__Ljava_lang_String_Ljava_lang_String_Ljava_lang_String__V rfl) rfl (by show 2 * 0 + _ ≤ _; exact Nat.le_of_eq rfl) (hb hby at_67) (fun _ _ => ⟨rfl, e13, (by decide : 9 + 0 ≤ _), (by decide : 40 + 0 ≤ _)⟩)
  dsimp only [Pt.U, Pt.locs, Pt.cells, Pt.slots] at X14 l14 y14 z14 st14 hQ14
  subst l14 y14 z14
  obtain ⟨rfl, Nq14, Kq14, Er14, Ft14, Fp14⟩ := hQ14
  have N14 := Fr.app Nv1 Nq14
  have f21 := ((((Ov1.ext E11).ext E12).ext E13).keep Kq14 (allS g_b11 all0))
  have St22 := (own_st_keepR (own_st_ext (own_st_ext (own_st_ext Sv1 E11) E12) E13) Kq14 f15 (by decide) (hw _ (tk 37 rfl)))
  obtain ⟨cq20, kq20, q20a, q20b, q20c⟩ := isOf hZ13 rfl Er14
  obtain ⟨_, _, ⟨T20, L20, k20, n20⟩, -, X20, ⟨Lc20, hQ20, l20, y20, z20⟩, st20⟩ := X14.virtualBack hx (y := y_27) (z := y_27) hown13 (mvT hZ13 (hw _ (tk 53 rfl))) (mvT hZ13 (hw _ (tk 54 rfl))) (notFace_of_selects (args := #[]) (mvT hZ13 (hw _ (tk 56 rfl)))) (mvT hZ13 (hw _ (tk 56 rfl))) (mvT hZ13 (hw _ (tk 55 rfl))) (by decide) (backOf (W := 0) (rmEX l Z a0 hw [] G1 G3 G4 b11 c0 x ([c0, c1, c2, 0] : List Int32) 0 T14.heap n0 (Nat.le_trans Z0 (Nat.le_trans (Nat.le_trans (Nat.le_trans (Nat.le_trans Kv1.1 E11.1) E12.1) E13.1) Kq14.1)) EN0 f21 Er14 Ft14 Fp14 g_b11 St22 (Nat.le_of_ble_eq_true rfl) hcc4 (Nat.le_of_ble_eq_true rfl) rfl) hZ13 (hw _ (tk 57 rfl)) (hw _ (tk 38 rfl)) (by decide) (by decide)) q20a q20c (g := (mkF m 89 #[.val (.int p1), .val (.int p2), .val (.int p3), .val (.int p4), .val (.int c0), .val (.int c1), .val (.int c2), .val (.ref ar), .val (.ref x), .val (.ref b11), .val (.int 4), .unset, .unset] [(.int c0), (.ref b11)])) rfl (by rw [hml]; rfl) (Steps.refl _) (argsL := [(.int c0)]) (rest := []) (lenOf pd__C_V rfl) rfl (by show 2 * 0 + _ ≤ _; exact Nat.le_of_eq rfl) (hb hby at_89) (fun _ _ => ⟨rfl, rfl, (by decide : 9 + 0 ≤ _), (by decide : 40 + 0 ≤ _)⟩)
  dsimp only [Pt.U, Pt.locs, Pt.cells, Pt.slots] at X20 l20 y20 z20 st20 hQ20
  subst l20 y20 z20
  obtain ⟨rfl, Nq20, Kq20, Er20, Ft20, Fp20⟩ := hQ20
  have N20 := Fr.app N14 Nq20
  have f24 := (f21.keep Kq20 (allS g_b11 all0))
  have St25 := (own_st_keepR St22 Kq20 Er14 (by decide) (hw _ (tk 37 rfl)))
  obtain ⟨cq23, kq23, q23a, q23b, q23c⟩ := isOf hZ13 rfl Er20
  obtain ⟨_, _, ⟨T23, L23, k23, n23⟩, -, X23, ⟨Lc23, hQ23, l23, y23, z23⟩, st23⟩ := X20.virtualBack hx (y := y_27) (z := y_27) hown13 (mvT hZ13 (hw _ (tk 53 rfl))) (mvT hZ13 (hw _ (tk 54 rfl))) (notFace_of_selects (args := #[]) (mvT hZ13 (hw _ (tk 56 rfl)))) (mvT hZ13 (hw _ (tk 56 rfl))) (mvT hZ13 (hw _ (tk 55 rfl))) (by decide) (backOf (W := 0) (rmEX l Z a0 hw [] G1 G3 G4 b11 c1 x ([c0, c1, c2, 0] : List Int32) 1 T20.heap n0 (Nat.le_trans Z0 (Nat.le_trans (Nat.le_trans (Nat.le_trans (Nat.le_trans (Nat.le_trans Kv1.1 E11.1) E12.1) E13.1) Kq14.1) Kq20.1)) EN0 f24 Er20 Ft20 Fp20 g_b11 St25 (Nat.le_of_ble_eq_true rfl) hcc4 (Nat.le_of_ble_eq_true rfl) rfl) hZ13 (hw _ (tk 57 rfl)) (hw _ (tk 38 rfl)) (by decide) (by decide)) q23a q23c (g := (mkF m 102 #[.val (.int p1), .val (.int p2), .val (.int p3), .val (.int p4), .val (.int c0), .val (.int c1), .val (.int c2), .val (.ref ar), .val (.ref x), .val (.ref b11), .val (.int 4), .unset, .unset] [(.int c1), (.ref b11)])) rfl (by rw [hml]; rfl) (Steps.refl _) (argsL := [(.int c1)]) (rest := []) (lenOf pd__C_V rfl) rfl (by show 2 * 0 + _ ≤ _; exact Nat.le_of_eq rfl) (hb hby at_102) (fun _ _ => ⟨rfl, rfl, (by decide : 9 + 0 ≤ _), (by decide : 40 + 0 ≤ _)⟩)
  dsimp only [Pt.U, Pt.locs, Pt.cells, Pt.slots] at X23 l23 y23 z23 st23 hQ23
  subst l23 y23 z23
  obtain ⟨rfl, Nq23, Kq23, Er23, Ft23, Fp23⟩ := hQ23
  have N23 := Fr.app N20 Nq23
  have f27 := (f24.keep Kq23 (allS g_b11 all0))
  have St28 := (own_st_keepR St25 Kq23 Er20 (by decide) (hw _ (tk 37 rfl)))
  obtain ⟨cq26, kq26, q26a, q26b, q26c⟩ := isOf hZ13 rfl Er23
  obtain ⟨_, _, ⟨T26, L26, k26, n26⟩, -, X26, ⟨Lc26, hQ26, l26, y26, z26⟩, st26⟩ := X23.virtualBack hx (y := y_27) (z := y_27) hown13 (mvT hZ13 (hw _ (tk 53 rfl))) (mvT hZ13 (hw _ (tk 54 rfl))) (notFace_of_selects (args := #[]) (mvT hZ13 (hw _ (tk 56 rfl)))) (mvT hZ13 (hw _ (tk 56 rfl))) (mvT hZ13 (hw _ (tk 55 rfl))) (by decide) (backOf (W := 0) (rmEX l Z a0 hw [] G1 G3 G4 b11 c2 x ([c0, c1, c2, 0] : List Int32) 2 T23.heap n0 (Nat.le_trans Z0 (Nat.le_trans (Nat.le_trans (Nat.le_trans (Nat.le_trans (Nat.le_trans (Nat.le_trans Kv1.1 E11.1) E12.1) E13.1) Kq14.1) Kq20.1) Kq23.1)) EN0 f27 Er23 Ft23 Fp23 g_b11 St28 (Nat.le_of_ble_eq_true rfl) hcc4 (Nat.le_of_ble_eq_true rfl) rfl) hZ13 (hw _ (tk 57 rfl)) (hw _ (tk 38 rfl)) (by decide) (by decide)) q26a q26c (g := (mkF m 115 #[.val (.int p1), .val (.int p2), .val (.int p3), .val (.int p4), .val (.int c0), .val (.int c1), .val (.int c2), .val (.ref ar), .val (.ref x), .val (.ref b11), .val (.int 4), .unset, .unset] [(.int c2), (.ref b11)])) rfl (by rw [hml]; rfl) (Steps.refl _) (argsL := [(.int c2)]) (rest := []) (lenOf pd__C_V rfl) rfl (by show 2 * 0 + _ ≤ _; exact Nat.le_of_eq rfl) (hb hby at_115) (fun _ _ => ⟨rfl, rfl, (by decide : 9 + 0 ≤ _), (by decide : 40 + 0 ≤ _)⟩)
  dsimp only [Pt.U, Pt.locs, Pt.cells, Pt.slots] at X26 l26 y26 z26 st26 hQ26
  subst l26 y26 z26
  obtain ⟨rfl, Nq26, Kq26, Er26, Ft26, Fp26⟩ := hQ26
  have N26 := Fr.app N23 Nq26
  have f30 := (f27.keep Kq26 (allS g_b11 all0))
  have St31 := (own_st_keepR St28 Kq26 Er23 (by decide) (hw _ (tk 37 rfl)))
  obtain ⟨cq29, kq29, q29a, q29b, q29c⟩ := isOf hZ13 rfl Er26
  obtain ⟨_, _, ⟨T29, L29, k29, n29⟩, -, X29, ⟨Lc29, hQ29, l29, y29, z29⟩, st29⟩ := X26.virtualBack hx (y := y_27) (z := y_27) hown13 (mvT hZ13 (hw _ (tk 53 rfl))) (mvT hZ13 (hw _ (tk 54 rfl))) (notFace_of_selects (args := #[]) (mvT hZ13 (hw _ (tk 56 rfl)))) (mvT hZ13 (hw _ (tk 56 rfl))) (mvT hZ13 (hw _ (tk 55 rfl))) (by decide) (backOf (W := 0) (rmEX l Z a0 hw [] G1 G3 G4 b11 (0 : Int32) x ([c0, c1, c2, 0] : List Int32) 3 T26.heap n0 (Nat.le_trans Z0 (Nat.le_trans (Nat.le_trans (Nat.le_trans (Nat.le_trans (Nat.le_trans (Nat.le_trans (Nat.le_trans Kv1.1 E11.1) E12.1) E13.1) Kq14.1) Kq20.1) Kq23.1) Kq26.1)) EN0 f30 Er26 Ft26 Fp26 g_b11 St31 (Nat.le_of_ble_eq_true rfl) hcc4 (Nat.le_of_ble_eq_true rfl) rfl) hZ13 (hw _ (tk 57 rfl)) (hw _ (tk 38 rfl)) (by decide) (by decide)) q29a q29c (g := (mkF m 127 #[.val (.int p1), .val (.int p2), .val (.int p3), .val (.int p4), .val (.int c0), .val (.int c1), .val (.int c2), .val (.ref ar), .val (.ref x), .val (.ref b11), .val (.int 4), .unset, .unset] [(.int 0), (.ref b11)])) rfl (by rw [hml]; rfl) (Steps.refl _) (argsL := [(.int 0)]) (rest := []) (lenOf pd__C_V rfl) rfl (by show 2 * 0 + _ ≤ _; exact Nat.le_of_eq rfl) (hb hby at_127) (fun _ _ => ⟨rfl, rfl, (by decide : 9 + 0 ≤ _), (by decide : 40 + 0 ≤ _)⟩)
  dsimp only [Pt.U, Pt.locs, Pt.cells, Pt.slots] at X29 l29 y29 z29 st29 hQ29
  subst l29 y29 z29
  obtain ⟨rfl, Nq29, Kq29, Er29, Ft29, Fp29⟩ := hQ29
  have N29 := Fr.app N26 Nq29
  have f33 := (f30.keep Kq29 (allS g_b11 all0))
  have St34 := (own_st_keepR St31 Kq29 Er26 (by decide) (hw _ (tk 37 rfl)))
  obtain ⟨cq32, kq32, q32a, q32b, q32c⟩ := isOf hZ13 rfl Er29
  obtain ⟨_, _, ⟨T32, L32, k32, n32⟩, -, X32, ⟨Lc32, hQ32, l32, y32, z32⟩, st32⟩ := X29.virtualBack hx (y := y_28) (z := y_28) hown13 (mvT hZ13 (hw _ (tk 155 rfl))) (mvT hZ13 (hw _ (tk 156 rfl))) (notFace_of_selects (args := #[]) (mvT hZ13 (hw _ (tk 158 rfl)))) (mvT hZ13 (hw _ (tk 158 rfl))) (mvT hZ13 (hw _ (tk 157 rfl))) (by decide) (backOf (W := 0) (rmNX l Z a0 hw [] G1 G3 G4 b11 x ([c0, c1, c2, 0] : List Int32) 4 T29.heap n0 (Nat.le_trans Z0 (Nat.le_trans (Nat.le_trans (Nat.le_trans (Nat.le_trans (Nat.le_trans (Nat.le_trans (Nat.le_trans (Nat.le_trans Kv1.1 E11.1) E12.1) E13.1) Kq14.1) Kq20.1) Kq23.1) Kq26.1) Kq29.1)) EN0 f33 Er29 Ft29 Fp29 St34 (Nat.le_of_ble_eq_true rfl) hcc4 rfl) hZ13 (hw _ (tk 159 rfl)) (hw _ (tk 38 rfl)) (by decide) (by decide)) q32a q32c (g := (mkF m 132 #[.val (.int p1), .val (.int p2), .val (.int p3), .val (.int p4), .val (.int c0), .val (.int c1), .val (.int c2), .val (.ref ar), .val (.ref x), .val (.ref b11), .val (.int 4), .unset, .unset] [(.ref b11)])) rfl (by rw [hml]; rfl) (Steps.refl _) (argsL := []) (rest := []) (lenOf pd___Z rfl) rfl (by show 2 * 0 + _ ≤ _; exact Nat.le_of_eq rfl) (hb hby at_132) (fun _ _ => ⟨rfl, rfl, (by decide : 9 + 0 ≤ _), (by decide : 40 + 0 ≤ _)⟩)
  dsimp only [Pt.U, Pt.locs, Pt.cells, Pt.slots] at X32 l32 y32 z32 st32 hQ32
  subst l32 y32 z32
  obtain ⟨rfl, Nq32, eq32⟩ := hQ32
  have N32 := Fr.app N29 Nq32
  obtain ⟨fs, hr, hrun, hended, hfin⟩ := X32.leaveW hS13 (by rw [eq32]; exact (Nat.le_trans hk13 (Nat.le_trans (Nat.le_trans (Nat.le_trans (Nat.le_trans Kq14.1 Kq20.1) Kq23.1) Kq26.1) Kq29.1))) (v := some (.int 1)) (fun h => by rw [Bd.returns] at h; cases h)
  refine ⟨_, _, pre0 _ ?_, hrun, hended, _, _, rfl, ?_, hfin.1, hfin.2.1, hfin.2.2.1, hfin.2.2.2.mono (by decide) (by decide)⟩
  · show Steps _ _ _ (s₁.setTop (mkF m 0 #[.val (.int p1), .val (.int p2), .val (.int p3), .val (.int p4), .unset, .unset, .unset, .unset, .unset, .unset, .unset, .unset, .unset] [])) _
    refine stv1 _ ?_
    show Steps _ _ _ (Tv1.setTop (mkF m 57 #[.val (.int p1), .val (.int p2), .val (.int p3), .val (.int p4), .val (.int c0), .val (.int c1), .val (.int c2), .val (.ref ar), .val (.ref x), .unset, .unset, .unset, .unset] [])) _
    refine st11 _ ?_
    show Steps _ _ _ (T11.setTop (mkF m 60 #[.val (.int p1), .val (.int p2), .val (.int p3), .val (.int p4), .val (.int c0), .val (.int c1), .val (.int c2), .val (.ref ar), .val (.ref x), .unset, .unset, .unset, .unset] [(.ref b11)])) _
    refine XS.dup X11.here hx rfl (hb hby at_60) rfl rfl ?_
    show Steps _ _ _ (T11.setTop (mkF m 61 #[.val (.int p1), .val (.int p2), .val (.int p3), .val (.int p4), .val (.int c0), .val (.int c1), .val (.int c2), .val (.ref ar), .val (.ref x), .unset, .unset, .unset, .unset] [(.ref b11), (.ref b11)])) _
    refine st12 _ ?_
    show Steps _ _ _ (T12.setTop (mkF m 63 #[.val (.int p1), .val (.int p2), .val (.int p3), .val (.int p4), .val (.int c0), .val (.int c1), .val (.int c2), .val (.ref ar), .val (.ref x), .unset, .unset, .unset, .unset] [(.ref b12), (.ref b11), (.ref b11)])) _
    refine XS.aload X12.here hx rfl (hb hby at_63) rfl rfl ?_
    show Steps _ _ _ (T12.setTop (mkF m 65 #[.val (.int p1), .val (.int p2), .val (.int p3), .val (.int p4), .val (.int c0), .val (.int c1), .val (.int c2), .val (.ref ar), .val (.ref x), .unset, .unset, .unset, .unset] [(.ref x), (.ref b12), (.ref b11), (.ref b11)])) _
    refine st13 _ ?_
    show Steps _ _ _ (T13.setTop (mkF m 67 #[.val (.int p1), .val (.int p2), .val (.int p3), .val (.int p4), .val (.int c0), .val (.int c1), .val (.int c2), .val (.ref ar), .val (.ref x), .unset, .unset, .unset, .unset] [(.ref b13), (.ref x), (.ref b12), (.ref b11), (.ref b11)])) _
    refine st14.trans ?_
    show Steps _ _ _ (T14.setTop (mkF m 70 #[.val (.int p1), .val (.int p2), .val (.int p3), .val (.int p4), .val (.int c0), .val (.int c1), .val (.int c2), .val (.ref ar), .val (.ref x), .unset, .unset, .unset, .unset] [(.ref b11)])) _
    refine XS.astore X14.here hx rfl (hb hby at_70) rfl rfl (l' := #[.val (.int p1), .val (.int p2), .val (.int p3), .val (.int p4), .val (.int c0), .val (.int c1), .val (.int c2), .val (.ref ar), .val (.ref x), .val (.ref b11), .unset, .unset, .unset]) rfl ?_
    refine XS.iloadN X14.here hx rfl (hb hby at_72) rfl ?_
    show Steps _ _ _ (T14.setTop (mkF m 73 #[.val (.int p1), .val (.int p2), .val (.int p3), .val (.int p4), .val (.int c0), .val (.int c1), .val (.int c2), .val (.ref ar), .val (.ref x), .val (.ref b11), .unset, .unset, .unset] [(.int p4)])) _
    refine X14.ldcInt hx hown13 (mvT hZ13 (hw _ (tk 4 rfl))) (g := (mkF m 73 #[.val (.int p1), .val (.int p2), .val (.int p3), .val (.int p4), .val (.int c0), .val (.int c1), .val (.int c2), .val (.ref ar), .val (.ref x), .val (.ref b11), .unset, .unset, .unset] [(.int p4)])) rfl (hb hby at_73) _ ?_
    show Steps _ _ _ (T14.setTop (mkF m 75 #[.val (.int p1), .val (.int p2), .val (.int p3), .val (.int p4), .val (.int c0), .val (.int c1), .val (.int c2), .val (.ref ar), .val (.ref x), .val (.ref b11), .unset, .unset, .unset] [(.int 2147483647), (.int p4)])) _
    refine XS.iand X14.here hx rfl (hb hby at_75) rfl ?_
    refine XS.iconst X14.here hx rfl (hb hby at_76) ?_
    show Steps _ _ _ (T14.setTop (mkF m 77 #[.val (.int p1), .val (.int p2), .val (.int p3), .val (.int p4), .val (.int c0), .val (.int c1), .val (.int c2), .val (.ref ar), .val (.ref x), .val (.ref b11), .unset, .unset, .unset] [(.int 5), (.int (p4 &&& (2147483647 : Int32)))])) _
    refine iremM X14 hx (g := (mkF m 77 #[.val (.int p1), .val (.int p2), .val (.int p3), .val (.int p4), .val (.int c0), .val (.int c1), .val (.int c2), .val (.ref ar), .val (.ref x), .val (.ref b11), .unset, .unset, .unset] [(.int 5), (.int (p4 &&& (2147483647 : Int32)))])) rfl (hb hby at_77) rfl (by decide) ?_
    show Steps _ _ _ (T14.setTop (mkF m 78 #[.val (.int p1), .val (.int p2), .val (.int p3), .val (.int p4), .val (.int c0), .val (.int c1), .val (.int c2), .val (.ref ar), .val (.ref x), .val (.ref b11), .unset, .unset, .unset] [(.int ((p4 &&& (2147483647 : Int32)) % (5 : Int32)))])) _
    rw [hn5]
    show Steps _ _ _ (T14.setTop (mkF m 78 #[.val (.int p1), .val (.int p2), .val (.int p3), .val (.int p4), .val (.int c0), .val (.int c1), .val (.int c2), .val (.ref ar), .val (.ref x), .val (.ref b11), .unset, .unset, .unset] [(.int 4)])) _
    refine XS.istore X14.here hx rfl (hb hby at_78) rfl (l' := #[.val (.int p1), .val (.int p2), .val (.int p3), .val (.int p4), .val (.int c0), .val (.int c1), .val (.int c2), .val (.ref ar), .val (.ref x), .val (.ref b11), .val (.int 4), .unset, .unset]) rfl ?_
    refine XS.iload X14.here hx rfl (hb hby at_80) rfl ?_
    refine XS.ifNo X14.here hx rfl (hb hby at_82) rfl ((if0 _ _).trans (tlt (by decide : (0 : Int32) < (4 : Int32))).2.2.2) ?_
    refine XS.aload X14.here hx rfl (hb hby at_85) rfl rfl ?_
    refine XS.iload X14.here hx rfl (hb hby at_87) rfl ?_
    show Steps _ _ _ (T14.setTop (mkF m 89 #[.val (.int p1), .val (.int p2), .val (.int p3), .val (.int p4), .val (.int c0), .val (.int c1), .val (.int c2), .val (.ref ar), .val (.ref x), .val (.ref b11), .val (.int 4), .unset, .unset] [(.int c0), (.ref b11)])) _
    refine st20.trans ?_
    show Steps _ _ _ (T20.setTop (mkF m 92 #[.val (.int p1), .val (.int p2), .val (.int p3), .val (.int p4), .val (.int c0), .val (.int c1), .val (.int c2), .val (.ref ar), .val (.ref x), .val (.ref b11), .val (.int 4), .unset, .unset] [])) _
    refine XS.iload X20.here hx rfl (hb hby at_92) rfl ?_
    refine XS.iconst X20.here hx rfl (hb hby at_94) ?_
    refine XS.icmpNo X20.here hx rfl (hb hby at_95) rfl (tlt (by decide : (1 : Int32) < (4 : Int32))).2.2.2 ?_
    refine XS.aload X20.here hx rfl (hb hby at_98) rfl rfl ?_
    refine XS.iload X20.here hx rfl (hb hby at_100) rfl ?_
    show Steps _ _ _ (T20.setTop (mkF m 102 #[.val (.int p1), .val (.int p2), .val (.int p3), .val (.int p4), .val (.int c0), .val (.int c1), .val (.int c2), .val (.ref ar), .val (.ref x), .val (.ref b11), .val (.int 4), .unset, .unset] [(.int c1), (.ref b11)])) _
    refine st23.trans ?_
    show Steps _ _ _ (T23.setTop (mkF m 105 #[.val (.int p1), .val (.int p2), .val (.int p3), .val (.int p4), .val (.int c0), .val (.int c1), .val (.int c2), .val (.ref ar), .val (.ref x), .val (.ref b11), .val (.int 4), .unset, .unset] [])) _
    refine XS.iload X23.here hx rfl (hb hby at_105) rfl ?_
    refine XS.iconst X23.here hx rfl (hb hby at_107) ?_
    refine XS.icmpNo X23.here hx rfl (hb hby at_108) rfl (tlt (by decide : (2 : Int32) < (4 : Int32))).2.2.2 ?_
    refine XS.aload X23.here hx rfl (hb hby at_111) rfl rfl ?_
    refine XS.iload X23.here hx rfl (hb hby at_113) rfl ?_
    show Steps _ _ _ (T23.setTop (mkF m 115 #[.val (.int p1), .val (.int p2), .val (.int p3), .val (.int p4), .val (.int c0), .val (.int c1), .val (.int c2), .val (.ref ar), .val (.ref x), .val (.ref b11), .val (.int 4), .unset, .unset] [(.int c2), (.ref b11)])) _
    refine st26.trans ?_
    show Steps _ _ _ (T26.setTop (mkF m 118 #[.val (.int p1), .val (.int p2), .val (.int p3), .val (.int p4), .val (.int c0), .val (.int c1), .val (.int c2), .val (.ref ar), .val (.ref x), .val (.ref b11), .val (.int 4), .unset, .unset] [])) _
    refine XS.iload X26.here hx rfl (hb hby at_118) rfl ?_
    refine XS.iconst X26.here hx rfl (hb hby at_120) ?_
    refine XS.icmpNo X26.here hx rfl (hb hby at_121) rfl (tlt (by decide : (3 : Int32) < (4 : Int32))).2.2.2 ?_
    refine XS.aload X26.here hx rfl (hb hby at_124) rfl rfl ?_
    refine XS.iconst X26.here hx rfl (hb hby at_126) ?_
    show Steps _ _ _ (T26.setTop (mkF m 127 #[.val (.int p1), .val (.int p2), .val (.int p3), .val (.int p4), .val (.int c0), .val (.int c1), .val (.int c2), .val (.ref ar), .val (.ref x), .val (.ref b11), .val (.int 4), .unset, .unset] [(.int 0), (.ref b11)])) _
    refine st29.trans ?_
    show Steps _ _ _ (T29.setTop (mkF m 130 #[.val (.int p1), .val (.int p2), .val (.int p3), .val (.int p4), .val (.int c0), .val (.int c1), .val (.int c2), .val (.ref ar), .val (.ref x), .val (.ref b11), .val (.int 4), .unset, .unset] [])) _
    refine XS.aload X29.here hx rfl (hb hby at_130) rfl rfl ?_
    show Steps _ _ _ (T29.setTop (mkF m 132 #[.val (.int p1), .val (.int p2), .val (.int p3), .val (.int p4), .val (.int c0), .val (.int c1), .val (.int c2), .val (.ref ar), .val (.ref x), .val (.ref b11), .val (.int 4), .unset, .unset] [(.ref b11)])) _
    refine st32.trans ?_
    show Steps _ _ _ (T32.setTop (mkF m 135 #[.val (.int p1), .val (.int p2), .val (.int p3), .val (.int p4), .val (.int c0), .val (.int c1), .val (.int c2), .val (.ref ar), .val (.ref x), .val (.ref b11), .val (.int 4), .unset, .unset] [(.int 0)])) _
    refine XS.ifNo X32.here hx rfl (hb hby at_135) rfl ((if0 _ _).trans (teq (by decide : (0 : Int32) = (0 : Int32))).2) ?_
    refine XS.iconst X32.here hx rfl (hb hby at_138) ?_
    refine XS.goto X32.here hx rfl (pc0 := 139) (pc' := 143) rfl (hb hby at_139) (by decide) (by decide) ?_
    show Steps _ _ _ (T32.setTop (mkF m 143 #[.val (.int p1), .val (.int p2), .val (.int p3), .val (.int p4), .val (.int c0), .val (.int c1), .val (.int c2), .val (.ref ar), .val (.ref x), .val (.ref b11), .val (.int 4), .unset, .unset] [(.int 1)])) _
    exact retN X32 hx (t := .boolean) Bd.returns (by simp) (hb hby at_143) hr
  · show Q0 Z  h0 n0 _ T32.heap _
    rw [eq32]
    exact ⟨rfl, N32⟩
theorem pd__CLjava_lang_String__Ljava_lang_String_ : parseMethodDescriptor "(CLjava/lang/String;)Ljava/lang/String;" = some ⟨[.char, (.object "java/lang/String")], some (.object "java/lang/String")⟩ := by decide +kernel
theorem rm0_0 (l : Launch) (Z : State) (a0 : Array Value) (hw : HW a0 Z) (ws : List Jvm.Cond) (G1 : Int32) (G3 : Value) (G4 : Value) (p1 : Int32) (p2 : Int32) (p3 : Int32) (p4 : Int32) (h0 : Heap) (n0 : Nat) (Z0 : n0 ≤ h0.size) (EN : own_env Z G1 G3 G4) (X00 : Old Z n0 h0) (hn5 : ((p4 &&& (2147483647 : Int32)) % (5 : Int32)) = (0 : Int32)) :
    MetFree l x (head1 (Jvm.Cond.code x code maxLocals ret :: ws) room_1) (fun a_ U_ => a_ = #[(.int p1), (.int p2), (.int p3), (.int p4)] ∧ Z.Warmed39 U_.vm ∧ U_.heap = h0) (fun _ _ _ _ _ => True) (fun _ U_ o_ U1_ => ∃ v_ L_, o_ = .returned v_ ∧ Q0 Z  h0 n0 v_ U1_.heap L_ ∧ ReturnedEndW U_ o_ U1_ L_ 40 5312) := by
  refine MetFree.of_bodySF (plainFor_of_name pn_0) hisR ?_
  intro p e s m args below meth c s₁ Bd hml0 hP hK
  obtain ⟨rfl, hZ, hh⟩ := hP
  have hx := Bd.exec
  have hby := Bd.bytes
  have hml : c.maxLocals = 13 := hml0
  have hown : s.vm.findClass "com/example/atomize/atomize/http/FieldValueReaderExpectPinLaw" = some m.cls := findClass_of_methodNamed Bd.named
  have hnm := (name_of_methodNamed Bd.named Bd.method).1
  have X0 : Stand p l e room_1 s m #[(.int p1), (.int p2), (.int p3), (.int p4)] below meth c s₁ [] 0 0 := Stand.of_body Bd
  have e0 : s₁.heap = h0 := by rw [← hh, Bd.state]; rfl
  have N0 := Fr.nil n0
  have pre0 : ∀ tt, Steps p.tables e below (s₁.setTop (mkF m 0 #[.val (.int p1), .val (.int p2), .val (.int p3), .val (.int p4), .unset, .unset, .unset, .unset, .unset, .unset, .unset, .unset, .unset] [])) tt → Steps p.tables e below (s₁.setTop (entryFrame m #[(.int p1), (.int p2), (.int p3), (.int p4)] maxLocals)) tt := fun tt kk => castTop (ef_0_rrrr m p1 p2 p3 p4) kk
  have hS0 : s.Since s.vm 0 := (State.WarmedH.refl s).since 0
  have hk0 : 0 ≤ h0.size := Nat.zero_le _
  have EN0 := EN
  obtain ⟨O2, P5, O4, rG3, O6, O7, O8⟩ := EN
  obtain ⟨Tv1, hv1, Lv1, c0, c1, c2, ar, ka, x, Xv1, ev1, Nv1, Zv1, Ov1, Kv1, Vv1, Sv1, d0, d1, d2, stv1⟩ := fr1 G1 G3 G4 p1 p2 p3 p4 h0 n0 X0 hx hZ hw hby hml hown e0 N0 Z0 EN0 X00
  have Exv := own_st_exa Sv1
  have hcc4 := own_c4 d0.1 d1.1 d2.1
  obtain ⟨T11, h11, X11, e11, E11, A11, D11, -, st11⟩ := newO Xv1 hx hZ hown (hw _ (tk 36 rfl)) (hw _ (tk 37 rfl)) (hw _ (tk 38 rfl)) ev1 (g := (mkF m 57 #[.val (.int p1), .val (.int p2), .val (.int p3), .val (.int p4), .val (.int c0), .val (.int c1), .val (.int c2), .val (.ref ar), .val (.ref x), .unset, .unset, .unset, .unset] [])) rfl (hb hby at_57) (by decide) (by decide)
  obtain ⟨b11, g11⟩ : ∃ z, z = hv1.size := ⟨_, rfl⟩
  rw [← g11] at A11 D11 st11
  have g_b11 : n0 ≤ b11 := Nat.le_trans (Nat.le_trans Z0 Kv1.1) (Nat.le_of_eq g11.symm)
  have sz_b11 : h0.size ≤ b11 := Nat.le_trans Kv1.1 (Nat.le_of_eq g11.symm)
  have F11_name : Fld Z h11 b11 "com/example/atomize/atomize/http/FieldValueReader" "name" "Ljava/lang/String;" .null := D11 (Or.inr (hw _ (tk 48 rfl))) (ty := (.object "java/lang/String")) (by decide)
  have F11_text : Fld Z h11 b11 "com/example/atomize/atomize/http/FieldValueReader" "text" "Ljava/lang/String;" .null := D11 (Or.inr (hw _ (tk 50 rfl))) (ty := (.object "java/lang/String")) (by decide)
  have F11_grammar : Fld Z h11 b11 "com/example/atomize/atomize/http/FieldValueReader" "grammar" "Ljava/lang/String;" .null := D11 (Or.inr (hw _ (tk 52 rfl))) (ty := (.object "java/lang/String")) (by decide)
  have F11_position : Fld Z h11 b11 "com/example/atomize/atomize/http/FieldValueReader" "position" "I" (.int 0) := D11 (Or.inl (hw _ (tk 59 rfl))) (ty := .int) (by decide)
  obtain ⟨b12, T12, h12, k12, X12, e12, E12, hS12, hk12, hZ12, hown12, st12⟩ := ldcS (s := s) (vm0 := s.vm) X11 hx hZ hown (hw _ (tk 39 rfl)) (fun d hd => hw d (own_wS d hd)) e11 hS0 (Nat.le_trans hk0 (Nat.le_trans Kv1.1 E11.1)) (g := (mkF m 61 #[.val (.int p1), .val (.int p2), .val (.int p3), .val (.int p4), .val (.int c0), .val (.int c1), .val (.int c2), .val (.ref ar), .val (.ref x), .unset, .unset, .unset, .unset] [(.ref b11), (.ref b11)])) rfl (hb hby at_61) (n := 4) (by decide) (by decide) (by decide) (by decide)
  obtain ⟨b13, T13, h13, k13, X13, e13, E13, hS13, hk13, hZ13, hown13, st13⟩ := ldcS (s := s) (vm0 := T12.vm) X12 hx hZ12 hown12 (hw _ (tk 42 rfl)) (fun d hd => hw d (own_wS d hd)) e12 hS12 hk12 (g := (mkF m 65 #[.val (.int p1), .val (.int p2), .val (.int p3), .val (.int p4), .val (.int c0), .val (.int c1), .val (.int c2), .val (.ref ar), .val (.ref x), .unset, .unset, .unset, .unset] [(.ref x), (.ref b12), (.ref b11), (.ref b11)])) rfl (hb hby at_65) (n := 4) (by decide) (by decide) (by decide) (by decide)
  have f15 := ((A11.ext E12).ext E13)
  have f16 := ((F11_name.ext E12).ext E13)
  have f17 := ((F11_text.ext E12).ext E13)
  have f18 := ((F11_grammar.ext E12).ext E13)
  have f19 := ((F11_position.ext E12).ext E13)
  obtain ⟨_, _, ⟨T14, L14, k14, n14⟩, -, X14, ⟨Lc14, hQ14, l14, y14, z14⟩, st14⟩ := X13.specialBack hx (y := y_26) rfl hown13 (mvT hZ13 (hw _ (tk 43 rfl))) (mvT hZ13 (hw _ (tk 44 rfl))) (mvT hZ13 (hw _ (tk 45 rfl))) (by decide) (backOf (W := 1) (rmFI l Z a0 hw [] b11 b12 x b13 h13 n0 (Nat.le_trans Z0 (Nat.le_trans (Nat.le_trans (Nat.le_trans Kv1.1 E11.1) E12.1) E13.1)) f15 f16 f17 f18 f19 g_b11) hZ13 (hw _ (tk 45 rfl)) (hw _ (tk 38 rfl)) (by decide) (by decide)) (g := (mkF m 67 #[.val (.int p1), .val (.int p2), .val (.int p3), .val (.int p4), .val (.int c0), .val (.int c1), .val (.int c2), .val (.ref ar), .val (.ref x), .unset, .unset, .unset, .unset] [(.ref b13), (.ref x), (.ref b12), (.ref b11), (.ref b11)])) rfl (by rw [hml]; rfl) (Steps.refl _) (a := b11) (argsL := [(.ref b12), (.ref x), (.ref b13)]) (rest := [(.ref b11)]) (lenOf pd__Ljava_lang_String_Ljava_lang_String_Ljava_lang_String__V rfl) rfl (by show 2 * 0 + _ ≤ _; exact Nat.le_of_eq rfl) (hb hby at_67) (fun _ _ => ⟨rfl, e13, (by decide : 9 + 0 ≤ _), (by decide : 40 + 0 ≤ _)⟩)
  dsimp only [Pt.U, Pt.locs, Pt.cells, Pt.slots] at X14 l14 y14 z14 st14 hQ14
  subst l14 y14 z14
  obtain ⟨rfl, Nq14, Kq14, Er14, Ft14, Fp14⟩ := hQ14
  have N14 := Fr.app Nv1 Nq14
  obtain ⟨b20, T20, h20, k20, X20, e20, E20, hS20, hk20, hZ20, hown20, st20⟩ := ldcS (s := s) (vm0 := T13.vm) X14 hx hZ13 hown13 (hw _ (tk 92 rfl)) (fun d hd => hw d (own_wS d hd)) rfl hS13 (Nat.le_trans hk13 Kq14.1) (g := (mkF m 147 #[.val (.int p1), .val (.int p2), .val (.int p3), .val (.int p4), .val (.int c0), .val (.int c1), .val (.int c2), .val (.ref ar), .val (.ref x), .val (.ref b11), .val (.int 0), .unset, .unset] [(.int 0), (.ref b11)])) rfl (hb hby at_147) (n := 4) (by decide) (by decide) (by decide) (by decide)
  have f22 := (Er14.ext E20)
  have f23 := (((((Ov1.ext E11).ext E12).ext E13).keep Kq14 (allS g_b11 all0)).ext E20)
  have f24 := (Ft14.ext E20)
  have f25 := (Fp14.ext E20)
  have St26 := (own_st_ext (own_st_keepR (own_st_ext (own_st_ext (own_st_ext Sv1 E11) E12) E13) Kq14 f15 (by decide) (hw _ (tk 37 rfl))) E20)
  obtain ⟨cq21, kq21, q21a, q21b, q21c⟩ := isOf hZ20 e20 f22
  obtain ⟨_, _, ⟨T21, L21, k21, n21⟩, -, X21, ⟨Lc21, hQ21, l21, y21, z21⟩, st21⟩ := X20.virtualBack hx (y := y_47) (z := y_47) hown20 (mvT hZ20 (hw _ (tk 93 rfl))) (mvT hZ20 (hw _ (tk 94 rfl))) (notFace_of_selects (args := #[]) (mvT hZ20 (hw _ (tk 96 rfl)))) (mvT hZ20 (hw _ (tk 96 rfl))) (mvT hZ20 (hw _ (tk 95 rfl))) (by decide) (backOf (W := 0) (rmUP l Z a0 hw [] G1 G3 G4 b11 b20 x ([c0, c1, c2, 0] : List Int32) 0 3 h20 n0 (Nat.le_trans Z0 (Nat.le_trans (Nat.le_trans (Nat.le_trans (Nat.le_trans (Nat.le_trans Kv1.1 E11.1) E12.1) E13.1) Kq14.1) E20.1)) EN0 f23 f22 f24 f25 g_b11 St26 (Nat.le_of_ble_eq_true rfl) hcc4 (Nat.le_of_ble_eq_true rfl) (Nat.le_of_ble_eq_true rfl) (Nat.le_of_ble_eq_true rfl) (Nat.le_of_ble_eq_true rfl) rfl (own_nz3 d0.2 d1.2 d2.2 0)) hZ20 (hw _ (tk 97 rfl)) (hw _ (tk 38 rfl)) (by decide) (by decide)) q21a q21c (g := (mkF m 149 #[.val (.int p1), .val (.int p2), .val (.int p3), .val (.int p4), .val (.int c0), .val (.int c1), .val (.int c2), .val (.ref ar), .val (.ref x), .val (.ref b11), .val (.int 0), .unset, .unset] [(.ref b20), (.int 0), (.ref b11)])) rfl (by rw [hml]; rfl) (Steps.refl _) (argsL := [(.int 0), (.ref b20)]) (rest := []) (lenOf pd__CLjava_lang_String__Ljava_lang_String_ rfl) rfl (by show 2 * 0 + _ ≤ _; exact Nat.le_of_eq rfl) (hb hby at_149) (fun _ _ => ⟨rfl, e20, (by decide : 11 + 3 ≤ _), (by decide : 48 + 24 ≤ _)⟩)
  dsimp only [Pt.U, Pt.locs, Pt.cells, Pt.slots] at X21 l21 y21 z21 st21 hQ21
  subst l21 y21 z21
  obtain ⟨y21, rfl, Nq21, sz21, Kq21, S21, Er21, Ft21, Fp21⟩ := hQ21
  have N21 := Fr.app N14 Nq21
  have g21x : n0 ≤ y21 := Nat.le_trans (Nat.le_trans Z0 (Nat.le_trans (Nat.le_trans (Nat.le_trans (Nat.le_trans (Nat.le_trans Kv1.1 E11.1) E12.1) E13.1) Kq14.1) E20.1)) sz21
  have szx21 : h0.size ≤ y21 := Nat.le_trans (Nat.le_trans (Nat.le_trans (Nat.le_trans (Nat.le_trans (Nat.le_trans Kv1.1 E11.1) E12.1) E13.1) Kq14.1) E20.1) sz21
  have E21q := own_st_exa S21
  have f28 := (f23.keep Kq21 (allS g_b11 all0))
  obtain ⟨cq27, kq27, q27a, q27b, q27c⟩ := isOf hZ20 rfl E21q
  obtain ⟨_, _, ⟨T27, L27, k27, n27⟩, -, X27, ⟨Lc27, hQ27, l27, y27, z27⟩, st27⟩ := X21.virtualBack hx (y := y_15) (z := y_15) hown20 (mvT hZ20 (hw _ (tk 153 rfl))) (mvT hZ20 (hw _ (tk 61 rfl))) (notFace_of_selects (args := #[]) (mvT hZ20 (hw _ (tk 63 rfl)))) (mvT hZ20 (hw _ (tk 63 rfl))) (mvT hZ20 (hw _ (tk 62 rfl))) (by decide) (backOf (W := 0) (rmLE l Z a0 hw [] G1 G3 G4 y21 ((([c0, c1, c2, 0] : List Int32).drop 0).take 3) T21.heap n0 (Nat.le_trans Z0 (Nat.le_trans (Nat.le_trans (Nat.le_trans (Nat.le_trans (Nat.le_trans (Nat.le_trans Kv1.1 E11.1) E12.1) E13.1) Kq14.1) E20.1) Kq21.1)) EN0 f28 S21 (Nat.le_of_ble_eq_true rfl)) hZ20 (hw _ (tk 64 rfl)) (hw _ (tk 9 rfl)) (by decide) (by decide)) q27a q27c (g := (mkF m 162 #[.val (.int p1), .val (.int p2), .val (.int p3), .val (.int p4), .val (.int c0), .val (.int c1), .val (.int c2), .val (.ref ar), .val (.ref x), .val (.ref b11), .val (.int 0), .val (.ref y21), .val (.int 3)] [(.ref y21)])) rfl (by rw [hml]; rfl) (Steps.refl _) (argsL := []) (rest := []) (lenOf pd___I rfl) rfl (by show 2 * 0 + _ ≤ _; exact Nat.le_of_eq rfl) (hb hby at_162) (fun _ _ => ⟨rfl, rfl, (by decide : 14 + 0 ≤ _), (by decide : 72 + 0 ≤ _)⟩)
  dsimp only [Pt.U, Pt.locs, Pt.cells, Pt.slots] at X27 l27 y27 z27 st27 hQ27
  subst l27 y27 z27
  obtain ⟨rfl, Nq27, eq27⟩ := hQ27
  have N27 := Fr.app N21 Nq27
  obtain ⟨cq29, kq29, q29a, q29b, q29c⟩ := isOf hZ20 eq27 E21q
  obtain ⟨_, _, ⟨T29, L29, k29, n29⟩, -, X29, ⟨Lc29, hQ29, l29, y29, z29⟩, st29⟩ := X27.virtualBack hx (y := y_19) (z := y_19) hown20 (mvT hZ20 (hw _ (tk 154 rfl))) (mvT hZ20 (hw _ (tk 71 rfl))) (notFace_of_selects (args := #[]) (mvT hZ20 (hw _ (tk 73 rfl)))) (mvT hZ20 (hw _ (tk 73 rfl))) (mvT hZ20 (hw _ (tk 72 rfl))) (by decide) (backOf (W := 0) (rmCA l Z a0 hw [] G1 G3 G4 y21 ((([c0, c1, c2, 0] : List Int32).drop 0).take 3) 0 T21.heap n0 (Nat.le_trans Z0 (Nat.le_trans (Nat.le_trans (Nat.le_trans (Nat.le_trans (Nat.le_trans (Nat.le_trans Kv1.1 E11.1) E12.1) E13.1) Kq14.1) E20.1) Kq21.1)) EN0 f28 S21 (Nat.le_of_ble_eq_true rfl) (own_dsc hcc4) (Nat.le_of_ble_eq_true rfl)) hZ20 (hw _ (tk 74 rfl)) (hw _ (tk 9 rfl)) (by decide) (by decide)) q29a q29c (g := (mkF m 181 #[.val (.int p1), .val (.int p2), .val (.int p3), .val (.int p4), .val (.int c0), .val (.int c1), .val (.int c2), .val (.ref ar), .val (.ref x), .val (.ref b11), .val (.int 0), .val (.ref y21), .val (.int 3)] [(.int 0), (.ref y21)])) rfl (by rw [hml]; rfl) (Steps.refl _) (argsL := [(.int 0)]) (rest := []) (lenOf pd__I_C rfl) rfl (by show 2 * 0 + _ ≤ _; exact Nat.le_of_eq rfl) (hb hby at_181) (fun _ _ => ⟨rfl, eq27, (by decide : 14 + 0 ≤ _), (by decide : 72 + 0 ≤ _)⟩)
  dsimp only [Pt.U, Pt.locs, Pt.cells, Pt.slots] at X29 l29 y29 z29 st29 hQ29
  subst l29 y29 z29
  obtain ⟨rfl, Nq29, eq29⟩ := hQ29
  have N29 := Fr.app N27 Nq29
  have f31 := ((((((Vv1.ext E11).ext E12).ext E13).keep Kq14 (ninS (Nat.ne_of_lt (Nat.lt_of_lt_of_le Vv1.lt (Nat.le_of_eq g11.symm))) nin0)).ext E20).keep Kq21 (ninS (Nat.ne_of_lt (Nat.lt_of_lt_of_le Vv1.lt (Nat.le_of_eq g11.symm))) nin0))
  obtain ⟨c30, Ar30, -, S30, M30, H30, -⟩ := id f31
  have hin30 := inb_of (j := (0 : Int32)) S30 ⟨by decide, by decide⟩
  obtain ⟨cq32, kq32, q32a, q32b, q32c⟩ := isOf hZ20 eq29 E21q
  obtain ⟨_, _, ⟨T32, L32, k32, n32⟩, -, X32, ⟨Lc32, hQ32, l32, y32, z32⟩, st32⟩ := X29.virtualBack hx (y := y_19) (z := y_19) hown20 (mvT hZ20 (hw _ (tk 154 rfl))) (mvT hZ20 (hw _ (tk 71 rfl))) (notFace_of_selects (args := #[]) (mvT hZ20 (hw _ (tk 73 rfl)))) (mvT hZ20 (hw _ (tk 73 rfl))) (mvT hZ20 (hw _ (tk 72 rfl))) (by decide) (backOf (W := 0) (rmCA l Z a0 hw [] G1 G3 G4 y21 ((([c0, c1, c2, 0] : List Int32).drop 0).take 3) 1 T21.heap n0 (Nat.le_trans Z0 (Nat.le_trans (Nat.le_trans (Nat.le_trans (Nat.le_trans (Nat.le_trans (Nat.le_trans Kv1.1 E11.1) E12.1) E13.1) Kq14.1) E20.1) Kq21.1)) EN0 f28 S21 (Nat.le_of_ble_eq_true rfl) (own_dsc hcc4) (Nat.le_of_ble_eq_true rfl)) hZ20 (hw _ (tk 74 rfl)) (hw _ (tk 9 rfl)) (by decide) (by decide)) q32a q32c (g := (mkF m 203 #[.val (.int p1), .val (.int p2), .val (.int p3), .val (.int p4), .val (.int c0), .val (.int c1), .val (.int c2), .val (.ref ar), .val (.ref x), .val (.ref b11), .val (.int 0), .val (.ref y21), .val (.int 3)] [(.int 1), (.ref y21)])) rfl (by rw [hml]; rfl) (Steps.refl _) (argsL := [(.int 1)]) (rest := []) (lenOf pd__I_C rfl) rfl (by show 2 * 0 + _ ≤ _; exact Nat.le_of_eq rfl) (hb hby at_203) (fun _ _ => ⟨rfl, eq29, (by decide : 14 + 0 ≤ _), (by decide : 72 + 0 ≤ _)⟩)
  dsimp only [Pt.U, Pt.locs, Pt.cells, Pt.slots] at X32 l32 y32 z32 st32 hQ32
  subst l32 y32 z32
  obtain ⟨rfl, Nq32, eq32⟩ := hQ32
  have N32 := Fr.app N29 Nq32
  obtain ⟨c33, Ar33, -, S33, M33, H33, -⟩ := id f31
  have hin33 := inb_of (j := (1 : Int32)) S33 ⟨by decide, by decide⟩
  obtain ⟨cq34, kq34, q34a, q34b, q34c⟩ := isOf hZ20 eq32 E21q
  obtain ⟨_, _, ⟨T34, L34, k34, n34⟩, -, X34, ⟨Lc34, hQ34, l34, y34, z34⟩, st34⟩ := X32.virtualBack hx (y := y_19) (z := y_19) hown20 (mvT hZ20 (hw _ (tk 154 rfl))) (mvT hZ20 (hw _ (tk 71 rfl))) (notFace_of_selects (args := #[]) (mvT hZ20 (hw _ (tk 73 rfl)))) (mvT hZ20 (hw _ (tk 73 rfl))) (mvT hZ20 (hw _ (tk 72 rfl))) (by decide) (backOf (W := 0) (rmCA l Z a0 hw [] G1 G3 G4 y21 ((([c0, c1, c2, 0] : List Int32).drop 0).take 3) 2 T21.heap n0 (Nat.le_trans Z0 (Nat.le_trans (Nat.le_trans (Nat.le_trans (Nat.le_trans (Nat.le_trans (Nat.le_trans Kv1.1 E11.1) E12.1) E13.1) Kq14.1) E20.1) Kq21.1)) EN0 f28 S21 (Nat.le_of_ble_eq_true rfl) (own_dsc hcc4) (Nat.le_of_ble_eq_true rfl)) hZ20 (hw _ (tk 74 rfl)) (hw _ (tk 9 rfl)) (by decide) (by decide)) q34a q34c (g := (mkF m 227 #[.val (.int p1), .val (.int p2), .val (.int p3), .val (.int p4), .val (.int c0), .val (.int c1), .val (.int c2), .val (.ref ar), .val (.ref x), .val (.ref b11), .val (.int 0), .val (.ref y21), .val (.int 3)] [(.int 2), (.ref y21)])) rfl (by rw [hml]; rfl) (Steps.refl _) (argsL := [(.int 2)]) (rest := []) (lenOf pd__I_C rfl) rfl (by show 2 * 0 + _ ≤ _; exact Nat.le_of_eq rfl) (hb hby at_227) (fun _ _ => ⟨rfl, eq32, (by decide : 14 + 0 ≤ _), (by decide : 72 + 0 ≤ _)⟩)
  dsimp only [Pt.U, Pt.locs, Pt.cells, Pt.slots] at X34 l34 y34 z34 st34 hQ34
  subst l34 y34 z34
  obtain ⟨rfl, Nq34, eq34⟩ := hQ34
  have N34 := Fr.app N32 Nq34
  obtain ⟨c35, Ar35, -, S35, M35, H35, -⟩ := id f31
  have hin35 := inb_of (j := (2 : Int32)) S35 ⟨by decide, by decide⟩
  have St37 := (own_st_keepR St26 Kq21 f22 (by decide) (hw _ (tk 37 rfl)))
  obtain ⟨cq36, kq36, q36a, q36b, q36c⟩ := isOf hZ20 eq34 Er21
  obtain ⟨_, _, ⟨T36, L36, k36, n36⟩, -, X36, ⟨Lc36, hQ36, l36, y36, z36⟩, st36⟩ := X34.virtualBack hx (y := y_28) (z := y_28) hown20 (mvT hZ20 (hw _ (tk 155 rfl))) (mvT hZ20 (hw _ (tk 156 rfl))) (notFace_of_selects (args := #[]) (mvT hZ20 (hw _ (tk 158 rfl)))) (mvT hZ20 (hw _ (tk 158 rfl))) (mvT hZ20 (hw _ (tk 157 rfl))) (by decide) (backOf (W := 0) (rmNX l Z a0 hw [] G1 G3 G4 b11 x ([c0, c1, c2, 0] : List Int32) 4 T21.heap n0 (Nat.le_trans Z0 (Nat.le_trans (Nat.le_trans (Nat.le_trans (Nat.le_trans (Nat.le_trans (Nat.le_trans Kv1.1 E11.1) E12.1) E13.1) Kq14.1) E20.1) Kq21.1)) EN0 f28 Er21 Ft21 Fp21 St37 (Nat.le_of_ble_eq_true rfl) hcc4 rfl) hZ20 (hw _ (tk 159 rfl)) (hw _ (tk 38 rfl)) (by decide) (by decide)) q36a q36c (g := (mkF m 244 #[.val (.int p1), .val (.int p2), .val (.int p3), .val (.int p4), .val (.int c0), .val (.int c1), .val (.int c2), .val (.ref ar), .val (.ref x), .val (.ref b11), .val (.int 0), .val (.ref y21), .val (.int 3)] [(.ref b11)])) rfl (by rw [hml]; rfl) (Steps.refl _) (argsL := []) (rest := []) (lenOf pd___Z rfl) rfl (by show 2 * 0 + _ ≤ _; exact Nat.le_of_eq rfl) (hb hby at_244) (fun _ _ => ⟨rfl, eq34, (by decide : 14 + 0 ≤ _), (by decide : 72 + 0 ≤ _)⟩)
  dsimp only [Pt.U, Pt.locs, Pt.cells, Pt.slots] at X36 l36 y36 z36 st36 hQ36
  subst l36 y36 z36
  obtain ⟨rfl, Nq36, eq36⟩ := hQ36
  have N36 := Fr.app N34 Nq36
  obtain ⟨fs, hr, hrun, hended, hfin⟩ := X36.leaveW hS20 (by rw [eq36]; exact (Nat.le_trans hk20 Kq21.1)) (v := some (.int 1)) (fun h => by rw [Bd.returns] at h; cases h)
  refine ⟨_, _, pre0 _ ?_, hrun, hended, _, _, rfl, ?_, hfin.1, hfin.2.1, hfin.2.2.1, hfin.2.2.2.mono (by decide) (by decide)⟩
  · show Steps _ _ _ (s₁.setTop (mkF m 0 #[.val (.int p1), .val (.int p2), .val (.int p3), .val (.int p4), .unset, .unset, .unset, .unset, .unset, .unset, .unset, .unset, .unset] [])) _
    refine stv1 _ ?_
    show Steps _ _ _ (Tv1.setTop (mkF m 57 #[.val (.int p1), .val (.int p2), .val (.int p3), .val (.int p4), .val (.int c0), .val (.int c1), .val (.int c2), .val (.ref ar), .val (.ref x), .unset, .unset, .unset, .unset] [])) _
    refine st11 _ ?_
    show Steps _ _ _ (T11.setTop (mkF m 60 #[.val (.int p1), .val (.int p2), .val (.int p3), .val (.int p4), .val (.int c0), .val (.int c1), .val (.int c2), .val (.ref ar), .val (.ref x), .unset, .unset, .unset, .unset] [(.ref b11)])) _
    refine XS.dup X11.here hx rfl (hb hby at_60) rfl rfl ?_
    show Steps _ _ _ (T11.setTop (mkF m 61 #[.val (.int p1), .val (.int p2), .val (.int p3), .val (.int p4), .val (.int c0), .val (.int c1), .val (.int c2), .val (.ref ar), .val (.ref x), .unset, .unset, .unset, .unset] [(.ref b11), (.ref b11)])) _
    refine st12 _ ?_
    show Steps _ _ _ (T12.setTop (mkF m 63 #[.val (.int p1), .val (.int p2), .val (.int p3), .val (.int p4), .val (.int c0), .val (.int c1), .val (.int c2), .val (.ref ar), .val (.ref x), .unset, .unset, .unset, .unset] [(.ref b12), (.ref b11), (.ref b11)])) _
    refine XS.aload X12.here hx rfl (hb hby at_63) rfl rfl ?_
    show Steps _ _ _ (T12.setTop (mkF m 65 #[.val (.int p1), .val (.int p2), .val (.int p3), .val (.int p4), .val (.int c0), .val (.int c1), .val (.int c2), .val (.ref ar), .val (.ref x), .unset, .unset, .unset, .unset] [(.ref x), (.ref b12), (.ref b11), (.ref b11)])) _
    refine st13 _ ?_
    show Steps _ _ _ (T13.setTop (mkF m 67 #[.val (.int p1), .val (.int p2), .val (.int p3), .val (.int p4), .val (.int c0), .val (.int c1), .val (.int c2), .val (.ref ar), .val (.ref x), .unset, .unset, .unset, .unset] [(.ref b13), (.ref x), (.ref b12), (.ref b11), (.ref b11)])) _
    refine st14.trans ?_
    show Steps _ _ _ (T14.setTop (mkF m 70 #[.val (.int p1), .val (.int p2), .val (.int p3), .val (.int p4), .val (.int c0), .val (.int c1), .val (.int c2), .val (.ref ar), .val (.ref x), .unset, .unset, .unset, .unset] [(.ref b11)])) _
    refine XS.astore X14.here hx rfl (hb hby at_70) rfl rfl (l' := #[.val (.int p1), .val (.int p2), .val (.int p3), .val (.int p4), .val (.int c0), .val (.int c1), .val (.int c2), .val (.ref ar), .val (.ref x), .val (.ref b11), .unset, .unset, .unset]) rfl ?_
    refine XS.iloadN X14.here hx rfl (hb hby at_72) rfl ?_
    show Steps _ _ _ (T14.setTop (mkF m 73 #[.val (.int p1), .val (.int p2), .val (.int p3), .val (.int p4), .val (.int c0), .val (.int c1), .val (.int c2), .val (.ref ar), .val (.ref x), .val (.ref b11), .unset, .unset, .unset] [(.int p4)])) _
    refine X14.ldcInt hx hown13 (mvT hZ13 (hw _ (tk 4 rfl))) (g := (mkF m 73 #[.val (.int p1), .val (.int p2), .val (.int p3), .val (.int p4), .val (.int c0), .val (.int c1), .val (.int c2), .val (.ref ar), .val (.ref x), .val (.ref b11), .unset, .unset, .unset] [(.int p4)])) rfl (hb hby at_73) _ ?_
    show Steps _ _ _ (T14.setTop (mkF m 75 #[.val (.int p1), .val (.int p2), .val (.int p3), .val (.int p4), .val (.int c0), .val (.int c1), .val (.int c2), .val (.ref ar), .val (.ref x), .val (.ref b11), .unset, .unset, .unset] [(.int 2147483647), (.int p4)])) _
    refine XS.iand X14.here hx rfl (hb hby at_75) rfl ?_
    refine XS.iconst X14.here hx rfl (hb hby at_76) ?_
    show Steps _ _ _ (T14.setTop (mkF m 77 #[.val (.int p1), .val (.int p2), .val (.int p3), .val (.int p4), .val (.int c0), .val (.int c1), .val (.int c2), .val (.ref ar), .val (.ref x), .val (.ref b11), .unset, .unset, .unset] [(.int 5), (.int (p4 &&& (2147483647 : Int32)))])) _
    refine iremM X14 hx (g := (mkF m 77 #[.val (.int p1), .val (.int p2), .val (.int p3), .val (.int p4), .val (.int c0), .val (.int c1), .val (.int c2), .val (.ref ar), .val (.ref x), .val (.ref b11), .unset, .unset, .unset] [(.int 5), (.int (p4 &&& (2147483647 : Int32)))])) rfl (hb hby at_77) rfl (by decide) ?_
    show Steps _ _ _ (T14.setTop (mkF m 78 #[.val (.int p1), .val (.int p2), .val (.int p3), .val (.int p4), .val (.int c0), .val (.int c1), .val (.int c2), .val (.ref ar), .val (.ref x), .val (.ref b11), .unset, .unset, .unset] [(.int ((p4 &&& (2147483647 : Int32)) % (5 : Int32)))])) _
    rw [hn5]
    show Steps _ _ _ (T14.setTop (mkF m 78 #[.val (.int p1), .val (.int p2), .val (.int p3), .val (.int p4), .val (.int c0), .val (.int c1), .val (.int c2), .val (.ref ar), .val (.ref x), .val (.ref b11), .unset, .unset, .unset] [(.int 0)])) _
    refine XS.istore X14.here hx rfl (hb hby at_78) rfl (l' := #[.val (.int p1), .val (.int p2), .val (.int p3), .val (.int p4), .val (.int c0), .val (.int c1), .val (.int c2), .val (.ref ar), .val (.ref x), .val (.ref b11), .val (.int 0), .unset, .unset]) rfl ?_
    refine XS.iload X14.here hx rfl (hb hby at_80) rfl ?_
    refine XS.ifYes X14.here hx rfl (pc0 := 82) (pc' := 92) rfl (hb hby at_82) rfl ((if0 _ _).trans (flt (by decide : ¬ ((0 : Int32) < (0 : Int32)))).2.2.2) (by decide) (by decide) ?_
    refine XS.iload X14.here hx rfl (hb hby at_92) rfl ?_
    refine XS.iconst X14.here hx rfl (hb hby at_94) ?_
    refine XS.icmpYes X14.here hx rfl (pc0 := 95) (pc' := 105) rfl (hb hby at_95) rfl (flt (by decide : ¬ ((1 : Int32) < (0 : Int32)))).2.2.2 (by decide) (by decide) ?_
    refine XS.iload X14.here hx rfl (hb hby at_105) rfl ?_
    refine XS.iconst X14.here hx rfl (hb hby at_107) ?_
    refine XS.icmpYes X14.here hx rfl (pc0 := 108) (pc' := 118) rfl (hb hby at_108) rfl (flt (by decide : ¬ ((2 : Int32) < (0 : Int32)))).2.2.2 (by decide) (by decide) ?_
    refine XS.iload X14.here hx rfl (hb hby at_118) rfl ?_
    refine XS.iconst X14.here hx rfl (hb hby at_120) ?_
    show Steps _ _ _ (T14.setTop (mkF m 121 #[.val (.int p1), .val (.int p2), .val (.int p3), .val (.int p4), .val (.int c0), .val (.int c1), .val (.int c2), .val (.ref ar), .val (.ref x), .val (.ref b11), .val (.int 0), .unset, .unset] [(.int 3), (.int 0)])) _
    refine XS.icmpYes X14.here hx rfl (pc0 := 121) (pc' := 144) rfl (hb hby at_121) rfl (flt (by decide : ¬ ((3 : Int32) < (0 : Int32)))).2.2.2 (by decide) (by decide) ?_
    refine XS.aload X14.here hx rfl (hb hby at_144) rfl rfl ?_
    refine XS.iconst X14.here hx rfl (hb hby at_146) ?_
    show Steps _ _ _ (T14.setTop (mkF m 147 #[.val (.int p1), .val (.int p2), .val (.int p3), .val (.int p4), .val (.int c0), .val (.int c1), .val (.int c2), .val (.ref ar), .val (.ref x), .val (.ref b11), .val (.int 0), .unset, .unset] [(.int 0), (.ref b11)])) _
    refine st20 _ ?_
    show Steps _ _ _ (T20.setTop (mkF m 149 #[.val (.int p1), .val (.int p2), .val (.int p3), .val (.int p4), .val (.int c0), .val (.int c1), .val (.int c2), .val (.ref ar), .val (.ref x), .val (.ref b11), .val (.int 0), .unset, .unset] [(.ref b20), (.int 0), (.ref b11)])) _
    refine st21.trans ?_
    show Steps _ _ _ (T21.setTop (mkF m 152 #[.val (.int p1), .val (.int p2), .val (.int p3), .val (.int p4), .val (.int c0), .val (.int c1), .val (.int c2), .val (.ref ar), .val (.ref x), .val (.ref b11), .val (.int 0), .unset, .unset] [(.ref y21)])) _
    refine XS.astore X21.here hx rfl (hb hby at_152) rfl rfl (l' := #[.val (.int p1), .val (.int p2), .val (.int p3), .val (.int p4), .val (.int c0), .val (.int c1), .val (.int c2), .val (.ref ar), .val (.ref x), .val (.ref b11), .val (.int 0), .val (.ref y21), .unset]) rfl ?_
    refine XS.iconst X21.here hx rfl (hb hby at_154) ?_
    refine XS.iload X21.here hx rfl (hb hby at_155) rfl ?_
    refine XS.isub X21.here hx rfl (hb hby at_157) rfl ?_
    show Steps _ _ _ (T21.setTop (mkF m 158 #[.val (.int p1), .val (.int p2), .val (.int p3), .val (.int p4), .val (.int c0), .val (.int c1), .val (.int c2), .val (.ref ar), .val (.ref x), .val (.ref b11), .val (.int 0), .val (.ref y21), .unset] [(.int ((3 : Int32) - (0 : Int32)))])) _
    rw [(by decide : ((3 : Int32) - (0 : Int32)) = (3 : Int32))]
    show Steps _ _ _ (T21.setTop (mkF m 158 #[.val (.int p1), .val (.int p2), .val (.int p3), .val (.int p4), .val (.int c0), .val (.int c1), .val (.int c2), .val (.ref ar), .val (.ref x), .val (.ref b11), .val (.int 0), .val (.ref y21), .unset] [(.int 3)])) _
    refine XS.istore X21.here hx rfl (hb hby at_158) rfl (l' := #[.val (.int p1), .val (.int p2), .val (.int p3), .val (.int p4), .val (.int c0), .val (.int c1), .val (.int c2), .val (.ref ar), .val (.ref x), .val (.ref b11), .val (.int 0), .val (.ref y21), .val (.int 3)]) rfl ?_
    refine XS.aload X21.here hx rfl (hb hby at_160) rfl rfl ?_
    show Steps _ _ _ (T21.setTop (mkF m 162 #[.val (.int p1), .val (.int p2), .val (.int p3), .val (.int p4), .val (.int c0), .val (.int c1), .val (.int c2), .val (.ref ar), .val (.ref x), .val (.ref b11), .val (.int 0), .val (.ref y21), .val (.int 3)] [(.ref y21)])) _
    refine st27.trans ?_
    show Steps _ _ _ (T27.setTop (mkF m 165 #[.val (.int p1), .val (.int p2), .val (.int p3), .val (.int p4), .val (.int c0), .val (.int c1), .val (.int c2), .val (.ref ar), .val (.ref x), .val (.ref b11), .val (.int 0), .val (.ref y21), .val (.int 3)] [(.int (Int32.ofNat ((([c0, c1, c2, 0] : List Int32).drop 0).take 3).length))])) _
    rw [(rfl : Int32.ofNat ((([c0, c1, c2, 0] : List Int32).drop 0).take 3).length = (3 : Int32))]
    show Steps _ _ _ (T27.setTop (mkF m 165 #[.val (.int p1), .val (.int p2), .val (.int p3), .val (.int p4), .val (.int c0), .val (.int c1), .val (.int c2), .val (.ref ar), .val (.ref x), .val (.ref b11), .val (.int 0), .val (.ref y21), .val (.int 3)] [(.int 3)])) _
    refine XS.iload X27.here hx rfl (hb hby at_165) rfl ?_
    refine XS.icmpYes X27.here hx rfl (pc0 := 167) (pc' := 172) rfl (hb hby at_167) rfl (teq (by decide : (3 : Int32) = (3 : Int32))).1 (by decide) (by decide) ?_
    refine XS.iload X27.here hx rfl (hb hby at_172) rfl ?_
    refine XS.iconst X27.here hx rfl (hb hby at_174) ?_
    refine XS.icmpNo X27.here hx rfl (hb hby at_175) rfl (flt (by decide : ¬ ((3 : Int32) < (1 : Int32)))).1 ?_
    refine XS.aload X27.here hx rfl (hb hby at_178) rfl rfl ?_
    refine XS.iconst X27.here hx rfl (hb hby at_180) ?_
    show Steps _ _ _ (T27.setTop (mkF m 181 #[.val (.int p1), .val (.int p2), .val (.int p3), .val (.int p4), .val (.int c0), .val (.int c1), .val (.int c2), .val (.ref ar), .val (.ref x), .val (.ref b11), .val (.int 0), .val (.ref y21), .val (.int 3)] [(.int 0), (.ref y21)])) _
    refine st29.trans ?_
    show Steps _ _ _ (T29.setTop (mkF m 184 #[.val (.int p1), .val (.int p2), .val (.int p3), .val (.int p4), .val (.int c0), .val (.int c1), .val (.int c2), .val (.ref ar), .val (.ref x), .val (.ref b11), .val (.int 0), .val (.ref y21), .val (.int 3)] [(.int (((([c0, c1, c2, 0] : List Int32).drop 0).take 3).getD 0 0))])) _
    refine XS.aload X29.here hx rfl (hb hby at_184) rfl rfl ?_
    refine XS.iload X29.here hx rfl (hb hby at_186) rfl ?_
    show Steps _ _ _ (T29.setTop (mkF m 188 #[.val (.int p1), .val (.int p2), .val (.int p3), .val (.int p4), .val (.int c0), .val (.int c1), .val (.int c2), .val (.ref ar), .val (.ref x), .val (.ref b11), .val (.int 0), .val (.ref y21), .val (.int 3)] [(.int 0), (.ref ar), (.int (((([c0, c1, c2, 0] : List Int32).drop 0).take 3).getD 0 0))])) _
    refine X29.caload hx (j := (0 : Int32)) (v := (.int c0)) (by rw [eq29]; exact Ar30.1) (State.isArrayOf_alike hZ20.alike Ar30.2.1) Ar30.2.2 hin30 (H30.at hin30 rfl) (g := (mkF m 188 #[.val (.int p1), .val (.int p2), .val (.int p3), .val (.int p4), .val (.int c0), .val (.int c1), .val (.int c2), .val (.ref ar), .val (.ref x), .val (.ref b11), .val (.int 0), .val (.ref y21), .val (.int 3)] [(.int 0), (.ref ar), (.int (((([c0, c1, c2, 0] : List Int32).drop 0).take 3).getD 0 0))])) rfl rfl (hb hby at_188) _ ?_
    show Steps _ _ _ (T29.setTop (mkF m 189 #[.val (.int p1), .val (.int p2), .val (.int p3), .val (.int p4), .val (.int c0), .val (.int c1), .val (.int c2), .val (.ref ar), .val (.ref x), .val (.ref b11), .val (.int 0), .val (.ref y21), .val (.int 3)] [(.int c0), (.int (((([c0, c1, c2, 0] : List Int32).drop 0).take 3).getD 0 0))])) _
    refine XS.icmpYes X29.here hx rfl (pc0 := 189) (pc' := 194) rfl (hb hby at_189) rfl (teq rfl).1 (by decide) (by decide) ?_
    refine XS.iload X29.here hx rfl (hb hby at_194) rfl ?_
    refine XS.iconst X29.here hx rfl (hb hby at_196) ?_
    refine XS.icmpNo X29.here hx rfl (hb hby at_197) rfl (flt (by decide : ¬ ((3 : Int32) < (2 : Int32)))).1 ?_
    refine XS.aload X29.here hx rfl (hb hby at_200) rfl rfl ?_
    refine XS.iconst X29.here hx rfl (hb hby at_202) ?_
    show Steps _ _ _ (T29.setTop (mkF m 203 #[.val (.int p1), .val (.int p2), .val (.int p3), .val (.int p4), .val (.int c0), .val (.int c1), .val (.int c2), .val (.ref ar), .val (.ref x), .val (.ref b11), .val (.int 0), .val (.ref y21), .val (.int 3)] [(.int 1), (.ref y21)])) _
    refine st32.trans ?_
    show Steps _ _ _ (T32.setTop (mkF m 206 #[.val (.int p1), .val (.int p2), .val (.int p3), .val (.int p4), .val (.int c0), .val (.int c1), .val (.int c2), .val (.ref ar), .val (.ref x), .val (.ref b11), .val (.int 0), .val (.ref y21), .val (.int 3)] [(.int (((([c0, c1, c2, 0] : List Int32).drop 0).take 3).getD 1 0))])) _
    refine XS.aload X32.here hx rfl (hb hby at_206) rfl rfl ?_
    refine XS.iload X32.here hx rfl (hb hby at_208) rfl ?_
    refine XS.iconst X32.here hx rfl (hb hby at_210) ?_
    refine XS.iadd X32.here hx rfl (hb hby at_211) rfl ?_
    show Steps _ _ _ (T32.setTop (mkF m 212 #[.val (.int p1), .val (.int p2), .val (.int p3), .val (.int p4), .val (.int c0), .val (.int c1), .val (.int c2), .val (.ref ar), .val (.ref x), .val (.ref b11), .val (.int 0), .val (.ref y21), .val (.int 3)] [(.int ((0 : Int32) + (1 : Int32))), (.ref ar), (.int (((([c0, c1, c2, 0] : List Int32).drop 0).take 3).getD 1 0))])) _
    rw [(by decide : ((0 : Int32) + (1 : Int32)) = (1 : Int32))]
    show Steps _ _ _ (T32.setTop (mkF m 212 #[.val (.int p1), .val (.int p2), .val (.int p3), .val (.int p4), .val (.int c0), .val (.int c1), .val (.int c2), .val (.ref ar), .val (.ref x), .val (.ref b11), .val (.int 0), .val (.ref y21), .val (.int 3)] [(.int 1), (.ref ar), (.int (((([c0, c1, c2, 0] : List Int32).drop 0).take 3).getD 1 0))])) _
    refine X32.caload hx (j := (1 : Int32)) (v := (.int c1)) (by rw [eq32]; exact Ar33.1) (State.isArrayOf_alike hZ20.alike Ar33.2.1) Ar33.2.2 hin33 (H33.at hin33 rfl) (g := (mkF m 212 #[.val (.int p1), .val (.int p2), .val (.int p3), .val (.int p4), .val (.int c0), .val (.int c1), .val (.int c2), .val (.ref ar), .val (.ref x), .val (.ref b11), .val (.int 0), .val (.ref y21), .val (.int 3)] [(.int 1), (.ref ar), (.int (((([c0, c1, c2, 0] : List Int32).drop 0).take 3).getD 1 0))])) rfl rfl (hb hby at_212) _ ?_
    show Steps _ _ _ (T32.setTop (mkF m 213 #[.val (.int p1), .val (.int p2), .val (.int p3), .val (.int p4), .val (.int c0), .val (.int c1), .val (.int c2), .val (.ref ar), .val (.ref x), .val (.ref b11), .val (.int 0), .val (.ref y21), .val (.int 3)] [(.int c1), (.int (((([c0, c1, c2, 0] : List Int32).drop 0).take 3).getD 1 0))])) _
    refine XS.icmpYes X32.here hx rfl (pc0 := 213) (pc' := 218) rfl (hb hby at_213) rfl (teq rfl).1 (by decide) (by decide) ?_
    refine XS.iload X32.here hx rfl (hb hby at_218) rfl ?_
    refine XS.iconst X32.here hx rfl (hb hby at_220) ?_
    refine XS.icmpNo X32.here hx rfl (hb hby at_221) rfl (flt (by decide : ¬ ((3 : Int32) < (3 : Int32)))).1 ?_
    refine XS.aload X32.here hx rfl (hb hby at_224) rfl rfl ?_
    refine XS.iconst X32.here hx rfl (hb hby at_226) ?_
    show Steps _ _ _ (T32.setTop (mkF m 227 #[.val (.int p1), .val (.int p2), .val (.int p3), .val (.int p4), .val (.int c0), .val (.int c1), .val (.int c2), .val (.ref ar), .val (.ref x), .val (.ref b11), .val (.int 0), .val (.ref y21), .val (.int 3)] [(.int 2), (.ref y21)])) _
    refine st34.trans ?_
    show Steps _ _ _ (T34.setTop (mkF m 230 #[.val (.int p1), .val (.int p2), .val (.int p3), .val (.int p4), .val (.int c0), .val (.int c1), .val (.int c2), .val (.ref ar), .val (.ref x), .val (.ref b11), .val (.int 0), .val (.ref y21), .val (.int 3)] [(.int (((([c0, c1, c2, 0] : List Int32).drop 0).take 3).getD 2 0))])) _
    refine XS.aload X34.here hx rfl (hb hby at_230) rfl rfl ?_
    refine XS.iload X34.here hx rfl (hb hby at_232) rfl ?_
    refine XS.iconst X34.here hx rfl (hb hby at_234) ?_
    refine XS.iadd X34.here hx rfl (hb hby at_235) rfl ?_
    show Steps _ _ _ (T34.setTop (mkF m 236 #[.val (.int p1), .val (.int p2), .val (.int p3), .val (.int p4), .val (.int c0), .val (.int c1), .val (.int c2), .val (.ref ar), .val (.ref x), .val (.ref b11), .val (.int 0), .val (.ref y21), .val (.int 3)] [(.int ((0 : Int32) + (2 : Int32))), (.ref ar), (.int (((([c0, c1, c2, 0] : List Int32).drop 0).take 3).getD 2 0))])) _
    rw [(by decide : ((0 : Int32) + (2 : Int32)) = (2 : Int32))]
    show Steps _ _ _ (T34.setTop (mkF m 236 #[.val (.int p1), .val (.int p2), .val (.int p3), .val (.int p4), .val (.int c0), .val (.int c1), .val (.int c2), .val (.ref ar), .val (.ref x), .val (.ref b11), .val (.int 0), .val (.ref y21), .val (.int 3)] [(.int 2), (.ref ar), (.int (((([c0, c1, c2, 0] : List Int32).drop 0).take 3).getD 2 0))])) _
    refine X34.caload hx (j := (2 : Int32)) (v := (.int c2)) (by rw [eq34]; exact Ar35.1) (State.isArrayOf_alike hZ20.alike Ar35.2.1) Ar35.2.2 hin35 (H35.at hin35 rfl) (g := (mkF m 236 #[.val (.int p1), .val (.int p2), .val (.int p3), .val (.int p4), .val (.int c0), .val (.int c1), .val (.int c2), .val (.ref ar), .val (.ref x), .val (.ref b11), .val (.int 0), .val (.ref y21), .val (.int 3)] [(.int 2), (.ref ar), (.int (((([c0, c1, c2, 0] : List Int32).drop 0).take 3).getD 2 0))])) rfl rfl (hb hby at_236) _ ?_
    show Steps _ _ _ (T34.setTop (mkF m 237 #[.val (.int p1), .val (.int p2), .val (.int p3), .val (.int p4), .val (.int c0), .val (.int c1), .val (.int c2), .val (.ref ar), .val (.ref x), .val (.ref b11), .val (.int 0), .val (.ref y21), .val (.int 3)] [(.int c2), (.int (((([c0, c1, c2, 0] : List Int32).drop 0).take 3).getD 2 0))])) _
    refine XS.icmpYes X34.here hx rfl (pc0 := 237) (pc' := 242) rfl (hb hby at_237) rfl (teq rfl).1 (by decide) (by decide) ?_
    refine XS.aload X34.here hx rfl (hb hby at_242) rfl rfl ?_
    show Steps _ _ _ (T34.setTop (mkF m 244 #[.val (.int p1), .val (.int p2), .val (.int p3), .val (.int p4), .val (.int c0), .val (.int c1), .val (.int c2), .val (.ref ar), .val (.ref x), .val (.ref b11), .val (.int 0), .val (.ref y21), .val (.int 3)] [(.ref b11)])) _
    refine st36.trans ?_
    show Steps _ _ _ (T36.setTop (mkF m 247 #[.val (.int p1), .val (.int p2), .val (.int p3), .val (.int p4), .val (.int c0), .val (.int c1), .val (.int c2), .val (.ref ar), .val (.ref x), .val (.ref b11), .val (.int 0), .val (.ref y21), .val (.int 3)] [(.int 0)])) _
    refine XS.ifNo X36.here hx rfl (hb hby at_247) rfl ((if0 _ _).trans (teq (by decide : (0 : Int32) = (0 : Int32))).2) ?_
    refine XS.iconst X36.here hx rfl (hb hby at_250) ?_
    refine XS.goto X36.here hx rfl (pc0 := 251) (pc' := 255) rfl (hb hby at_251) (by decide) (by decide) ?_
    show Steps _ _ _ (T36.setTop (mkF m 255 #[.val (.int p1), .val (.int p2), .val (.int p3), .val (.int p4), .val (.int c0), .val (.int c1), .val (.int c2), .val (.ref ar), .val (.ref x), .val (.ref b11), .val (.int 0), .val (.ref y21), .val (.int 3)] [(.int 1)])) _
    exact retN X36 hx (t := .boolean) Bd.returns (by simp) (hb hby at_255) hr
  · show Q0 Z  h0 n0 _ T36.heap _
    rw [eq36]
    exact ⟨rfl, N36⟩
theorem rm0_1 (l : Launch) (Z : State) (a0 : Array Value) (hw : HW a0 Z) (ws : List Jvm.Cond) (G1 : Int32) (G3 : Value) (G4 : Value) (p1 : Int32) (p2 : Int32) (p3 : Int32) (p4 : Int32) (h0 : Heap) (n0 : Nat) (Z0 : n0 ≤ h0.size) (EN : own_env Z G1 G3 G4) (X00 : Old Z n0 h0) (hn5 : ((p4 &&& (2147483647 : Int32)) % (5 : Int32)) = (1 : Int32)) :
    MetFree l x (head1 (Jvm.Cond.code x code maxLocals ret :: ws) room_1) (fun a_ U_ => a_ = #[(.int p1), (.int p2), (.int p3), (.int p4)] ∧ Z.Warmed39 U_.vm ∧ U_.heap = h0) (fun _ _ _ _ _ => True) (fun _ U_ o_ U1_ => ∃ v_ L_, o_ = .returned v_ ∧ Q0 Z  h0 n0 v_ U1_.heap L_ ∧ ReturnedEndW U_ o_ U1_ L_ 40 5312) := by
  refine MetFree.of_bodySF (plainFor_of_name pn_0) hisR ?_
  intro p e s m args below meth c s₁ Bd hml0 hP hK
  obtain ⟨rfl, hZ, hh⟩ := hP
  have hx := Bd.exec
  have hby := Bd.bytes
  have hml : c.maxLocals = 13 := hml0
  have hown : s.vm.findClass "com/example/atomize/atomize/http/FieldValueReaderExpectPinLaw" = some m.cls := findClass_of_methodNamed Bd.named
  have hnm := (name_of_methodNamed Bd.named Bd.method).1
  have X0 : Stand p l e room_1 s m #[(.int p1), (.int p2), (.int p3), (.int p4)] below meth c s₁ [] 0 0 := Stand.of_body Bd
  have e0 : s₁.heap = h0 := by rw [← hh, Bd.state]; rfl
  have N0 := Fr.nil n0
  have pre0 : ∀ tt, Steps p.tables e below (s₁.setTop (mkF m 0 #[.val (.int p1), .val (.int p2), .val (.int p3), .val (.int p4), .unset, .unset, .unset, .unset, .unset, .unset, .unset, .unset, .unset] [])) tt → Steps p.tables e below (s₁.setTop (entryFrame m #[(.int p1), (.int p2), (.int p3), (.int p4)] maxLocals)) tt := fun tt kk => castTop (ef_0_rrrr m p1 p2 p3 p4) kk
  have hS0 : s.Since s.vm 0 := (State.WarmedH.refl s).since 0
  have hk0 : 0 ≤ h0.size := Nat.zero_le _
  have EN0 := EN
  obtain ⟨O2, P5, O4, rG3, O6, O7, O8⟩ := EN
  obtain ⟨Tv1, hv1, Lv1, c0, c1, c2, ar, ka, x, Xv1, ev1, Nv1, Zv1, Ov1, Kv1, Vv1, Sv1, d0, d1, d2, stv1⟩ := fr1 G1 G3 G4 p1 p2 p3 p4 h0 n0 X0 hx hZ hw hby hml hown e0 N0 Z0 EN0 X00
  have Exv := own_st_exa Sv1
  have hcc4 := own_c4 d0.1 d1.1 d2.1
  obtain ⟨T11, h11, X11, e11, E11, A11, D11, -, st11⟩ := newO Xv1 hx hZ hown (hw _ (tk 36 rfl)) (hw _ (tk 37 rfl)) (hw _ (tk 38 rfl)) ev1 (g := (mkF m 57 #[.val (.int p1), .val (.int p2), .val (.int p3), .val (.int p4), .val (.int c0), .val (.int c1), .val (.int c2), .val (.ref ar), .val (.ref x), .unset, .unset, .unset, .unset] [])) rfl (hb hby at_57) (by decide) (by decide)
  obtain ⟨b11, g11⟩ : ∃ z, z = hv1.size := ⟨_, rfl⟩
  rw [← g11] at A11 D11 st11
  have g_b11 : n0 ≤ b11 := Nat.le_trans (Nat.le_trans Z0 Kv1.1) (Nat.le_of_eq g11.symm)
  have sz_b11 : h0.size ≤ b11 := Nat.le_trans Kv1.1 (Nat.le_of_eq g11.symm)
  have F11_name : Fld Z h11 b11 "com/example/atomize/atomize/http/FieldValueReader" "name" "Ljava/lang/String;" .null := D11 (Or.inr (hw _ (tk 48 rfl))) (ty := (.object "java/lang/String")) (by decide)
  have F11_text : Fld Z h11 b11 "com/example/atomize/atomize/http/FieldValueReader" "text" "Ljava/lang/String;" .null := D11 (Or.inr (hw _ (tk 50 rfl))) (ty := (.object "java/lang/String")) (by decide)
  have F11_grammar : Fld Z h11 b11 "com/example/atomize/atomize/http/FieldValueReader" "grammar" "Ljava/lang/String;" .null := D11 (Or.inr (hw _ (tk 52 rfl))) (ty := (.object "java/lang/String")) (by decide)
  have F11_position : Fld Z h11 b11 "com/example/atomize/atomize/http/FieldValueReader" "position" "I" (.int 0) := D11 (Or.inl (hw _ (tk 59 rfl))) (ty := .int) (by decide)
  obtain ⟨b12, T12, h12, k12, X12, e12, E12, hS12, hk12, hZ12, hown12, st12⟩ := ldcS (s := s) (vm0 := s.vm) X11 hx hZ hown (hw _ (tk 39 rfl)) (fun d hd => hw d (own_wS d hd)) e11 hS0 (Nat.le_trans hk0 (Nat.le_trans Kv1.1 E11.1)) (g := (mkF m 61 #[.val (.int p1), .val (.int p2), .val (.int p3), .val (.int p4), .val (.int c0), .val (.int c1), .val (.int c2), .val (.ref ar), .val (.ref x), .unset, .unset, .unset, .unset] [(.ref b11), (.ref b11)])) rfl (hb hby at_61) (n := 4) (by decide) (by decide) (by decide) (by decide)
  obtain ⟨b13, T13, h13, k13, X13, e13, E13, hS13, hk13, hZ13, hown13, st13⟩ := ldcS (s := s) (vm0 := T12.vm) X12 hx hZ12 hown12 (hw _ (tk 42 rfl)) (fun d hd => hw d (own_wS d hd)) e12 hS12 hk12 (g := (mkF m 65 #[.val (.int p1), .val (.int p2), .val (.int p3), .val (.int p4), .val (.int c0), .val (.int c1), .val (.int c2), .val (.ref ar), .val (.ref x), .unset, .unset, .unset, .unset] [(.ref x), (.ref b12), (.ref b11), (.ref b11)])) rfl (hb hby at_65) (n := 4) (by decide) (by decide) (by decide) (by decide)
  have f15 := ((A11.ext E12).ext E13)
  have f16 := ((F11_name.ext E12).ext E13)
  have f17 := ((F11_text.ext E12).ext E13)
  have f18 := ((F11_grammar.ext E12).ext E13)
  have f19 := ((F11_position.ext E12).ext E13)
  obtain ⟨_, _, ⟨T14, L14, k14, n14⟩, -, X14, ⟨Lc14, hQ14, l14, y14, z14⟩, st14⟩ := X13.specialBack hx (y := y_26) rfl hown13 (mvT hZ13 (hw _ (tk 43 rfl))) (mvT hZ13 (hw _ (tk 44 rfl))) (mvT hZ13 (hw _ (tk 45 rfl))) (by decide) (backOf (W := 1) (rmFI l Z a0 hw [] b11 b12 x b13 h13 n0 (Nat.le_trans Z0 (Nat.le_trans (Nat.le_trans (Nat.le_trans Kv1.1 E11.1) E12.1) E13.1)) f15 f16 f17 f18 f19 g_b11) hZ13 (hw _ (tk 45 rfl)) (hw _ (tk 38 rfl)) (by decide) (by decide)) (g := (mkF m 67 #[.val (.int p1), .val (.int p2), .val (.int p3), .val (.int p4), .val (.int c0), .val (.int c1), .val (.int c2), .val (.ref ar), .val (.ref x), .unset, .unset, .unset, .unset] [(.ref b13), (.ref x), (.ref b12), (.ref b11), (.ref b11)])) rfl (by rw [hml]; rfl) (Steps.refl _) (a := b11) (argsL := [(.ref b12), (.ref x), (.ref b13)]) (rest := [(.ref b11)]) (lenOf pd__Ljava_lang_String_Ljava_lang_String_Ljava_lang_String__V rfl) rfl (by show 2 * 0 + _ ≤ _; exact Nat.le_of_eq rfl) (hb hby at_67) (fun _ _ => ⟨rfl, e13, (by decide : 9 + 0 ≤ _), (by decide : 40 + 0 ≤ _)⟩)
  dsimp only [Pt.U, Pt.locs, Pt.cells, Pt.slots] at X14 l14 y14 z14 st14 hQ14
  subst l14 y14 z14
  obtain ⟨rfl, Nq14, Kq14, Er14, Ft14, Fp14⟩ := hQ14
  have N14 := Fr.app Nv1 Nq14
  have f21 := ((((Ov1.ext E11).ext E12).ext E13).keep Kq14 (allS g_b11 all0))
  have St22 := (own_st_keepR (own_st_ext (own_st_ext (own_st_ext Sv1 E11) E12) E13) Kq14 f15 (by decide) (hw _ (tk 37 rfl)))
  obtain ⟨cq20, kq20, q20a, q20b, q20c⟩ := isOf hZ13 rfl Er14
  obtain ⟨_, _, ⟨T20, L20, k20, n20⟩, -, X20, ⟨Lc20, hQ20, l20, y20, z20⟩, st20⟩ := X14.virtualBack hx (y := y_27) (z := y_27) hown13 (mvT hZ13 (hw _ (tk 53 rfl))) (mvT hZ13 (hw _ (tk 54 rfl))) (notFace_of_selects (args := #[]) (mvT hZ13 (hw _ (tk 56 rfl)))) (mvT hZ13 (hw _ (tk 56 rfl))) (mvT hZ13 (hw _ (tk 55 rfl))) (by decide) (backOf (W := 0) (rmEX l Z a0 hw [] G1 G3 G4 b11 c0 x ([c0, c1, c2, 0] : List Int32) 0 T14.heap n0 (Nat.le_trans Z0 (Nat.le_trans (Nat.le_trans (Nat.le_trans (Nat.le_trans Kv1.1 E11.1) E12.1) E13.1) Kq14.1)) EN0 f21 Er14 Ft14 Fp14 g_b11 St22 (Nat.le_of_ble_eq_true rfl) hcc4 (Nat.le_of_ble_eq_true rfl) rfl) hZ13 (hw _ (tk 57 rfl)) (hw _ (tk 38 rfl)) (by decide) (by decide)) q20a q20c (g := (mkF m 89 #[.val (.int p1), .val (.int p2), .val (.int p3), .val (.int p4), .val (.int c0), .val (.int c1), .val (.int c2), .val (.ref ar), .val (.ref x), .val (.ref b11), .val (.int 1), .unset, .unset] [(.int c0), (.ref b11)])) rfl (by rw [hml]; rfl) (Steps.refl _) (argsL := [(.int c0)]) (rest := []) (lenOf pd__C_V rfl) rfl (by show 2 * 0 + _ ≤ _; exact Nat.le_of_eq rfl) (hb hby at_89) (fun _ _ => ⟨rfl, rfl, (by decide : 9 + 0 ≤ _), (by decide : 40 + 0 ≤ _)⟩)
  dsimp only [Pt.U, Pt.locs, Pt.cells, Pt.slots] at X20 l20 y20 z20 st20 hQ20
  subst l20 y20 z20
  obtain ⟨rfl, Nq20, Kq20, Er20, Ft20, Fp20⟩ := hQ20
  have N20 := Fr.app N14 Nq20
  obtain ⟨b23, T23, h23, k23, X23, e23, E23, hS23, hk23, hZ23, hown23, st23⟩ := ldcS (s := s) (vm0 := T13.vm) X20 hx hZ13 hown13 (hw _ (tk 92 rfl)) (fun d hd => hw d (own_wS d hd)) rfl hS13 (Nat.le_trans hk13 (Nat.le_trans Kq14.1 Kq20.1)) (g := (mkF m 147 #[.val (.int p1), .val (.int p2), .val (.int p3), .val (.int p4), .val (.int c0), .val (.int c1), .val (.int c2), .val (.ref ar), .val (.ref x), .val (.ref b11), .val (.int 1), .unset, .unset] [(.int 0), (.ref b11)])) rfl (hb hby at_147) (n := 4) (by decide) (by decide) (by decide) (by decide)
  have f25 := (Er20.ext E23)
  have f26 := ((f21.keep Kq20 (allS g_b11 all0)).ext E23)
  have f27 := (Ft20.ext E23)
  have f28 := (Fp20.ext E23)
  have St29 := (own_st_ext (own_st_keepR St22 Kq20 Er14 (by decide) (hw _ (tk 37 rfl))) E23)
  obtain ⟨cq24, kq24, q24a, q24b, q24c⟩ := isOf hZ23 e23 f25
  obtain ⟨_, _, ⟨T24, L24, k24, n24⟩, -, X24, ⟨Lc24, hQ24, l24, y24, z24⟩, st24⟩ := X23.virtualBack hx (y := y_47) (z := y_47) hown23 (mvT hZ23 (hw _ (tk 93 rfl))) (mvT hZ23 (hw _ (tk 94 rfl))) (notFace_of_selects (args := #[]) (mvT hZ23 (hw _ (tk 96 rfl)))) (mvT hZ23 (hw _ (tk 96 rfl))) (mvT hZ23 (hw _ (tk 95 rfl))) (by decide) (backOf (W := 0) (rmUP l Z a0 hw [] G1 G3 G4 b11 b23 x ([c0, c1, c2, 0] : List Int32) 1 2 h23 n0 (Nat.le_trans Z0 (Nat.le_trans (Nat.le_trans (Nat.le_trans (Nat.le_trans (Nat.le_trans (Nat.le_trans Kv1.1 E11.1) E12.1) E13.1) Kq14.1) Kq20.1) E23.1)) EN0 f26 f25 f27 f28 g_b11 St29 (Nat.le_of_ble_eq_true rfl) hcc4 (Nat.le_of_ble_eq_true rfl) (Nat.le_of_ble_eq_true rfl) (Nat.le_of_ble_eq_true rfl) (Nat.le_of_ble_eq_true rfl) rfl (own_nz3 d0.2 d1.2 d2.2 1)) hZ23 (hw _ (tk 97 rfl)) (hw _ (tk 38 rfl)) (by decide) (by decide)) q24a q24c (g := (mkF m 149 #[.val (.int p1), .val (.int p2), .val (.int p3), .val (.int p4), .val (.int c0), .val (.int c1), .val (.int c2), .val (.ref ar), .val (.ref x), .val (.ref b11), .val (.int 1), .unset, .unset] [(.ref b23), (.int 0), (.ref b11)])) rfl (by rw [hml]; rfl) (Steps.refl _) (argsL := [(.int 0), (.ref b23)]) (rest := []) (lenOf pd__CLjava_lang_String__Ljava_lang_String_ rfl) rfl (by show 2 * 0 + _ ≤ _; exact Nat.le_of_eq rfl) (hb hby at_149) (fun _ _ => ⟨rfl, e23, (by decide : 11 + 3 ≤ _), (by decide : 48 + 24 ≤ _)⟩)
  dsimp only [Pt.U, Pt.locs, Pt.cells, Pt.slots] at X24 l24 y24 z24 st24 hQ24
  subst l24 y24 z24
  obtain ⟨y24, rfl, Nq24, sz24, Kq24, S24, Er24, Ft24, Fp24⟩ := hQ24
  have N24 := Fr.app N20 Nq24
  have g24x : n0 ≤ y24 := Nat.le_trans (Nat.le_trans Z0 (Nat.le_trans (Nat.le_trans (Nat.le_trans (Nat.le_trans (Nat.le_trans (Nat.le_trans Kv1.1 E11.1) E12.1) E13.1) Kq14.1) Kq20.1) E23.1)) sz24
  have szx24 : h0.size ≤ y24 := Nat.le_trans (Nat.le_trans (Nat.le_trans (Nat.le_trans (Nat.le_trans (Nat.le_trans (Nat.le_trans Kv1.1 E11.1) E12.1) E13.1) Kq14.1) Kq20.1) E23.1) sz24
  have E24q := own_st_exa S24
  have f31 := (f26.keep Kq24 (allS g_b11 all0))
  obtain ⟨cq30, kq30, q30a, q30b, q30c⟩ := isOf hZ23 rfl E24q
  obtain ⟨_, _, ⟨T30, L30, k30, n30⟩, -, X30, ⟨Lc30, hQ30, l30, y30, z30⟩, st30⟩ := X24.virtualBack hx (y := y_15) (z := y_15) hown23 (mvT hZ23 (hw _ (tk 153 rfl))) (mvT hZ23 (hw _ (tk 61 rfl))) (notFace_of_selects (args := #[]) (mvT hZ23 (hw _ (tk 63 rfl)))) (mvT hZ23 (hw _ (tk 63 rfl))) (mvT hZ23 (hw _ (tk 62 rfl))) (by decide) (backOf (W := 0) (rmLE l Z a0 hw [] G1 G3 G4 y24 ((([c0, c1, c2, 0] : List Int32).drop 1).take 2) T24.heap n0 (Nat.le_trans Z0 (Nat.le_trans (Nat.le_trans (Nat.le_trans (Nat.le_trans (Nat.le_trans (Nat.le_trans (Nat.le_trans Kv1.1 E11.1) E12.1) E13.1) Kq14.1) Kq20.1) E23.1) Kq24.1)) EN0 f31 S24 (Nat.le_of_ble_eq_true rfl)) hZ23 (hw _ (tk 64 rfl)) (hw _ (tk 9 rfl)) (by decide) (by decide)) q30a q30c (g := (mkF m 162 #[.val (.int p1), .val (.int p2), .val (.int p3), .val (.int p4), .val (.int c0), .val (.int c1), .val (.int c2), .val (.ref ar), .val (.ref x), .val (.ref b11), .val (.int 1), .val (.ref y24), .val (.int 2)] [(.ref y24)])) rfl (by rw [hml]; rfl) (Steps.refl _) (argsL := []) (rest := []) (lenOf pd___I rfl) rfl (by show 2 * 0 + _ ≤ _; exact Nat.le_of_eq rfl) (hb hby at_162) (fun _ _ => ⟨rfl, rfl, (by decide : 14 + 0 ≤ _), (by decide : 72 + 0 ≤ _)⟩)
  dsimp only [Pt.U, Pt.locs, Pt.cells, Pt.slots] at X30 l30 y30 z30 st30 hQ30
  subst l30 y30 z30
  obtain ⟨rfl, Nq30, eq30⟩ := hQ30
  have N30 := Fr.app N24 Nq30
  obtain ⟨cq32, kq32, q32a, q32b, q32c⟩ := isOf hZ23 eq30 E24q
  obtain ⟨_, _, ⟨T32, L32, k32, n32⟩, -, X32, ⟨Lc32, hQ32, l32, y32, z32⟩, st32⟩ := X30.virtualBack hx (y := y_19) (z := y_19) hown23 (mvT hZ23 (hw _ (tk 154 rfl))) (mvT hZ23 (hw _ (tk 71 rfl))) (notFace_of_selects (args := #[]) (mvT hZ23 (hw _ (tk 73 rfl)))) (mvT hZ23 (hw _ (tk 73 rfl))) (mvT hZ23 (hw _ (tk 72 rfl))) (by decide) (backOf (W := 0) (rmCA l Z a0 hw [] G1 G3 G4 y24 ((([c0, c1, c2, 0] : List Int32).drop 1).take 2) 0 T24.heap n0 (Nat.le_trans Z0 (Nat.le_trans (Nat.le_trans (Nat.le_trans (Nat.le_trans (Nat.le_trans (Nat.le_trans (Nat.le_trans Kv1.1 E11.1) E12.1) E13.1) Kq14.1) Kq20.1) E23.1) Kq24.1)) EN0 f31 S24 (Nat.le_of_ble_eq_true rfl) (own_dsc hcc4) (Nat.le_of_ble_eq_true rfl)) hZ23 (hw _ (tk 74 rfl)) (hw _ (tk 9 rfl)) (by decide) (by decide)) q32a q32c (g := (mkF m 181 #[.val (.int p1), .val (.int p2), .val (.int p3), .val (.int p4), .val (.int c0), .val (.int c1), .val (.int c2), .val (.ref ar), .val (.ref x), .val (.ref b11), .val (.int 1), .val (.ref y24), .val (.int 2)] [(.int 0), (.ref y24)])) rfl (by rw [hml]; rfl) (Steps.refl _) (argsL := [(.int 0)]) (rest := []) (lenOf pd__I_C rfl) rfl (by show 2 * 0 + _ ≤ _; exact Nat.le_of_eq rfl) (hb hby at_181) (fun _ _ => ⟨rfl, eq30, (by decide : 14 + 0 ≤ _), (by decide : 72 + 0 ≤ _)⟩)
  dsimp only [Pt.U, Pt.locs, Pt.cells, Pt.slots] at X32 l32 y32 z32 st32 hQ32
  subst l32 y32 z32
  obtain ⟨rfl, Nq32, eq32⟩ := hQ32
  have N32 := Fr.app N30 Nq32
  have f34 := (((((((Vv1.ext E11).ext E12).ext E13).keep Kq14 (ninS (Nat.ne_of_lt (Nat.lt_of_lt_of_le Vv1.lt (Nat.le_of_eq g11.symm))) nin0)).keep Kq20 (ninS (Nat.ne_of_lt (Nat.lt_of_lt_of_le Vv1.lt (Nat.le_of_eq g11.symm))) nin0)).ext E23).keep Kq24 (ninS (Nat.ne_of_lt (Nat.lt_of_lt_of_le Vv1.lt (Nat.le_of_eq g11.symm))) nin0))
  obtain ⟨c33, Ar33, -, S33, M33, H33, -⟩ := id f34
  have hin33 := inb_of (j := (1 : Int32)) S33 ⟨by decide, by decide⟩
  obtain ⟨cq35, kq35, q35a, q35b, q35c⟩ := isOf hZ23 eq32 E24q
  obtain ⟨_, _, ⟨T35, L35, k35, n35⟩, -, X35, ⟨Lc35, hQ35, l35, y35, z35⟩, st35⟩ := X32.virtualBack hx (y := y_19) (z := y_19) hown23 (mvT hZ23 (hw _ (tk 154 rfl))) (mvT hZ23 (hw _ (tk 71 rfl))) (notFace_of_selects (args := #[]) (mvT hZ23 (hw _ (tk 73 rfl)))) (mvT hZ23 (hw _ (tk 73 rfl))) (mvT hZ23 (hw _ (tk 72 rfl))) (by decide) (backOf (W := 0) (rmCA l Z a0 hw [] G1 G3 G4 y24 ((([c0, c1, c2, 0] : List Int32).drop 1).take 2) 1 T24.heap n0 (Nat.le_trans Z0 (Nat.le_trans (Nat.le_trans (Nat.le_trans (Nat.le_trans (Nat.le_trans (Nat.le_trans (Nat.le_trans Kv1.1 E11.1) E12.1) E13.1) Kq14.1) Kq20.1) E23.1) Kq24.1)) EN0 f31 S24 (Nat.le_of_ble_eq_true rfl) (own_dsc hcc4) (Nat.le_of_ble_eq_true rfl)) hZ23 (hw _ (tk 74 rfl)) (hw _ (tk 9 rfl)) (by decide) (by decide)) q35a q35c (g := (mkF m 203 #[.val (.int p1), .val (.int p2), .val (.int p3), .val (.int p4), .val (.int c0), .val (.int c1), .val (.int c2), .val (.ref ar), .val (.ref x), .val (.ref b11), .val (.int 1), .val (.ref y24), .val (.int 2)] [(.int 1), (.ref y24)])) rfl (by rw [hml]; rfl) (Steps.refl _) (argsL := [(.int 1)]) (rest := []) (lenOf pd__I_C rfl) rfl (by show 2 * 0 + _ ≤ _; exact Nat.le_of_eq rfl) (hb hby at_203) (fun _ _ => ⟨rfl, eq32, (by decide : 14 + 0 ≤ _), (by decide : 72 + 0 ≤ _)⟩)
  dsimp only [Pt.U, Pt.locs, Pt.cells, Pt.slots] at X35 l35 y35 z35 st35 hQ35
  subst l35 y35 z35
  obtain ⟨rfl, Nq35, eq35⟩ := hQ35
  have N35 := Fr.app N32 Nq35
  obtain ⟨c36, Ar36, -, S36, M36, H36, -⟩ := id f34
  have hin36 := inb_of (j := (2 : Int32)) S36 ⟨by decide, by decide⟩
  have St38 := (own_st_keepR St29 Kq24 f25 (by decide) (hw _ (tk 37 rfl)))
  obtain ⟨cq37, kq37, q37a, q37b, q37c⟩ := isOf hZ23 eq35 Er24
  obtain ⟨_, _, ⟨T37, L37, k37, n37⟩, -, X37, ⟨Lc37, hQ37, l37, y37, z37⟩, st37⟩ := X35.virtualBack hx (y := y_28) (z := y_28) hown23 (mvT hZ23 (hw _ (tk 155 rfl))) (mvT hZ23 (hw _ (tk 156 rfl))) (notFace_of_selects (args := #[]) (mvT hZ23 (hw _ (tk 158 rfl)))) (mvT hZ23 (hw _ (tk 158 rfl))) (mvT hZ23 (hw _ (tk 157 rfl))) (by decide) (backOf (W := 0) (rmNX l Z a0 hw [] G1 G3 G4 b11 x ([c0, c1, c2, 0] : List Int32) 4 T24.heap n0 (Nat.le_trans Z0 (Nat.le_trans (Nat.le_trans (Nat.le_trans (Nat.le_trans (Nat.le_trans (Nat.le_trans (Nat.le_trans Kv1.1 E11.1) E12.1) E13.1) Kq14.1) Kq20.1) E23.1) Kq24.1)) EN0 f31 Er24 Ft24 Fp24 St38 (Nat.le_of_ble_eq_true rfl) hcc4 rfl) hZ23 (hw _ (tk 159 rfl)) (hw _ (tk 38 rfl)) (by decide) (by decide)) q37a q37c (g := (mkF m 244 #[.val (.int p1), .val (.int p2), .val (.int p3), .val (.int p4), .val (.int c0), .val (.int c1), .val (.int c2), .val (.ref ar), .val (.ref x), .val (.ref b11), .val (.int 1), .val (.ref y24), .val (.int 2)] [(.ref b11)])) rfl (by rw [hml]; rfl) (Steps.refl _) (argsL := []) (rest := []) (lenOf pd___Z rfl) rfl (by show 2 * 0 + _ ≤ _; exact Nat.le_of_eq rfl) (hb hby at_244) (fun _ _ => ⟨rfl, eq35, (by decide : 14 + 0 ≤ _), (by decide : 72 + 0 ≤ _)⟩)
  dsimp only [Pt.U, Pt.locs, Pt.cells, Pt.slots] at X37 l37 y37 z37 st37 hQ37
  subst l37 y37 z37
  obtain ⟨rfl, Nq37, eq37⟩ := hQ37
  have N37 := Fr.app N35 Nq37
  obtain ⟨fs, hr, hrun, hended, hfin⟩ := X37.leaveW hS23 (by rw [eq37]; exact (Nat.le_trans hk23 Kq24.1)) (v := some (.int 1)) (fun h => by rw [Bd.returns] at h; cases h)
  refine ⟨_, _, pre0 _ ?_, hrun, hended, _, _, rfl, ?_, hfin.1, hfin.2.1, hfin.2.2.1, hfin.2.2.2.mono (by decide) (by decide)⟩
  · show Steps _ _ _ (s₁.setTop (mkF m 0 #[.val (.int p1), .val (.int p2), .val (.int p3), .val (.int p4), .unset, .unset, .unset, .unset, .unset, .unset, .unset, .unset, .unset] [])) _
    refine stv1 _ ?_
    show Steps _ _ _ (Tv1.setTop (mkF m 57 #[.val (.int p1), .val (.int p2), .val (.int p3), .val (.int p4), .val (.int c0), .val (.int c1), .val (.int c2), .val (.ref ar), .val (.ref x), .unset, .unset, .unset, .unset] [])) _
    refine st11 _ ?_
    show Steps _ _ _ (T11.setTop (mkF m 60 #[.val (.int p1), .val (.int p2), .val (.int p3), .val (.int p4), .val (.int c0), .val (.int c1), .val (.int c2), .val (.ref ar), .val (.ref x), .unset, .unset, .unset, .unset] [(.ref b11)])) _
    refine XS.dup X11.here hx rfl (hb hby at_60) rfl rfl ?_
    show Steps _ _ _ (T11.setTop (mkF m 61 #[.val (.int p1), .val (.int p2), .val (.int p3), .val (.int p4), .val (.int c0), .val (.int c1), .val (.int c2), .val (.ref ar), .val (.ref x), .unset, .unset, .unset, .unset] [(.ref b11), (.ref b11)])) _
    refine st12 _ ?_
    show Steps _ _ _ (T12.setTop (mkF m 63 #[.val (.int p1), .val (.int p2), .val (.int p3), .val (.int p4), .val (.int c0), .val (.int c1), .val (.int c2), .val (.ref ar), .val (.ref x), .unset, .unset, .unset, .unset] [(.ref b12), (.ref b11), (.ref b11)])) _
    refine XS.aload X12.here hx rfl (hb hby at_63) rfl rfl ?_
    show Steps _ _ _ (T12.setTop (mkF m 65 #[.val (.int p1), .val (.int p2), .val (.int p3), .val (.int p4), .val (.int c0), .val (.int c1), .val (.int c2), .val (.ref ar), .val (.ref x), .unset, .unset, .unset, .unset] [(.ref x), (.ref b12), (.ref b11), (.ref b11)])) _
    refine st13 _ ?_
    show Steps _ _ _ (T13.setTop (mkF m 67 #[.val (.int p1), .val (.int p2), .val (.int p3), .val (.int p4), .val (.int c0), .val (.int c1), .val (.int c2), .val (.ref ar), .val (.ref x), .unset, .unset, .unset, .unset] [(.ref b13), (.ref x), (.ref b12), (.ref b11), (.ref b11)])) _
    refine st14.trans ?_
    show Steps _ _ _ (T14.setTop (mkF m 70 #[.val (.int p1), .val (.int p2), .val (.int p3), .val (.int p4), .val (.int c0), .val (.int c1), .val (.int c2), .val (.ref ar), .val (.ref x), .unset, .unset, .unset, .unset] [(.ref b11)])) _
    refine XS.astore X14.here hx rfl (hb hby at_70) rfl rfl (l' := #[.val (.int p1), .val (.int p2), .val (.int p3), .val (.int p4), .val (.int c0), .val (.int c1), .val (.int c2), .val (.ref ar), .val (.ref x), .val (.ref b11), .unset, .unset, .unset]) rfl ?_
    refine XS.iloadN X14.here hx rfl (hb hby at_72) rfl ?_
    show Steps _ _ _ (T14.setTop (mkF m 73 #[.val (.int p1), .val (.int p2), .val (.int p3), .val (.int p4), .val (.int c0), .val (.int c1), .val (.int c2), .val (.ref ar), .val (.ref x), .val (.ref b11), .unset, .unset, .unset] [(.int p4)])) _
    refine X14.ldcInt hx hown13 (mvT hZ13 (hw _ (tk 4 rfl))) (g := (mkF m 73 #[.val (.int p1), .val (.int p2), .val (.int p3), .val (.int p4), .val (.int c0), .val (.int c1), .val (.int c2), .val (.ref ar), .val (.ref x), .val (.ref b11), .unset, .unset, .unset] [(.int p4)])) rfl (hb hby at_73) _ ?_
    show Steps _ _ _ (T14.setTop (mkF m 75 #[.val (.int p1), .val (.int p2), .val (.int p3), .val (.int p4), .val (.int c0), .val (.int c1), .val (.int c2), .val (.ref ar), .val (.ref x), .val (.ref b11), .unset, .unset, .unset] [(.int 2147483647), (.int p4)])) _
    refine XS.iand X14.here hx rfl (hb hby at_75) rfl ?_
    refine XS.iconst X14.here hx rfl (hb hby at_76) ?_
    show Steps _ _ _ (T14.setTop (mkF m 77 #[.val (.int p1), .val (.int p2), .val (.int p3), .val (.int p4), .val (.int c0), .val (.int c1), .val (.int c2), .val (.ref ar), .val (.ref x), .val (.ref b11), .unset, .unset, .unset] [(.int 5), (.int (p4 &&& (2147483647 : Int32)))])) _
    refine iremM X14 hx (g := (mkF m 77 #[.val (.int p1), .val (.int p2), .val (.int p3), .val (.int p4), .val (.int c0), .val (.int c1), .val (.int c2), .val (.ref ar), .val (.ref x), .val (.ref b11), .unset, .unset, .unset] [(.int 5), (.int (p4 &&& (2147483647 : Int32)))])) rfl (hb hby at_77) rfl (by decide) ?_
    show Steps _ _ _ (T14.setTop (mkF m 78 #[.val (.int p1), .val (.int p2), .val (.int p3), .val (.int p4), .val (.int c0), .val (.int c1), .val (.int c2), .val (.ref ar), .val (.ref x), .val (.ref b11), .unset, .unset, .unset] [(.int ((p4 &&& (2147483647 : Int32)) % (5 : Int32)))])) _
    rw [hn5]
    show Steps _ _ _ (T14.setTop (mkF m 78 #[.val (.int p1), .val (.int p2), .val (.int p3), .val (.int p4), .val (.int c0), .val (.int c1), .val (.int c2), .val (.ref ar), .val (.ref x), .val (.ref b11), .unset, .unset, .unset] [(.int 1)])) _
    refine XS.istore X14.here hx rfl (hb hby at_78) rfl (l' := #[.val (.int p1), .val (.int p2), .val (.int p3), .val (.int p4), .val (.int c0), .val (.int c1), .val (.int c2), .val (.ref ar), .val (.ref x), .val (.ref b11), .val (.int 1), .unset, .unset]) rfl ?_
    refine XS.iload X14.here hx rfl (hb hby at_80) rfl ?_
    refine XS.ifNo X14.here hx rfl (hb hby at_82) rfl ((if0 _ _).trans (tlt (by decide : (0 : Int32) < (1 : Int32))).2.2.2) ?_
    refine XS.aload X14.here hx rfl (hb hby at_85) rfl rfl ?_
    refine XS.iload X14.here hx rfl (hb hby at_87) rfl ?_
    show Steps _ _ _ (T14.setTop (mkF m 89 #[.val (.int p1), .val (.int p2), .val (.int p3), .val (.int p4), .val (.int c0), .val (.int c1), .val (.int c2), .val (.ref ar), .val (.ref x), .val (.ref b11), .val (.int 1), .unset, .unset] [(.int c0), (.ref b11)])) _
    refine st20.trans ?_
    show Steps _ _ _ (T20.setTop (mkF m 92 #[.val (.int p1), .val (.int p2), .val (.int p3), .val (.int p4), .val (.int c0), .val (.int c1), .val (.int c2), .val (.ref ar), .val (.ref x), .val (.ref b11), .val (.int 1), .unset, .unset] [])) _
    refine XS.iload X20.here hx rfl (hb hby at_92) rfl ?_
    refine XS.iconst X20.here hx rfl (hb hby at_94) ?_
    refine XS.icmpYes X20.here hx rfl (pc0 := 95) (pc' := 105) rfl (hb hby at_95) rfl (flt (by decide : ¬ ((1 : Int32) < (1 : Int32)))).2.2.2 (by decide) (by decide) ?_
    refine XS.iload X20.here hx rfl (hb hby at_105) rfl ?_
    refine XS.iconst X20.here hx rfl (hb hby at_107) ?_
    refine XS.icmpYes X20.here hx rfl (pc0 := 108) (pc' := 118) rfl (hb hby at_108) rfl (flt (by decide : ¬ ((2 : Int32) < (1 : Int32)))).2.2.2 (by decide) (by decide) ?_
    refine XS.iload X20.here hx rfl (hb hby at_118) rfl ?_
    refine XS.iconst X20.here hx rfl (hb hby at_120) ?_
    refine XS.icmpYes X20.here hx rfl (pc0 := 121) (pc' := 144) rfl (hb hby at_121) rfl (flt (by decide : ¬ ((3 : Int32) < (1 : Int32)))).2.2.2 (by decide) (by decide) ?_
    refine XS.aload X20.here hx rfl (hb hby at_144) rfl rfl ?_
    refine XS.iconst X20.here hx rfl (hb hby at_146) ?_
    show Steps _ _ _ (T20.setTop (mkF m 147 #[.val (.int p1), .val (.int p2), .val (.int p3), .val (.int p4), .val (.int c0), .val (.int c1), .val (.int c2), .val (.ref ar), .val (.ref x), .val (.ref b11), .val (.int 1), .unset, .unset] [(.int 0), (.ref b11)])) _
    refine st23 _ ?_
    show Steps _ _ _ (T23.setTop (mkF m 149 #[.val (.int p1), .val (.int p2), .val (.int p3), .val (.int p4), .val (.int c0), .val (.int c1), .val (.int c2), .val (.ref ar), .val (.ref x), .val (.ref b11), .val (.int 1), .unset, .unset] [(.ref b23), (.int 0), (.ref b11)])) _
    refine st24.trans ?_
    show Steps _ _ _ (T24.setTop (mkF m 152 #[.val (.int p1), .val (.int p2), .val (.int p3), .val (.int p4), .val (.int c0), .val (.int c1), .val (.int c2), .val (.ref ar), .val (.ref x), .val (.ref b11), .val (.int 1), .unset, .unset] [(.ref y24)])) _
    refine XS.astore X24.here hx rfl (hb hby at_152) rfl rfl (l' := #[.val (.int p1), .val (.int p2), .val (.int p3), .val (.int p4), .val (.int c0), .val (.int c1), .val (.int c2), .val (.ref ar), .val (.ref x), .val (.ref b11), .val (.int 1), .val (.ref y24), .unset]) rfl ?_
    refine XS.iconst X24.here hx rfl (hb hby at_154) ?_
    refine XS.iload X24.here hx rfl (hb hby at_155) rfl ?_
    refine XS.isub X24.here hx rfl (hb hby at_157) rfl ?_
    show Steps _ _ _ (T24.setTop (mkF m 158 #[.val (.int p1), .val (.int p2), .val (.int p3), .val (.int p4), .val (.int c0), .val (.int c1), .val (.int c2), .val (.ref ar), .val (.ref x), .val (.ref b11), .val (.int 1), .val (.ref y24), .unset] [(.int ((3 : Int32) - (1 : Int32)))])) _
    rw [(by decide : ((3 : Int32) - (1 : Int32)) = (2 : Int32))]
    show Steps _ _ _ (T24.setTop (mkF m 158 #[.val (.int p1), .val (.int p2), .val (.int p3), .val (.int p4), .val (.int c0), .val (.int c1), .val (.int c2), .val (.ref ar), .val (.ref x), .val (.ref b11), .val (.int 1), .val (.ref y24), .unset] [(.int 2)])) _
    refine XS.istore X24.here hx rfl (hb hby at_158) rfl (l' := #[.val (.int p1), .val (.int p2), .val (.int p3), .val (.int p4), .val (.int c0), .val (.int c1), .val (.int c2), .val (.ref ar), .val (.ref x), .val (.ref b11), .val (.int 1), .val (.ref y24), .val (.int 2)]) rfl ?_
    refine XS.aload X24.here hx rfl (hb hby at_160) rfl rfl ?_
    show Steps _ _ _ (T24.setTop (mkF m 162 #[.val (.int p1), .val (.int p2), .val (.int p3), .val (.int p4), .val (.int c0), .val (.int c1), .val (.int c2), .val (.ref ar), .val (.ref x), .val (.ref b11), .val (.int 1), .val (.ref y24), .val (.int 2)] [(.ref y24)])) _
    refine st30.trans ?_
    show Steps _ _ _ (T30.setTop (mkF m 165 #[.val (.int p1), .val (.int p2), .val (.int p3), .val (.int p4), .val (.int c0), .val (.int c1), .val (.int c2), .val (.ref ar), .val (.ref x), .val (.ref b11), .val (.int 1), .val (.ref y24), .val (.int 2)] [(.int (Int32.ofNat ((([c0, c1, c2, 0] : List Int32).drop 1).take 2).length))])) _
    rw [(rfl : Int32.ofNat ((([c0, c1, c2, 0] : List Int32).drop 1).take 2).length = (2 : Int32))]
    show Steps _ _ _ (T30.setTop (mkF m 165 #[.val (.int p1), .val (.int p2), .val (.int p3), .val (.int p4), .val (.int c0), .val (.int c1), .val (.int c2), .val (.ref ar), .val (.ref x), .val (.ref b11), .val (.int 1), .val (.ref y24), .val (.int 2)] [(.int 2)])) _
    refine XS.iload X30.here hx rfl (hb hby at_165) rfl ?_
    refine XS.icmpYes X30.here hx rfl (pc0 := 167) (pc' := 172) rfl (hb hby at_167) rfl (teq (by decide : (2 : Int32) = (2 : Int32))).1 (by decide) (by decide) ?_
    refine XS.iload X30.here hx rfl (hb hby at_172) rfl ?_
    refine XS.iconst X30.here hx rfl (hb hby at_174) ?_
    refine XS.icmpNo X30.here hx rfl (hb hby at_175) rfl (flt (by decide : ¬ ((2 : Int32) < (1 : Int32)))).1 ?_
    refine XS.aload X30.here hx rfl (hb hby at_178) rfl rfl ?_
    refine XS.iconst X30.here hx rfl (hb hby at_180) ?_
    show Steps _ _ _ (T30.setTop (mkF m 181 #[.val (.int p1), .val (.int p2), .val (.int p3), .val (.int p4), .val (.int c0), .val (.int c1), .val (.int c2), .val (.ref ar), .val (.ref x), .val (.ref b11), .val (.int 1), .val (.ref y24), .val (.int 2)] [(.int 0), (.ref y24)])) _
    refine st32.trans ?_
    show Steps _ _ _ (T32.setTop (mkF m 184 #[.val (.int p1), .val (.int p2), .val (.int p3), .val (.int p4), .val (.int c0), .val (.int c1), .val (.int c2), .val (.ref ar), .val (.ref x), .val (.ref b11), .val (.int 1), .val (.ref y24), .val (.int 2)] [(.int (((([c0, c1, c2, 0] : List Int32).drop 1).take 2).getD 0 0))])) _
    refine XS.aload X32.here hx rfl (hb hby at_184) rfl rfl ?_
    refine XS.iload X32.here hx rfl (hb hby at_186) rfl ?_
    show Steps _ _ _ (T32.setTop (mkF m 188 #[.val (.int p1), .val (.int p2), .val (.int p3), .val (.int p4), .val (.int c0), .val (.int c1), .val (.int c2), .val (.ref ar), .val (.ref x), .val (.ref b11), .val (.int 1), .val (.ref y24), .val (.int 2)] [(.int 1), (.ref ar), (.int (((([c0, c1, c2, 0] : List Int32).drop 1).take 2).getD 0 0))])) _
    refine X32.caload hx (j := (1 : Int32)) (v := (.int c1)) (by rw [eq32]; exact Ar33.1) (State.isArrayOf_alike hZ23.alike Ar33.2.1) Ar33.2.2 hin33 (H33.at hin33 rfl) (g := (mkF m 188 #[.val (.int p1), .val (.int p2), .val (.int p3), .val (.int p4), .val (.int c0), .val (.int c1), .val (.int c2), .val (.ref ar), .val (.ref x), .val (.ref b11), .val (.int 1), .val (.ref y24), .val (.int 2)] [(.int 1), (.ref ar), (.int (((([c0, c1, c2, 0] : List Int32).drop 1).take 2).getD 0 0))])) rfl rfl (hb hby at_188) _ ?_
    show Steps _ _ _ (T32.setTop (mkF m 189 #[.val (.int p1), .val (.int p2), .val (.int p3), .val (.int p4), .val (.int c0), .val (.int c1), .val (.int c2), .val (.ref ar), .val (.ref x), .val (.ref b11), .val (.int 1), .val (.ref y24), .val (.int 2)] [(.int c1), (.int (((([c0, c1, c2, 0] : List Int32).drop 1).take 2).getD 0 0))])) _
    refine XS.icmpYes X32.here hx rfl (pc0 := 189) (pc' := 194) rfl (hb hby at_189) rfl (teq rfl).1 (by decide) (by decide) ?_
    refine XS.iload X32.here hx rfl (hb hby at_194) rfl ?_
    refine XS.iconst X32.here hx rfl (hb hby at_196) ?_
    refine XS.icmpNo X32.here hx rfl (hb hby at_197) rfl (flt (by decide : ¬ ((2 : Int32) < (2 : Int32)))).1 ?_
    refine XS.aload X32.here hx rfl (hb hby at_200) rfl rfl ?_
    refine XS.iconst X32.here hx rfl (hb hby at_202) ?_
    show Steps _ _ _ (T32.setTop (mkF m 203 #[.val (.int p1), .val (.int p2), .val (.int p3), .val (.int p4), .val (.int c0), .val (.int c1), .val (.int c2), .val (.ref ar), .val (.ref x), .val (.ref b11), .val (.int 1), .val (.ref y24), .val (.int 2)] [(.int 1), (.ref y24)])) _
    refine st35.trans ?_
    show Steps _ _ _ (T35.setTop (mkF m 206 #[.val (.int p1), .val (.int p2), .val (.int p3), .val (.int p4), .val (.int c0), .val (.int c1), .val (.int c2), .val (.ref ar), .val (.ref x), .val (.ref b11), .val (.int 1), .val (.ref y24), .val (.int 2)] [(.int (((([c0, c1, c2, 0] : List Int32).drop 1).take 2).getD 1 0))])) _
    refine XS.aload X35.here hx rfl (hb hby at_206) rfl rfl ?_
    refine XS.iload X35.here hx rfl (hb hby at_208) rfl ?_
    refine XS.iconst X35.here hx rfl (hb hby at_210) ?_
    refine XS.iadd X35.here hx rfl (hb hby at_211) rfl ?_
    show Steps _ _ _ (T35.setTop (mkF m 212 #[.val (.int p1), .val (.int p2), .val (.int p3), .val (.int p4), .val (.int c0), .val (.int c1), .val (.int c2), .val (.ref ar), .val (.ref x), .val (.ref b11), .val (.int 1), .val (.ref y24), .val (.int 2)] [(.int ((1 : Int32) + (1 : Int32))), (.ref ar), (.int (((([c0, c1, c2, 0] : List Int32).drop 1).take 2).getD 1 0))])) _
    rw [(by decide : ((1 : Int32) + (1 : Int32)) = (2 : Int32))]
    show Steps _ _ _ (T35.setTop (mkF m 212 #[.val (.int p1), .val (.int p2), .val (.int p3), .val (.int p4), .val (.int c0), .val (.int c1), .val (.int c2), .val (.ref ar), .val (.ref x), .val (.ref b11), .val (.int 1), .val (.ref y24), .val (.int 2)] [(.int 2), (.ref ar), (.int (((([c0, c1, c2, 0] : List Int32).drop 1).take 2).getD 1 0))])) _
    refine X35.caload hx (j := (2 : Int32)) (v := (.int c2)) (by rw [eq35]; exact Ar36.1) (State.isArrayOf_alike hZ23.alike Ar36.2.1) Ar36.2.2 hin36 (H36.at hin36 rfl) (g := (mkF m 212 #[.val (.int p1), .val (.int p2), .val (.int p3), .val (.int p4), .val (.int c0), .val (.int c1), .val (.int c2), .val (.ref ar), .val (.ref x), .val (.ref b11), .val (.int 1), .val (.ref y24), .val (.int 2)] [(.int 2), (.ref ar), (.int (((([c0, c1, c2, 0] : List Int32).drop 1).take 2).getD 1 0))])) rfl rfl (hb hby at_212) _ ?_
    show Steps _ _ _ (T35.setTop (mkF m 213 #[.val (.int p1), .val (.int p2), .val (.int p3), .val (.int p4), .val (.int c0), .val (.int c1), .val (.int c2), .val (.ref ar), .val (.ref x), .val (.ref b11), .val (.int 1), .val (.ref y24), .val (.int 2)] [(.int c2), (.int (((([c0, c1, c2, 0] : List Int32).drop 1).take 2).getD 1 0))])) _
    refine XS.icmpYes X35.here hx rfl (pc0 := 213) (pc' := 218) rfl (hb hby at_213) rfl (teq rfl).1 (by decide) (by decide) ?_
    refine XS.iload X35.here hx rfl (hb hby at_218) rfl ?_
    refine XS.iconst X35.here hx rfl (hb hby at_220) ?_
    refine XS.icmpYes X35.here hx rfl (pc0 := 221) (pc' := 242) rfl (hb hby at_221) rfl (tlt (by decide : (2 : Int32) < (3 : Int32))).1 (by decide) (by decide) ?_
    refine XS.aload X35.here hx rfl (hb hby at_242) rfl rfl ?_
    show Steps _ _ _ (T35.setTop (mkF m 244 #[.val (.int p1), .val (.int p2), .val (.int p3), .val (.int p4), .val (.int c0), .val (.int c1), .val (.int c2), .val (.ref ar), .val (.ref x), .val (.ref b11), .val (.int 1), .val (.ref y24), .val (.int 2)] [(.ref b11)])) _
    refine st37.trans ?_
    show Steps _ _ _ (T37.setTop (mkF m 247 #[.val (.int p1), .val (.int p2), .val (.int p3), .val (.int p4), .val (.int c0), .val (.int c1), .val (.int c2), .val (.ref ar), .val (.ref x), .val (.ref b11), .val (.int 1), .val (.ref y24), .val (.int 2)] [(.int 0)])) _
    refine XS.ifNo X37.here hx rfl (hb hby at_247) rfl ((if0 _ _).trans (teq (by decide : (0 : Int32) = (0 : Int32))).2) ?_
    refine XS.iconst X37.here hx rfl (hb hby at_250) ?_
    refine XS.goto X37.here hx rfl (pc0 := 251) (pc' := 255) rfl (hb hby at_251) (by decide) (by decide) ?_
    show Steps _ _ _ (T37.setTop (mkF m 255 #[.val (.int p1), .val (.int p2), .val (.int p3), .val (.int p4), .val (.int c0), .val (.int c1), .val (.int c2), .val (.ref ar), .val (.ref x), .val (.ref b11), .val (.int 1), .val (.ref y24), .val (.int 2)] [(.int 1)])) _
    exact retN X37 hx (t := .boolean) Bd.returns (by simp) (hb hby at_255) hr
  · show Q0 Z  h0 n0 _ T37.heap _
    rw [eq37]
    exact ⟨rfl, N37⟩
theorem rm0_2 (l : Launch) (Z : State) (a0 : Array Value) (hw : HW a0 Z) (ws : List Jvm.Cond) (G1 : Int32) (G3 : Value) (G4 : Value) (p1 : Int32) (p2 : Int32) (p3 : Int32) (p4 : Int32) (h0 : Heap) (n0 : Nat) (Z0 : n0 ≤ h0.size) (EN : own_env Z G1 G3 G4) (X00 : Old Z n0 h0) (hn5 : ((p4 &&& (2147483647 : Int32)) % (5 : Int32)) = (2 : Int32)) :
    MetFree l x (head1 (Jvm.Cond.code x code maxLocals ret :: ws) room_1) (fun a_ U_ => a_ = #[(.int p1), (.int p2), (.int p3), (.int p4)] ∧ Z.Warmed39 U_.vm ∧ U_.heap = h0) (fun _ _ _ _ _ => True) (fun _ U_ o_ U1_ => ∃ v_ L_, o_ = .returned v_ ∧ Q0 Z  h0 n0 v_ U1_.heap L_ ∧ ReturnedEndW U_ o_ U1_ L_ 40 5312) := by
  refine MetFree.of_bodySF (plainFor_of_name pn_0) hisR ?_
  intro p e s m args below meth c s₁ Bd hml0 hP hK
  obtain ⟨rfl, hZ, hh⟩ := hP
  have hx := Bd.exec
  have hby := Bd.bytes
  have hml : c.maxLocals = 13 := hml0
  have hown : s.vm.findClass "com/example/atomize/atomize/http/FieldValueReaderExpectPinLaw" = some m.cls := findClass_of_methodNamed Bd.named
  have hnm := (name_of_methodNamed Bd.named Bd.method).1
  have X0 : Stand p l e room_1 s m #[(.int p1), (.int p2), (.int p3), (.int p4)] below meth c s₁ [] 0 0 := Stand.of_body Bd
  have e0 : s₁.heap = h0 := by rw [← hh, Bd.state]; rfl
  have N0 := Fr.nil n0
  have pre0 : ∀ tt, Steps p.tables e below (s₁.setTop (mkF m 0 #[.val (.int p1), .val (.int p2), .val (.int p3), .val (.int p4), .unset, .unset, .unset, .unset, .unset, .unset, .unset, .unset, .unset] [])) tt → Steps p.tables e below (s₁.setTop (entryFrame m #[(.int p1), (.int p2), (.int p3), (.int p4)] maxLocals)) tt := fun tt kk => castTop (ef_0_rrrr m p1 p2 p3 p4) kk
  have hS0 : s.Since s.vm 0 := (State.WarmedH.refl s).since 0
  have hk0 : 0 ≤ h0.size := Nat.zero_le _
  have EN0 := EN
  obtain ⟨O2, P5, O4, rG3, O6, O7, O8⟩ := EN
  obtain ⟨Tv1, hv1, Lv1, c0, c1, c2, ar, ka, x, Xv1, ev1, Nv1, Zv1, Ov1, Kv1, Vv1, Sv1, d0, d1, d2, stv1⟩ := fr1 G1 G3 G4 p1 p2 p3 p4 h0 n0 X0 hx hZ hw hby hml hown e0 N0 Z0 EN0 X00
  have Exv := own_st_exa Sv1
  have hcc4 := own_c4 d0.1 d1.1 d2.1
  obtain ⟨T11, h11, X11, e11, E11, A11, D11, -, st11⟩ := newO Xv1 hx hZ hown (hw _ (tk 36 rfl)) (hw _ (tk 37 rfl)) (hw _ (tk 38 rfl)) ev1 (g := (mkF m 57 #[.val (.int p1), .val (.int p2), .val (.int p3), .val (.int p4), .val (.int c0), .val (.int c1), .val (.int c2), .val (.ref ar), .val (.ref x), .unset, .unset, .unset, .unset] [])) rfl (hb hby at_57) (by decide) (by decide)
  obtain ⟨b11, g11⟩ : ∃ z, z = hv1.size := ⟨_, rfl⟩
  rw [← g11] at A11 D11 st11
  have g_b11 : n0 ≤ b11 := Nat.le_trans (Nat.le_trans Z0 Kv1.1) (Nat.le_of_eq g11.symm)
  have sz_b11 : h0.size ≤ b11 := Nat.le_trans Kv1.1 (Nat.le_of_eq g11.symm)
  have F11_name : Fld Z h11 b11 "com/example/atomize/atomize/http/FieldValueReader" "name" "Ljava/lang/String;" .null := D11 (Or.inr (hw _ (tk 48 rfl))) (ty := (.object "java/lang/String")) (by decide)
  have F11_text : Fld Z h11 b11 "com/example/atomize/atomize/http/FieldValueReader" "text" "Ljava/lang/String;" .null := D11 (Or.inr (hw _ (tk 50 rfl))) (ty := (.object "java/lang/String")) (by decide)
  have F11_grammar : Fld Z h11 b11 "com/example/atomize/atomize/http/FieldValueReader" "grammar" "Ljava/lang/String;" .null := D11 (Or.inr (hw _ (tk 52 rfl))) (ty := (.object "java/lang/String")) (by decide)
  have F11_position : Fld Z h11 b11 "com/example/atomize/atomize/http/FieldValueReader" "position" "I" (.int 0) := D11 (Or.inl (hw _ (tk 59 rfl))) (ty := .int) (by decide)
  obtain ⟨b12, T12, h12, k12, X12, e12, E12, hS12, hk12, hZ12, hown12, st12⟩ := ldcS (s := s) (vm0 := s.vm) X11 hx hZ hown (hw _ (tk 39 rfl)) (fun d hd => hw d (own_wS d hd)) e11 hS0 (Nat.le_trans hk0 (Nat.le_trans Kv1.1 E11.1)) (g := (mkF m 61 #[.val (.int p1), .val (.int p2), .val (.int p3), .val (.int p4), .val (.int c0), .val (.int c1), .val (.int c2), .val (.ref ar), .val (.ref x), .unset, .unset, .unset, .unset] [(.ref b11), (.ref b11)])) rfl (hb hby at_61) (n := 4) (by decide) (by decide) (by decide) (by decide)
  obtain ⟨b13, T13, h13, k13, X13, e13, E13, hS13, hk13, hZ13, hown13, st13⟩ := ldcS (s := s) (vm0 := T12.vm) X12 hx hZ12 hown12 (hw _ (tk 42 rfl)) (fun d hd => hw d (own_wS d hd)) e12 hS12 hk12 (g := (mkF m 65 #[.val (.int p1), .val (.int p2), .val (.int p3), .val (.int p4), .val (.int c0), .val (.int c1), .val (.int c2), .val (.ref ar), .val (.ref x), .unset, .unset, .unset, .unset] [(.ref x), (.ref b12), (.ref b11), (.ref b11)])) rfl (hb hby at_65) (n := 4) (by decide) (by decide) (by decide) (by decide)
  have f15 := ((A11.ext E12).ext E13)
  have f16 := ((F11_name.ext E12).ext E13)
  have f17 := ((F11_text.ext E12).ext E13)
  have f18 := ((F11_grammar.ext E12).ext E13)
  have f19 := ((F11_position.ext E12).ext E13)
  obtain ⟨_, _, ⟨T14, L14, k14, n14⟩, -, X14, ⟨Lc14, hQ14, l14, y14, z14⟩, st14⟩ := X13.specialBack hx (y := y_26) rfl hown13 (mvT hZ13 (hw _ (tk 43 rfl))) (mvT hZ13 (hw _ (tk 44 rfl))) (mvT hZ13 (hw _ (tk 45 rfl))) (by decide) (backOf (W := 1) (rmFI l Z a0 hw [] b11 b12 x b13 h13 n0 (Nat.le_trans Z0 (Nat.le_trans (Nat.le_trans (Nat.le_trans Kv1.1 E11.1) E12.1) E13.1)) f15 f16 f17 f18 f19 g_b11) hZ13 (hw _ (tk 45 rfl)) (hw _ (tk 38 rfl)) (by decide) (by decide)) (g := (mkF m 67 #[.val (.int p1), .val (.int p2), .val (.int p3), .val (.int p4), .val (.int c0), .val (.int c1), .val (.int c2), .val (.ref ar), .val (.ref x), .unset, .unset, .unset, .unset] [(.ref b13), (.ref x), (.ref b12), (.ref b11), (.ref b11)])) rfl (by rw [hml]; rfl) (Steps.refl _) (a := b11) (argsL := [(.ref b12), (.ref x), (.ref b13)]) (rest := [(.ref b11)]) (lenOf pd__Ljava_lang_String_Ljava_lang_String_Ljava_lang_String__V rfl) rfl (by show 2 * 0 + _ ≤ _; exact Nat.le_of_eq rfl) (hb hby at_67) (fun _ _ => ⟨rfl, e13, (by decide : 9 + 0 ≤ _), (by decide : 40 + 0 ≤ _)⟩)
  dsimp only [Pt.U, Pt.locs, Pt.cells, Pt.slots] at X14 l14 y14 z14 st14 hQ14
  subst l14 y14 z14
  obtain ⟨rfl, Nq14, Kq14, Er14, Ft14, Fp14⟩ := hQ14
  have N14 := Fr.app Nv1 Nq14
  have f21 := ((((Ov1.ext E11).ext E12).ext E13).keep Kq14 (allS g_b11 all0))
  have St22 := (own_st_keepR (own_st_ext (own_st_ext (own_st_ext Sv1 E11) E12) E13) Kq14 f15 (by decide) (hw _ (tk 37 rfl)))
  obtain ⟨cq20, kq20, q20a, q20b, q20c⟩ := isOf hZ13 rfl Er14
  obtain ⟨_, _, ⟨T20, L20, k20, n20⟩, -, X20, ⟨Lc20, hQ20, l20, y20, z20⟩, st20⟩ := X14.virtualBack hx (y := y_27) (z := y_27) hown13 (mvT hZ13 (hw _ (tk 53 rfl))) (mvT hZ13 (hw _ (tk 54 rfl))) (notFace_of_selects (args := #[]) (mvT hZ13 (hw _ (tk 56 rfl)))) (mvT hZ13 (hw _ (tk 56 rfl))) (mvT hZ13 (hw _ (tk 55 rfl))) (by decide) (backOf (W := 0) (rmEX l Z a0 hw [] G1 G3 G4 b11 c0 x ([c0, c1, c2, 0] : List Int32) 0 T14.heap n0 (Nat.le_trans Z0 (Nat.le_trans (Nat.le_trans (Nat.le_trans (Nat.le_trans Kv1.1 E11.1) E12.1) E13.1) Kq14.1)) EN0 f21 Er14 Ft14 Fp14 g_b11 St22 (Nat.le_of_ble_eq_true rfl) hcc4 (Nat.le_of_ble_eq_true rfl) rfl) hZ13 (hw _ (tk 57 rfl)) (hw _ (tk 38 rfl)) (by decide) (by decide)) q20a q20c (g := (mkF m 89 #[.val (.int p1), .val (.int p2), .val (.int p3), .val (.int p4), .val (.int c0), .val (.int c1), .val (.int c2), .val (.ref ar), .val (.ref x), .val (.ref b11), .val (.int 2), .unset, .unset] [(.int c0), (.ref b11)])) rfl (by rw [hml]; rfl) (Steps.refl _) (argsL := [(.int c0)]) (rest := []) (lenOf pd__C_V rfl) rfl (by show 2 * 0 + _ ≤ _; exact Nat.le_of_eq rfl) (hb hby at_89) (fun _ _ => ⟨rfl, rfl, (by decide : 9 + 0 ≤ _), (by decide : 40 + 0 ≤ _)⟩)
  dsimp only [Pt.U, Pt.locs, Pt.cells, Pt.slots] at X20 l20 y20 z20 st20 hQ20
  subst l20 y20 z20
  obtain ⟨rfl, Nq20, Kq20, Er20, Ft20, Fp20⟩ := hQ20
  have N20 := Fr.app N14 Nq20
  have f24 := (f21.keep Kq20 (allS g_b11 all0))
  have St25 := (own_st_keepR St22 Kq20 Er14 (by decide) (hw _ (tk 37 rfl)))
  obtain ⟨cq23, kq23, q23a, q23b, q23c⟩ := isOf hZ13 rfl Er20
  obtain ⟨_, _, ⟨T23, L23, k23, n23⟩, -, X23, ⟨Lc23, hQ23, l23, y23, z23⟩, st23⟩ := X20.virtualBack hx (y := y_27) (z := y_27) hown13 (mvT hZ13 (hw _ (tk 53 rfl))) (mvT hZ13 (hw _ (tk 54 rfl))) (notFace_of_selects (args := #[]) (mvT hZ13 (hw _ (tk 56 rfl)))) (mvT hZ13 (hw _ (tk 56 rfl))) (mvT hZ13 (hw _ (tk 55 rfl))) (by decide) (backOf (W := 0) (rmEX l Z a0 hw [] G1 G3 G4 b11 c1 x ([c0, c1, c2, 0] : List Int32) 1 T20.heap n0 (Nat.le_trans Z0 (Nat.le_trans (Nat.le_trans (Nat.le_trans (Nat.le_trans (Nat.le_trans Kv1.1 E11.1) E12.1) E13.1) Kq14.1) Kq20.1)) EN0 f24 Er20 Ft20 Fp20 g_b11 St25 (Nat.le_of_ble_eq_true rfl) hcc4 (Nat.le_of_ble_eq_true rfl) rfl) hZ13 (hw _ (tk 57 rfl)) (hw _ (tk 38 rfl)) (by decide) (by decide)) q23a q23c (g := (mkF m 102 #[.val (.int p1), .val (.int p2), .val (.int p3), .val (.int p4), .val (.int c0), .val (.int c1), .val (.int c2), .val (.ref ar), .val (.ref x), .val (.ref b11), .val (.int 2), .unset, .unset] [(.int c1), (.ref b11)])) rfl (by rw [hml]; rfl) (Steps.refl _) (argsL := [(.int c1)]) (rest := []) (lenOf pd__C_V rfl) rfl (by show 2 * 0 + _ ≤ _; exact Nat.le_of_eq rfl) (hb hby at_102) (fun _ _ => ⟨rfl, rfl, (by decide : 9 + 0 ≤ _), (by decide : 40 + 0 ≤ _)⟩)
  dsimp only [Pt.U, Pt.locs, Pt.cells, Pt.slots] at X23 l23 y23 z23 st23 hQ23
  subst l23 y23 z23
  obtain ⟨rfl, Nq23, Kq23, Er23, Ft23, Fp23⟩ := hQ23
  have N23 := Fr.app N20 Nq23
  obtain ⟨b26, T26, h26, k26, X26, e26, E26, hS26, hk26, hZ26, hown26, st26⟩ := ldcS (s := s) (vm0 := T13.vm) X23 hx hZ13 hown13 (hw _ (tk 92 rfl)) (fun d hd => hw d (own_wS d hd)) rfl hS13 (Nat.le_trans hk13 (Nat.le_trans (Nat.le_trans Kq14.1 Kq20.1) Kq23.1)) (g := (mkF m 147 #[.val (.int p1), .val (.int p2), .val (.int p3), .val (.int p4), .val (.int c0), .val (.int c1), .val (.int c2), .val (.ref ar), .val (.ref x), .val (.ref b11), .val (.int 2), .unset, .unset] [(.int 0), (.ref b11)])) rfl (hb hby at_147) (n := 4) (by decide) (by decide) (by decide) (by decide)
  have f28 := (Er23.ext E26)
  have f29 := ((f24.keep Kq23 (allS g_b11 all0)).ext E26)
  have f30 := (Ft23.ext E26)
  have f31 := (Fp23.ext E26)
  have St32 := (own_st_ext (own_st_keepR St25 Kq23 Er20 (by decide) (hw _ (tk 37 rfl))) E26)
  obtain ⟨cq27, kq27, q27a, q27b, q27c⟩ := isOf hZ26 e26 f28
  obtain ⟨_, _, ⟨T27, L27, k27, n27⟩, -, X27, ⟨Lc27, hQ27, l27, y27, z27⟩, st27⟩ := X26.virtualBack hx (y := y_47) (z := y_47) hown26 (mvT hZ26 (hw _ (tk 93 rfl))) (mvT hZ26 (hw _ (tk 94 rfl))) (notFace_of_selects (args := #[]) (mvT hZ26 (hw _ (tk 96 rfl)))) (mvT hZ26 (hw _ (tk 96 rfl))) (mvT hZ26 (hw _ (tk 95 rfl))) (by decide) (backOf (W := 0) (rmUP l Z a0 hw [] G1 G3 G4 b11 b26 x ([c0, c1, c2, 0] : List Int32) 2 1 h26 n0 (Nat.le_trans Z0 (Nat.le_trans (Nat.le_trans (Nat.le_trans (Nat.le_trans (Nat.le_trans (Nat.le_trans (Nat.le_trans Kv1.1 E11.1) E12.1) E13.1) Kq14.1) Kq20.1) Kq23.1) E26.1)) EN0 f29 f28 f30 f31 g_b11 St32 (Nat.le_of_ble_eq_true rfl) hcc4 (Nat.le_of_ble_eq_true rfl) (Nat.le_of_ble_eq_true rfl) (Nat.le_of_ble_eq_true rfl) (Nat.le_of_ble_eq_true rfl) rfl (own_nz3 d0.2 d1.2 d2.2 2)) hZ26 (hw _ (tk 97 rfl)) (hw _ (tk 38 rfl)) (by decide) (by decide)) q27a q27c (g := (mkF m 149 #[.val (.int p1), .val (.int p2), .val (.int p3), .val (.int p4), .val (.int c0), .val (.int c1), .val (.int c2), .val (.ref ar), .val (.ref x), .val (.ref b11), .val (.int 2), .unset, .unset] [(.ref b26), (.int 0), (.ref b11)])) rfl (by rw [hml]; rfl) (Steps.refl _) (argsL := [(.int 0), (.ref b26)]) (rest := []) (lenOf pd__CLjava_lang_String__Ljava_lang_String_ rfl) rfl (by show 2 * 0 + _ ≤ _; exact Nat.le_of_eq rfl) (hb hby at_149) (fun _ _ => ⟨rfl, e26, (by decide : 11 + 3 ≤ _), (by decide : 48 + 24 ≤ _)⟩)
  dsimp only [Pt.U, Pt.locs, Pt.cells, Pt.slots] at X27 l27 y27 z27 st27 hQ27
  subst l27 y27 z27
  obtain ⟨y27, rfl, Nq27, sz27, Kq27, S27, Er27, Ft27, Fp27⟩ := hQ27
  have N27 := Fr.app N23 Nq27
  have g27x : n0 ≤ y27 := Nat.le_trans (Nat.le_trans Z0 (Nat.le_trans (Nat.le_trans (Nat.le_trans (Nat.le_trans (Nat.le_trans (Nat.le_trans (Nat.le_trans Kv1.1 E11.1) E12.1) E13.1) Kq14.1) Kq20.1) Kq23.1) E26.1)) sz27
  have szx27 : h0.size ≤ y27 := Nat.le_trans (Nat.le_trans (Nat.le_trans (Nat.le_trans (Nat.le_trans (Nat.le_trans (Nat.le_trans (Nat.le_trans Kv1.1 E11.1) E12.1) E13.1) Kq14.1) Kq20.1) Kq23.1) E26.1) sz27
  have E27q := own_st_exa S27
  have f34 := (f29.keep Kq27 (allS g_b11 all0))
  obtain ⟨cq33, kq33, q33a, q33b, q33c⟩ := isOf hZ26 rfl E27q
  obtain ⟨_, _, ⟨T33, L33, k33, n33⟩, -, X33, ⟨Lc33, hQ33, l33, y33, z33⟩, st33⟩ := X27.virtualBack hx (y := y_15) (z := y_15) hown26 (mvT hZ26 (hw _ (tk 153 rfl))) (mvT hZ26 (hw _ (tk 61 rfl))) (notFace_of_selects (args := #[]) (mvT hZ26 (hw _ (tk 63 rfl)))) (mvT hZ26 (hw _ (tk 63 rfl))) (mvT hZ26 (hw _ (tk 62 rfl))) (by decide) (backOf (W := 0) (rmLE l Z a0 hw [] G1 G3 G4 y27 ((([c0, c1, c2, 0] : List Int32).drop 2).take 1) T27.heap n0 (Nat.le_trans Z0 (Nat.le_trans (Nat.le_trans (Nat.le_trans (Nat.le_trans (Nat.le_trans (Nat.le_trans (Nat.le_trans (Nat.le_trans Kv1.1 E11.1) E12.1) E13.1) Kq14.1) Kq20.1) Kq23.1) E26.1) Kq27.1)) EN0 f34 S27 (Nat.le_of_ble_eq_true rfl)) hZ26 (hw _ (tk 64 rfl)) (hw _ (tk 9 rfl)) (by decide) (by decide)) q33a q33c (g := (mkF m 162 #[.val (.int p1), .val (.int p2), .val (.int p3), .val (.int p4), .val (.int c0), .val (.int c1), .val (.int c2), .val (.ref ar), .val (.ref x), .val (.ref b11), .val (.int 2), .val (.ref y27), .val (.int 1)] [(.ref y27)])) rfl (by rw [hml]; rfl) (Steps.refl _) (argsL := []) (rest := []) (lenOf pd___I rfl) rfl (by show 2 * 0 + _ ≤ _; exact Nat.le_of_eq rfl) (hb hby at_162) (fun _ _ => ⟨rfl, rfl, (by decide : 14 + 0 ≤ _), (by decide : 72 + 0 ≤ _)⟩)
  dsimp only [Pt.U, Pt.locs, Pt.cells, Pt.slots] at X33 l33 y33 z33 st33 hQ33
  subst l33 y33 z33
  obtain ⟨rfl, Nq33, eq33⟩ := hQ33
  have N33 := Fr.app N27 Nq33
  obtain ⟨cq35, kq35, q35a, q35b, q35c⟩ := isOf hZ26 eq33 E27q
  obtain ⟨_, _, ⟨T35, L35, k35, n35⟩, -, X35, ⟨Lc35, hQ35, l35, y35, z35⟩, st35⟩ := X33.virtualBack hx (y := y_19) (z := y_19) hown26 (mvT hZ26 (hw _ (tk 154 rfl))) (mvT hZ26 (hw _ (tk 71 rfl))) (notFace_of_selects (args := #[]) (mvT hZ26 (hw _ (tk 73 rfl)))) (mvT hZ26 (hw _ (tk 73 rfl))) (mvT hZ26 (hw _ (tk 72 rfl))) (by decide) (backOf (W := 0) (rmCA l Z a0 hw [] G1 G3 G4 y27 ((([c0, c1, c2, 0] : List Int32).drop 2).take 1) 0 T27.heap n0 (Nat.le_trans Z0 (Nat.le_trans (Nat.le_trans (Nat.le_trans (Nat.le_trans (Nat.le_trans (Nat.le_trans (Nat.le_trans (Nat.le_trans Kv1.1 E11.1) E12.1) E13.1) Kq14.1) Kq20.1) Kq23.1) E26.1) Kq27.1)) EN0 f34 S27 (Nat.le_of_ble_eq_true rfl) (own_dsc hcc4) (Nat.le_of_ble_eq_true rfl)) hZ26 (hw _ (tk 74 rfl)) (hw _ (tk 9 rfl)) (by decide) (by decide)) q35a q35c (g := (mkF m 181 #[.val (.int p1), .val (.int p2), .val (.int p3), .val (.int p4), .val (.int c0), .val (.int c1), .val (.int c2), .val (.ref ar), .val (.ref x), .val (.ref b11), .val (.int 2), .val (.ref y27), .val (.int 1)] [(.int 0), (.ref y27)])) rfl (by rw [hml]; rfl) (Steps.refl _) (argsL := [(.int 0)]) (rest := []) (lenOf pd__I_C rfl) rfl (by show 2 * 0 + _ ≤ _; exact Nat.le_of_eq rfl) (hb hby at_181) (fun _ _ => ⟨rfl, eq33, (by decide : 14 + 0 ≤ _), (by decide : 72 + 0 ≤ _)⟩)
  dsimp only [Pt.U, Pt.locs, Pt.cells, Pt.slots] at X35 l35 y35 z35 st35 hQ35
  subst l35 y35 z35
  obtain ⟨rfl, Nq35, eq35⟩ := hQ35
  have N35 := Fr.app N33 Nq35
  have f37 := ((((((((Vv1.ext E11).ext E12).ext E13).keep Kq14 (ninS (Nat.ne_of_lt (Nat.lt_of_lt_of_le Vv1.lt (Nat.le_of_eq g11.symm))) nin0)).keep Kq20 (ninS (Nat.ne_of_lt (Nat.lt_of_lt_of_le Vv1.lt (Nat.le_of_eq g11.symm))) nin0)).keep Kq23 (ninS (Nat.ne_of_lt (Nat.lt_of_lt_of_le Vv1.lt (Nat.le_of_eq g11.symm))) nin0)).ext E26).keep Kq27 (ninS (Nat.ne_of_lt (Nat.lt_of_lt_of_le Vv1.lt (Nat.le_of_eq g11.symm))) nin0))
  obtain ⟨c36, Ar36, -, S36, M36, H36, -⟩ := id f37
  have hin36 := inb_of (j := (2 : Int32)) S36 ⟨by decide, by decide⟩
  have St39 := (own_st_keepR St32 Kq27 f28 (by decide) (hw _ (tk 37 rfl)))
  obtain ⟨cq38, kq38, q38a, q38b, q38c⟩ := isOf hZ26 eq35 Er27
  obtain ⟨_, _, ⟨T38, L38, k38, n38⟩, -, X38, ⟨Lc38, hQ38, l38, y38, z38⟩, st38⟩ := X35.virtualBack hx (y := y_28) (z := y_28) hown26 (mvT hZ26 (hw _ (tk 155 rfl))) (mvT hZ26 (hw _ (tk 156 rfl))) (notFace_of_selects (args := #[]) (mvT hZ26 (hw _ (tk 158 rfl)))) (mvT hZ26 (hw _ (tk 158 rfl))) (mvT hZ26 (hw _ (tk 157 rfl))) (by decide) (backOf (W := 0) (rmNX l Z a0 hw [] G1 G3 G4 b11 x ([c0, c1, c2, 0] : List Int32) 4 T27.heap n0 (Nat.le_trans Z0 (Nat.le_trans (Nat.le_trans (Nat.le_trans (Nat.le_trans (Nat.le_trans (Nat.le_trans (Nat.le_trans (Nat.le_trans Kv1.1 E11.1) E12.1) E13.1) Kq14.1) Kq20.1) Kq23.1) E26.1) Kq27.1)) EN0 f34 Er27 Ft27 Fp27 St39 (Nat.le_of_ble_eq_true rfl) hcc4 rfl) hZ26 (hw _ (tk 159 rfl)) (hw _ (tk 38 rfl)) (by decide) (by decide)) q38a q38c (g := (mkF m 244 #[.val (.int p1), .val (.int p2), .val (.int p3), .val (.int p4), .val (.int c0), .val (.int c1), .val (.int c2), .val (.ref ar), .val (.ref x), .val (.ref b11), .val (.int 2), .val (.ref y27), .val (.int 1)] [(.ref b11)])) rfl (by rw [hml]; rfl) (Steps.refl _) (argsL := []) (rest := []) (lenOf pd___Z rfl) rfl (by show 2 * 0 + _ ≤ _; exact Nat.le_of_eq rfl) (hb hby at_244) (fun _ _ => ⟨rfl, eq35, (by decide : 14 + 0 ≤ _), (by decide : 72 + 0 ≤ _)⟩)
  dsimp only [Pt.U, Pt.locs, Pt.cells, Pt.slots] at X38 l38 y38 z38 st38 hQ38
  subst l38 y38 z38
  obtain ⟨rfl, Nq38, eq38⟩ := hQ38
  have N38 := Fr.app N35 Nq38
  obtain ⟨fs, hr, hrun, hended, hfin⟩ := X38.leaveW hS26 (by rw [eq38]; exact (Nat.le_trans hk26 Kq27.1)) (v := some (.int 1)) (fun h => by rw [Bd.returns] at h; cases h)
  refine ⟨_, _, pre0 _ ?_, hrun, hended, _, _, rfl, ?_, hfin.1, hfin.2.1, hfin.2.2.1, hfin.2.2.2.mono (by decide) (by decide)⟩
  · show Steps _ _ _ (s₁.setTop (mkF m 0 #[.val (.int p1), .val (.int p2), .val (.int p3), .val (.int p4), .unset, .unset, .unset, .unset, .unset, .unset, .unset, .unset, .unset] [])) _
    refine stv1 _ ?_
    show Steps _ _ _ (Tv1.setTop (mkF m 57 #[.val (.int p1), .val (.int p2), .val (.int p3), .val (.int p4), .val (.int c0), .val (.int c1), .val (.int c2), .val (.ref ar), .val (.ref x), .unset, .unset, .unset, .unset] [])) _
    refine st11 _ ?_
    show Steps _ _ _ (T11.setTop (mkF m 60 #[.val (.int p1), .val (.int p2), .val (.int p3), .val (.int p4), .val (.int c0), .val (.int c1), .val (.int c2), .val (.ref ar), .val (.ref x), .unset, .unset, .unset, .unset] [(.ref b11)])) _
    refine XS.dup X11.here hx rfl (hb hby at_60) rfl rfl ?_
    show Steps _ _ _ (T11.setTop (mkF m 61 #[.val (.int p1), .val (.int p2), .val (.int p3), .val (.int p4), .val (.int c0), .val (.int c1), .val (.int c2), .val (.ref ar), .val (.ref x), .unset, .unset, .unset, .unset] [(.ref b11), (.ref b11)])) _
    refine st12 _ ?_
    show Steps _ _ _ (T12.setTop (mkF m 63 #[.val (.int p1), .val (.int p2), .val (.int p3), .val (.int p4), .val (.int c0), .val (.int c1), .val (.int c2), .val (.ref ar), .val (.ref x), .unset, .unset, .unset, .unset] [(.ref b12), (.ref b11), (.ref b11)])) _
    refine XS.aload X12.here hx rfl (hb hby at_63) rfl rfl ?_
    show Steps _ _ _ (T12.setTop (mkF m 65 #[.val (.int p1), .val (.int p2), .val (.int p3), .val (.int p4), .val (.int c0), .val (.int c1), .val (.int c2), .val (.ref ar), .val (.ref x), .unset, .unset, .unset, .unset] [(.ref x), (.ref b12), (.ref b11), (.ref b11)])) _
    refine st13 _ ?_
    show Steps _ _ _ (T13.setTop (mkF m 67 #[.val (.int p1), .val (.int p2), .val (.int p3), .val (.int p4), .val (.int c0), .val (.int c1), .val (.int c2), .val (.ref ar), .val (.ref x), .unset, .unset, .unset, .unset] [(.ref b13), (.ref x), (.ref b12), (.ref b11), (.ref b11)])) _
    refine st14.trans ?_
    show Steps _ _ _ (T14.setTop (mkF m 70 #[.val (.int p1), .val (.int p2), .val (.int p3), .val (.int p4), .val (.int c0), .val (.int c1), .val (.int c2), .val (.ref ar), .val (.ref x), .unset, .unset, .unset, .unset] [(.ref b11)])) _
    refine XS.astore X14.here hx rfl (hb hby at_70) rfl rfl (l' := #[.val (.int p1), .val (.int p2), .val (.int p3), .val (.int p4), .val (.int c0), .val (.int c1), .val (.int c2), .val (.ref ar), .val (.ref x), .val (.ref b11), .unset, .unset, .unset]) rfl ?_
    refine XS.iloadN X14.here hx rfl (hb hby at_72) rfl ?_
    show Steps _ _ _ (T14.setTop (mkF m 73 #[.val (.int p1), .val (.int p2), .val (.int p3), .val (.int p4), .val (.int c0), .val (.int c1), .val (.int c2), .val (.ref ar), .val (.ref x), .val (.ref b11), .unset, .unset, .unset] [(.int p4)])) _
    refine X14.ldcInt hx hown13 (mvT hZ13 (hw _ (tk 4 rfl))) (g := (mkF m 73 #[.val (.int p1), .val (.int p2), .val (.int p3), .val (.int p4), .val (.int c0), .val (.int c1), .val (.int c2), .val (.ref ar), .val (.ref x), .val (.ref b11), .unset, .unset, .unset] [(.int p4)])) rfl (hb hby at_73) _ ?_
    show Steps _ _ _ (T14.setTop (mkF m 75 #[.val (.int p1), .val (.int p2), .val (.int p3), .val (.int p4), .val (.int c0), .val (.int c1), .val (.int c2), .val (.ref ar), .val (.ref x), .val (.ref b11), .unset, .unset, .unset] [(.int 2147483647), (.int p4)])) _
    refine XS.iand X14.here hx rfl (hb hby at_75) rfl ?_
    refine XS.iconst X14.here hx rfl (hb hby at_76) ?_
    show Steps _ _ _ (T14.setTop (mkF m 77 #[.val (.int p1), .val (.int p2), .val (.int p3), .val (.int p4), .val (.int c0), .val (.int c1), .val (.int c2), .val (.ref ar), .val (.ref x), .val (.ref b11), .unset, .unset, .unset] [(.int 5), (.int (p4 &&& (2147483647 : Int32)))])) _
    refine iremM X14 hx (g := (mkF m 77 #[.val (.int p1), .val (.int p2), .val (.int p3), .val (.int p4), .val (.int c0), .val (.int c1), .val (.int c2), .val (.ref ar), .val (.ref x), .val (.ref b11), .unset, .unset, .unset] [(.int 5), (.int (p4 &&& (2147483647 : Int32)))])) rfl (hb hby at_77) rfl (by decide) ?_
    show Steps _ _ _ (T14.setTop (mkF m 78 #[.val (.int p1), .val (.int p2), .val (.int p3), .val (.int p4), .val (.int c0), .val (.int c1), .val (.int c2), .val (.ref ar), .val (.ref x), .val (.ref b11), .unset, .unset, .unset] [(.int ((p4 &&& (2147483647 : Int32)) % (5 : Int32)))])) _
    rw [hn5]
    show Steps _ _ _ (T14.setTop (mkF m 78 #[.val (.int p1), .val (.int p2), .val (.int p3), .val (.int p4), .val (.int c0), .val (.int c1), .val (.int c2), .val (.ref ar), .val (.ref x), .val (.ref b11), .unset, .unset, .unset] [(.int 2)])) _
    refine XS.istore X14.here hx rfl (hb hby at_78) rfl (l' := #[.val (.int p1), .val (.int p2), .val (.int p3), .val (.int p4), .val (.int c0), .val (.int c1), .val (.int c2), .val (.ref ar), .val (.ref x), .val (.ref b11), .val (.int 2), .unset, .unset]) rfl ?_
    refine XS.iload X14.here hx rfl (hb hby at_80) rfl ?_
    refine XS.ifNo X14.here hx rfl (hb hby at_82) rfl ((if0 _ _).trans (tlt (by decide : (0 : Int32) < (2 : Int32))).2.2.2) ?_
    refine XS.aload X14.here hx rfl (hb hby at_85) rfl rfl ?_
    refine XS.iload X14.here hx rfl (hb hby at_87) rfl ?_
    show Steps _ _ _ (T14.setTop (mkF m 89 #[.val (.int p1), .val (.int p2), .val (.int p3), .val (.int p4), .val (.int c0), .val (.int c1), .val (.int c2), .val (.ref ar), .val (.ref x), .val (.ref b11), .val (.int 2), .unset, .unset] [(.int c0), (.ref b11)])) _
    refine st20.trans ?_
    show Steps _ _ _ (T20.setTop (mkF m 92 #[.val (.int p1), .val (.int p2), .val (.int p3), .val (.int p4), .val (.int c0), .val (.int c1), .val (.int c2), .val (.ref ar), .val (.ref x), .val (.ref b11), .val (.int 2), .unset, .unset] [])) _
    refine XS.iload X20.here hx rfl (hb hby at_92) rfl ?_
    refine XS.iconst X20.here hx rfl (hb hby at_94) ?_
    refine XS.icmpNo X20.here hx rfl (hb hby at_95) rfl (tlt (by decide : (1 : Int32) < (2 : Int32))).2.2.2 ?_
    refine XS.aload X20.here hx rfl (hb hby at_98) rfl rfl ?_
    refine XS.iload X20.here hx rfl (hb hby at_100) rfl ?_
    show Steps _ _ _ (T20.setTop (mkF m 102 #[.val (.int p1), .val (.int p2), .val (.int p3), .val (.int p4), .val (.int c0), .val (.int c1), .val (.int c2), .val (.ref ar), .val (.ref x), .val (.ref b11), .val (.int 2), .unset, .unset] [(.int c1), (.ref b11)])) _
    refine st23.trans ?_
    show Steps _ _ _ (T23.setTop (mkF m 105 #[.val (.int p1), .val (.int p2), .val (.int p3), .val (.int p4), .val (.int c0), .val (.int c1), .val (.int c2), .val (.ref ar), .val (.ref x), .val (.ref b11), .val (.int 2), .unset, .unset] [])) _
    refine XS.iload X23.here hx rfl (hb hby at_105) rfl ?_
    refine XS.iconst X23.here hx rfl (hb hby at_107) ?_
    refine XS.icmpYes X23.here hx rfl (pc0 := 108) (pc' := 118) rfl (hb hby at_108) rfl (flt (by decide : ¬ ((2 : Int32) < (2 : Int32)))).2.2.2 (by decide) (by decide) ?_
    refine XS.iload X23.here hx rfl (hb hby at_118) rfl ?_
    refine XS.iconst X23.here hx rfl (hb hby at_120) ?_
    refine XS.icmpYes X23.here hx rfl (pc0 := 121) (pc' := 144) rfl (hb hby at_121) rfl (flt (by decide : ¬ ((3 : Int32) < (2 : Int32)))).2.2.2 (by decide) (by decide) ?_
    refine XS.aload X23.here hx rfl (hb hby at_144) rfl rfl ?_
    refine XS.iconst X23.here hx rfl (hb hby at_146) ?_
    show Steps _ _ _ (T23.setTop (mkF m 147 #[.val (.int p1), .val (.int p2), .val (.int p3), .val (.int p4), .val (.int c0), .val (.int c1), .val (.int c2), .val (.ref ar), .val (.ref x), .val (.ref b11), .val (.int 2), .unset, .unset] [(.int 0), (.ref b11)])) _
    refine st26 _ ?_
    show Steps _ _ _ (T26.setTop (mkF m 149 #[.val (.int p1), .val (.int p2), .val (.int p3), .val (.int p4), .val (.int c0), .val (.int c1), .val (.int c2), .val (.ref ar), .val (.ref x), .val (.ref b11), .val (.int 2), .unset, .unset] [(.ref b26), (.int 0), (.ref b11)])) _
    refine st27.trans ?_
    show Steps _ _ _ (T27.setTop (mkF m 152 #[.val (.int p1), .val (.int p2), .val (.int p3), .val (.int p4), .val (.int c0), .val (.int c1), .val (.int c2), .val (.ref ar), .val (.ref x), .val (.ref b11), .val (.int 2), .unset, .unset] [(.ref y27)])) _
    refine XS.astore X27.here hx rfl (hb hby at_152) rfl rfl (l' := #[.val (.int p1), .val (.int p2), .val (.int p3), .val (.int p4), .val (.int c0), .val (.int c1), .val (.int c2), .val (.ref ar), .val (.ref x), .val (.ref b11), .val (.int 2), .val (.ref y27), .unset]) rfl ?_
    refine XS.iconst X27.here hx rfl (hb hby at_154) ?_
    refine XS.iload X27.here hx rfl (hb hby at_155) rfl ?_
    refine XS.isub X27.here hx rfl (hb hby at_157) rfl ?_
    show Steps _ _ _ (T27.setTop (mkF m 158 #[.val (.int p1), .val (.int p2), .val (.int p3), .val (.int p4), .val (.int c0), .val (.int c1), .val (.int c2), .val (.ref ar), .val (.ref x), .val (.ref b11), .val (.int 2), .val (.ref y27), .unset] [(.int ((3 : Int32) - (2 : Int32)))])) _
    rw [(by decide : ((3 : Int32) - (2 : Int32)) = (1 : Int32))]
    show Steps _ _ _ (T27.setTop (mkF m 158 #[.val (.int p1), .val (.int p2), .val (.int p3), .val (.int p4), .val (.int c0), .val (.int c1), .val (.int c2), .val (.ref ar), .val (.ref x), .val (.ref b11), .val (.int 2), .val (.ref y27), .unset] [(.int 1)])) _
    refine XS.istore X27.here hx rfl (hb hby at_158) rfl (l' := #[.val (.int p1), .val (.int p2), .val (.int p3), .val (.int p4), .val (.int c0), .val (.int c1), .val (.int c2), .val (.ref ar), .val (.ref x), .val (.ref b11), .val (.int 2), .val (.ref y27), .val (.int 1)]) rfl ?_
    refine XS.aload X27.here hx rfl (hb hby at_160) rfl rfl ?_
    show Steps _ _ _ (T27.setTop (mkF m 162 #[.val (.int p1), .val (.int p2), .val (.int p3), .val (.int p4), .val (.int c0), .val (.int c1), .val (.int c2), .val (.ref ar), .val (.ref x), .val (.ref b11), .val (.int 2), .val (.ref y27), .val (.int 1)] [(.ref y27)])) _
    refine st33.trans ?_
    show Steps _ _ _ (T33.setTop (mkF m 165 #[.val (.int p1), .val (.int p2), .val (.int p3), .val (.int p4), .val (.int c0), .val (.int c1), .val (.int c2), .val (.ref ar), .val (.ref x), .val (.ref b11), .val (.int 2), .val (.ref y27), .val (.int 1)] [(.int (Int32.ofNat ((([c0, c1, c2, 0] : List Int32).drop 2).take 1).length))])) _
    rw [(rfl : Int32.ofNat ((([c0, c1, c2, 0] : List Int32).drop 2).take 1).length = (1 : Int32))]
    show Steps _ _ _ (T33.setTop (mkF m 165 #[.val (.int p1), .val (.int p2), .val (.int p3), .val (.int p4), .val (.int c0), .val (.int c1), .val (.int c2), .val (.ref ar), .val (.ref x), .val (.ref b11), .val (.int 2), .val (.ref y27), .val (.int 1)] [(.int 1)])) _
    refine XS.iload X33.here hx rfl (hb hby at_165) rfl ?_
    refine XS.icmpYes X33.here hx rfl (pc0 := 167) (pc' := 172) rfl (hb hby at_167) rfl (teq (by decide : (1 : Int32) = (1 : Int32))).1 (by decide) (by decide) ?_
    refine XS.iload X33.here hx rfl (hb hby at_172) rfl ?_
    refine XS.iconst X33.here hx rfl (hb hby at_174) ?_
    refine XS.icmpNo X33.here hx rfl (hb hby at_175) rfl (flt (by decide : ¬ ((1 : Int32) < (1 : Int32)))).1 ?_
    refine XS.aload X33.here hx rfl (hb hby at_178) rfl rfl ?_
    refine XS.iconst X33.here hx rfl (hb hby at_180) ?_
    show Steps _ _ _ (T33.setTop (mkF m 181 #[.val (.int p1), .val (.int p2), .val (.int p3), .val (.int p4), .val (.int c0), .val (.int c1), .val (.int c2), .val (.ref ar), .val (.ref x), .val (.ref b11), .val (.int 2), .val (.ref y27), .val (.int 1)] [(.int 0), (.ref y27)])) _
    refine st35.trans ?_
    show Steps _ _ _ (T35.setTop (mkF m 184 #[.val (.int p1), .val (.int p2), .val (.int p3), .val (.int p4), .val (.int c0), .val (.int c1), .val (.int c2), .val (.ref ar), .val (.ref x), .val (.ref b11), .val (.int 2), .val (.ref y27), .val (.int 1)] [(.int (((([c0, c1, c2, 0] : List Int32).drop 2).take 1).getD 0 0))])) _
    refine XS.aload X35.here hx rfl (hb hby at_184) rfl rfl ?_
    refine XS.iload X35.here hx rfl (hb hby at_186) rfl ?_
    show Steps _ _ _ (T35.setTop (mkF m 188 #[.val (.int p1), .val (.int p2), .val (.int p3), .val (.int p4), .val (.int c0), .val (.int c1), .val (.int c2), .val (.ref ar), .val (.ref x), .val (.ref b11), .val (.int 2), .val (.ref y27), .val (.int 1)] [(.int 2), (.ref ar), (.int (((([c0, c1, c2, 0] : List Int32).drop 2).take 1).getD 0 0))])) _
    refine X35.caload hx (j := (2 : Int32)) (v := (.int c2)) (by rw [eq35]; exact Ar36.1) (State.isArrayOf_alike hZ26.alike Ar36.2.1) Ar36.2.2 hin36 (H36.at hin36 rfl) (g := (mkF m 188 #[.val (.int p1), .val (.int p2), .val (.int p3), .val (.int p4), .val (.int c0), .val (.int c1), .val (.int c2), .val (.ref ar), .val (.ref x), .val (.ref b11), .val (.int 2), .val (.ref y27), .val (.int 1)] [(.int 2), (.ref ar), (.int (((([c0, c1, c2, 0] : List Int32).drop 2).take 1).getD 0 0))])) rfl rfl (hb hby at_188) _ ?_
    show Steps _ _ _ (T35.setTop (mkF m 189 #[.val (.int p1), .val (.int p2), .val (.int p3), .val (.int p4), .val (.int c0), .val (.int c1), .val (.int c2), .val (.ref ar), .val (.ref x), .val (.ref b11), .val (.int 2), .val (.ref y27), .val (.int 1)] [(.int c2), (.int (((([c0, c1, c2, 0] : List Int32).drop 2).take 1).getD 0 0))])) _
    refine XS.icmpYes X35.here hx rfl (pc0 := 189) (pc' := 194) rfl (hb hby at_189) rfl (teq rfl).1 (by decide) (by decide) ?_
    refine XS.iload X35.here hx rfl (hb hby at_194) rfl ?_
    refine XS.iconst X35.here hx rfl (hb hby at_196) ?_
    refine XS.icmpYes X35.here hx rfl (pc0 := 197) (pc' := 218) rfl (hb hby at_197) rfl (tlt (by decide : (1 : Int32) < (2 : Int32))).1 (by decide) (by decide) ?_
    refine XS.iload X35.here hx rfl (hb hby at_218) rfl ?_
    refine XS.iconst X35.here hx rfl (hb hby at_220) ?_
    refine XS.icmpYes X35.here hx rfl (pc0 := 221) (pc' := 242) rfl (hb hby at_221) rfl (tlt (by decide : (1 : Int32) < (3 : Int32))).1 (by decide) (by decide) ?_
    refine XS.aload X35.here hx rfl (hb hby at_242) rfl rfl ?_
    show Steps _ _ _ (T35.setTop (mkF m 244 #[.val (.int p1), .val (.int p2), .val (.int p3), .val (.int p4), .val (.int c0), .val (.int c1), .val (.int c2), .val (.ref ar), .val (.ref x), .val (.ref b11), .val (.int 2), .val (.ref y27), .val (.int 1)] [(.ref b11)])) _
    refine st38.trans ?_
    show Steps _ _ _ (T38.setTop (mkF m 247 #[.val (.int p1), .val (.int p2), .val (.int p3), .val (.int p4), .val (.int c0), .val (.int c1), .val (.int c2), .val (.ref ar), .val (.ref x), .val (.ref b11), .val (.int 2), .val (.ref y27), .val (.int 1)] [(.int 0)])) _
    refine XS.ifNo X38.here hx rfl (hb hby at_247) rfl ((if0 _ _).trans (teq (by decide : (0 : Int32) = (0 : Int32))).2) ?_
    refine XS.iconst X38.here hx rfl (hb hby at_250) ?_
    refine XS.goto X38.here hx rfl (pc0 := 251) (pc' := 255) rfl (hb hby at_251) (by decide) (by decide) ?_
    show Steps _ _ _ (T38.setTop (mkF m 255 #[.val (.int p1), .val (.int p2), .val (.int p3), .val (.int p4), .val (.int c0), .val (.int c1), .val (.int c2), .val (.ref ar), .val (.ref x), .val (.ref b11), .val (.int 2), .val (.ref y27), .val (.int 1)] [(.int 1)])) _
    exact retN X38 hx (t := .boolean) Bd.returns (by simp) (hb hby at_255) hr
  · show Q0 Z  h0 n0 _ T38.heap _
    rw [eq38]
    exact ⟨rfl, N38⟩
theorem own_mem22 : ("com/example/atomize/atomize/http/FieldValueReaderExpectPinLaw", (22 : Nat)) ∈ consts_1 := by simp [consts_1]
theorem own_mem24 : ("com/example/atomize/atomize/http/FieldValueReaderExpectPinLaw", (24 : Nat)) ∈ consts_1 := by simp [consts_1]
theorem own_mem37 : ("com/example/atomize/atomize/http/FieldValueReaderExpectPinLaw", (37 : Nat)) ∈ consts_1 := by simp [consts_1]
theorem rm0_3 (l : Launch) (Z : State) (a0 : Array Value) (hw : HW a0 Z) (ws : List Jvm.Cond) (G1 : Int32) (G3 : Value) (G4 : Value) (p1 : Int32) (p2 : Int32) (p3 : Int32) (p4 : Int32) (h0 : Heap) (n0 : Nat) (Z0 : n0 ≤ h0.size) (EN : own_env Z G1 G3 G4) (X00 : Old Z n0 h0) (hn5 : ((p4 &&& (2147483647 : Int32)) % (5 : Int32)) = (3 : Int32)) :
    MetFree l x (head1 (Jvm.Cond.code x code maxLocals ret :: ws) room_1) (fun a_ U_ => a_ = #[(.int p1), (.int p2), (.int p3), (.int p4)] ∧ Z.Warmed39 U_.vm ∧ U_.heap = h0 ∧ CHv Z consts_1 U_.vm h0) (fun _ _ _ _ _ => True) (fun _ U_ o_ U1_ => ∃ v_ L_, o_ = .returned v_ ∧ Q0 Z  h0 n0 v_ U1_.heap L_ ∧ ReturnedEndW U_ o_ U1_ L_ 40 5312) := by
  refine MetFree.of_bodySF (plainFor_of_name pn_0) hisR ?_
  intro p e s m args below meth c s₁ Bd hml0 hP hK
  obtain ⟨rfl, hZ, hh, H0⟩ := hP
  have hx := Bd.exec
  have hby := Bd.bytes
  have hml : c.maxLocals = 13 := hml0
  have hown : s.vm.findClass "com/example/atomize/atomize/http/FieldValueReaderExpectPinLaw" = some m.cls := findClass_of_methodNamed Bd.named
  have hnm := (name_of_methodNamed Bd.named Bd.method).1
  have X0 : Stand p l e room_1 s m #[(.int p1), (.int p2), (.int p3), (.int p4)] below meth c s₁ [] 0 0 := Stand.of_body Bd
  have e0 : s₁.heap = h0 := by rw [← hh, Bd.state]; rfl
  have N0 := Fr.nil n0
  have pre0 : ∀ tt, Steps p.tables e below (s₁.setTop (mkF m 0 #[.val (.int p1), .val (.int p2), .val (.int p3), .val (.int p4), .unset, .unset, .unset, .unset, .unset, .unset, .unset, .unset, .unset] [])) tt → Steps p.tables e below (s₁.setTop (entryFrame m #[(.int p1), (.int p2), (.int p3), (.int p4)] maxLocals)) tt := fun tt kk => castTop (ef_0_rrrr m p1 p2 p3 p4) kk
  have hS0 : s.Since s.vm 0 := (State.WarmedH.refl s).since 0
  have hk0 : 0 ≤ h0.size := Nat.zero_le _
  have EN0 := EN
  obtain ⟨O2, P5, O4, rG3, O6, O7, O8⟩ := EN
  obtain ⟨Tv1, hv1, Lv1, c0, c1, c2, ar, ka, x, Xv1, ev1, Nv1, Zv1, Ov1, Kv1, Vv1, Sv1, d0, d1, d2, stv1⟩ := fr1 G1 G3 G4 p1 p2 p3 p4 h0 n0 X0 hx hZ hw hby hml hown e0 N0 Z0 EN0 X00
  have Exv := own_st_exa Sv1
  have hcc4 := own_c4 d0.1 d1.1 d2.1
  obtain ⟨T11, h11, X11, e11, E11, A11, D11, -, st11⟩ := newO Xv1 hx hZ hown (hw _ (tk 36 rfl)) (hw _ (tk 37 rfl)) (hw _ (tk 38 rfl)) ev1 (g := (mkF m 57 #[.val (.int p1), .val (.int p2), .val (.int p3), .val (.int p4), .val (.int c0), .val (.int c1), .val (.int c2), .val (.ref ar), .val (.ref x), .unset, .unset, .unset, .unset] [])) rfl (hb hby at_57) (by decide) (by decide)
  obtain ⟨b11, g11⟩ : ∃ z, z = hv1.size := ⟨_, rfl⟩
  rw [← g11] at A11 D11 st11
  have g_b11 : n0 ≤ b11 := Nat.le_trans (Nat.le_trans Z0 Kv1.1) (Nat.le_of_eq g11.symm)
  have sz_b11 : h0.size ≤ b11 := Nat.le_trans Kv1.1 (Nat.le_of_eq g11.symm)
  have F11_name : Fld Z h11 b11 "com/example/atomize/atomize/http/FieldValueReader" "name" "Ljava/lang/String;" .null := D11 (Or.inr (hw _ (tk 48 rfl))) (ty := (.object "java/lang/String")) (by decide)
  have F11_text : Fld Z h11 b11 "com/example/atomize/atomize/http/FieldValueReader" "text" "Ljava/lang/String;" .null := D11 (Or.inr (hw _ (tk 50 rfl))) (ty := (.object "java/lang/String")) (by decide)
  have F11_grammar : Fld Z h11 b11 "com/example/atomize/atomize/http/FieldValueReader" "grammar" "Ljava/lang/String;" .null := D11 (Or.inr (hw _ (tk 52 rfl))) (ty := (.object "java/lang/String")) (by decide)
  have F11_position : Fld Z h11 b11 "com/example/atomize/atomize/http/FieldValueReader" "position" "I" (.int 0) := D11 (Or.inl (hw _ (tk 59 rfl))) (ty := .int) (by decide)
  have C13 := CHr.keep (((Keep.refl h0 []).trans Kv1 all0).ext E11) sf0 H0
  obtain ⟨b12, T12, h12, k12, d12, kb12, X12, e12, E12, hS12, hk12, hZ12, hown12, Ea12, Ca12, Va12, Ka12, la12, lb12, Cx12, -, ne12, st12⟩ := ldcCH (s := s) (vm0 := s.vm) X11 hx hZ hown (hw _ (tk 39 rfl)) (fun d hd => hw d (own_wS d hd)) e11 hS0 (Nat.le_trans hk0 (Nat.le_trans Kv1.1 E11.1)) (own_EW hw) own_mem22 C13.1 (vs := [Value.int (Jvm.Lit.byteI 104)]) (z := 1) ⟨by decide, rfl⟩ (by decide) rfl (g := (mkF m 61 #[.val (.int p1), .val (.int p2), .val (.int p3), .val (.int p4), .val (.int c0), .val (.int c1), .val (.int c2), .val (.ref ar), .val (.ref x), .unset, .unset, .unset, .unset] [(.ref b11), (.ref b11)])) rfl (hb hby at_61) (n := 4) (by decide) (by decide) (by decide) (by decide)
  have C12 := CHr.trans C13 Cx12
  obtain ⟨b14, T14, h14, k14, d14, kb14, X14, e14, E14, hS14, hk14, hZ14, hown14, Ea14, Ca14, Va14, Ka14, la14, lb14, Cx14, -, ne14, st14⟩ := ldcCH (s := s) (vm0 := T12.vm) X12 hx hZ12 hown12 (hw _ (tk 42 rfl)) (fun d hd => hw d (own_wS d hd)) e12 hS12 hk12 (own_EW hw) own_mem24 C12.1 (vs := [Value.int (Jvm.Lit.byteI 103)]) (z := 1) ⟨by decide, rfl⟩ (by decide) rfl (g := (mkF m 65 #[.val (.int p1), .val (.int p2), .val (.int p3), .val (.int p4), .val (.int c0), .val (.int c1), .val (.int c2), .val (.ref ar), .val (.ref x), .unset, .unset, .unset, .unset] [(.ref x), (.ref b12), (.ref b11), (.ref b11)])) rfl (hb hby at_65) (n := 4) (by decide) (by decide) (by decide) (by decide)
  have C14 := CHr.trans C12 Cx14
  have f16 := ((A11.ext E12).ext E14)
  have f17 := ((F11_name.ext E12).ext E14)
  have f18 := ((F11_text.ext E12).ext E14)
  have f19 := ((F11_grammar.ext E12).ext E14)
  have f20 := ((F11_position.ext E12).ext E14)
  obtain ⟨_, _, ⟨T15, L15, k15, n15⟩, -, X15, ⟨Lc15, hQ15, l15, y15, z15⟩, st15⟩ := X14.specialBack hx (y := y_26) rfl hown14 (mvT hZ14 (hw _ (tk 43 rfl))) (mvT hZ14 (hw _ (tk 44 rfl))) (mvT hZ14 (hw _ (tk 45 rfl))) (by decide) (backOf (W := 1) (rmFI l Z a0 hw [] b11 b12 x b14 h14 n0 (Nat.le_trans Z0 (Nat.le_trans (Nat.le_trans (Nat.le_trans Kv1.1 E11.1) E12.1) E14.1)) f16 f17 f18 f19 f20 g_b11) hZ14 (hw _ (tk 45 rfl)) (hw _ (tk 38 rfl)) (by decide) (by decide)) (g := (mkF m 67 #[.val (.int p1), .val (.int p2), .val (.int p3), .val (.int p4), .val (.int c0), .val (.int c1), .val (.int c2), .val (.ref ar), .val (.ref x), .unset, .unset, .unset, .unset] [(.ref b14), (.ref x), (.ref b12), (.ref b11), (.ref b11)])) rfl (by rw [hml]; rfl) (Steps.refl _) (a := b11) (argsL := [(.ref b12), (.ref x), (.ref b14)]) (rest := [(.ref b11)]) (lenOf pd__Ljava_lang_String_Ljava_lang_String_Ljava_lang_String__V rfl) rfl (by show 2 * 0 + _ ≤ _; exact Nat.le_of_eq rfl) (hb hby at_67) (fun _ _ => ⟨rfl, e14, (by decide : 9 + 0 ≤ _), (by decide : 40 + 0 ≤ _)⟩)
  dsimp only [Pt.U, Pt.locs, Pt.cells, Pt.slots] at X15 l15 y15 z15 st15 hQ15
  subst l15 y15 z15
  obtain ⟨rfl, Nq15, Kq15, Er15, Ft15, Fp15⟩ := hQ15
  have N15 := Fr.app Nv1 Nq15
  have f22 := ((((Ov1.ext E11).ext E12).ext E14).keep Kq15 (allS g_b11 all0))
  have St23 := (own_st_keepR (own_st_ext (own_st_ext (own_st_ext Sv1 E11) E12) E14) Kq15 f16 (by decide) (hw _ (tk 37 rfl)))
  obtain ⟨cq21, kq21, q21a, q21b, q21c⟩ := isOf hZ14 rfl Er15
  obtain ⟨_, _, ⟨T21, L21, k21, n21⟩, -, X21, ⟨Lc21, hQ21, l21, y21, z21⟩, st21⟩ := X15.virtualBack hx (y := y_27) (z := y_27) hown14 (mvT hZ14 (hw _ (tk 53 rfl))) (mvT hZ14 (hw _ (tk 54 rfl))) (notFace_of_selects (args := #[]) (mvT hZ14 (hw _ (tk 56 rfl)))) (mvT hZ14 (hw _ (tk 56 rfl))) (mvT hZ14 (hw _ (tk 55 rfl))) (by decide) (backOf (W := 0) (rmEX l Z a0 hw [] G1 G3 G4 b11 c0 x ([c0, c1, c2, 0] : List Int32) 0 T15.heap n0 (Nat.le_trans Z0 (Nat.le_trans (Nat.le_trans (Nat.le_trans (Nat.le_trans Kv1.1 E11.1) E12.1) E14.1) Kq15.1)) EN0 f22 Er15 Ft15 Fp15 g_b11 St23 (Nat.le_of_ble_eq_true rfl) hcc4 (Nat.le_of_ble_eq_true rfl) rfl) hZ14 (hw _ (tk 57 rfl)) (hw _ (tk 38 rfl)) (by decide) (by decide)) q21a q21c (g := (mkF m 89 #[.val (.int p1), .val (.int p2), .val (.int p3), .val (.int p4), .val (.int c0), .val (.int c1), .val (.int c2), .val (.ref ar), .val (.ref x), .val (.ref b11), .val (.int 3), .unset, .unset] [(.int c0), (.ref b11)])) rfl (by rw [hml]; rfl) (Steps.refl _) (argsL := [(.int c0)]) (rest := []) (lenOf pd__C_V rfl) rfl (by show 2 * 0 + _ ≤ _; exact Nat.le_of_eq rfl) (hb hby at_89) (fun _ _ => ⟨rfl, rfl, (by decide : 9 + 0 ≤ _), (by decide : 40 + 0 ≤ _)⟩)
  dsimp only [Pt.U, Pt.locs, Pt.cells, Pt.slots] at X21 l21 y21 z21 st21 hQ21
  subst l21 y21 z21
  obtain ⟨rfl, Nq21, Kq21, Er21, Ft21, Fp21⟩ := hQ21
  have N21 := Fr.app N15 Nq21
  have f25 := (f22.keep Kq21 (allS g_b11 all0))
  have St26 := (own_st_keepR St23 Kq21 Er15 (by decide) (hw _ (tk 37 rfl)))
  obtain ⟨cq24, kq24, q24a, q24b, q24c⟩ := isOf hZ14 rfl Er21
  obtain ⟨_, _, ⟨T24, L24, k24, n24⟩, -, X24, ⟨Lc24, hQ24, l24, y24, z24⟩, st24⟩ := X21.virtualBack hx (y := y_27) (z := y_27) hown14 (mvT hZ14 (hw _ (tk 53 rfl))) (mvT hZ14 (hw _ (tk 54 rfl))) (notFace_of_selects (args := #[]) (mvT hZ14 (hw _ (tk 56 rfl)))) (mvT hZ14 (hw _ (tk 56 rfl))) (mvT hZ14 (hw _ (tk 55 rfl))) (by decide) (backOf (W := 0) (rmEX l Z a0 hw [] G1 G3 G4 b11 c1 x ([c0, c1, c2, 0] : List Int32) 1 T21.heap n0 (Nat.le_trans Z0 (Nat.le_trans (Nat.le_trans (Nat.le_trans (Nat.le_trans (Nat.le_trans Kv1.1 E11.1) E12.1) E14.1) Kq15.1) Kq21.1)) EN0 f25 Er21 Ft21 Fp21 g_b11 St26 (Nat.le_of_ble_eq_true rfl) hcc4 (Nat.le_of_ble_eq_true rfl) rfl) hZ14 (hw _ (tk 57 rfl)) (hw _ (tk 38 rfl)) (by decide) (by decide)) q24a q24c (g := (mkF m 102 #[.val (.int p1), .val (.int p2), .val (.int p3), .val (.int p4), .val (.int c0), .val (.int c1), .val (.int c2), .val (.ref ar), .val (.ref x), .val (.ref b11), .val (.int 3), .unset, .unset] [(.int c1), (.ref b11)])) rfl (by rw [hml]; rfl) (Steps.refl _) (argsL := [(.int c1)]) (rest := []) (lenOf pd__C_V rfl) rfl (by show 2 * 0 + _ ≤ _; exact Nat.le_of_eq rfl) (hb hby at_102) (fun _ _ => ⟨rfl, rfl, (by decide : 9 + 0 ≤ _), (by decide : 40 + 0 ≤ _)⟩)
  dsimp only [Pt.U, Pt.locs, Pt.cells, Pt.slots] at X24 l24 y24 z24 st24 hQ24
  subst l24 y24 z24
  obtain ⟨rfl, Nq24, Kq24, Er24, Ft24, Fp24⟩ := hQ24
  have N24 := Fr.app N21 Nq24
  have f28 := (f25.keep Kq24 (allS g_b11 all0))
  have St29 := (own_st_keepR St26 Kq24 Er21 (by decide) (hw _ (tk 37 rfl)))
  obtain ⟨cq27, kq27, q27a, q27b, q27c⟩ := isOf hZ14 rfl Er24
  obtain ⟨_, _, ⟨T27, L27, k27, n27⟩, -, X27, ⟨Lc27, hQ27, l27, y27, z27⟩, st27⟩ := X24.virtualBack hx (y := y_27) (z := y_27) hown14 (mvT hZ14 (hw _ (tk 53 rfl))) (mvT hZ14 (hw _ (tk 54 rfl))) (notFace_of_selects (args := #[]) (mvT hZ14 (hw _ (tk 56 rfl)))) (mvT hZ14 (hw _ (tk 56 rfl))) (mvT hZ14 (hw _ (tk 55 rfl))) (by decide) (backOf (W := 0) (rmEX l Z a0 hw [] G1 G3 G4 b11 c2 x ([c0, c1, c2, 0] : List Int32) 2 T24.heap n0 (Nat.le_trans Z0 (Nat.le_trans (Nat.le_trans (Nat.le_trans (Nat.le_trans (Nat.le_trans (Nat.le_trans Kv1.1 E11.1) E12.1) E14.1) Kq15.1) Kq21.1) Kq24.1)) EN0 f28 Er24 Ft24 Fp24 g_b11 St29 (Nat.le_of_ble_eq_true rfl) hcc4 (Nat.le_of_ble_eq_true rfl) rfl) hZ14 (hw _ (tk 57 rfl)) (hw _ (tk 38 rfl)) (by decide) (by decide)) q27a q27c (g := (mkF m 115 #[.val (.int p1), .val (.int p2), .val (.int p3), .val (.int p4), .val (.int c0), .val (.int c1), .val (.int c2), .val (.ref ar), .val (.ref x), .val (.ref b11), .val (.int 3), .unset, .unset] [(.int c2), (.ref b11)])) rfl (by rw [hml]; rfl) (Steps.refl _) (argsL := [(.int c2)]) (rest := []) (lenOf pd__C_V rfl) rfl (by show 2 * 0 + _ ≤ _; exact Nat.le_of_eq rfl) (hb hby at_115) (fun _ _ => ⟨rfl, rfl, (by decide : 9 + 0 ≤ _), (by decide : 40 + 0 ≤ _)⟩)
  dsimp only [Pt.U, Pt.locs, Pt.cells, Pt.slots] at X27 l27 y27 z27 st27 hQ27
  subst l27 y27 z27
  obtain ⟨rfl, Nq27, Kq27, Er27, Ft27, Fp27⟩ := hQ27
  have N27 := Fr.app N24 Nq27
  have C31 := CHr.trans C14 (CHr.keep Kq15 (sfS (Safe.exa hZ14.alike f16 (by decide) (by decide)) sf0) C14.1)
  have C32 := CHr.trans C31 (CHr.keep Kq21 (sfS (Safe.exa hZ14.alike Er15 (by decide) (by decide)) sf0) C31.1)
  have C33 := CHr.trans C32 (CHr.keep Kq24 (sfS (Safe.exa hZ14.alike Er21 (by decide) (by decide)) sf0) C32.1)
  have C34 := CHr.trans C33 (CHr.keep Kq27 (sfS (Safe.exa hZ14.alike Er24 (by decide) (by decide)) sf0) C33.1)
  obtain ⟨b30, T30, h30, k30, d30, kb30, X30, e30, E30, hS30, hk30, hZ30, hown30, Ea30, Ca30, Va30, Ka30, la30, lb30, Cx30, -, ne30, st30⟩ := ldcCH (s := s) (vm0 := T14.vm) X27 hx hZ14 hown14 (hw _ (tk 92 rfl)) (fun d hd => hw d (own_wS d hd)) rfl hS14 (Nat.le_trans hk14 (Nat.le_trans (Nat.le_trans (Nat.le_trans Kq15.1 Kq21.1) Kq24.1) Kq27.1)) (own_EW hw) own_mem37 C34.1 (vs := [Value.int (Jvm.Lit.byteI 109)]) (z := 1) ⟨by decide, rfl⟩ (by decide) rfl (g := (mkF m 147 #[.val (.int p1), .val (.int p2), .val (.int p3), .val (.int p4), .val (.int c0), .val (.int c1), .val (.int c2), .val (.ref ar), .val (.ref x), .val (.ref b11), .val (.int 3), .unset, .unset] [(.int 0), (.ref b11)])) rfl (hb hby at_147) (n := 4) (by decide) (by decide) (by decide) (by decide)
  have C30 := CHr.trans C34 Cx30
  have f36 := (Er27.ext E30)
  have f37 := ((f28.keep Kq27 (allS g_b11 all0)).ext E30)
  have f38 := (Ft27.ext E30)
  have f39 := (Fp27.ext E30)
  have St40 := (own_st_ext (own_st_keepR St29 Kq27 Er24 (by decide) (hw _ (tk 37 rfl))) E30)
  obtain ⟨cq35, kq35, q35a, q35b, q35c⟩ := isOf hZ30 e30 f36
  obtain ⟨_, _, ⟨T35, L35, k35, n35⟩, -, X35', hS35', gr35, ⟨Lc35, hQ35, l35, y35, z35⟩, st35⟩ := X30.virtualBackS hx (y := y_47) (z := y_47) hown30 (mvT hZ30 (hw _ (tk 93 rfl))) (mvT hZ30 (hw _ (tk 94 rfl))) (notFace_of_selects (args := #[]) (mvT hZ30 (hw _ (tk 96 rfl)))) (mvT hZ30 (hw _ (tk 96 rfl))) (mvT hZ30 (hw _ (tk 95 rfl))) (by decide) (own_backSN (W := 0) (s := s) (rmUZ l Z a0 hw [] G1 G3 G4 b11 b30 x ([c0, c1, c2, 0] : List Int32) 3 h30 n0 (Nat.le_trans Z0 (Nat.le_trans (Nat.le_trans (Nat.le_trans (Nat.le_trans (Nat.le_trans (Nat.le_trans (Nat.le_trans (Nat.le_trans Kv1.1 E11.1) E12.1) E14.1) Kq15.1) Kq21.1) Kq24.1) Kq27.1) E30.1)) EN0 f37 f36 f38 f39 g_b11 St40 (Nat.le_of_ble_eq_true rfl) hcc4 (Nat.le_of_ble_eq_true rfl) (Nat.le_of_ble_eq_true rfl) rfl) hZ30 (hw _ (tk 97 rfl)) (hw _ (tk 38 rfl)) (by decide) (by decide) (own_EW hw) C30.1) q35a q35c (g := (mkF m 149 #[.val (.int p1), .val (.int p2), .val (.int p3), .val (.int p4), .val (.int c0), .val (.int c1), .val (.int c2), .val (.ref ar), .val (.ref x), .val (.ref b11), .val (.int 3), .unset, .unset] [(.ref b30), (.int 0), (.ref b11)])) rfl (by rw [hml]; rfl) (Steps.refl _) (argsL := [(.int 0), (.ref b30)]) (rest := []) (lenOf pd__CLjava_lang_String__Ljava_lang_String_ rfl) rfl (by show 2 * 0 + _ ≤ _; exact Nat.le_of_eq rfl) (hb hby at_149) (fun _ _ => ⟨rfl, e30, (by decide : 11 + 2 ≤ _), (by decide : 48 + 4 ≤ _)⟩)
  dsimp only [Pt.U, Pt.locs, Pt.cells, Pt.slots] at X35' hS35' gr35 l35 y35 z35 st35 hQ35
  subst l35 y35 z35
  obtain ⟨X35, hS35, hZ35, hown35⟩ := rebS (s := s) (vm0 := T30.vm) hS30 (by rw [e30]; exact hk30) X35' hS35' gr35 hZ30 hown30
  obtain ⟨y35, rfl, Nq35, Kq35, S35, Er35, Ft35, Fp35⟩ := hQ35
  have N35 := Fr.app N27 Nq35
  have E35q := own_st_exa S35
  have f42 := (f37.keep Kq35 (allS g_b11 all0))
  obtain ⟨cq41, kq41, q41a, q41b, q41c⟩ := isOf hZ35 rfl E35q
  obtain ⟨_, _, ⟨T41, L41, k41, n41⟩, -, X41, ⟨Lc41, hQ41, l41, y41, z41⟩, st41⟩ := X35.virtualBack hx (y := y_15) (z := y_15) hown35 (mvT hZ35 (hw _ (tk 153 rfl))) (mvT hZ35 (hw _ (tk 61 rfl))) (notFace_of_selects (args := #[]) (mvT hZ35 (hw _ (tk 63 rfl)))) (mvT hZ35 (hw _ (tk 63 rfl))) (mvT hZ35 (hw _ (tk 62 rfl))) (by decide) (backOf (W := 0) (rmLE l Z a0 hw [] G1 G3 G4 y35 ([] : List Int32) T35.heap n0 (Nat.le_trans Z0 (Nat.le_trans (Nat.le_trans (Nat.le_trans (Nat.le_trans (Nat.le_trans (Nat.le_trans (Nat.le_trans (Nat.le_trans (Nat.le_trans Kv1.1 E11.1) E12.1) E14.1) Kq15.1) Kq21.1) Kq24.1) Kq27.1) E30.1) Kq35.1)) EN0 f42 S35 (Nat.le_of_ble_eq_true rfl)) hZ35 (hw _ (tk 64 rfl)) (hw _ (tk 9 rfl)) (by decide) (by decide)) q41a q41c (g := (mkF m 162 #[.val (.int p1), .val (.int p2), .val (.int p3), .val (.int p4), .val (.int c0), .val (.int c1), .val (.int c2), .val (.ref ar), .val (.ref x), .val (.ref b11), .val (.int 3), .val (.ref y35), .val (.int 0)] [(.ref y35)])) rfl (by rw [hml]; rfl) (Steps.refl _) (argsL := []) (rest := []) (lenOf pd___I rfl) rfl (by show 2 * 0 + _ ≤ _; exact Nat.le_of_eq rfl) (hb hby at_162) (fun _ _ => ⟨rfl, rfl, (by decide : 13 + 0 ≤ _), (by decide : 52 + 0 ≤ _)⟩)
  dsimp only [Pt.U, Pt.locs, Pt.cells, Pt.slots] at X41 l41 y41 z41 st41 hQ41
  subst l41 y41 z41
  obtain ⟨rfl, Nq41, eq41⟩ := hQ41
  have N41 := Fr.app N35 Nq41
  have St44 := (own_st_keepR St40 Kq35 f36 (by decide) (hw _ (tk 37 rfl)))
  obtain ⟨cq43, kq43, q43a, q43b, q43c⟩ := isOf hZ35 eq41 Er35
  obtain ⟨_, _, ⟨T43, L43, k43, n43⟩, -, X43, ⟨Lc43, hQ43, l43, y43, z43⟩, st43⟩ := X41.virtualBack hx (y := y_28) (z := y_28) hown35 (mvT hZ35 (hw _ (tk 155 rfl))) (mvT hZ35 (hw _ (tk 156 rfl))) (notFace_of_selects (args := #[]) (mvT hZ35 (hw _ (tk 158 rfl)))) (mvT hZ35 (hw _ (tk 158 rfl))) (mvT hZ35 (hw _ (tk 157 rfl))) (by decide) (backOf (W := 0) (rmNX l Z a0 hw [] G1 G3 G4 b11 x ([c0, c1, c2, 0] : List Int32) 4 T35.heap n0 (Nat.le_trans Z0 (Nat.le_trans (Nat.le_trans (Nat.le_trans (Nat.le_trans (Nat.le_trans (Nat.le_trans (Nat.le_trans (Nat.le_trans (Nat.le_trans Kv1.1 E11.1) E12.1) E14.1) Kq15.1) Kq21.1) Kq24.1) Kq27.1) E30.1) Kq35.1)) EN0 f42 Er35 Ft35 Fp35 St44 (Nat.le_of_ble_eq_true rfl) hcc4 rfl) hZ35 (hw _ (tk 159 rfl)) (hw _ (tk 38 rfl)) (by decide) (by decide)) q43a q43c (g := (mkF m 244 #[.val (.int p1), .val (.int p2), .val (.int p3), .val (.int p4), .val (.int c0), .val (.int c1), .val (.int c2), .val (.ref ar), .val (.ref x), .val (.ref b11), .val (.int 3), .val (.ref y35), .val (.int 0)] [(.ref b11)])) rfl (by rw [hml]; rfl) (Steps.refl _) (argsL := []) (rest := []) (lenOf pd___Z rfl) rfl (by show 2 * 0 + _ ≤ _; exact Nat.le_of_eq rfl) (hb hby at_244) (fun _ _ => ⟨rfl, eq41, (by decide : 13 + 0 ≤ _), (by decide : 52 + 0 ≤ _)⟩)
  dsimp only [Pt.U, Pt.locs, Pt.cells, Pt.slots] at X43 l43 y43 z43 st43 hQ43
  subst l43 y43 z43
  obtain ⟨rfl, Nq43, eq43⟩ := hQ43
  have N43 := Fr.app N41 Nq43
  obtain ⟨fs, hr, hrun, hended, hfin⟩ := X43.leaveW hS35 (by rw [eq43]; exact (Nat.le_refl _)) (v := some (.int 1)) (fun h => by rw [Bd.returns] at h; cases h)
  refine ⟨_, _, pre0 _ ?_, hrun, hended, _, _, rfl, ?_, hfin.1, hfin.2.1, hfin.2.2.1, hfin.2.2.2.mono (by decide) (by decide)⟩
  · show Steps _ _ _ (s₁.setTop (mkF m 0 #[.val (.int p1), .val (.int p2), .val (.int p3), .val (.int p4), .unset, .unset, .unset, .unset, .unset, .unset, .unset, .unset, .unset] [])) _
    refine stv1 _ ?_
    show Steps _ _ _ (Tv1.setTop (mkF m 57 #[.val (.int p1), .val (.int p2), .val (.int p3), .val (.int p4), .val (.int c0), .val (.int c1), .val (.int c2), .val (.ref ar), .val (.ref x), .unset, .unset, .unset, .unset] [])) _
    refine st11 _ ?_
    show Steps _ _ _ (T11.setTop (mkF m 60 #[.val (.int p1), .val (.int p2), .val (.int p3), .val (.int p4), .val (.int c0), .val (.int c1), .val (.int c2), .val (.ref ar), .val (.ref x), .unset, .unset, .unset, .unset] [(.ref b11)])) _
    refine XS.dup X11.here hx rfl (hb hby at_60) rfl rfl ?_
    show Steps _ _ _ (T11.setTop (mkF m 61 #[.val (.int p1), .val (.int p2), .val (.int p3), .val (.int p4), .val (.int c0), .val (.int c1), .val (.int c2), .val (.ref ar), .val (.ref x), .unset, .unset, .unset, .unset] [(.ref b11), (.ref b11)])) _
    refine st12 _ ?_
    show Steps _ _ _ (T12.setTop (mkF m 63 #[.val (.int p1), .val (.int p2), .val (.int p3), .val (.int p4), .val (.int c0), .val (.int c1), .val (.int c2), .val (.ref ar), .val (.ref x), .unset, .unset, .unset, .unset] [(.ref b12), (.ref b11), (.ref b11)])) _
    refine XS.aload X12.here hx rfl (hb hby at_63) rfl rfl ?_
    show Steps _ _ _ (T12.setTop (mkF m 65 #[.val (.int p1), .val (.int p2), .val (.int p3), .val (.int p4), .val (.int c0), .val (.int c1), .val (.int c2), .val (.ref ar), .val (.ref x), .unset, .unset, .unset, .unset] [(.ref x), (.ref b12), (.ref b11), (.ref b11)])) _
    refine st14 _ ?_
    show Steps _ _ _ (T14.setTop (mkF m 67 #[.val (.int p1), .val (.int p2), .val (.int p3), .val (.int p4), .val (.int c0), .val (.int c1), .val (.int c2), .val (.ref ar), .val (.ref x), .unset, .unset, .unset, .unset] [(.ref b14), (.ref x), (.ref b12), (.ref b11), (.ref b11)])) _
    refine st15.trans ?_
    show Steps _ _ _ (T15.setTop (mkF m 70 #[.val (.int p1), .val (.int p2), .val (.int p3), .val (.int p4), .val (.int c0), .val (.int c1), .val (.int c2), .val (.ref ar), .val (.ref x), .unset, .unset, .unset, .unset] [(.ref b11)])) _
    refine XS.astore X15.here hx rfl (hb hby at_70) rfl rfl (l' := #[.val (.int p1), .val (.int p2), .val (.int p3), .val (.int p4), .val (.int c0), .val (.int c1), .val (.int c2), .val (.ref ar), .val (.ref x), .val (.ref b11), .unset, .unset, .unset]) rfl ?_
    refine XS.iloadN X15.here hx rfl (hb hby at_72) rfl ?_
    show Steps _ _ _ (T15.setTop (mkF m 73 #[.val (.int p1), .val (.int p2), .val (.int p3), .val (.int p4), .val (.int c0), .val (.int c1), .val (.int c2), .val (.ref ar), .val (.ref x), .val (.ref b11), .unset, .unset, .unset] [(.int p4)])) _
    refine X15.ldcInt hx hown14 (mvT hZ14 (hw _ (tk 4 rfl))) (g := (mkF m 73 #[.val (.int p1), .val (.int p2), .val (.int p3), .val (.int p4), .val (.int c0), .val (.int c1), .val (.int c2), .val (.ref ar), .val (.ref x), .val (.ref b11), .unset, .unset, .unset] [(.int p4)])) rfl (hb hby at_73) _ ?_
    show Steps _ _ _ (T15.setTop (mkF m 75 #[.val (.int p1), .val (.int p2), .val (.int p3), .val (.int p4), .val (.int c0), .val (.int c1), .val (.int c2), .val (.ref ar), .val (.ref x), .val (.ref b11), .unset, .unset, .unset] [(.int 2147483647), (.int p4)])) _
    refine XS.iand X15.here hx rfl (hb hby at_75) rfl ?_
    refine XS.iconst X15.here hx rfl (hb hby at_76) ?_
    show Steps _ _ _ (T15.setTop (mkF m 77 #[.val (.int p1), .val (.int p2), .val (.int p3), .val (.int p4), .val (.int c0), .val (.int c1), .val (.int c2), .val (.ref ar), .val (.ref x), .val (.ref b11), .unset, .unset, .unset] [(.int 5), (.int (p4 &&& (2147483647 : Int32)))])) _
    refine iremM X15 hx (g := (mkF m 77 #[.val (.int p1), .val (.int p2), .val (.int p3), .val (.int p4), .val (.int c0), .val (.int c1), .val (.int c2), .val (.ref ar), .val (.ref x), .val (.ref b11), .unset, .unset, .unset] [(.int 5), (.int (p4 &&& (2147483647 : Int32)))])) rfl (hb hby at_77) rfl (by decide) ?_
    show Steps _ _ _ (T15.setTop (mkF m 78 #[.val (.int p1), .val (.int p2), .val (.int p3), .val (.int p4), .val (.int c0), .val (.int c1), .val (.int c2), .val (.ref ar), .val (.ref x), .val (.ref b11), .unset, .unset, .unset] [(.int ((p4 &&& (2147483647 : Int32)) % (5 : Int32)))])) _
    rw [hn5]
    show Steps _ _ _ (T15.setTop (mkF m 78 #[.val (.int p1), .val (.int p2), .val (.int p3), .val (.int p4), .val (.int c0), .val (.int c1), .val (.int c2), .val (.ref ar), .val (.ref x), .val (.ref b11), .unset, .unset, .unset] [(.int 3)])) _
    refine XS.istore X15.here hx rfl (hb hby at_78) rfl (l' := #[.val (.int p1), .val (.int p2), .val (.int p3), .val (.int p4), .val (.int c0), .val (.int c1), .val (.int c2), .val (.ref ar), .val (.ref x), .val (.ref b11), .val (.int 3), .unset, .unset]) rfl ?_
    refine XS.iload X15.here hx rfl (hb hby at_80) rfl ?_
    refine XS.ifNo X15.here hx rfl (hb hby at_82) rfl ((if0 _ _).trans (tlt (by decide : (0 : Int32) < (3 : Int32))).2.2.2) ?_
    refine XS.aload X15.here hx rfl (hb hby at_85) rfl rfl ?_
    refine XS.iload X15.here hx rfl (hb hby at_87) rfl ?_
    show Steps _ _ _ (T15.setTop (mkF m 89 #[.val (.int p1), .val (.int p2), .val (.int p3), .val (.int p4), .val (.int c0), .val (.int c1), .val (.int c2), .val (.ref ar), .val (.ref x), .val (.ref b11), .val (.int 3), .unset, .unset] [(.int c0), (.ref b11)])) _
    refine st21.trans ?_
    show Steps _ _ _ (T21.setTop (mkF m 92 #[.val (.int p1), .val (.int p2), .val (.int p3), .val (.int p4), .val (.int c0), .val (.int c1), .val (.int c2), .val (.ref ar), .val (.ref x), .val (.ref b11), .val (.int 3), .unset, .unset] [])) _
    refine XS.iload X21.here hx rfl (hb hby at_92) rfl ?_
    refine XS.iconst X21.here hx rfl (hb hby at_94) ?_
    refine XS.icmpNo X21.here hx rfl (hb hby at_95) rfl (tlt (by decide : (1 : Int32) < (3 : Int32))).2.2.2 ?_
    refine XS.aload X21.here hx rfl (hb hby at_98) rfl rfl ?_
    refine XS.iload X21.here hx rfl (hb hby at_100) rfl ?_
    show Steps _ _ _ (T21.setTop (mkF m 102 #[.val (.int p1), .val (.int p2), .val (.int p3), .val (.int p4), .val (.int c0), .val (.int c1), .val (.int c2), .val (.ref ar), .val (.ref x), .val (.ref b11), .val (.int 3), .unset, .unset] [(.int c1), (.ref b11)])) _
    refine st24.trans ?_
    show Steps _ _ _ (T24.setTop (mkF m 105 #[.val (.int p1), .val (.int p2), .val (.int p3), .val (.int p4), .val (.int c0), .val (.int c1), .val (.int c2), .val (.ref ar), .val (.ref x), .val (.ref b11), .val (.int 3), .unset, .unset] [])) _
    refine XS.iload X24.here hx rfl (hb hby at_105) rfl ?_
    refine XS.iconst X24.here hx rfl (hb hby at_107) ?_
    refine XS.icmpNo X24.here hx rfl (hb hby at_108) rfl (tlt (by decide : (2 : Int32) < (3 : Int32))).2.2.2 ?_
    refine XS.aload X24.here hx rfl (hb hby at_111) rfl rfl ?_
    refine XS.iload X24.here hx rfl (hb hby at_113) rfl ?_
    show Steps _ _ _ (T24.setTop (mkF m 115 #[.val (.int p1), .val (.int p2), .val (.int p3), .val (.int p4), .val (.int c0), .val (.int c1), .val (.int c2), .val (.ref ar), .val (.ref x), .val (.ref b11), .val (.int 3), .unset, .unset] [(.int c2), (.ref b11)])) _
    refine st27.trans ?_
    show Steps _ _ _ (T27.setTop (mkF m 118 #[.val (.int p1), .val (.int p2), .val (.int p3), .val (.int p4), .val (.int c0), .val (.int c1), .val (.int c2), .val (.ref ar), .val (.ref x), .val (.ref b11), .val (.int 3), .unset, .unset] [])) _
    refine XS.iload X27.here hx rfl (hb hby at_118) rfl ?_
    refine XS.iconst X27.here hx rfl (hb hby at_120) ?_
    refine XS.icmpYes X27.here hx rfl (pc0 := 121) (pc' := 144) rfl (hb hby at_121) rfl (flt (by decide : ¬ ((3 : Int32) < (3 : Int32)))).2.2.2 (by decide) (by decide) ?_
    refine XS.aload X27.here hx rfl (hb hby at_144) rfl rfl ?_
    refine XS.iconst X27.here hx rfl (hb hby at_146) ?_
    show Steps _ _ _ (T27.setTop (mkF m 147 #[.val (.int p1), .val (.int p2), .val (.int p3), .val (.int p4), .val (.int c0), .val (.int c1), .val (.int c2), .val (.ref ar), .val (.ref x), .val (.ref b11), .val (.int 3), .unset, .unset] [(.int 0), (.ref b11)])) _
    refine st30 _ ?_
    show Steps _ _ _ (T30.setTop (mkF m 149 #[.val (.int p1), .val (.int p2), .val (.int p3), .val (.int p4), .val (.int c0), .val (.int c1), .val (.int c2), .val (.ref ar), .val (.ref x), .val (.ref b11), .val (.int 3), .unset, .unset] [(.ref b30), (.int 0), (.ref b11)])) _
    refine st35.trans ?_
    show Steps _ _ _ (T35.setTop (mkF m 152 #[.val (.int p1), .val (.int p2), .val (.int p3), .val (.int p4), .val (.int c0), .val (.int c1), .val (.int c2), .val (.ref ar), .val (.ref x), .val (.ref b11), .val (.int 3), .unset, .unset] [(.ref y35)])) _
    refine XS.astore X35.here hx rfl (hb hby at_152) rfl rfl (l' := #[.val (.int p1), .val (.int p2), .val (.int p3), .val (.int p4), .val (.int c0), .val (.int c1), .val (.int c2), .val (.ref ar), .val (.ref x), .val (.ref b11), .val (.int 3), .val (.ref y35), .unset]) rfl ?_
    refine XS.iconst X35.here hx rfl (hb hby at_154) ?_
    refine XS.iload X35.here hx rfl (hb hby at_155) rfl ?_
    refine XS.isub X35.here hx rfl (hb hby at_157) rfl ?_
    show Steps _ _ _ (T35.setTop (mkF m 158 #[.val (.int p1), .val (.int p2), .val (.int p3), .val (.int p4), .val (.int c0), .val (.int c1), .val (.int c2), .val (.ref ar), .val (.ref x), .val (.ref b11), .val (.int 3), .val (.ref y35), .unset] [(.int ((3 : Int32) - (3 : Int32)))])) _
    rw [(by decide : ((3 : Int32) - (3 : Int32)) = (0 : Int32))]
    show Steps _ _ _ (T35.setTop (mkF m 158 #[.val (.int p1), .val (.int p2), .val (.int p3), .val (.int p4), .val (.int c0), .val (.int c1), .val (.int c2), .val (.ref ar), .val (.ref x), .val (.ref b11), .val (.int 3), .val (.ref y35), .unset] [(.int 0)])) _
    refine XS.istore X35.here hx rfl (hb hby at_158) rfl (l' := #[.val (.int p1), .val (.int p2), .val (.int p3), .val (.int p4), .val (.int c0), .val (.int c1), .val (.int c2), .val (.ref ar), .val (.ref x), .val (.ref b11), .val (.int 3), .val (.ref y35), .val (.int 0)]) rfl ?_
    refine XS.aload X35.here hx rfl (hb hby at_160) rfl rfl ?_
    show Steps _ _ _ (T35.setTop (mkF m 162 #[.val (.int p1), .val (.int p2), .val (.int p3), .val (.int p4), .val (.int c0), .val (.int c1), .val (.int c2), .val (.ref ar), .val (.ref x), .val (.ref b11), .val (.int 3), .val (.ref y35), .val (.int 0)] [(.ref y35)])) _
    refine st41.trans ?_
    show Steps _ _ _ (T41.setTop (mkF m 165 #[.val (.int p1), .val (.int p2), .val (.int p3), .val (.int p4), .val (.int c0), .val (.int c1), .val (.int c2), .val (.ref ar), .val (.ref x), .val (.ref b11), .val (.int 3), .val (.ref y35), .val (.int 0)] [(.int (Int32.ofNat ([] : List Int32).length))])) _
    rw [(rfl : Int32.ofNat ([] : List Int32).length = (0 : Int32))]
    show Steps _ _ _ (T41.setTop (mkF m 165 #[.val (.int p1), .val (.int p2), .val (.int p3), .val (.int p4), .val (.int c0), .val (.int c1), .val (.int c2), .val (.ref ar), .val (.ref x), .val (.ref b11), .val (.int 3), .val (.ref y35), .val (.int 0)] [(.int 0)])) _
    refine XS.iload X41.here hx rfl (hb hby at_165) rfl ?_
    refine XS.icmpYes X41.here hx rfl (pc0 := 167) (pc' := 172) rfl (hb hby at_167) rfl (teq (by decide : (0 : Int32) = (0 : Int32))).1 (by decide) (by decide) ?_
    refine XS.iload X41.here hx rfl (hb hby at_172) rfl ?_
    refine XS.iconst X41.here hx rfl (hb hby at_174) ?_
    refine XS.icmpYes X41.here hx rfl (pc0 := 175) (pc' := 194) rfl (hb hby at_175) rfl (tlt (by decide : (0 : Int32) < (1 : Int32))).1 (by decide) (by decide) ?_
    refine XS.iload X41.here hx rfl (hb hby at_194) rfl ?_
    refine XS.iconst X41.here hx rfl (hb hby at_196) ?_
    refine XS.icmpYes X41.here hx rfl (pc0 := 197) (pc' := 218) rfl (hb hby at_197) rfl (tlt (by decide : (0 : Int32) < (2 : Int32))).1 (by decide) (by decide) ?_
    refine XS.iload X41.here hx rfl (hb hby at_218) rfl ?_
    refine XS.iconst X41.here hx rfl (hb hby at_220) ?_
    refine XS.icmpYes X41.here hx rfl (pc0 := 221) (pc' := 242) rfl (hb hby at_221) rfl (tlt (by decide : (0 : Int32) < (3 : Int32))).1 (by decide) (by decide) ?_
    show Steps _ _ _ (T41.setTop (mkF m 242 #[.val (.int p1), .val (.int p2), .val (.int p3), .val (.int p4), .val (.int c0), .val (.int c1), .val (.int c2), .val (.ref ar), .val (.ref x), .val (.ref b11), .val (.int 3), .val (.ref y35), .val (.int 0)] [])) _
    refine XS.aload X41.here hx rfl (hb hby at_242) rfl rfl ?_
    show Steps _ _ _ (T41.setTop (mkF m 244 #[.val (.int p1), .val (.int p2), .val (.int p3), .val (.int p4), .val (.int c0), .val (.int c1), .val (.int c2), .val (.ref ar), .val (.ref x), .val (.ref b11), .val (.int 3), .val (.ref y35), .val (.int 0)] [(.ref b11)])) _
    refine st43.trans ?_
    show Steps _ _ _ (T43.setTop (mkF m 247 #[.val (.int p1), .val (.int p2), .val (.int p3), .val (.int p4), .val (.int c0), .val (.int c1), .val (.int c2), .val (.ref ar), .val (.ref x), .val (.ref b11), .val (.int 3), .val (.ref y35), .val (.int 0)] [(.int 0)])) _
    refine XS.ifNo X43.here hx rfl (hb hby at_247) rfl ((if0 _ _).trans (teq (by decide : (0 : Int32) = (0 : Int32))).2) ?_
    refine XS.iconst X43.here hx rfl (hb hby at_250) ?_
    refine XS.goto X43.here hx rfl (pc0 := 251) (pc' := 255) rfl (hb hby at_251) (by decide) (by decide) ?_
    show Steps _ _ _ (T43.setTop (mkF m 255 #[.val (.int p1), .val (.int p2), .val (.int p3), .val (.int p4), .val (.int c0), .val (.int c1), .val (.int c2), .val (.ref ar), .val (.ref x), .val (.ref b11), .val (.int 3), .val (.ref y35), .val (.int 0)] [(.int 1)])) _
    exact retN X43 hx (t := .boolean) Bd.returns (by simp) (hb hby at_255) hr
  · show Q0 Z  h0 n0 _ T43.heap _
    rw [eq43]
    exact ⟨rfl, N43⟩
theorem rm0 (l : Launch) (Z : State) (a0 : Array Value) (hw : HW a0 Z) (ws : List Jvm.Cond) (G1 : Int32) (G3 G4 : Value) (p1 p2 p3 p4 : Int32) (h0 : Heap) (n0 : Nat) (Z0 : n0 ≤ h0.size) (EN : own_env Z G1 G3 G4) (X00 : Old Z n0 h0) :
    MetFree l x (head1 (Jvm.Cond.code x code maxLocals ret :: ws) room_1) (fun a_ U_ => a_ = #[(.int p1), (.int p2), (.int p3), (.int p4)] ∧ Z.Warmed39 U_.vm ∧ U_.heap = h0 ∧ CHv Z consts_1 U_.vm h0) (fun _ _ _ _ _ => True) (fun _ U_ o_ U1_ => ∃ v_ L_, o_ = .returned v_ ∧ Q0 Z h0 n0 v_ U1_.heap L_ ∧ ReturnedEndW U_ o_ U1_ L_ 40 5312) := by
  obtain ⟨j, hj, hn5⟩ := own_remg p4 (5 : Int32) 5 (by decide) (by decide) (by decide)
  match j, hj with
  | 0, _ => exact fun p e ha hc hk s m a b hf hap hP => rm0_0 l Z a0 hw ws G1 G3 G4 p1 p2 p3 p4 h0 n0 Z0 EN X00 hn5 p e ha hc hk s m a b hf hap ⟨hP.1, hP.2.1, hP.2.2.1⟩
  | 1, _ => exact fun p e ha hc hk s m a b hf hap hP => rm0_1 l Z a0 hw ws G1 G3 G4 p1 p2 p3 p4 h0 n0 Z0 EN X00 hn5 p e ha hc hk s m a b hf hap ⟨hP.1, hP.2.1, hP.2.2.1⟩
  | 2, _ => exact fun p e ha hc hk s m a b hf hap hP => rm0_2 l Z a0 hw ws G1 G3 G4 p1 p2 p3 p4 h0 n0 Z0 EN X00 hn5 p e ha hc hk s m a b hf hap ⟨hP.1, hP.2.1, hP.2.2.1⟩
  | 3, _ => exact rm0_3 l Z a0 hw ws G1 G3 G4 p1 p2 p3 p4 h0 n0 Z0 EN X00 hn5
  | 4, _ => exact fun p e ha hc hk s m a b hf hap hP => rm0_4 l Z a0 hw ws G1 G3 G4 p1 p2 p3 p4 h0 n0 Z0 EN X00 hn5 p e ha hc hk s m a b hf hap ⟨hP.1, hP.2.1, hP.2.2.1⟩
theorem comes_1 {Post : Tables → Env → Array Value → State → Outcome → State → Prop} (hpost : ∀ tb e args s v u, (limb_1_1.after args s (.returned v) u = true ∧ limb_1_2.after args s (.returned v) u = true ∧ True) → ReturnedEndW s (.returned v) u (Jvm.fieldLocs frame_1_writes args s ++ Jvm.arrayLocs frame_1_arrays args s ++ Jvm.staticLocs frame_1_statics s) 40 5312 → Post tb e args s (.returned v) u) :
    ArmFor flags0 classFile x code maxLocals ret World_1 tables_1 room_1 Calls_1 rest_1 Pre_1 Post := by
  intro l hfl _ _ p e ha hc hk s m args below hf hA hF happ hP
  obtain ⟨hcalls, hrest, hpre⟩ := hP
  obtain ⟨-, -, -, hnamed, -, -, -, hat⟩ := (Spec.applies_iff hf).mp happ
  obtain ⟨hg, hn⟩ := and_e (Cond.before_iff.mp (show (Jvm.Cond.and given_1 narrow_1).before args s = true from hpre))
  obtain ⟨g1, g2⟩ := and_e hg
  obtain ⟨ga0, gb0⟩ := and_e g2
  obtain ⟨ga1, gb1⟩ := and_e gb0
  obtain ⟨ga2, gb2⟩ := and_e gb1
  obtain ⟨w0, w1, w2, w3, rfl⟩ : ∃ w0 w1 w2 w3 : Value, args = #[w0, w1, w2, w3] := by
    have hs : args.size = 4 := by simpa [Cond.value, given_1] using g1
    obtain ⟨L⟩ := args
    match L, hs with
    | [w0, w1, w2, w3], _ => exact ⟨w0, w1, w2, w3, rfl⟩
  have hw := fun d (hd : d ∈ tables_1) => atoms_spec (ws := Jvm.Cond.code x code maxLocals ret :: tables_1) hat d (List.mem_cons_of_mem _ hd)
  have hfit : Fit s := fun {y c} hc i hi => by
    obtain ⟨ha, rfl⟩ := Array.getElem?_eq_some_iff.mp hc
    have q := List.all_eq_true.mp ((Array.all_eq_true_iff_forall_mem.mp hF) _ (Array.getElem_mem ha)) i (List.mem_range.mpr hi)
    simpa [Array.getElem?_eq_getElem hi] using q
  obtain ⟨hsets, hown0⟩ := atoms_of _ (rest_1_c_eq ▸ (show rest_1_c.before _ s = true from hrest))
  obtain ⟨i0, ei0⟩ := is_v ga0
  obtain rfl : w0 = (.int i0) := Option.some.inj ei0
  obtain ⟨i1, ei1⟩ := is_v ga1
  obtain rfl : w1 = (.int i1) := Option.some.inj ei1
  obtain ⟨i2, ei2⟩ := is_v ga2
  obtain rfl : w2 = (.int i2) := Option.some.inj ei2
  obtain ⟨i3, ei3⟩ := is_v gb2
  obtain rfl : w3 = (.int i3) := Option.some.inj ei3
  obtain ⟨G1, eG1⟩ := is_v (Cond.before_iff.mp (hsets _ (tk 1 rfl)))
  have O2 := Sta.start eG1 (Or.inl (hsets _ (tk 0 rfl)))
  have P5 : ¬ (G1 = (0 : Int32)) := gotF (Cond.eq_ints eG1 (Term.int_eval (0))) (not_v (Cond.before_iff.mp (hsets _ (tk 2 rfl))))
  obtain ⟨G3, eG3, rG3⟩ := isR_v (Cond.before_iff.mp (hsets _ (tk 8 rfl)))
  have O4 := Sta.start eG3 (Or.inl (hsets _ (tk 7 rfl)))
  have O6 := Sta.start (Cond.eq_int (hsets _ (tk 12 rfl)) rfl) (Or.inl (hsets _ (tk 11 rfl)))
  have O7 := Sta.start (Cond.eq_int (hsets _ (tk 15 rfl)) rfl) (Or.inl (hsets _ (tk 14 rfl)))
  have O8 := Sta.start (Cond.eq_int (hsets _ (tk 18 rfl)) rfl) (Or.inl (hsets _ (tk 17 rfl)))
  obtain ⟨n, o, h1, h2, h3, _, L, rfl, ⟨rfl, N⟩, hq⟩ := rm0 l s _ hw tables_1 G1 G3 .null i0 i1 i2 i3 s.heap s.heap.size (Nat.le_refl _) ⟨O2, P5, O4, rG3, O6, O7, O8⟩ (Old.start s) p e ha hc hk s m _ below hf ((Spec.applies_iff_loose hf).mp happ).1 ⟨rfl, State.Warmed39.refl s, rfl, CHv.start (own_EW hw) hcalls.1 (hsets _ (tk 2 rfl)) (hw _ (tk 25 rfl)) (hw _ (tk 8 rfl))⟩ trivial
  refine ⟨n, _, h1, h2, h3, hpost _ _ _ _ _ _ ⟨Cond.after_iff.mpr rfl, Cond.after_iff.mpr (eq_i res_at (Term.int_eval (1)) rfl), trivial⟩ ⟨hq.1, hq.2.1, hq.2.2.1, (hq.2.2.2.sift fun y hy => Or.inr (N y hy)).mono (by decide) (by decide)⟩⟩
theorem main_1_1 : Claimed_1_1 := comes_1 fun _ _ _ _ _ _ h hF => ⟨h.1, hF⟩
theorem main_1_2 : Claimed_1_2 := comes_1 fun _ _ _ _ _ _ h hF => ⟨h.2.1, hF⟩
end Jvm.Pilot.@@N@@
namespace Jvm.Pilot.@@N@@
open Jvm Jvm.ClassFile Sem Op Lib Jvm.Free Jvm.Stand Jvm.Pilot.@@N@@.Jvm.D
/-! MADE BY PROGRAM (witnessworld.py) out of the Statement's table words and the real class files: 21 classes; the members and pool entries that the words name. The judged class is class 1, her method 2. -/
namespace start1
open Jvm.ClassFile
def u (s : String) : CpInfo := .utf8 (stringToUtf16 s)
/-- a pool by its gaps: so many unusable entries, then the entry; so many at the end -/
def gap : Nat → List CpInfo → List CpInfo
  | 0, r => r
  | n + 1, r => .unusable :: gap n r
def poolList (es : List (Nat × CpInfo)) (last : Nat) : List CpInfo := es.foldr (fun e r => gap e.1 (e.2 :: r)) (gap last [])
def pool (es : List (Nat × CpInfo)) (last : Nat) : Array CpInfo := ⟨poolList es last⟩
def fileOf (pool : Array CpInfo) (this : Nat) (attrs : Array Attribute := #[]) (ms : Array MethodInfo := #[]) (fl : Nat := 33) (sup : Nat := 0) (ifs : Array Nat := #[]) (fds : Array FieldInfo := #[]) : ClassFile where
  minorVersion := 0
  majorVersion := 65
  constantPool := pool
  accessFlags := fl
  thisClass := this
  superClass := sup
  interfaces := ifs
  fields := fds
  methods := ms
  attributes := attrs
def plain (name : String) (sup : Option ClassId) : Class where
  name := name
  kind := .ordinary
  loader := none
  accessFlags := 33
  super := sup
  interfaces := #[]
  cf := none
  fields := #[]
  methods := #[]
  instanceTypes := #[]
  staticTypes := #[]
  resolved := #[]
  callSites := []
  init := .initialized
  statics := none
  mirror := none

def pool0 : Array CpInfo := pool [(5, u "<init>"), (0, u "()V"), (1, .class_ 10), (1, u "java/lang/Object")] 113

def k0c0 : Code := { maxStack := 0, maxLocals := 1, code := object_method_1_code, exceptionTable := #[], attributes := #[] }
def k0m0 : Method := { name := "<init>", desc := "()V", sig := { parameters := [], returnType := none }, accessFlags := 1, code := some k0c0 }
/-- java/lang/Object -/
def k0 : Class := { plain "java/lang/Object" none with
  accessFlags := 33
  interfaces := #[]
  cf := some (fileOf pool0 8 #[] #[{ accessFlags := 1, nameIndex := 5, descriptorIndex := 6, attributes := #[] }] 33 0 #[] #[])
  fields := #[]
  methods := #[k0m0]
  instanceTypes := #[]
  staticTypes := #[]
  resolved := Array.replicate 124 none
  statics := none }

def pool1 : Array CpInfo := pool [(2, .class_ 4), (1, u "java/lang/Object"), (0, u "<init>"), (0, u "()V"), (0, .integer 2147483647), (0, .integer 65535), (0, .methodref 10 11), (0, .class_ 12), (0, .nameAndType 13 14), (0, u "com/example/atomize/atomize/http/FieldValueReaderExpectPinLaw"), (0, u "draw"), (0, u "(I)C"), (0, .class_ 16), (0, u "java/lang/String"), (0, .methodref 15 18), (0, .nameAndType 5 19), (0, u "([C)V"), (0, .class_ 21), (0, u "com/example/atomize/atomize/http/FieldValueReader"), (0, .string 23), (0, u "h"), (0, .string 25), (0, u "g"), (0, .methodref 20 27), (0, .nameAndType 5 28), (0, u "(Ljava/lang/String;Ljava/lang/String;Ljava/lang/String;)V"), (0, .methodref 20 30), (0, .nameAndType 31 32), (0, u "expect"), (0, u "(C)V"), (0, .methodref 20 34), (0, .nameAndType 35 36), (0, u "nextElement"), (0, u "()Z"), (0, .string 38), (0, u "m"), (0, .methodref 20 40), (0, .nameAndType 41 42), (0, u "upTo"), (0, u "(CLjava/lang/String;)Ljava/lang/String;"), (0, .methodref 15 44), (0, .nameAndType 45 46), (0, u "length"), (0, u "()I"), (0, .methodref 15 48), (0, .nameAndType 49 14), (0, u "charAt"), (2, u "law"), (0, u "(IIII)Z")] 5

def k1m0 : Method := { name := "<init>", desc := "()V", sig := { parameters := [], returnType := none }, accessFlags := 1, code := none }
def k1c1 : Code := { maxStack := 2, maxLocals := 1, code := method_2_code, exceptionTable := #[], attributes := #[] }
def k1m1 : Method := { name := "draw", desc := "(I)C", sig := { parameters := [.int], returnType := some .char }, accessFlags := 10, code := some k1c1 }
def k1c2 : Code := { maxStack := 5, maxLocals := 13, code := code, exceptionTable := #[], attributes := #[] }
def k1m2 : Method := { name := "law", desc := "(IIII)Z", sig := { parameters := [.int, .int, .int, .int], returnType := some .boolean }, accessFlags := 9, code := some k1c2 }
/-- com/example/atomize/atomize/http/FieldValueReaderExpectPinLaw -/
def k1 : Class := { plain "com/example/atomize/atomize/http/FieldValueReaderExpectPinLaw" (some 0) with
  accessFlags := 49
  interfaces := #[]
  cf := some (fileOf pool1 10 #[] #[{ accessFlags := 1, nameIndex := 5, descriptorIndex := 6, attributes := #[] }, { accessFlags := 10, nameIndex := 13, descriptorIndex := 14, attributes := #[] }, { accessFlags := 9, nameIndex := 52, descriptorIndex := 53, attributes := #[] }] 49 2 #[] #[])
  fields := #[]
  methods := #[k1m0, k1m1, k1m2]
  instanceTypes := #[]
  staticTypes := #[]
  resolved := Array.replicate 59 none
  statics := none }

def pool2 : Array CpInfo := pool [(1, .class_ 2), (0, u "java/io/Serializable"), (0, .class_ 4), (0, u "java/lang/Object")] 2

/-- java/io/Serializable -/
def k2 : Class := { plain "java/io/Serializable" (some 0) with
  accessFlags := 1537
  interfaces := #[]
  cf := some (fileOf pool2 1 #[] #[] 1537 3 #[] #[])
  fields := #[]
  methods := #[]
  instanceTypes := #[]
  staticTypes := #[]
  resolved := Array.replicate 7 none
  statics := none }

def pool3 : Array CpInfo := pool [(1, .class_ 2), (0, u "java/lang/Comparable"), (0, .class_ 4), (0, u "java/lang/Object")] 7

/-- java/lang/Comparable -/
def k3 : Class := { plain "java/lang/Comparable" (some 0) with
  accessFlags := 1537
  interfaces := #[]
  cf := some (fileOf pool3 1 #[] #[] 1537 3 #[] #[])
  fields := #[]
  methods := #[]
  instanceTypes := #[]
  staticTypes := #[]
  resolved := Array.replicate 12 none
  statics := none }

def pool4 : Array CpInfo := pool [(2, .class_ 4), (1, u "java/lang/CharSequence"), (42, .class_ 48), (0, u "java/lang/CharSequence$1CodePointIterator"), (10, .class_ 60), (0, u "java/lang/CharSequence$1CharIterator"), (5, .class_ 67), (0, u "java/lang/Object")] 63

/-- java/lang/CharSequence -/
def k4 : Class := { plain "java/lang/CharSequence" (some 0) with
  accessFlags := 1537
  interfaces := #[]
  cf := some (fileOf pool4 2 #[.nestMembers #[47, 59]] #[] 1537 66 #[] #[])
  fields := #[]
  methods := #[]
  instanceTypes := #[]
  staticTypes := #[]
  resolved := Array.replicate 131 none
  statics := none }

def pool5 : Array CpInfo := pool [(1, .class_ 2), (0, u "java/lang/constant/Constable"), (0, .class_ 4), (0, u "java/lang/Object")] 6

/-- java/lang/constant/Constable -/
def k5 : Class := { plain "java/lang/constant/Constable" (some 0) with
  accessFlags := 1537
  interfaces := #[]
  cf := some (fileOf pool5 1 #[] #[] 1537 3 #[] #[])
  fields := #[]
  methods := #[]
  instanceTypes := #[]
  staticTypes := #[]
  resolved := Array.replicate 11 none
  statics := none }

def pool6 : Array CpInfo := pool [(1, .class_ 2), (0, u "java/lang/constant/ConstantDesc"), (0, .class_ 4), (0, u "java/lang/Object")] 32

/-- java/lang/constant/ConstantDesc -/
def k6 : Class := { plain "java/lang/constant/ConstantDesc" (some 0) with
  accessFlags := 1537
  interfaces := #[]
  cf := some (fileOf pool6 1 #[] #[] 1537 3 #[] #[])
  fields := #[]
  methods := #[]
  instanceTypes := #[]
  staticTypes := #[]
  resolved := Array.replicate 37 none
  statics := none }

def pool7 : Array CpInfo := pool [(1, .methodref 2 3), (0, .class_ 4), (0, .nameAndType 5 6), (0, u "java/lang/Object"), (0, u "<init>"), (0, u "()V"), (2, .fieldref 10 11), (0, .class_ 12), (0, .nameAndType 13 14), (0, u "java/lang/String"), (0, u "value"), (0, u "[B"), (0, .fieldref 10 16), (0, .nameAndType 17 18), (0, u "coder"), (0, u "B"), (2, u "hash"), (0, u "I"), (2, u "hashIsZero"), (0, u "Z"), (0, .methodref 10 28), (0, .nameAndType 5 29), (0, u "([CIILjava/lang/Void;)V"), (6, u "checkBoundsOffCount"), (0, u "(III)I"), (0, .fieldref 10 39), (0, .nameAndType 40 26), (0, u "COMPACT_STRINGS"), (1, .class_ 44), (1, u "java/lang/StringUTF16"), (0, u "compress"), (1, .methodref 42 48), (0, .nameAndType 49 50), (0, u "coderFromArrayLen"), (0, u "([BI)B"), (56, .class_ 109), (1, u "java/lang/StringLatin1"), (32, u "()Z"), (34, .methodref 42 178), (0, .nameAndType 45 179), (0, u "([CII)[B"), (31, u "([BB)V"), (122, u "()I"), (0, .methodref 10 336), (0, .nameAndType 17 337), (0, u "()B"), (25, u "([BI)C"), (27, u "(II)V"), (35, u "(I)C"), (64, .methodref 10 493), (0, .nameAndType 494 142), (0, u "isLatin1"), (0, .methodref 107 496), (0, .nameAndType 497 363), (0, u "charAt"), (0, .methodref 42 496), (2, u "checkIndex"), (3, .methodref 10 506), (0, .nameAndType 507 334), (0, u "length"), (5, u "checkFromToIndex"), (7, .methodref 10 522), (0, .nameAndType 523 524), (0, u "checkBoundsBeginEnd"), (0, u "(III)V"), (50, .class_ 576), (0, u "java/lang/CharSequence"), (22, u "CASE_INSENSITIVE_ORDER"), (0, u "Ljava/util/Comparator;"), (34, u "indexOf"), (0, u "(II)I"), (0, .methodref 107 638), (0, .nameAndType 635 639), (0, u "([BIII)I"), (0, .methodref 42 638), (42, u "substring"), (0, u "(II)Ljava/lang/String;"), (0, .methodref 107 686), (0, .nameAndType 687 688), (0, u "newString"), (0, u "([BII)Ljava/lang/String;"), (0, .methodref 42 686), (320, u "([C)V"), (42, .fieldref 1054 1055), (0, .class_ 1056), (0, .nameAndType 1057 1058), (0, u "jdk/internal/util/Preconditions"), (0, u "SIOOBE_FORMATTER"), (0, u "Ljava/util/function/BiFunction;"), (0, .methodref 1054 1060), (0, .nameAndType 501 1061), (0, u "(IILjava/util/function/BiFunction;)I"), (0, .methodref 1054 1063), (0, .nameAndType 513 1064), (0, u "(IIILjava/util/function/BiFunction;)I"), (0, .methodref 1054 1066), (0, .nameAndType 1067 1064), (0, u "checkFromIndexSize"), (33, u "serialPersistentFields"), (0, u "[Ljava/io/ObjectStreamField;"), (0, .class_ 1104), (0, u "java/lang/String$CaseInsensitiveComparator"), (1, .class_ 1107), (0, u "java/io/Serializable"), (0, .class_ 1109), (0, u "java/lang/Comparable"), (0, .class_ 1111), (0, u "java/lang/constant/Constable"), (0, .class_ 1113), (0, u "java/lang/constant/ConstantDesc"), (2, u "serialVersionUID"), (0, u "J"), (3, u "REPL"), (0, u "C"), (2, u "LATIN1"), (1, u "UTF16")] 323

def k7m0 : Method := { name := "<init>", desc := "()V", sig := { parameters := [], returnType := none }, accessFlags := 1, code := none }
def k7c1 : Code := { maxStack := 5, maxLocals := 2, code := jdk_42_method_3_code, exceptionTable := #[], attributes := #[] }
def k7m1 : Method := { name := "<init>", desc := "([C)V", sig := { parameters := [(.array .char)], returnType := none }, accessFlags := 1, code := some k7c1 }
def k7c2 : Code := { maxStack := 2, maxLocals := 1, code := jdk_42_method_54_code, exceptionTable := #[], attributes := #[] }
def k7m2 : Method := { name := "length", desc := "()I", sig := { parameters := [], returnType := some .int }, accessFlags := 1, code := some k7c2 }
def k7c3 : Code := { maxStack := 2, maxLocals := 2, code := jdk_42_method_56_code, exceptionTable := #[], attributes := #[] }
def k7m3 : Method := { name := "charAt", desc := "(I)C", sig := { parameters := [.int], returnType := some .char }, accessFlags := 1, code := some k7c3 }
def k7c4 : Code := { maxStack := 4, maxLocals := 3, code := jdk_42_method_80_code, exceptionTable := #[], attributes := #[] }
def k7m4 : Method := { name := "indexOf", desc := "(II)I", sig := { parameters := [.int, .int], returnType := some .int }, accessFlags := 1, code := some k7c4 }
def k7c5 : Code := { maxStack := 3, maxLocals := 5, code := jdk_42_method_92_code, exceptionTable := #[], attributes := #[] }
def k7m5 : Method := { name := "substring", desc := "(II)Ljava/lang/String;", sig := { parameters := [.int, .int], returnType := some (.object "java/lang/String") }, accessFlags := 1, code := some k7c5 }
def k7c6 : Code := { maxStack := 4, maxLocals := 6, code := jdk_42_method_149_code, exceptionTable := #[], attributes := #[] }
def k7m6 : Method := { name := "<init>", desc := "([CIILjava/lang/Void;)V", sig := { parameters := [(.array .char), .int, .int, (.object "java/lang/Void")], returnType := none }, accessFlags := 2, code := some k7c6 }
def k7c7 : Code := { maxStack := 2, maxLocals := 3, code := jdk_42_method_151_code, exceptionTable := #[], attributes := #[] }
def k7m7 : Method := { name := "<init>", desc := "([BB)V", sig := { parameters := [(.array .byte), .byte], returnType := none }, accessFlags := 0, code := some k7c7 }
def k7c8 : Code := { maxStack := 1, maxLocals := 1, code := jdk_42_method_152_code, exceptionTable := #[], attributes := #[] }
def k7m8 : Method := { name := "coder", desc := "()B", sig := { parameters := [], returnType := some .byte }, accessFlags := 0, code := some k7c8 }
def k7c9 : Code := { maxStack := 1, maxLocals := 1, code := jdk_42_method_154_code, exceptionTable := #[], attributes := #[] }
def k7m9 : Method := { name := "isLatin1", desc := "()Z", sig := { parameters := [], returnType := some .boolean }, accessFlags := 0, code := some k7c9 }
def k7c10 : Code := { maxStack := 3, maxLocals := 2, code := jdk_42_method_155_code, exceptionTable := #[], attributes := #[] }
def k7m10 : Method := { name := "checkIndex", desc := "(II)V", sig := { parameters := [.int, .int], returnType := none }, accessFlags := 8, code := some k7c10 }
def k7c11 : Code := { maxStack := 4, maxLocals := 3, code := jdk_42_method_157_code, exceptionTable := #[], attributes := #[] }
def k7m11 : Method := { name := "checkBoundsOffCount", desc := "(III)I", sig := { parameters := [.int, .int, .int], returnType := some .int }, accessFlags := 8, code := some k7c11 }
def k7c12 : Code := { maxStack := 4, maxLocals := 3, code := jdk_42_method_158_code, exceptionTable := #[], attributes := #[] }
def k7m12 : Method := { name := "checkBoundsBeginEnd", desc := "(III)V", sig := { parameters := [.int, .int, .int], returnType := none }, accessFlags := 8, code := some k7c12 }
/-- java/lang/String -/
def k7 : Class := { plain "java/lang/String" (some 0) with
  accessFlags := 49
  interfaces := #[2, 3, 4, 5, 6]
  cf := some (fileOf pool7 10 #[.nestMembers #[1103]] #[{ accessFlags := 1, nameIndex := 5, descriptorIndex := 6, attributes := #[] }, { accessFlags := 1, nameIndex := 5, descriptorIndex := 1010, attributes := #[] }, { accessFlags := 1, nameIndex := 507, descriptorIndex := 334, attributes := #[] }, { accessFlags := 1, nameIndex := 497, descriptorIndex := 427, attributes := #[] }, { accessFlags := 1, nameIndex := 635, descriptorIndex := 636, attributes := #[] }, { accessFlags := 1, nameIndex := 683, descriptorIndex := 684, attributes := #[] }, { accessFlags := 2, nameIndex := 5, descriptorIndex := 29, attributes := #[] }, { accessFlags := 0, nameIndex := 5, descriptorIndex := 211, attributes := #[] }, { accessFlags := 0, nameIndex := 17, descriptorIndex := 337, attributes := #[] }, { accessFlags := 0, nameIndex := 494, descriptorIndex := 142, attributes := #[] }, { accessFlags := 8, nameIndex := 501, descriptorIndex := 391, attributes := #[] }, { accessFlags := 8, nameIndex := 36, descriptorIndex := 37, attributes := #[] }, { accessFlags := 8, nameIndex := 523, descriptorIndex := 524, attributes := #[] }] 49 2 #[1106, 1108, 575, 1110, 1112] #[{ accessFlags := 18, nameIndex := 13, descriptorIndex := 14, attributes := #[] }, { accessFlags := 18, nameIndex := 17, descriptorIndex := 18, attributes := #[] }, { accessFlags := 2, nameIndex := 21, descriptorIndex := 22, attributes := #[] }, { accessFlags := 2, nameIndex := 25, descriptorIndex := 26, attributes := #[] }, { accessFlags := 26, nameIndex := 1116, descriptorIndex := 1117, attributes := #[] }, { accessFlags := 24, nameIndex := 40, descriptorIndex := 26, attributes := #[] }, { accessFlags := 26, nameIndex := 1101, descriptorIndex := 1102, attributes := #[] }, { accessFlags := 26, nameIndex := 1121, descriptorIndex := 1122, attributes := #[] }, { accessFlags := 25, nameIndex := 599, descriptorIndex := 600, attributes := #[] }, { accessFlags := 24, nameIndex := 1125, descriptorIndex := 18, attributes := #[] }, { accessFlags := 24, nameIndex := 1127, descriptorIndex := 18, attributes := #[] }])
  fields := #[{ name := "value", type := (.array .byte), accessFlags := 18, slot := 0, constantValue := 0 }, { name := "coder", type := .byte, accessFlags := 18, slot := 1, constantValue := 0 }, { name := "hash", type := .int, accessFlags := 2, slot := 2, constantValue := 0 }, { name := "hashIsZero", type := .boolean, accessFlags := 2, slot := 3, constantValue := 0 }, { name := "serialVersionUID", type := .long, accessFlags := 26, slot := 0, constantValue := 0 }, { name := "COMPACT_STRINGS", type := .boolean, accessFlags := 24, slot := 1, constantValue := 0 }, { name := "serialPersistentFields", type := (.array (.object "java/io/ObjectStreamField")), accessFlags := 26, slot := 2, constantValue := 0 }, { name := "REPL", type := .char, accessFlags := 26, slot := 3, constantValue := 0 }, { name := "CASE_INSENSITIVE_ORDER", type := (.object "java/util/Comparator"), accessFlags := 25, slot := 4, constantValue := 0 }, { name := "LATIN1", type := .byte, accessFlags := 24, slot := 5, constantValue := 0 }, { name := "UTF16", type := .byte, accessFlags := 24, slot := 6, constantValue := 0 }]
  methods := #[k7m0, k7m1, k7m2, k7m3, k7m4, k7m5, k7m6, k7m7, k7m8, k7m9, k7m10, k7m11, k7m12]
  instanceTypes := #[(.array .byte), .byte, .int, .boolean]
  staticTypes := #[.long, .boolean, (.array (.object "java/io/ObjectStreamField")), .char, (.object "java/util/Comparator"), .byte, .byte]
  resolved := Array.replicate 1451 none
  statics := some 0 }

def pool8 : Array CpInfo := pool [(3, .class_ 4), (0, u "java/lang/String"), (1, .class_ 8), (1, u "java/lang/Object"), (0, u "<init>"), (0, u "()V"), (0, .methodref 12 13), (0, .class_ 14), (0, .nameAndType 15 16), (0, u "java/lang/StringUTF16"), (0, u "newBytesLength"), (0, u "(I)I"), (3, .integer 1073741823), (23, .fieldref 12 45), (0, .nameAndType 46 47), (0, u "$assertionsDisabled"), (0, u "Z"), (0, .methodref 12 49), (0, .nameAndType 50 51), (0, u "length"), (0, u "([B)I"), (7, .fieldref 12 60), (0, .nameAndType 61 62), (0, u "HI_BYTE_SHIFT"), (0, u "I"), (0, .fieldref 12 64), (0, .nameAndType 65 62), (0, u "LO_BYTE_SHIFT"), (1, .methodref 12 68), (0, .nameAndType 69 70), (0, u "checkIndex"), (0, u "(I[B)V"), (0, .methodref 12 72), (0, .nameAndType 73 74), (0, u "getChar"), (0, u "([BI)C"), (21, .methodref 12 97), (0, .nameAndType 98 99), (0, u "checkBoundsBeginEnd"), (0, u "(II[B)V"), (7, .methodref 12 108), (0, .nameAndType 109 110), (0, u "newBytesFor"), (0, u "(I)[B"), (0, .methodref 12 112), (0, .nameAndType 113 114), (0, u "putChar"), (0, u "([BII)V"), (0, .methodref 12 116), (0, .nameAndType 117 118), (0, u "compress"), (0, u "([CI[BII)I"), (0, .methodref 12 120), (0, .nameAndType 121 122), (0, u "toBytes"), (0, u "([CII)[B"), (0, .methodref 12 124), (0, .nameAndType 117 125), (0, u "([BI[BII)I"), (0, .methodref 127 128), (0, .class_ 129), (0, .nameAndType 130 131), (0, u "java/util/Arrays"), (0, u "copyOfRange"), (0, u "([BII)[B"), (41, .methodref 12 174), (0, .nameAndType 175 99), (0, u "checkBoundsOffCount"), (7, .methodref 184 185), (0, .class_ 186), (0, .nameAndType 187 188), (0, u "java/lang/Math"), (0, u "min"), (0, u "(II)I"), (35, .methodref 184 225), (0, .nameAndType 226 188), (0, u "max"), (0, .integer 65536), (0, .methodref 12 229), (0, .nameAndType 230 231), (0, u "indexOfChar"), (0, u "([BIII)I"), (9, .methodref 3 242), (0, .nameAndType 98 243), (0, u "(III)V"), (0, .methodref 12 245), (0, .nameAndType 246 231), (0, u "indexOfCharUnsafe"), (4, .fieldref 3 252), (0, .nameAndType 253 47), (0, u "COMPACT_STRINGS"), (3, .methodref 12 258), (0, .nameAndType 117 131), (0, .methodref 12 260), (0, .nameAndType 261 262), (0, u "coderFromArrayLen"), (0, u "([BI)B"), (0, .methodref 3 264), (0, .nameAndType 9 265), (0, u "([BB)V"), (2, u "indexOf"), (12, u "(III)I"), (13, .string 296), (0, u ""), (30, u "newString"), (0, u "([BII)Ljava/lang/String;"), (40, .class_ 371), (1, u "java/lang/StringUTF16$LinesSpliterator"), (20, u "charAt"), (21, .methodref 3 415), (0, .nameAndType 69 416), (0, u "(II)V"), (2, .methodref 3 420), (0, .nameAndType 175 281), (9, u "MAX_LENGTH"), (196, .class_ 628), (0, u "java/lang/StringUTF16$CodePointsSpliterator"), (0, .class_ 630), (0, u "java/lang/StringUTF16$CharsSpliterator")] 4

def k8m0 : Method := { name := "<init>", desc := "()V", sig := { parameters := [], returnType := none }, accessFlags := 0, code := none }
def k8c1 : Code := { maxStack := 1, maxLocals := 1, code := jdk_52_method_2_code, exceptionTable := #[], attributes := #[] }
def k8m1 : Method := { name := "newBytesFor", desc := "(I)[B", sig := { parameters := [.int], returnType := some (.array .byte) }, accessFlags := 9, code := some k8c1 }
def k8c2 : Code := { maxStack := 4, maxLocals := 1, code := jdk_52_method_3_code, exceptionTable := #[], attributes := #[] }
def k8m2 : Method := { name := "newBytesLength", desc := "(I)I", sig := { parameters := [.int], returnType := some .int }, accessFlags := 9, code := some k8c2 }
def k8c3 : Code := { maxStack := 4, maxLocals := 3, code := jdk_52_method_4_code, exceptionTable := #[], attributes := #[] }
def k8m3 : Method := { name := "putChar", desc := "([BII)V", sig := { parameters := [(.array .byte), .int, .int], returnType := none }, accessFlags := 8, code := some k8c3 }
def k8c4 : Code := { maxStack := 3, maxLocals := 2, code := jdk_52_method_5_code, exceptionTable := #[], attributes := #[] }
def k8m4 : Method := { name := "getChar", desc := "([BI)C", sig := { parameters := [(.array .byte), .int], returnType := some .char }, accessFlags := 8, code := some k8c4 }
def k8c5 : Code := { maxStack := 2, maxLocals := 1, code := jdk_52_method_6_code, exceptionTable := #[], attributes := #[] }
def k8m5 : Method := { name := "length", desc := "([B)I", sig := { parameters := [(.array .byte)], returnType := some .int }, accessFlags := 9, code := some k8c5 }
def k8c6 : Code := { maxStack := 4, maxLocals := 5, code := jdk_52_method_14_code, exceptionTable := #[], attributes := #[] }
def k8m6 : Method := { name := "toBytes", desc := "([CII)[B", sig := { parameters := [(.array .char), .int, .int], returnType := some (.array .byte) }, accessFlags := 9, code := some k8c6 }
def k8c7 : Code := { maxStack := 2, maxLocals := 2, code := jdk_52_method_15_code, exceptionTable := #[], attributes := #[] }
def k8m7 : Method := { name := "coderFromArrayLen", desc := "([BI)B", sig := { parameters := [(.array .byte), .int], returnType := some .byte }, accessFlags := 8, code := some k8c7 }
def k8c8 : Code := { maxStack := 5, maxLocals := 6, code := jdk_52_method_16_code, exceptionTable := #[], attributes := #[] }
def k8m8 : Method := { name := "compress", desc := "([CII)[B", sig := { parameters := [(.array .char), .int, .int], returnType := some (.array .byte) }, accessFlags := 9, code := some k8c8 }
def k8c9 : Code := { maxStack := 5, maxLocals := 6, code := jdk_52_method_17_code, exceptionTable := #[], attributes := #[] }
def k8m9 : Method := { name := "compress", desc := "([BII)[B", sig := { parameters := [(.array .byte), .int, .int], returnType := some (.array .byte) }, accessFlags := 9, code := some k8c9 }
def k8c10 : Code := { maxStack := 3, maxLocals := 7, code := jdk_52_method_21_code, exceptionTable := #[], attributes := #[] }
def k8m10 : Method := { name := "compress", desc := "([CI[BII)I", sig := { parameters := [(.array .char), .int, (.array .byte), .int, .int], returnType := some .int }, accessFlags := 9, code := some k8c10 }
def k8c11 : Code := { maxStack := 3, maxLocals := 7, code := jdk_52_method_22_code, exceptionTable := #[], attributes := #[] }
def k8m11 : Method := { name := "compress", desc := "([BI[BII)I", sig := { parameters := [(.array .byte), .int, (.array .byte), .int, .int], returnType := some .int }, accessFlags := 9, code := some k8c11 }
def k8c12 : Code := { maxStack := 4, maxLocals := 4, code := jdk_52_method_40_code, exceptionTable := #[], attributes := #[] }
def k8m12 : Method := { name := "indexOf", desc := "([BIII)I", sig := { parameters := [(.array .byte), .int, .int, .int], returnType := some .int }, accessFlags := 9, code := some k8c12 }
def k8c13 : Code := { maxStack := 4, maxLocals := 4, code := jdk_52_method_47_code, exceptionTable := #[], attributes := #[] }
def k8m13 : Method := { name := "indexOfChar", desc := "([BIII)I", sig := { parameters := [(.array .byte), .int, .int, .int], returnType := some .int }, accessFlags := 10, code := some k8c13 }
def k8c14 : Code := { maxStack := 2, maxLocals := 5, code := jdk_52_method_48_code, exceptionTable := #[], attributes := #[] }
def k8m14 : Method := { name := "indexOfCharUnsafe", desc := "([BIII)I", sig := { parameters := [(.array .byte), .int, .int, .int], returnType := some .int }, accessFlags := 10, code := some k8c14 }
def k8c15 : Code := { maxStack := 6, maxLocals := 5, code := jdk_52_method_69_code, exceptionTable := #[], attributes := #[] }
def k8m15 : Method := { name := "newString", desc := "([BII)Ljava/lang/String;", sig := { parameters := [(.array .byte), .int, .int], returnType := some (.object "java/lang/String") }, accessFlags := 9, code := some k8c15 }
def k8c16 : Code := { maxStack := 2, maxLocals := 2, code := jdk_52_method_83_code, exceptionTable := #[], attributes := #[] }
def k8m16 : Method := { name := "charAt", desc := "([BI)C", sig := { parameters := [(.array .byte), .int], returnType := some .char }, accessFlags := 9, code := some k8c16 }
def k8c17 : Code := { maxStack := 2, maxLocals := 2, code := jdk_52_method_91_code, exceptionTable := #[], attributes := #[] }
def k8m17 : Method := { name := "checkIndex", desc := "(I[B)V", sig := { parameters := [.int, (.array .byte)], returnType := none }, accessFlags := 9, code := some k8c17 }
def k8c18 : Code := { maxStack := 3, maxLocals := 3, code := jdk_52_method_93_code, exceptionTable := #[], attributes := #[] }
def k8m18 : Method := { name := "checkBoundsBeginEnd", desc := "(II[B)V", sig := { parameters := [.int, .int, (.array .byte)], returnType := none }, accessFlags := 9, code := some k8c18 }
def k8c19 : Code := { maxStack := 3, maxLocals := 3, code := jdk_52_method_94_code, exceptionTable := #[], attributes := #[] }
def k8m19 : Method := { name := "checkBoundsOffCount", desc := "(II[B)V", sig := { parameters := [.int, .int, (.array .byte)], returnType := none }, accessFlags := 9, code := some k8c19 }
/-- java/lang/StringUTF16 -/
def k8 : Class := { plain "java/lang/StringUTF16" (some 0) with
  accessFlags := 48
  interfaces := #[]
  cf := some (fileOf pool8 12 #[.nestMembers #[627, 629, 369]] #[{ accessFlags := 0, nameIndex := 9, descriptorIndex := 10, attributes := #[] }, { accessFlags := 9, nameIndex := 109, descriptorIndex := 110, attributes := #[] }, { accessFlags := 9, nameIndex := 15, descriptorIndex := 16, attributes := #[] }, { accessFlags := 8, nameIndex := 113, descriptorIndex := 114, attributes := #[] }, { accessFlags := 8, nameIndex := 73, descriptorIndex := 74, attributes := #[] }, { accessFlags := 9, nameIndex := 50, descriptorIndex := 51, attributes := #[] }, { accessFlags := 9, nameIndex := 121, descriptorIndex := 122, attributes := #[] }, { accessFlags := 8, nameIndex := 261, descriptorIndex := 262, attributes := #[] }, { accessFlags := 9, nameIndex := 117, descriptorIndex := 122, attributes := #[] }, { accessFlags := 9, nameIndex := 117, descriptorIndex := 131, attributes := #[] }, { accessFlags := 9, nameIndex := 117, descriptorIndex := 118, attributes := #[] }, { accessFlags := 9, nameIndex := 117, descriptorIndex := 125, attributes := #[] }, { accessFlags := 9, nameIndex := 268, descriptorIndex := 231, attributes := #[] }, { accessFlags := 10, nameIndex := 230, descriptorIndex := 231, attributes := #[] }, { accessFlags := 10, nameIndex := 246, descriptorIndex := 231, attributes := #[] }, { accessFlags := 9, nameIndex := 327, descriptorIndex := 328, attributes := #[] }, { accessFlags := 9, nameIndex := 392, descriptorIndex := 74, attributes := #[] }, { accessFlags := 9, nameIndex := 69, descriptorIndex := 70, attributes := #[] }, { accessFlags := 9, nameIndex := 98, descriptorIndex := 99, attributes := #[] }, { accessFlags := 9, nameIndex := 175, descriptorIndex := 99, attributes := #[] }] 48 6 #[] #[{ accessFlags := 26, nameIndex := 61, descriptorIndex := 62, attributes := #[] }, { accessFlags := 26, nameIndex := 65, descriptorIndex := 62, attributes := #[] }, { accessFlags := 24, nameIndex := 430, descriptorIndex := 62, attributes := #[] }, { accessFlags := 4120, nameIndex := 46, descriptorIndex := 47, attributes := #[] }])
  fields := #[{ name := "HI_BYTE_SHIFT", type := .int, accessFlags := 26, slot := 0, constantValue := 0 }, { name := "LO_BYTE_SHIFT", type := .int, accessFlags := 26, slot := 1, constantValue := 0 }, { name := "MAX_LENGTH", type := .int, accessFlags := 24, slot := 2, constantValue := 0 }, { name := "$assertionsDisabled", type := .boolean, accessFlags := 4120, slot := 3, constantValue := 0 }]
  methods := #[k8m0, k8m1, k8m2, k8m3, k8m4, k8m5, k8m6, k8m7, k8m8, k8m9, k8m10, k8m11, k8m12, k8m13, k8m14, k8m15, k8m16, k8m17, k8m18, k8m19]
  instanceTypes := #[]
  staticTypes := #[.int, .int, .int, .boolean]
  resolved := Array.replicate 635 none
  statics := some 1 }

def pool9 : Array CpInfo := pool [(1, .methodref 2 3), (0, .class_ 4), (0, .nameAndType 5 6), (0, u "java/lang/Object"), (0, u "<init>"), (0, u "()V"), (0, .fieldref 8 9), (0, .class_ 10), (0, .nameAndType 11 12), (0, u "com/example/atomize/atomize/http/FieldValueReader"), (0, u "name"), (0, u "Ljava/lang/String;"), (0, .fieldref 8 14), (0, .nameAndType 15 12), (0, u "text"), (0, .fieldref 8 17), (0, .nameAndType 18 12), (0, u "grammar"), (0, .fieldref 8 20), (0, .nameAndType 21 22), (0, u "position"), (0, u "I"), (0, .methodref 24 25), (0, .class_ 26), (0, .nameAndType 27 28), (0, u "java/lang/String"), (0, u "length"), (0, u "()I"), (0, .methodref 24 30), (0, .nameAndType 31 32), (0, u "charAt"), (0, u "(I)C"), (21, .methodref 24 55), (0, .nameAndType 56 57), (0, u "indexOf"), (0, u "(II)I"), (0, .methodref 24 59), (0, .nameAndType 60 61), (0, u "substring"), (0, u "(II)Ljava/lang/String;"), (19, .class_ 82), (0, u "com/example/atomize/atomize/http/FieldValueReader$Parameter"), (8, u "expect"), (0, u "(C)V"), (45, u "TOKEN_SYMBOLS"), (1, u "(Ljava/lang/String;Ljava/lang/String;Ljava/lang/String;)V"), (2, u "nextElement"), (0, u "()Z"), (4, u "upTo"), (0, u "(CLjava/lang/String;)Ljava/lang/String;")] 25

def k9c0 : Code := { maxStack := 2, maxLocals := 4, code := prog_5_method_1_code, exceptionTable := #[], attributes := #[] }
def k9m0 : Method := { name := "<init>", desc := "(Ljava/lang/String;Ljava/lang/String;Ljava/lang/String;)V", sig := { parameters := [(.object "java/lang/String"), (.object "java/lang/String"), (.object "java/lang/String")], returnType := none }, accessFlags := 0, code := some k9c0 }
def k9c1 : Code := { maxStack := 3, maxLocals := 1, code := prog_5_method_2_code, exceptionTable := #[], attributes := #[] }
def k9m1 : Method := { name := "nextElement", desc := "()Z", sig := { parameters := [], returnType := some .boolean }, accessFlags := 0, code := some k9c1 }
def k9c2 : Code := { maxStack := 3, maxLocals := 2, code := prog_5_method_3_code, exceptionTable := #[], attributes := #[] }
def k9m2 : Method := { name := "expect", desc := "(C)V", sig := { parameters := [.char], returnType := none }, accessFlags := 0, code := some k9c2 }
def k9c3 : Code := { maxStack := 3, maxLocals := 5, code := prog_5_method_6_code, exceptionTable := #[], attributes := #[] }
def k9m3 : Method := { name := "upTo", desc := "(CLjava/lang/String;)Ljava/lang/String;", sig := { parameters := [.char, (.object "java/lang/String")], returnType := some (.object "java/lang/String") }, accessFlags := 0, code := some k9c3 }
/-- com/example/atomize/atomize/http/FieldValueReader -/
def k9 : Class := { plain "com/example/atomize/atomize/http/FieldValueReader" (some 0) with
  accessFlags := 48
  interfaces := #[]
  cf := some (fileOf pool9 8 #[.nestMembers #[81]] #[{ accessFlags := 0, nameIndex := 5, descriptorIndex := 140, attributes := #[] }, { accessFlags := 0, nameIndex := 143, descriptorIndex := 144, attributes := #[] }, { accessFlags := 0, nameIndex := 91, descriptorIndex := 92, attributes := #[] }, { accessFlags := 0, nameIndex := 149, descriptorIndex := 150, attributes := #[] }] 48 2 #[] #[{ accessFlags := 26, nameIndex := 138, descriptorIndex := 12, attributes := #[] }, { accessFlags := 18, nameIndex := 11, descriptorIndex := 12, attributes := #[] }, { accessFlags := 18, nameIndex := 15, descriptorIndex := 12, attributes := #[] }, { accessFlags := 18, nameIndex := 18, descriptorIndex := 12, attributes := #[] }, { accessFlags := 2, nameIndex := 21, descriptorIndex := 22, attributes := #[] }])
  fields := #[{ name := "TOKEN_SYMBOLS", type := (.object "java/lang/String"), accessFlags := 26, slot := 0, constantValue := 0 }, { name := "name", type := (.object "java/lang/String"), accessFlags := 18, slot := 0, constantValue := 0 }, { name := "text", type := (.object "java/lang/String"), accessFlags := 18, slot := 1, constantValue := 0 }, { name := "grammar", type := (.object "java/lang/String"), accessFlags := 18, slot := 2, constantValue := 0 }, { name := "position", type := .int, accessFlags := 2, slot := 3, constantValue := 0 }]
  methods := #[k9m0, k9m1, k9m2, k9m3]
  instanceTypes := #[(.object "java/lang/String"), (.object "java/lang/String"), (.object "java/lang/String"), .int]
  staticTypes := #[(.object "java/lang/String")]
  resolved := Array.replicate 176 none
  statics := none }

def pool10 : Array CpInfo := pool [(1, .class_ 2), (0, u "java/lang/String"), (1, .class_ 6), (1, u "java/lang/Object"), (0, u "<init>"), (0, u "()V"), (0, .methodref 1 10), (0, .nameAndType 11 12), (0, u "checkIndex"), (0, u "(II)V"), (1, .class_ 16), (1, u "java/lang/StringLatin1"), (21, .methodref 39 40), (0, .class_ 41), (0, .nameAndType 42 43), (0, u "java/lang/Math"), (0, u "min"), (0, u "(II)I"), (9, u "([BI)C"), (34, .methodref 14 89), (0, .nameAndType 90 91), (0, u "canEncode"), (0, u "(I)Z"), (0, .methodref 39 93), (0, .nameAndType 94 43), (0, u "max"), (0, .methodref 14 96), (0, .nameAndType 97 98), (0, u "indexOfChar"), (0, u "([BIII)I"), (2, u "indexOf"), (10, .methodref 1 113), (0, .nameAndType 7 114), (0, u "([BB)V"), (6, u "$assertionsDisabled"), (0, u "Z"), (8, .class_ 133), (1, u "java/util/Arrays"), (17, .string 152), (0, u ""), (43, u "newString"), (0, u "([BII)Ljava/lang/String;"), (23, .class_ 223), (1, u "java/lang/StringLatin1$LinesSpliterator"), (8, .methodref 131 233), (0, .nameAndType 234 235), (0, u "copyOfRange"), (0, u "([BII)[B"), (16, u "charAt"), (137, .class_ 391), (0, u "java/lang/StringLatin1$CharsSpliterator")] 3

def k10m0 : Method := { name := "<init>", desc := "()V", sig := { parameters := [], returnType := none }, accessFlags := 0, code := none }
def k10c1 : Code := { maxStack := 2, maxLocals := 2, code := jdk_43_method_2_code, exceptionTable := #[], attributes := #[] }
def k10m1 : Method := { name := "charAt", desc := "([BI)C", sig := { parameters := [(.array .byte), .int], returnType := some .char }, accessFlags := 9, code := some k10c1 }
def k10c2 : Code := { maxStack := 2, maxLocals := 1, code := jdk_43_method_4_code, exceptionTable := #[], attributes := #[] }
def k10m2 : Method := { name := "canEncode", desc := "(I)Z", sig := { parameters := [.int], returnType := some .boolean }, accessFlags := 9, code := some k10c2 }
def k10c3 : Code := { maxStack := 4, maxLocals := 4, code := jdk_43_method_22_code, exceptionTable := #[], attributes := #[] }
def k10m3 : Method := { name := "indexOf", desc := "([BIII)I", sig := { parameters := [(.array .byte), .int, .int, .int], returnType := some .int }, accessFlags := 9, code := some k10c3 }
def k10c4 : Code := { maxStack := 2, maxLocals := 6, code := jdk_43_method_23_code, exceptionTable := #[], attributes := #[] }
def k10m4 : Method := { name := "indexOfChar", desc := "([BIII)I", sig := { parameters := [(.array .byte), .int, .int, .int], returnType := some .int }, accessFlags := 10, code := some k10c4 }
def k10c5 : Code := { maxStack := 6, maxLocals := 3, code := jdk_43_method_47_code, exceptionTable := #[], attributes := #[] }
def k10m5 : Method := { name := "newString", desc := "([BII)Ljava/lang/String;", sig := { parameters := [(.array .byte), .int, .int], returnType := some (.object "java/lang/String") }, accessFlags := 9, code := some k10c5 }
/-- java/lang/StringLatin1 -/
def k10 : Class := { plain "java/lang/StringLatin1" (some 0) with
  accessFlags := 48
  interfaces := #[]
  cf := some (fileOf pool10 14 #[.nestMembers #[390, 221]] #[{ accessFlags := 0, nameIndex := 7, descriptorIndex := 8, attributes := #[] }, { accessFlags := 9, nameIndex := 252, descriptorIndex := 53, attributes := #[] }, { accessFlags := 9, nameIndex := 90, descriptorIndex := 91, attributes := #[] }, { accessFlags := 9, nameIndex := 101, descriptorIndex := 98, attributes := #[] }, { accessFlags := 10, nameIndex := 97, descriptorIndex := 98, attributes := #[] }, { accessFlags := 9, nameIndex := 196, descriptorIndex := 197, attributes := #[] }] 48 4 #[] #[{ accessFlags := 4120, nameIndex := 121, descriptorIndex := 122, attributes := #[] }])
  fields := #[{ name := "$assertionsDisabled", type := .boolean, accessFlags := 4120, slot := 0, constantValue := 0 }]
  methods := #[k10m0, k10m1, k10m2, k10m3, k10m4, k10m5]
  instanceTypes := #[]
  staticTypes := #[.boolean]
  resolved := Array.replicate 395 none
  statics := none }

def pool11 : Array CpInfo := pool [(2, .class_ 4), (1, u "java/lang/Object"), (0, u "<init>"), (0, u "()V"), (17, .class_ 26), (1, u "jdk/internal/util/Preconditions"), (6, u "checkIndex"), (13, u "checkFromToIndex"), (1, u "checkFromIndexSize"), (5, .class_ 56), (0, u "jdk/internal/util/Preconditions$4"), (57, .class_ 115), (0, u "jdk/internal/util/Preconditions$1"), (7, u "SIOOBE_FORMATTER"), (0, u "Ljava/util/function/BiFunction;"), (0, .class_ 126), (0, u "jdk/internal/util/Preconditions$2"), (3, u "AIOOBE_FORMATTER"), (0, .class_ 132), (0, u "jdk/internal/util/Preconditions$3"), (3, u "IOOBE_FORMATTER"), (41, u "(IILjava/util/function/BiFunction;)I"), (4, u "(IIILjava/util/function/BiFunction;)I")] 10

def k11m0 : Method := { name := "<init>", desc := "()V", sig := { parameters := [], returnType := none }, accessFlags := 1, code := none }
def k11c1 : Code := { maxStack := 3, maxLocals := 3, code := jdk_41_method_11_code, exceptionTable := #[], attributes := #[] }
def k11m1 : Method := { name := "checkIndex", desc := "(IILjava/util/function/BiFunction;)I", sig := { parameters := [.int, .int, (.object "java/util/function/BiFunction")], returnType := some .int }, accessFlags := 9, code := some k11c1 }
def k11c2 : Code := { maxStack := 4, maxLocals := 4, code := jdk_41_method_12_code, exceptionTable := #[], attributes := #[] }
def k11m2 : Method := { name := "checkFromToIndex", desc := "(IIILjava/util/function/BiFunction;)I", sig := { parameters := [.int, .int, .int, (.object "java/util/function/BiFunction")], returnType := some .int }, accessFlags := 9, code := some k11c2 }
def k11c3 : Code := { maxStack := 4, maxLocals := 4, code := jdk_41_method_13_code, exceptionTable := #[], attributes := #[] }
def k11m3 : Method := { name := "checkFromIndexSize", desc := "(IIILjava/util/function/BiFunction;)I", sig := { parameters := [.int, .int, .int, (.object "java/util/function/BiFunction")], returnType := some .int }, accessFlags := 9, code := some k11c3 }
/-- jdk/internal/util/Preconditions -/
def k11 : Class := { plain "jdk/internal/util/Preconditions" (some 0) with
  accessFlags := 33
  interfaces := #[]
  cf := some (fileOf pool11 24 #[.nestMembers #[55, 131, 125, 114]] #[{ accessFlags := 1, nameIndex := 5, descriptorIndex := 6, attributes := #[] }, { accessFlags := 9, nameIndex := 33, descriptorIndex := 178, attributes := #[] }, { accessFlags := 9, nameIndex := 47, descriptorIndex := 183, attributes := #[] }, { accessFlags := 9, nameIndex := 49, descriptorIndex := 183, attributes := #[] }] 33 2 #[] #[{ accessFlags := 25, nameIndex := 123, descriptorIndex := 124, attributes := #[] }, { accessFlags := 25, nameIndex := 130, descriptorIndex := 124, attributes := #[] }, { accessFlags := 25, nameIndex := 136, descriptorIndex := 124, attributes := #[] }])
  fields := #[{ name := "SIOOBE_FORMATTER", type := (.object "java/util/function/BiFunction"), accessFlags := 25, slot := 0, constantValue := 0 }, { name := "AIOOBE_FORMATTER", type := (.object "java/util/function/BiFunction"), accessFlags := 25, slot := 1, constantValue := 0 }, { name := "IOOBE_FORMATTER", type := (.object "java/util/function/BiFunction"), accessFlags := 25, slot := 2, constantValue := 0 }]
  methods := #[k11m0, k11m1, k11m2, k11m3]
  instanceTypes := #[]
  staticTypes := #[(.object "java/util/function/BiFunction"), (.object "java/util/function/BiFunction"), (.object "java/util/function/BiFunction")]
  resolved := Array.replicate 194 none
  statics := some 2 }

def pool12 : Array CpInfo := pool [(1, .class_ 2), (0, u "java/lang/Math"), (1, .class_ 6), (1, u "java/lang/Object"), (0, u "<init>"), (0, u "()V"), (89, .class_ 100), (1, u "java/lang/Math$RandomNumberGeneratorHolder"), (71, u "negativeZeroFloatBits"), (0, u "J"), (2, u "negativeZeroDoubleBits"), (21, u "max"), (2, u "min"), (43, u "$assertionsDisabled"), (0, u "Z"), (88, u "(II)I"), (2, u "twoToTheDoubleScaleDown"), (0, u "D"), (4, u "twoToTheDoubleScaleUp"), (9, u "E"), (3, u "PI"), (2, u "TAU"), (2, u "DEGREES_TO_RADIANS"), (0, u "RADIANS_TO_DEGREES")] 94

def k12m0 : Method := { name := "<init>", desc := "()V", sig := { parameters := [], returnType := none }, accessFlags := 2, code := none }
def k12c1 : Code := { maxStack := 2, maxLocals := 2, code := jdk_29_method_65_code, exceptionTable := #[], attributes := #[] }
def k12m1 : Method := { name := "max", desc := "(II)I", sig := { parameters := [.int, .int], returnType := some .int }, accessFlags := 9, code := some k12c1 }
def k12c2 : Code := { maxStack := 2, maxLocals := 2, code := jdk_29_method_69_code, exceptionTable := #[], attributes := #[] }
def k12m2 : Method := { name := "min", desc := "(II)I", sig := { parameters := [.int, .int], returnType := some .int }, accessFlags := 9, code := some k12c2 }
/-- java/lang/Math -/
def k12 : Class := { plain "java/lang/Math" (some 0) with
  accessFlags := 49
  interfaces := #[]
  cf := some (fileOf pool12 1 #[.nestMembers #[98]] #[{ accessFlags := 2, nameIndex := 7, descriptorIndex := 8, attributes := #[] }, { accessFlags := 9, nameIndex := 198, descriptorIndex := 335, attributes := #[] }, { accessFlags := 9, nameIndex := 201, descriptorIndex := 335, attributes := #[] }] 49 4 #[] #[{ accessFlags := 25, nameIndex := 354, descriptorIndex := 339, attributes := #[] }, { accessFlags := 25, nameIndex := 358, descriptorIndex := 339, attributes := #[] }, { accessFlags := 25, nameIndex := 361, descriptorIndex := 339, attributes := #[] }, { accessFlags := 26, nameIndex := 364, descriptorIndex := 339, attributes := #[] }, { accessFlags := 26, nameIndex := 365, descriptorIndex := 339, attributes := #[] }, { accessFlags := 26, nameIndex := 172, descriptorIndex := 173, attributes := #[] }, { accessFlags := 26, nameIndex := 176, descriptorIndex := 173, attributes := #[] }, { accessFlags := 8, nameIndex := 344, descriptorIndex := 339, attributes := #[] }, { accessFlags := 8, nameIndex := 338, descriptorIndex := 339, attributes := #[] }, { accessFlags := 4120, nameIndex := 245, descriptorIndex := 246, attributes := #[] }])
  fields := #[{ name := "E", type := .double, accessFlags := 25, slot := 0, constantValue := 0 }, { name := "PI", type := .double, accessFlags := 25, slot := 1, constantValue := 0 }, { name := "TAU", type := .double, accessFlags := 25, slot := 2, constantValue := 0 }, { name := "DEGREES_TO_RADIANS", type := .double, accessFlags := 26, slot := 3, constantValue := 0 }, { name := "RADIANS_TO_DEGREES", type := .double, accessFlags := 26, slot := 4, constantValue := 0 }, { name := "negativeZeroFloatBits", type := .long, accessFlags := 26, slot := 5, constantValue := 0 }, { name := "negativeZeroDoubleBits", type := .long, accessFlags := 26, slot := 6, constantValue := 0 }, { name := "twoToTheDoubleScaleUp", type := .double, accessFlags := 8, slot := 7, constantValue := 0 }, { name := "twoToTheDoubleScaleDown", type := .double, accessFlags := 8, slot := 8, constantValue := 0 }, { name := "$assertionsDisabled", type := .boolean, accessFlags := 4120, slot := 9, constantValue := 0 }]
  methods := #[k12m0, k12m1, k12m2]
  instanceTypes := #[]
  staticTypes := #[.double, .double, .double, .double, .double, .long, .long, .double, .double, .boolean]
  resolved := Array.replicate 460 none
  statics := none }

def pool13 : Array CpInfo := pool [(2, .class_ 4), (1, u "java/lang/Object"), (0, u "<init>"), (0, u "()V"), (7, .class_ 16), (1, u "java/util/Arrays"), (57, .class_ 76), (1, u "java/util/Arrays$NaturalOrder"), (36, .class_ 115), (1, u "java/util/Arrays$LegacyMergeSort"), (1, u "Z"), (21, u "copyOfRange"), (10, .methodref 151 152), (0, .class_ 153), (0, .nameAndType 154 155), (0, u "java/lang/System"), (0, u "arraycopy"), (0, u "(Ljava/lang/Object;ILjava/lang/Object;II)V"), (148, .methodref 305 306), (0, .class_ 307), (0, .nameAndType 308 309), (0, u "java/lang/Math"), (0, u "min"), (0, u "(II)I"), (29, .methodref 14 340), (0, .nameAndType 341 342), (0, u "copyOfRangeByte"), (0, u "([BII)[B"), (0, .methodref 14 344), (0, .nameAndType 345 346), (0, u "checkLength"), (0, u "(II)V"), (28, .class_ 376), (0, u "java/util/Arrays$ArrayList"), (68, u "$assertionsDisabled"), (269, u "MIN_ARRAY_SORT_GRAN"), (0, u "I"), (2, u "INSERTIONSORT_THRESHOLD"), (255, .class_ 976), (0, u "java/util/Arrays$ArrayItr")] 52

def k13m0 : Method := { name := "<init>", desc := "()V", sig := { parameters := [], returnType := none }, accessFlags := 2, code := none }
def k13c1 : Code := { maxStack := 4, maxLocals := 2, code := jdk_65_method_131_code, exceptionTable := #[], attributes := #[] }
def k13m1 : Method := { name := "checkLength", desc := "(II)V", sig := { parameters := [.int, .int], returnType := none }, accessFlags := 10, code := some k13c1 }
def k13c2 : Code := { maxStack := 3, maxLocals := 3, code := jdk_65_method_132_code, exceptionTable := #[], attributes := #[] }
def k13m2 : Method := { name := "copyOfRange", desc := "([BII)[B", sig := { parameters := [(.array .byte), .int, .int], returnType := some (.array .byte) }, accessFlags := 9, code := some k13c2 }
def k13c3 : Code := { maxStack := 6, maxLocals := 5, code := jdk_65_method_133_code, exceptionTable := #[], attributes := #[] }
def k13m3 : Method := { name := "copyOfRangeByte", desc := "([BII)[B", sig := { parameters := [(.array .byte), .int, .int], returnType := some (.array .byte) }, accessFlags := 10, code := some k13c3 }
/-- java/util/Arrays -/
def k13 : Class := { plain "java/util/Arrays" (some 0) with
  accessFlags := 49
  interfaces := #[]
  cf := some (fileOf pool13 14 #[.nestMembers #[975, 375, 113, 74]] #[{ accessFlags := 2, nameIndex := 5, descriptorIndex := 6, attributes := #[] }, { accessFlags := 10, nameIndex := 345, descriptorIndex := 346, attributes := #[] }, { accessFlags := 9, nameIndex := 139, descriptorIndex := 342, attributes := #[] }, { accessFlags := 10, nameIndex := 341, descriptorIndex := 342, attributes := #[] }] 49 2 #[] #[{ accessFlags := 26, nameIndex := 715, descriptorIndex := 716, attributes := #[] }, { accessFlags := 26, nameIndex := 719, descriptorIndex := 716, attributes := #[] }, { accessFlags := 4120, nameIndex := 445, descriptorIndex := 117, attributes := #[] }])
  fields := #[{ name := "MIN_ARRAY_SORT_GRAN", type := .int, accessFlags := 26, slot := 0, constantValue := 0 }, { name := "INSERTIONSORT_THRESHOLD", type := .int, accessFlags := 26, slot := 1, constantValue := 0 }, { name := "$assertionsDisabled", type := .boolean, accessFlags := 4120, slot := 2, constantValue := 0 }]
  methods := #[k13m0, k13m1, k13m2, k13m3]
  instanceTypes := #[]
  staticTypes := #[.int, .int, .boolean]
  resolved := Array.replicate 1029 none
  statics := none }

def pool14 : Array CpInfo := pool [(2, .class_ 4), (1, u "java/lang/Object"), (0, u "<init>"), (0, u "()V"), (1, .class_ 10), (1, u "java/lang/System"), (0, u "allowSecurityManager"), (0, u "I"), (16, u "cons"), (0, u "Ljava/io/Console;"), (77, .class_ 110), (1, u "java/lang/System$CallersHolder"), (43, u "initialErrStream"), (0, u "Ljava/io/PrintStream;"), (19, u "security"), (0, u "Ljava/lang/SecurityManager;"), (31, .class_ 209), (0, u "java/lang/System$1"), (7, u "props"), (0, u "Ljava/util/Properties;"), (2, u "lineSeparator"), (0, u "Ljava/lang/String;"), (96, .class_ 321), (1, u "java/lang/System$LoggerFinder"), (5, .class_ 328), (0, u "java/lang/System$Logger"), (67, u "err"), (2, u "out"), (91, u "notSupportedJnuEncoding"), (15, u "in"), (17, u "initialIn"), (0, u "Ljava/io/InputStream;"), (35, u "bootLayer"), (0, u "Ljava/lang/ModuleLayer;"), (99, .class_ 664), (0, u "java/lang/System$2"), (9, u "NEVER"), (2, u "MAYBE"), (49, u "arraycopy"), (0, u "(Ljava/lang/Object;ILjava/lang/Object;II)V"), (72, .class_ 802), (0, u "java/lang/System$Logger$Level")] 31

def k14m0 : Method := { name := "<init>", desc := "()V", sig := { parameters := [], returnType := none }, accessFlags := 2, code := none }
def k14m1 : Method := { name := "arraycopy", desc := "(Ljava/lang/Object;ILjava/lang/Object;II)V", sig := { parameters := [(.object "java/lang/Object"), .int, (.object "java/lang/Object"), .int, .int], returnType := none }, accessFlags := 265, code := none }
/-- java/lang/System -/
def k14 : Class := { plain "java/lang/System" (some 0) with
  accessFlags := 49
  interfaces := #[]
  cf := some (fileOf pool14 8 #[.nestMembers #[319, 327, 801, 108, 663, 208]] #[{ accessFlags := 2, nameIndex := 5, descriptorIndex := 6, attributes := #[] }, { accessFlags := 265, nameIndex := 727, descriptorIndex := 728, attributes := #[] }] 49 2 #[] #[{ accessFlags := 25, nameIndex := 507, descriptorIndex := 526, attributes := #[] }, { accessFlags := 25, nameIndex := 399, descriptorIndex := 155, attributes := #[] }, { accessFlags := 25, nameIndex := 396, descriptorIndex := 155, attributes := #[] }, { accessFlags := 10, nameIndex := 525, descriptorIndex := 526, attributes := #[] }, { accessFlags := 26, nameIndex := 674, descriptorIndex := 12, attributes := #[] }, { accessFlags := 26, nameIndex := 677, descriptorIndex := 12, attributes := #[] }, { accessFlags := 10, nameIndex := 11, descriptorIndex := 12, attributes := #[] }, { accessFlags := 74, nameIndex := 175, descriptorIndex := 176, attributes := #[] }, { accessFlags := 10, nameIndex := 491, descriptorIndex := 222, attributes := #[] }, { accessFlags := 74, nameIndex := 29, descriptorIndex := 30, attributes := #[] }, { accessFlags := 74, nameIndex := 154, descriptorIndex := 155, attributes := #[] }, { accessFlags := 10, nameIndex := 217, descriptorIndex := 218, attributes := #[] }, { accessFlags := 10, nameIndex := 221, descriptorIndex := 222, attributes := #[] }, { accessFlags := 8, nameIndex := 562, descriptorIndex := 563, attributes := #[] }])
  fields := #[{ name := "in", type := (.object "java/io/InputStream"), accessFlags := 25, slot := 0, constantValue := 0 }, { name := "out", type := (.object "java/io/PrintStream"), accessFlags := 25, slot := 1, constantValue := 0 }, { name := "err", type := (.object "java/io/PrintStream"), accessFlags := 25, slot := 2, constantValue := 0 }, { name := "initialIn", type := (.object "java/io/InputStream"), accessFlags := 10, slot := 3, constantValue := 0 }, { name := "NEVER", type := .int, accessFlags := 26, slot := 4, constantValue := 0 }, { name := "MAYBE", type := .int, accessFlags := 26, slot := 5, constantValue := 0 }, { name := "allowSecurityManager", type := .int, accessFlags := 10, slot := 6, constantValue := 0 }, { name := "security", type := (.object "java/lang/SecurityManager"), accessFlags := 74, slot := 7, constantValue := 0 }, { name := "notSupportedJnuEncoding", type := (.object "java/lang/String"), accessFlags := 10, slot := 8, constantValue := 0 }, { name := "cons", type := (.object "java/io/Console"), accessFlags := 74, slot := 9, constantValue := 0 }, { name := "initialErrStream", type := (.object "java/io/PrintStream"), accessFlags := 74, slot := 10, constantValue := 0 }, { name := "props", type := (.object "java/util/Properties"), accessFlags := 10, slot := 11, constantValue := 0 }, { name := "lineSeparator", type := (.object "java/lang/String"), accessFlags := 10, slot := 12, constantValue := 0 }, { name := "bootLayer", type := (.object "java/lang/ModuleLayer"), accessFlags := 8, slot := 13, constantValue := 0 }]
  methods := #[k14m0, k14m1]
  instanceTypes := #[]
  staticTypes := #[(.object "java/io/InputStream"), (.object "java/io/PrintStream"), (.object "java/io/PrintStream"), (.object "java/io/InputStream"), .int, .int, .int, (.object "java/lang/SecurityManager"), (.object "java/lang/String"), (.object "java/io/Console"), (.object "java/io/PrintStream"), (.object "java/util/Properties"), (.object "java/lang/String"), (.object "java/lang/ModuleLayer")]
  resolved := Array.replicate 834 none
  statics := none }

def pool15 : Array CpInfo := pool [(9, u "<init>"), (6, .class_ 18), (1, u "java/lang/Object"), (0, u "()V"), (1, .class_ 23), (1, u "jdk/internal/util/ArraysSupport"), (0, u "LOG2_ARRAY_LONG_INDEX_SCALE"), (0, u "I"), (2, u "U"), (0, u "Ljdk/internal/misc/Unsafe;"), (8, u "BIG_ENDIAN"), (0, u "Z"), (8, u "LOG2_BYTE_BIT_SIZE"), (4, u "LOG2_ARRAY_INT_INDEX_SCALE"), (54, u "JLA"), (0, u "Ljdk/internal/access/JavaLangAccess;"), (11, u "LOG2_ARRAY_BOOLEAN_INDEX_SCALE"), (9, u "LOG2_ARRAY_BYTE_INDEX_SCALE"), (5, u "LOG2_ARRAY_CHAR_INDEX_SCALE"), (5, u "LOG2_ARRAY_SHORT_INDEX_SCALE"), (18, u "LOG2_ARRAY_FLOAT_INDEX_SCALE"), (24, u "LOG2_ARRAY_DOUBLE_INDEX_SCALE"), (89, u "T_BOOLEAN"), (2, u "T_CHAR"), (1, u "T_FLOAT"), (1, u "T_DOUBLE"), (1, u "T_BYTE"), (1, u "T_SHORT"), (1, u "T_INT"), (1, u "T_LONG"), (1, u "SOFT_MAX_ARRAY_LENGTH")] 83

def k15m0 : Method := { name := "<init>", desc := "()V", sig := { parameters := [], returnType := none }, accessFlags := 2, code := none }
/-- jdk/internal/util/ArraysSupport -/
def k15 : Class := { plain "jdk/internal/util/ArraysSupport" (some 0) with
  accessFlags := 33
  interfaces := #[]
  cf := some (fileOf pool15 21 #[] #[{ accessFlags := 2, nameIndex := 9, descriptorIndex := 19, attributes := #[] }] 33 16 #[] #[{ accessFlags := 24, nameIndex := 28, descriptorIndex := 29, attributes := #[] }, { accessFlags := 26, nameIndex := 38, descriptorIndex := 39, attributes := #[] }, { accessFlags := 25, nameIndex := 121, descriptorIndex := 25, attributes := #[] }, { accessFlags := 25, nameIndex := 131, descriptorIndex := 25, attributes := #[] }, { accessFlags := 25, nameIndex := 137, descriptorIndex := 25, attributes := #[] }, { accessFlags := 25, nameIndex := 143, descriptorIndex := 25, attributes := #[] }, { accessFlags := 25, nameIndex := 53, descriptorIndex := 25, attributes := #[] }, { accessFlags := 25, nameIndex := 24, descriptorIndex := 25, attributes := #[] }, { accessFlags := 25, nameIndex := 162, descriptorIndex := 25, attributes := #[] }, { accessFlags := 25, nameIndex := 187, descriptorIndex := 25, attributes := #[] }, { accessFlags := 26, nameIndex := 48, descriptorIndex := 25, attributes := #[] }, { accessFlags := 25, nameIndex := 277, descriptorIndex := 25, attributes := #[] }, { accessFlags := 25, nameIndex := 280, descriptorIndex := 25, attributes := #[] }, { accessFlags := 25, nameIndex := 282, descriptorIndex := 25, attributes := #[] }, { accessFlags := 25, nameIndex := 284, descriptorIndex := 25, attributes := #[] }, { accessFlags := 25, nameIndex := 286, descriptorIndex := 25, attributes := #[] }, { accessFlags := 25, nameIndex := 288, descriptorIndex := 25, attributes := #[] }, { accessFlags := 25, nameIndex := 290, descriptorIndex := 25, attributes := #[] }, { accessFlags := 25, nameIndex := 292, descriptorIndex := 25, attributes := #[] }, { accessFlags := 26, nameIndex := 108, descriptorIndex := 109, attributes := #[] }, { accessFlags := 25, nameIndex := 294, descriptorIndex := 25, attributes := #[] }])
  fields := #[{ name := "U", type := (.object "jdk/internal/misc/Unsafe"), accessFlags := 24, slot := 0, constantValue := 0 }, { name := "BIG_ENDIAN", type := .boolean, accessFlags := 26, slot := 1, constantValue := 0 }, { name := "LOG2_ARRAY_BOOLEAN_INDEX_SCALE", type := .int, accessFlags := 25, slot := 2, constantValue := 0 }, { name := "LOG2_ARRAY_BYTE_INDEX_SCALE", type := .int, accessFlags := 25, slot := 3, constantValue := 0 }, { name := "LOG2_ARRAY_CHAR_INDEX_SCALE", type := .int, accessFlags := 25, slot := 4, constantValue := 0 }, { name := "LOG2_ARRAY_SHORT_INDEX_SCALE", type := .int, accessFlags := 25, slot := 5, constantValue := 0 }, { name := "LOG2_ARRAY_INT_INDEX_SCALE", type := .int, accessFlags := 25, slot := 6, constantValue := 0 }, { name := "LOG2_ARRAY_LONG_INDEX_SCALE", type := .int, accessFlags := 25, slot := 7, constantValue := 0 }, { name := "LOG2_ARRAY_FLOAT_INDEX_SCALE", type := .int, accessFlags := 25, slot := 8, constantValue := 0 }, { name := "LOG2_ARRAY_DOUBLE_INDEX_SCALE", type := .int, accessFlags := 25, slot := 9, constantValue := 0 }, { name := "LOG2_BYTE_BIT_SIZE", type := .int, accessFlags := 26, slot := 10, constantValue := 0 }, { name := "T_BOOLEAN", type := .int, accessFlags := 25, slot := 11, constantValue := 0 }, { name := "T_CHAR", type := .int, accessFlags := 25, slot := 12, constantValue := 0 }, { name := "T_FLOAT", type := .int, accessFlags := 25, slot := 13, constantValue := 0 }, { name := "T_DOUBLE", type := .int, accessFlags := 25, slot := 14, constantValue := 0 }, { name := "T_BYTE", type := .int, accessFlags := 25, slot := 15, constantValue := 0 }, { name := "T_SHORT", type := .int, accessFlags := 25, slot := 16, constantValue := 0 }, { name := "T_INT", type := .int, accessFlags := 25, slot := 17, constantValue := 0 }, { name := "T_LONG", type := .int, accessFlags := 25, slot := 18, constantValue := 0 }, { name := "JLA", type := (.object "jdk/internal/access/JavaLangAccess"), accessFlags := 26, slot := 19, constantValue := 0 }, { name := "SOFT_MAX_ARRAY_LENGTH", type := .int, accessFlags := 25, slot := 20, constantValue := 0 }]
  methods := #[k15m0]
  instanceTypes := #[]
  staticTypes := #[(.object "jdk/internal/misc/Unsafe"), .boolean, .int, .int, .int, .int, .int, .int, .int, .int, .int, .int, .int, .int, .int, .int, .int, .int, .int, (.object "jdk/internal/access/JavaLangAccess"), .int]
  resolved := Array.replicate 378 none
  statics := none }

def pool16 : Array CpInfo := pool [(1, u "java/lang/Cloneable"), (0, .class_ 1), (0, u "java/lang/Object"), (0, .class_ 3)] 3

/-- java/lang/Cloneable -/
def k16 : Class := { plain "java/lang/Cloneable" (some 0) with
  accessFlags := 1537
  interfaces := #[]
  cf := some (fileOf pool16 2 #[] #[] 1537 4 #[] #[])
  fields := #[]
  methods := #[]
  instanceTypes := #[]
  staticTypes := #[]
  resolved := Array.replicate 8 none
  statics := none }

/-- the primitive byte -/
def k17 : Class := { plain "byte" none with kind := .primitive 'B', accessFlags := 0x411 }
/-- [B -/
def k18 : Class := { plain "[B" (some 0) with kind := .array 17 .byte, interfaces := #[16, 2], accessFlags := 1041 }

/-- the primitive char -/
def k19 : Class := { plain "char" none with kind := .primitive 'C', accessFlags := 0x411 }
/-- [C -/
def k20 : Class := { plain "[C" (some 0) with kind := .array 19 .char, interfaces := #[16, 2], accessFlags := 1041 }

def heap : Heap := #[{ cls := 7, slots := #[.long 0, .int 1, .null, .int 0, .null, .int 0, .int 0], vm := .statics 7 },
  { cls := 8, slots := #[.int 0, .int 8, .int 0, .int 1], vm := .statics 8 },
  { cls := 11, slots := #[.null, .null, .null], vm := .statics 11 }]
def classes : Array Class := #[k0, k1, k2, k3, k4, k5, k6, k7, k8, k9, k10, k11, k12, k13, k14, k15, k16, k17, k18, k19, k20]
def interned : List (Array UInt16 × Addr) := []
def slotsUsed : Nat := 14
def theMethod : MethodId := ⟨1, 2⟩
def args0 : Array Value := #[.int 1, .int 2, .int 3, .int 0]
def aboutOver (below : List Frame) : State where
  vm := { classes := classes, interned := interned.toArray }
  heap := heap
  slotsUsed := slotsUsed
  threads := #[{ frames := .invoking theMethod args0 :: below }]
def below0 : List Frame := [.native { method := ⟨0, 0⟩, args := #[] }]
def about1 : State := aboutOver below0
def p0 : Program := .bare "" "" ""
def e0 : Env := launch0.env 0 0 0
theorem w_frames : about1.frames = Frame.invoking theMethod args0 :: below0 := rfl
set_option maxRecDepth 65536 in
theorem w_args : argsFit about1.vm theMethod args0 = true := by decide +kernel
set_option maxRecDepth 65536 in
theorem w_heap : heapFits about1 = true := by decide +kernel
set_option maxRecDepth 65536 in
theorem w_runnable : about1.curStatus? = some .runnable := by decide +kernel
set_option maxRecDepth 65536 in
theorem w_alone : about1.alone = true := by decide +kernel
set_option maxRecDepth 65536 in
theorem w_named : about1.methodNamed? x = some theMethod := by decide +kernel
set_option maxRecDepth 65536 in
theorem w_hears : about1.hears theMethod below0 = true := by decide +kernel
set_option maxRecDepth 65536 in
theorem w_ripe : about1.ripe theMethod args0 below0 = true := by decide +kernel
theorem w_running : about1.status = .running := rfl
set_option maxRecDepth 65536 in
theorem w_room : about1.hasRoom e0.platform room_1 = true :=
  launch0.hasRoom_least _ room_1 (by decide +kernel) (by decide +kernel) (by decide +kernel) (by decide +kernel) (by decide +kernel) (by decide +kernel)
theorem allAtoms_all (ts : List Jvm.Cond) (a : Array Jvm.Value) (st : Jvm.State) : (allAtoms ts).before a st = ts.all (fun c => c.before a st) := by
  induction ts with
  | nil => rfl
  | cons c t ih =>
    show (Jvm.Cond.and c (allAtoms t)).before a st = _
    rw [Jvm.Cond.before_and, ih, List.all_cons]
def words1 : List Jvm.Cond := Jvm.Cond.code x code maxLocals ret :: tables_1
/-- a 'code' word, met by the world's own term for the bytes: nothing is compared byte by byte -/
theorem code_word {y : MethodName} {bytes : ByteArray} {mx : Nat} {rt : Option FieldType} {a : Array Value} {s : State} {m : MethodId} {meth : Method} {c : Code} (h1 : s.methodNamed? y = some m) (h2 : s.vm.method? m = some meth) (h3 : meth.code = some c) (h4 : c.code = bytes)
    (h5 : (c.maxLocals == mx && c.exceptionTable.isEmpty && decide (c.maxStack ≤ mostOperands) && decide (meth.sig.returnType = rt) && !meth.locks && decide (parseMethodDescriptor y.desc = some meth.sig)) = true) : (Jvm.Cond.code y bytes mx rt).before a s = true := by
  simp only [Bool.and_eq_true, beq_iff_eq, Bool.not_eq_true', decide_eq_true_eq] at h5
  obtain ⟨⟨⟨⟨⟨g1, g2⟩, g3⟩, g4⟩, g5⟩, g6⟩ := h5
  simp [Cond.before, Cond.holds, Cond.value, h1, h2, h3, h4, g1, g2, g3, g4, g5, g6]
def isCode : Jvm.Cond → Bool
  | .code _ _ _ _ => true
  | _ => false
theorem all_split {L : List Jvm.Cond} {P : Jvm.Cond → Bool} (h1 : L.all (fun c => isCode c || P c) = true) (h2 : ∀ c ∈ L.filter isCode, P c = true) : L.all P = true := by
  refine List.all_eq_true.mpr fun c hc => ?_
  have h := List.all_eq_true.mp h1 c hc
  rcases Bool.eq_false_or_eq_true (isCode c) with hi | hi
  · exact h2 c (List.mem_filter.mpr ⟨hc, hi⟩)
  · simpa [hi] using h
set_option maxRecDepth 65536 in
theorem w_c0 : (Jvm.Cond.code x code maxLocals ret).before args0 about1 = true := code_word (m := ⟨1, 2⟩) (meth := k1m2) (c := k1c2) (by decide +kernel) rfl rfl rfl (by decide +kernel)
set_option maxRecDepth 65536 in
theorem w_c1 : (Jvm.Cond.code ({ cls := "com/example/atomize/atomize/http/FieldValueReaderExpectPinLaw", name := "draw", desc := "(I)C" } : Jvm.MethodName) method_2_code (1 : Nat) (Option.some Jvm.ClassFile.FieldType.char)).before args0 about1 = true := code_word (m := ⟨1, 1⟩) (meth := k1m1) (c := k1c1) (by decide +kernel) rfl rfl rfl (by decide +kernel)
set_option maxRecDepth 65536 in
theorem w_c2 : (Jvm.Cond.code ({ cls := "java/lang/String", name := "<init>", desc := "([C)V" } : Jvm.MethodName) jdk_42_method_3_code (2 : Nat) (Option.none : Option Jvm.ClassFile.FieldType)).before args0 about1 = true := code_word (m := ⟨7, 1⟩) (meth := k7m1) (c := k7c1) (by decide +kernel) rfl rfl rfl (by decide +kernel)
set_option maxRecDepth 65536 in
theorem w_c3 : (Jvm.Cond.code ({ cls := "java/lang/String", name := "<init>", desc := "([CIILjava/lang/Void;)V" } : Jvm.MethodName) jdk_42_method_149_code (6 : Nat) (Option.none : Option Jvm.ClassFile.FieldType)).before args0 about1 = true := code_word (m := ⟨7, 6⟩) (meth := k7m6) (c := k7c6) (by decide +kernel) rfl rfl rfl (by decide +kernel)
set_option maxRecDepth 65536 in
theorem w_c4 : (Jvm.Cond.code ({ cls := "java/lang/Object", name := "<init>", desc := "()V" } : Jvm.MethodName) object_method_1_code (1 : Nat) (Option.none : Option Jvm.ClassFile.FieldType)).before args0 about1 = true := code_word (m := ⟨0, 0⟩) (meth := k0m0) (c := k0c0) (by decide +kernel) rfl rfl rfl (by decide +kernel)
set_option maxRecDepth 65536 in
theorem w_c5 : (Jvm.Cond.code ({ cls := "java/lang/StringUTF16", name := "compress", desc := "([CII)[B" } : Jvm.MethodName) jdk_52_method_16_code (6 : Nat) (Option.some (Jvm.ClassFile.FieldType.array Jvm.ClassFile.FieldType.byte))).before args0 about1 = true := code_word (m := ⟨8, 8⟩) (meth := k8m8) (c := k8c8) (by decide +kernel) rfl rfl rfl (by decide +kernel)
set_option maxRecDepth 65536 in
theorem w_c6 : (Jvm.Cond.code ({ cls := "java/lang/StringUTF16", name := "compress", desc := "([CI[BII)I" } : Jvm.MethodName) jdk_52_method_21_code (7 : Nat) (Option.some Jvm.ClassFile.FieldType.int)).before args0 about1 = true := code_word (m := ⟨8, 10⟩) (meth := k8m10) (c := k8c10) (by decide +kernel) rfl rfl rfl (by decide +kernel)
set_option maxRecDepth 65536 in
theorem w_c7 : (Jvm.Cond.code ({ cls := "java/lang/StringUTF16", name := "coderFromArrayLen", desc := "([BI)B" } : Jvm.MethodName) jdk_52_method_15_code (2 : Nat) (Option.some Jvm.ClassFile.FieldType.byte)).before args0 about1 = true := code_word (m := ⟨8, 7⟩) (meth := k8m7) (c := k8c7) (by decide +kernel) rfl rfl rfl (by decide +kernel)
set_option maxRecDepth 65536 in
theorem w_c8 : (Jvm.Cond.code ({ cls := "com/example/atomize/atomize/http/FieldValueReader", name := "<init>", desc := "(Ljava/lang/String;Ljava/lang/String;Ljava/lang/String;)V" } : Jvm.MethodName) prog_5_method_1_code (4 : Nat) (Option.none : Option Jvm.ClassFile.FieldType)).before args0 about1 = true := code_word (m := ⟨9, 0⟩) (meth := k9m0) (c := k9c0) (by decide +kernel) rfl rfl rfl (by decide +kernel)
set_option maxRecDepth 65536 in
theorem w_c9 : (Jvm.Cond.code ({ cls := "com/example/atomize/atomize/http/FieldValueReader", name := "expect", desc := "(C)V" } : Jvm.MethodName) prog_5_method_3_code (2 : Nat) (Option.none : Option Jvm.ClassFile.FieldType)).before args0 about1 = true := code_word (m := ⟨9, 2⟩) (meth := k9m2) (c := k9c2) (by decide +kernel) rfl rfl rfl (by decide +kernel)
set_option maxRecDepth 65536 in
theorem w_c10 : (Jvm.Cond.code ({ cls := "java/lang/String", name := "length", desc := "()I" } : Jvm.MethodName) jdk_42_method_54_code (1 : Nat) (Option.some Jvm.ClassFile.FieldType.int)).before args0 about1 = true := code_word (m := ⟨7, 2⟩) (meth := k7m2) (c := k7c2) (by decide +kernel) rfl rfl rfl (by decide +kernel)
set_option maxRecDepth 65536 in
theorem w_c11 : (Jvm.Cond.code ({ cls := "java/lang/String", name := "coder", desc := "()B" } : Jvm.MethodName) jdk_42_method_152_code (1 : Nat) (Option.some Jvm.ClassFile.FieldType.byte)).before args0 about1 = true := code_word (m := ⟨7, 8⟩) (meth := k7m8) (c := k7c8) (by decide +kernel) rfl rfl rfl (by decide +kernel)
set_option maxRecDepth 65536 in
theorem w_c12 : (Jvm.Cond.code ({ cls := "java/lang/String", name := "charAt", desc := "(I)C" } : Jvm.MethodName) jdk_42_method_56_code (2 : Nat) (Option.some Jvm.ClassFile.FieldType.char)).before args0 about1 = true := code_word (m := ⟨7, 3⟩) (meth := k7m3) (c := k7c3) (by decide +kernel) rfl rfl rfl (by decide +kernel)
set_option maxRecDepth 65536 in
theorem w_c13 : (Jvm.Cond.code ({ cls := "java/lang/String", name := "isLatin1", desc := "()Z" } : Jvm.MethodName) jdk_42_method_154_code (1 : Nat) (Option.some Jvm.ClassFile.FieldType.boolean)).before args0 about1 = true := code_word (m := ⟨7, 9⟩) (meth := k7m9) (c := k7c9) (by decide +kernel) rfl rfl rfl (by decide +kernel)
set_option maxRecDepth 65536 in
theorem w_c14 : (Jvm.Cond.code ({ cls := "java/lang/StringLatin1", name := "charAt", desc := "([BI)C" } : Jvm.MethodName) jdk_43_method_2_code (2 : Nat) (Option.some Jvm.ClassFile.FieldType.char)).before args0 about1 = true := code_word (m := ⟨10, 1⟩) (meth := k10m1) (c := k10c1) (by decide +kernel) rfl rfl rfl (by decide +kernel)
set_option maxRecDepth 65536 in
theorem w_c15 : (Jvm.Cond.code ({ cls := "java/lang/String", name := "checkIndex", desc := "(II)V" } : Jvm.MethodName) jdk_42_method_155_code (2 : Nat) (Option.none : Option Jvm.ClassFile.FieldType)).before args0 about1 = true := code_word (m := ⟨7, 10⟩) (meth := k7m10) (c := k7c10) (by decide +kernel) rfl rfl rfl (by decide +kernel)
set_option maxRecDepth 65536 in
theorem w_c16 : (Jvm.Cond.code ({ cls := "jdk/internal/util/Preconditions", name := "checkIndex", desc := "(IILjava/util/function/BiFunction;)I" } : Jvm.MethodName) jdk_41_method_11_code (3 : Nat) (Option.some Jvm.ClassFile.FieldType.int)).before args0 about1 = true := code_word (m := ⟨11, 1⟩) (meth := k11m1) (c := k11c1) (by decide +kernel) rfl rfl rfl (by decide +kernel)
set_option maxRecDepth 65536 in
theorem w_c17 : (Jvm.Cond.code ({ cls := "com/example/atomize/atomize/http/FieldValueReader", name := "upTo", desc := "(CLjava/lang/String;)Ljava/lang/String;" } : Jvm.MethodName) prog_5_method_6_code (5 : Nat) (Option.some (Jvm.ClassFile.FieldType.object "java/lang/String"))).before args0 about1 = true := code_word (m := ⟨9, 3⟩) (meth := k9m3) (c := k9c3) (by decide +kernel) rfl rfl rfl (by decide +kernel)
set_option maxRecDepth 65536 in
theorem w_c18 : (Jvm.Cond.code ({ cls := "java/lang/String", name := "indexOf", desc := "(II)I" } : Jvm.MethodName) jdk_42_method_80_code (3 : Nat) (Option.some Jvm.ClassFile.FieldType.int)).before args0 about1 = true := code_word (m := ⟨7, 4⟩) (meth := k7m4) (c := k7c4) (by decide +kernel) rfl rfl rfl (by decide +kernel)
set_option maxRecDepth 65536 in
theorem w_c19 : (Jvm.Cond.code ({ cls := "java/lang/StringLatin1", name := "indexOf", desc := "([BIII)I" } : Jvm.MethodName) jdk_43_method_22_code (4 : Nat) (Option.some Jvm.ClassFile.FieldType.int)).before args0 about1 = true := code_word (m := ⟨10, 3⟩) (meth := k10m3) (c := k10c3) (by decide +kernel) rfl rfl rfl (by decide +kernel)
set_option maxRecDepth 65536 in
theorem w_c20 : (Jvm.Cond.code ({ cls := "java/lang/StringLatin1", name := "canEncode", desc := "(I)Z" } : Jvm.MethodName) jdk_43_method_4_code (1 : Nat) (Option.some Jvm.ClassFile.FieldType.boolean)).before args0 about1 = true := code_word (m := ⟨10, 2⟩) (meth := k10m2) (c := k10c2) (by decide +kernel) rfl rfl rfl (by decide +kernel)
set_option maxRecDepth 65536 in
theorem w_c21 : (Jvm.Cond.code ({ cls := "java/lang/Math", name := "max", desc := "(II)I" } : Jvm.MethodName) jdk_29_method_65_code (2 : Nat) (Option.some Jvm.ClassFile.FieldType.int)).before args0 about1 = true := code_word (m := ⟨12, 1⟩) (meth := k12m1) (c := k12c1) (by decide +kernel) rfl rfl rfl (by decide +kernel)
set_option maxRecDepth 65536 in
theorem w_c22 : (Jvm.Cond.code ({ cls := "java/lang/Math", name := "min", desc := "(II)I" } : Jvm.MethodName) jdk_29_method_69_code (2 : Nat) (Option.some Jvm.ClassFile.FieldType.int)).before args0 about1 = true := code_word (m := ⟨12, 2⟩) (meth := k12m2) (c := k12c2) (by decide +kernel) rfl rfl rfl (by decide +kernel)
set_option maxRecDepth 65536 in
theorem w_c23 : (Jvm.Cond.code ({ cls := "java/lang/StringLatin1", name := "indexOfChar", desc := "([BIII)I" } : Jvm.MethodName) jdk_43_method_23_code (6 : Nat) (Option.some Jvm.ClassFile.FieldType.int)).before args0 about1 = true := code_word (m := ⟨10, 4⟩) (meth := k10m4) (c := k10c4) (by decide +kernel) rfl rfl rfl (by decide +kernel)
set_option maxRecDepth 65536 in
theorem w_c24 : (Jvm.Cond.code ({ cls := "java/lang/String", name := "substring", desc := "(II)Ljava/lang/String;" } : Jvm.MethodName) jdk_42_method_92_code (5 : Nat) (Option.some (Jvm.ClassFile.FieldType.object "java/lang/String"))).before args0 about1 = true := code_word (m := ⟨7, 5⟩) (meth := k7m5) (c := k7c5) (by decide +kernel) rfl rfl rfl (by decide +kernel)
set_option maxRecDepth 65536 in
theorem w_c25 : (Jvm.Cond.code ({ cls := "java/lang/String", name := "checkBoundsBeginEnd", desc := "(III)V" } : Jvm.MethodName) jdk_42_method_158_code (3 : Nat) (Option.none : Option Jvm.ClassFile.FieldType)).before args0 about1 = true := code_word (m := ⟨7, 12⟩) (meth := k7m12) (c := k7c12) (by decide +kernel) rfl rfl rfl (by decide +kernel)
set_option maxRecDepth 65536 in
theorem w_c26 : (Jvm.Cond.code ({ cls := "jdk/internal/util/Preconditions", name := "checkFromToIndex", desc := "(IIILjava/util/function/BiFunction;)I" } : Jvm.MethodName) jdk_41_method_12_code (4 : Nat) (Option.some Jvm.ClassFile.FieldType.int)).before args0 about1 = true := code_word (m := ⟨11, 2⟩) (meth := k11m2) (c := k11c2) (by decide +kernel) rfl rfl rfl (by decide +kernel)
set_option maxRecDepth 65536 in
theorem w_c27 : (Jvm.Cond.code ({ cls := "java/lang/StringLatin1", name := "newString", desc := "([BII)Ljava/lang/String;" } : Jvm.MethodName) jdk_43_method_47_code (3 : Nat) (Option.some (Jvm.ClassFile.FieldType.object "java/lang/String"))).before args0 about1 = true := code_word (m := ⟨10, 5⟩) (meth := k10m5) (c := k10c5) (by decide +kernel) rfl rfl rfl (by decide +kernel)
set_option maxRecDepth 65536 in
theorem w_c28 : (Jvm.Cond.code ({ cls := "java/util/Arrays", name := "copyOfRange", desc := "([BII)[B" } : Jvm.MethodName) jdk_65_method_132_code (3 : Nat) (Option.some (Jvm.ClassFile.FieldType.array Jvm.ClassFile.FieldType.byte))).before args0 about1 = true := code_word (m := ⟨13, 2⟩) (meth := k13m2) (c := k13c2) (by decide +kernel) rfl rfl rfl (by decide +kernel)
set_option maxRecDepth 65536 in
theorem w_c29 : (Jvm.Cond.code ({ cls := "java/util/Arrays", name := "copyOfRangeByte", desc := "([BII)[B" } : Jvm.MethodName) jdk_65_method_133_code (5 : Nat) (Option.some (Jvm.ClassFile.FieldType.array Jvm.ClassFile.FieldType.byte))).before args0 about1 = true := code_word (m := ⟨13, 3⟩) (meth := k13m3) (c := k13c3) (by decide +kernel) rfl rfl rfl (by decide +kernel)
set_option maxRecDepth 65536 in
theorem w_c30 : (Jvm.Cond.code ({ cls := "java/util/Arrays", name := "checkLength", desc := "(II)V" } : Jvm.MethodName) jdk_65_method_131_code (2 : Nat) (Option.none : Option Jvm.ClassFile.FieldType)).before args0 about1 = true := code_word (m := ⟨13, 1⟩) (meth := k13m1) (c := k13c1) (by decide +kernel) rfl rfl rfl (by decide +kernel)
set_option maxRecDepth 65536 in
theorem w_c31 : (Jvm.Cond.code ({ cls := "java/lang/String", name := "<init>", desc := "([BB)V" } : Jvm.MethodName) jdk_42_method_151_code (3 : Nat) (Option.none : Option Jvm.ClassFile.FieldType)).before args0 about1 = true := code_word (m := ⟨7, 7⟩) (meth := k7m7) (c := k7c7) (by decide +kernel) rfl rfl rfl (by decide +kernel)
set_option maxRecDepth 65536 in
theorem w_c32 : (Jvm.Cond.code ({ cls := "com/example/atomize/atomize/http/FieldValueReader", name := "nextElement", desc := "()Z" } : Jvm.MethodName) prog_5_method_2_code (1 : Nat) (Option.some Jvm.ClassFile.FieldType.boolean)).before args0 about1 = true := code_word (m := ⟨9, 1⟩) (meth := k9m1) (c := k9c1) (by decide +kernel) rfl rfl rfl (by decide +kernel)
set_option maxRecDepth 65536 in
theorem w_c33 : (Jvm.Cond.code ({ cls := "java/lang/StringUTF16", name := "toBytes", desc := "([CII)[B" } : Jvm.MethodName) jdk_52_method_14_code (5 : Nat) (Option.some (Jvm.ClassFile.FieldType.array Jvm.ClassFile.FieldType.byte))).before args0 about1 = true := code_word (m := ⟨8, 6⟩) (meth := k8m6) (c := k8c6) (by decide +kernel) rfl rfl rfl (by decide +kernel)
set_option maxRecDepth 65536 in
theorem w_c34 : (Jvm.Cond.code ({ cls := "java/lang/StringUTF16", name := "newBytesFor", desc := "(I)[B" } : Jvm.MethodName) jdk_52_method_2_code (1 : Nat) (Option.some (Jvm.ClassFile.FieldType.array Jvm.ClassFile.FieldType.byte))).before args0 about1 = true := code_word (m := ⟨8, 1⟩) (meth := k8m1) (c := k8c1) (by decide +kernel) rfl rfl rfl (by decide +kernel)
set_option maxRecDepth 65536 in
theorem w_c35 : (Jvm.Cond.code ({ cls := "java/lang/StringUTF16", name := "newBytesLength", desc := "(I)I" } : Jvm.MethodName) jdk_52_method_3_code (1 : Nat) (Option.some Jvm.ClassFile.FieldType.int)).before args0 about1 = true := code_word (m := ⟨8, 2⟩) (meth := k8m2) (c := k8c2) (by decide +kernel) rfl rfl rfl (by decide +kernel)
set_option maxRecDepth 65536 in
theorem w_c36 : (Jvm.Cond.code ({ cls := "java/lang/StringUTF16", name := "putChar", desc := "([BII)V" } : Jvm.MethodName) jdk_52_method_4_code (3 : Nat) (Option.none : Option Jvm.ClassFile.FieldType)).before args0 about1 = true := code_word (m := ⟨8, 3⟩) (meth := k8m3) (c := k8c3) (by decide +kernel) rfl rfl rfl (by decide +kernel)
set_option maxRecDepth 65536 in
theorem w_c37 : (Jvm.Cond.code ({ cls := "java/lang/StringUTF16", name := "getChar", desc := "([BI)C" } : Jvm.MethodName) jdk_52_method_5_code (2 : Nat) (Option.some Jvm.ClassFile.FieldType.char)).before args0 about1 = true := code_word (m := ⟨8, 4⟩) (meth := k8m4) (c := k8c4) (by decide +kernel) rfl rfl rfl (by decide +kernel)
set_option maxRecDepth 65536 in
theorem w_c38 : (Jvm.Cond.code ({ cls := "java/lang/StringUTF16", name := "indexOf", desc := "([BIII)I" } : Jvm.MethodName) jdk_52_method_40_code (4 : Nat) (Option.some Jvm.ClassFile.FieldType.int)).before args0 about1 = true := code_word (m := ⟨8, 12⟩) (meth := k8m12) (c := k8c12) (by decide +kernel) rfl rfl rfl (by decide +kernel)
set_option maxRecDepth 65536 in
theorem w_c39 : (Jvm.Cond.code ({ cls := "java/lang/StringUTF16", name := "indexOfChar", desc := "([BIII)I" } : Jvm.MethodName) jdk_52_method_47_code (4 : Nat) (Option.some Jvm.ClassFile.FieldType.int)).before args0 about1 = true := code_word (m := ⟨8, 13⟩) (meth := k8m13) (c := k8c13) (by decide +kernel) rfl rfl rfl (by decide +kernel)
set_option maxRecDepth 65536 in
theorem w_c40 : (Jvm.Cond.code ({ cls := "java/lang/StringUTF16", name := "checkBoundsBeginEnd", desc := "(II[B)V" } : Jvm.MethodName) jdk_52_method_93_code (3 : Nat) (Option.none : Option Jvm.ClassFile.FieldType)).before args0 about1 = true := code_word (m := ⟨8, 18⟩) (meth := k8m18) (c := k8c18) (by decide +kernel) rfl rfl rfl (by decide +kernel)
set_option maxRecDepth 65536 in
theorem w_c41 : (Jvm.Cond.code ({ cls := "java/lang/StringUTF16", name := "length", desc := "([B)I" } : Jvm.MethodName) jdk_52_method_6_code (1 : Nat) (Option.some Jvm.ClassFile.FieldType.int)).before args0 about1 = true := code_word (m := ⟨8, 5⟩) (meth := k8m5) (c := k8c5) (by decide +kernel) rfl rfl rfl (by decide +kernel)
set_option maxRecDepth 65536 in
theorem w_c42 : (Jvm.Cond.code ({ cls := "java/lang/StringUTF16", name := "indexOfCharUnsafe", desc := "([BIII)I" } : Jvm.MethodName) jdk_52_method_48_code (5 : Nat) (Option.some Jvm.ClassFile.FieldType.int)).before args0 about1 = true := code_word (m := ⟨8, 14⟩) (meth := k8m14) (c := k8c14) (by decide +kernel) rfl rfl rfl (by decide +kernel)
set_option maxRecDepth 65536 in
theorem w_c43 : (Jvm.Cond.code ({ cls := "java/lang/StringUTF16", name := "newString", desc := "([BII)Ljava/lang/String;" } : Jvm.MethodName) jdk_52_method_69_code (5 : Nat) (Option.some (Jvm.ClassFile.FieldType.object "java/lang/String"))).before args0 about1 = true := code_word (m := ⟨8, 15⟩) (meth := k8m15) (c := k8c15) (by decide +kernel) rfl rfl rfl (by decide +kernel)
set_option maxRecDepth 65536 in
theorem w_c44 : (Jvm.Cond.code ({ cls := "java/lang/StringUTF16", name := "compress", desc := "([BII)[B" } : Jvm.MethodName) jdk_52_method_17_code (6 : Nat) (Option.some (Jvm.ClassFile.FieldType.array Jvm.ClassFile.FieldType.byte))).before args0 about1 = true := code_word (m := ⟨8, 9⟩) (meth := k8m9) (c := k8c9) (by decide +kernel) rfl rfl rfl (by decide +kernel)
set_option maxRecDepth 65536 in
theorem w_c45 : (Jvm.Cond.code ({ cls := "java/lang/StringUTF16", name := "compress", desc := "([BI[BII)I" } : Jvm.MethodName) jdk_52_method_22_code (7 : Nat) (Option.some Jvm.ClassFile.FieldType.int)).before args0 about1 = true := code_word (m := ⟨8, 11⟩) (meth := k8m11) (c := k8c11) (by decide +kernel) rfl rfl rfl (by decide +kernel)
set_option maxRecDepth 65536 in
theorem w_c46 : (Jvm.Cond.code ({ cls := "java/lang/StringUTF16", name := "checkBoundsOffCount", desc := "(II[B)V" } : Jvm.MethodName) jdk_52_method_94_code (3 : Nat) (Option.none : Option Jvm.ClassFile.FieldType)).before args0 about1 = true := code_word (m := ⟨8, 19⟩) (meth := k8m19) (c := k8c19) (by decide +kernel) rfl rfl rfl (by decide +kernel)
set_option maxRecDepth 65536 in
theorem w_c47 : (Jvm.Cond.code ({ cls := "java/lang/String", name := "checkBoundsOffCount", desc := "(III)I" } : Jvm.MethodName) jdk_42_method_157_code (3 : Nat) (Option.some Jvm.ClassFile.FieldType.int)).before args0 about1 = true := code_word (m := ⟨7, 11⟩) (meth := k7m11) (c := k7c11) (by decide +kernel) rfl rfl rfl (by decide +kernel)
set_option maxRecDepth 65536 in
theorem w_c48 : (Jvm.Cond.code ({ cls := "jdk/internal/util/Preconditions", name := "checkFromIndexSize", desc := "(IIILjava/util/function/BiFunction;)I" } : Jvm.MethodName) jdk_41_method_13_code (4 : Nat) (Option.some Jvm.ClassFile.FieldType.int)).before args0 about1 = true := code_word (m := ⟨11, 3⟩) (meth := k11m3) (c := k11c3) (by decide +kernel) rfl rfl rfl (by decide +kernel)
set_option maxRecDepth 65536 in
theorem w_c49 : (Jvm.Cond.code ({ cls := "java/lang/StringUTF16", name := "charAt", desc := "([BI)C" } : Jvm.MethodName) jdk_52_method_83_code (2 : Nat) (Option.some Jvm.ClassFile.FieldType.char)).before args0 about1 = true := code_word (m := ⟨8, 16⟩) (meth := k8m16) (c := k8c16) (by decide +kernel) rfl rfl rfl (by decide +kernel)
set_option maxRecDepth 65536 in
theorem w_c50 : (Jvm.Cond.code ({ cls := "java/lang/StringUTF16", name := "checkIndex", desc := "(I[B)V" } : Jvm.MethodName) jdk_52_method_91_code (2 : Nat) (Option.none : Option Jvm.ClassFile.FieldType)).before args0 about1 = true := code_word (m := ⟨8, 17⟩) (meth := k8m17) (c := k8c17) (by decide +kernel) rfl rfl rfl (by decide +kernel)
def codes1 : List Jvm.Cond := [Jvm.Cond.code x code maxLocals ret, Jvm.Cond.code ({ cls := "com/example/atomize/atomize/http/FieldValueReaderExpectPinLaw", name := "draw", desc := "(I)C" } : Jvm.MethodName) method_2_code (1 : Nat) (Option.some Jvm.ClassFile.FieldType.char), Jvm.Cond.code ({ cls := "java/lang/String", name := "<init>", desc := "([C)V" } : Jvm.MethodName) jdk_42_method_3_code (2 : Nat) (Option.none : Option Jvm.ClassFile.FieldType), Jvm.Cond.code ({ cls := "java/lang/String", name := "<init>", desc := "([CIILjava/lang/Void;)V" } : Jvm.MethodName) jdk_42_method_149_code (6 : Nat) (Option.none : Option Jvm.ClassFile.FieldType), Jvm.Cond.code ({ cls := "java/lang/Object", name := "<init>", desc := "()V" } : Jvm.MethodName) object_method_1_code (1 : Nat) (Option.none : Option Jvm.ClassFile.FieldType), Jvm.Cond.code ({ cls := "java/lang/StringUTF16", name := "compress", desc := "([CII)[B" } : Jvm.MethodName) jdk_52_method_16_code (6 : Nat) (Option.some (Jvm.ClassFile.FieldType.array Jvm.ClassFile.FieldType.byte)), Jvm.Cond.code ({ cls := "java/lang/StringUTF16", name := "compress", desc := "([CI[BII)I" } : Jvm.MethodName) jdk_52_method_21_code (7 : Nat) (Option.some Jvm.ClassFile.FieldType.int), Jvm.Cond.code ({ cls := "java/lang/StringUTF16", name := "coderFromArrayLen", desc := "([BI)B" } : Jvm.MethodName) jdk_52_method_15_code (2 : Nat) (Option.some Jvm.ClassFile.FieldType.byte), Jvm.Cond.code ({ cls := "com/example/atomize/atomize/http/FieldValueReader", name := "<init>", desc := "(Ljava/lang/String;Ljava/lang/String;Ljava/lang/String;)V" } : Jvm.MethodName) prog_5_method_1_code (4 : Nat) (Option.none : Option Jvm.ClassFile.FieldType), Jvm.Cond.code ({ cls := "com/example/atomize/atomize/http/FieldValueReader", name := "expect", desc := "(C)V" } : Jvm.MethodName) prog_5_method_3_code (2 : Nat) (Option.none : Option Jvm.ClassFile.FieldType), Jvm.Cond.code ({ cls := "java/lang/String", name := "length", desc := "()I" } : Jvm.MethodName) jdk_42_method_54_code (1 : Nat) (Option.some Jvm.ClassFile.FieldType.int), Jvm.Cond.code ({ cls := "java/lang/String", name := "coder", desc := "()B" } : Jvm.MethodName) jdk_42_method_152_code (1 : Nat) (Option.some Jvm.ClassFile.FieldType.byte), Jvm.Cond.code ({ cls := "java/lang/String", name := "charAt", desc := "(I)C" } : Jvm.MethodName) jdk_42_method_56_code (2 : Nat) (Option.some Jvm.ClassFile.FieldType.char), Jvm.Cond.code ({ cls := "java/lang/String", name := "isLatin1", desc := "()Z" } : Jvm.MethodName) jdk_42_method_154_code (1 : Nat) (Option.some Jvm.ClassFile.FieldType.boolean), Jvm.Cond.code ({ cls := "java/lang/StringLatin1", name := "charAt", desc := "([BI)C" } : Jvm.MethodName) jdk_43_method_2_code (2 : Nat) (Option.some Jvm.ClassFile.FieldType.char), Jvm.Cond.code ({ cls := "java/lang/String", name := "checkIndex", desc := "(II)V" } : Jvm.MethodName) jdk_42_method_155_code (2 : Nat) (Option.none : Option Jvm.ClassFile.FieldType), Jvm.Cond.code ({ cls := "jdk/internal/util/Preconditions", name := "checkIndex", desc := "(IILjava/util/function/BiFunction;)I" } : Jvm.MethodName) jdk_41_method_11_code (3 : Nat) (Option.some Jvm.ClassFile.FieldType.int), Jvm.Cond.code ({ cls := "com/example/atomize/atomize/http/FieldValueReader", name := "upTo", desc := "(CLjava/lang/String;)Ljava/lang/String;" } : Jvm.MethodName) prog_5_method_6_code (5 : Nat) (Option.some (Jvm.ClassFile.FieldType.object "java/lang/String")), Jvm.Cond.code ({ cls := "java/lang/String", name := "indexOf", desc := "(II)I" } : Jvm.MethodName) jdk_42_method_80_code (3 : Nat) (Option.some Jvm.ClassFile.FieldType.int), Jvm.Cond.code ({ cls := "java/lang/StringLatin1", name := "indexOf", desc := "([BIII)I" } : Jvm.MethodName) jdk_43_method_22_code (4 : Nat) (Option.some Jvm.ClassFile.FieldType.int), Jvm.Cond.code ({ cls := "java/lang/StringLatin1", name := "canEncode", desc := "(I)Z" } : Jvm.MethodName) jdk_43_method_4_code (1 : Nat) (Option.some Jvm.ClassFile.FieldType.boolean), Jvm.Cond.code ({ cls := "java/lang/Math", name := "max", desc := "(II)I" } : Jvm.MethodName) jdk_29_method_65_code (2 : Nat) (Option.some Jvm.ClassFile.FieldType.int), Jvm.Cond.code ({ cls := "java/lang/Math", name := "min", desc := "(II)I" } : Jvm.MethodName) jdk_29_method_69_code (2 : Nat) (Option.some Jvm.ClassFile.FieldType.int), Jvm.Cond.code ({ cls := "java/lang/StringLatin1", name := "indexOfChar", desc := "([BIII)I" } : Jvm.MethodName) jdk_43_method_23_code (6 : Nat) (Option.some Jvm.ClassFile.FieldType.int), Jvm.Cond.code ({ cls := "java/lang/String", name := "substring", desc := "(II)Ljava/lang/String;" } : Jvm.MethodName) jdk_42_method_92_code (5 : Nat) (Option.some (Jvm.ClassFile.FieldType.object "java/lang/String")), Jvm.Cond.code ({ cls := "java/lang/String", name := "checkBoundsBeginEnd", desc := "(III)V" } : Jvm.MethodName) jdk_42_method_158_code (3 : Nat) (Option.none : Option Jvm.ClassFile.FieldType), Jvm.Cond.code ({ cls := "jdk/internal/util/Preconditions", name := "checkFromToIndex", desc := "(IIILjava/util/function/BiFunction;)I" } : Jvm.MethodName) jdk_41_method_12_code (4 : Nat) (Option.some Jvm.ClassFile.FieldType.int), Jvm.Cond.code ({ cls := "java/lang/StringLatin1", name := "newString", desc := "([BII)Ljava/lang/String;" } : Jvm.MethodName) jdk_43_method_47_code (3 : Nat) (Option.some (Jvm.ClassFile.FieldType.object "java/lang/String")), Jvm.Cond.code ({ cls := "java/util/Arrays", name := "copyOfRange", desc := "([BII)[B" } : Jvm.MethodName) jdk_65_method_132_code (3 : Nat) (Option.some (Jvm.ClassFile.FieldType.array Jvm.ClassFile.FieldType.byte)), Jvm.Cond.code ({ cls := "java/util/Arrays", name := "copyOfRangeByte", desc := "([BII)[B" } : Jvm.MethodName) jdk_65_method_133_code (5 : Nat) (Option.some (Jvm.ClassFile.FieldType.array Jvm.ClassFile.FieldType.byte)), Jvm.Cond.code ({ cls := "java/util/Arrays", name := "checkLength", desc := "(II)V" } : Jvm.MethodName) jdk_65_method_131_code (2 : Nat) (Option.none : Option Jvm.ClassFile.FieldType), Jvm.Cond.code ({ cls := "java/lang/String", name := "<init>", desc := "([BB)V" } : Jvm.MethodName) jdk_42_method_151_code (3 : Nat) (Option.none : Option Jvm.ClassFile.FieldType), Jvm.Cond.code ({ cls := "com/example/atomize/atomize/http/FieldValueReader", name := "nextElement", desc := "()Z" } : Jvm.MethodName) prog_5_method_2_code (1 : Nat) (Option.some Jvm.ClassFile.FieldType.boolean), Jvm.Cond.code ({ cls := "java/lang/StringUTF16", name := "toBytes", desc := "([CII)[B" } : Jvm.MethodName) jdk_52_method_14_code (5 : Nat) (Option.some (Jvm.ClassFile.FieldType.array Jvm.ClassFile.FieldType.byte)), Jvm.Cond.code ({ cls := "java/lang/StringUTF16", name := "newBytesFor", desc := "(I)[B" } : Jvm.MethodName) jdk_52_method_2_code (1 : Nat) (Option.some (Jvm.ClassFile.FieldType.array Jvm.ClassFile.FieldType.byte)), Jvm.Cond.code ({ cls := "java/lang/StringUTF16", name := "newBytesLength", desc := "(I)I" } : Jvm.MethodName) jdk_52_method_3_code (1 : Nat) (Option.some Jvm.ClassFile.FieldType.int), Jvm.Cond.code ({ cls := "java/lang/StringUTF16", name := "putChar", desc := "([BII)V" } : Jvm.MethodName) jdk_52_method_4_code (3 : Nat) (Option.none : Option Jvm.ClassFile.FieldType), Jvm.Cond.code ({ cls := "java/lang/StringUTF16", name := "getChar", desc := "([BI)C" } : Jvm.MethodName) jdk_52_method_5_code (2 : Nat) (Option.some Jvm.ClassFile.FieldType.char), Jvm.Cond.code ({ cls := "java/lang/StringUTF16", name := "indexOf", desc := "([BIII)I" } : Jvm.MethodName) jdk_52_method_40_code (4 : Nat) (Option.some Jvm.ClassFile.FieldType.int), Jvm.Cond.code ({ cls := "java/lang/StringUTF16", name := "indexOfChar", desc := "([BIII)I" } : Jvm.MethodName) jdk_52_method_47_code (4 : Nat) (Option.some Jvm.ClassFile.FieldType.int), Jvm.Cond.code ({ cls := "java/lang/StringUTF16", name := "checkBoundsBeginEnd", desc := "(II[B)V" } : Jvm.MethodName) jdk_52_method_93_code (3 : Nat) (Option.none : Option Jvm.ClassFile.FieldType), Jvm.Cond.code ({ cls := "java/lang/StringUTF16", name := "length", desc := "([B)I" } : Jvm.MethodName) jdk_52_method_6_code (1 : Nat) (Option.some Jvm.ClassFile.FieldType.int), Jvm.Cond.code ({ cls := "java/lang/StringUTF16", name := "indexOfCharUnsafe", desc := "([BIII)I" } : Jvm.MethodName) jdk_52_method_48_code (5 : Nat) (Option.some Jvm.ClassFile.FieldType.int), Jvm.Cond.code ({ cls := "java/lang/StringUTF16", name := "newString", desc := "([BII)Ljava/lang/String;" } : Jvm.MethodName) jdk_52_method_69_code (5 : Nat) (Option.some (Jvm.ClassFile.FieldType.object "java/lang/String")), Jvm.Cond.code ({ cls := "java/lang/StringUTF16", name := "compress", desc := "([BII)[B" } : Jvm.MethodName) jdk_52_method_17_code (6 : Nat) (Option.some (Jvm.ClassFile.FieldType.array Jvm.ClassFile.FieldType.byte)), Jvm.Cond.code ({ cls := "java/lang/StringUTF16", name := "compress", desc := "([BI[BII)I" } : Jvm.MethodName) jdk_52_method_22_code (7 : Nat) (Option.some Jvm.ClassFile.FieldType.int), Jvm.Cond.code ({ cls := "java/lang/StringUTF16", name := "checkBoundsOffCount", desc := "(II[B)V" } : Jvm.MethodName) jdk_52_method_94_code (3 : Nat) (Option.none : Option Jvm.ClassFile.FieldType), Jvm.Cond.code ({ cls := "java/lang/String", name := "checkBoundsOffCount", desc := "(III)I" } : Jvm.MethodName) jdk_42_method_157_code (3 : Nat) (Option.some Jvm.ClassFile.FieldType.int), Jvm.Cond.code ({ cls := "jdk/internal/util/Preconditions", name := "checkFromIndexSize", desc := "(IIILjava/util/function/BiFunction;)I" } : Jvm.MethodName) jdk_41_method_13_code (4 : Nat) (Option.some Jvm.ClassFile.FieldType.int), Jvm.Cond.code ({ cls := "java/lang/StringUTF16", name := "charAt", desc := "([BI)C" } : Jvm.MethodName) jdk_52_method_83_code (2 : Nat) (Option.some Jvm.ClassFile.FieldType.char), Jvm.Cond.code ({ cls := "java/lang/StringUTF16", name := "checkIndex", desc := "(I[B)V" } : Jvm.MethodName) jdk_52_method_91_code (2 : Nat) (Option.none : Option Jvm.ClassFile.FieldType)]
set_option maxRecDepth 65536 in
theorem codes_eq : words1.filter isCode = codes1 := rfl
theorem w_codes : ∀ c ∈ words1.filter isCode, c.before args0 about1 = true := by
  rw [codes_eq]
  intro c hc
  simp only [codes1, List.mem_cons, List.not_mem_nil, or_false] at hc
  rcases hc with rfl | rfl | rfl | rfl | rfl | rfl | rfl | rfl | rfl | rfl | rfl | rfl | rfl | rfl | rfl | rfl | rfl | rfl | rfl | rfl | rfl | rfl | rfl | rfl | rfl | rfl | rfl | rfl | rfl | rfl | rfl | rfl | rfl | rfl | rfl | rfl | rfl | rfl | rfl | rfl | rfl | rfl | rfl | rfl | rfl | rfl | rfl | rfl | rfl | rfl | rfl
  · exact w_c0
  · exact w_c1
  · exact w_c2
  · exact w_c3
  · exact w_c4
  · exact w_c5
  · exact w_c6
  · exact w_c7
  · exact w_c8
  · exact w_c9
  · exact w_c10
  · exact w_c11
  · exact w_c12
  · exact w_c13
  · exact w_c14
  · exact w_c15
  · exact w_c16
  · exact w_c17
  · exact w_c18
  · exact w_c19
  · exact w_c20
  · exact w_c21
  · exact w_c22
  · exact w_c23
  · exact w_c24
  · exact w_c25
  · exact w_c26
  · exact w_c27
  · exact w_c28
  · exact w_c29
  · exact w_c30
  · exact w_c31
  · exact w_c32
  · exact w_c33
  · exact w_c34
  · exact w_c35
  · exact w_c36
  · exact w_c37
  · exact w_c38
  · exact w_c39
  · exact w_c40
  · exact w_c41
  · exact w_c42
  · exact w_c43
  · exact w_c44
  · exact w_c45
  · exact w_c46
  · exact w_c47
  · exact w_c48
  · exact w_c49
  · exact w_c50
set_option maxRecDepth 65536 in
theorem w_t1 : (words1.take 24).all (fun c => isCode c || c.before args0 about1) = true := by decide +kernel
set_option maxRecDepth 65536 in
theorem w_t2 : ((words1.drop 24).take 24).all (fun c => isCode c || c.before args0 about1) = true := by decide +kernel
set_option maxRecDepth 65536 in
theorem w_t3 : (((words1.drop 24).drop 24).take 24).all (fun c => isCode c || c.before args0 about1) = true := by decide +kernel
set_option maxRecDepth 65536 in
theorem w_t4 : ((((words1.drop 24).drop 24).drop 24).take 24).all (fun c => isCode c || c.before args0 about1) = true := by decide +kernel
set_option maxRecDepth 65536 in
theorem w_t5 : (((((words1.drop 24).drop 24).drop 24).drop 24).take 24).all (fun c => isCode c || c.before args0 about1) = true := by decide +kernel
set_option maxRecDepth 65536 in
theorem w_t6 : ((((((words1.drop 24).drop 24).drop 24).drop 24).drop 24).take 24).all (fun c => isCode c || c.before args0 about1) = true := by decide +kernel
set_option maxRecDepth 65536 in
theorem w_t7 : (((((((words1.drop 24).drop 24).drop 24).drop 24).drop 24).drop 24).take 24).all (fun c => isCode c || c.before args0 about1) = true := by decide +kernel
set_option maxRecDepth 65536 in
theorem w_t8 : ((((((((words1.drop 24).drop 24).drop 24).drop 24).drop 24).drop 24).drop 24).take 24).all (fun c => isCode c || c.before args0 about1) = true := by decide +kernel
set_option maxRecDepth 65536 in
theorem w_t9 : (((((((((words1.drop 24).drop 24).drop 24).drop 24).drop 24).drop 24).drop 24).drop 24).take 24).all (fun c => isCode c || c.before args0 about1) = true := by decide +kernel
set_option maxRecDepth 65536 in
theorem w_t10 : (((((((((words1.drop 24).drop 24).drop 24).drop 24).drop 24).drop 24).drop 24).drop 24).drop 24).all (fun c => isCode c || c.before args0 about1) = true := by decide +kernel
theorem w_tables : (allAtoms (Jvm.Cond.code x code maxLocals ret :: tables_1)).before args0 about1 = true := by
  rw [allAtoms_all]
  show words1.all (fun c => c.before args0 about1) = true
  refine all_split ?_ w_codes
  rw [← List.take_append_drop 24 words1, List.all_append, w_t1, ← List.take_append_drop 24 (words1.drop 24), List.all_append, w_t2, ← List.take_append_drop 24 ((words1.drop 24).drop 24), List.all_append, w_t3, ← List.take_append_drop 24 (((words1.drop 24).drop 24).drop 24), List.all_append, w_t4, ← List.take_append_drop 24 ((((words1.drop 24).drop 24).drop 24).drop 24), List.all_append, w_t5, ← List.take_append_drop 24 (((((words1.drop 24).drop 24).drop 24).drop 24).drop 24), List.all_append, w_t6, ← List.take_append_drop 24 ((((((words1.drop 24).drop 24).drop 24).drop 24).drop 24).drop 24), List.all_append, w_t7, ← List.take_append_drop 24 (((((((words1.drop 24).drop 24).drop 24).drop 24).drop 24).drop 24).drop 24), List.all_append, w_t8, ← List.take_append_drop 24 ((((((((words1.drop 24).drop 24).drop 24).drop 24).drop 24).drop 24).drop 24).drop 24), List.all_append, w_t9, w_t10]
  rfl
set_option maxRecDepth 65536 in
theorem w_rest : rest_1_c.before args0 about1 = true := by decide +kernel
set_option maxRecDepth 65536 in
theorem w_case : (Jvm.Cond.and given_1 narrow_1).before args0 about1 = true := by decide +kernel
set_option maxRecDepth 65536 in
theorem w_consts : constsHeld consts_1 about1 := Jvm.Lit.constsHeldB_iff.mp (by decide +kernel)
theorem w_applies : (headSpec (Jvm.Cond.code x code maxLocals ret :: tables_1) room_1).applies x e0.platform about1 = true :=
  (Spec.applies_iff w_frames).mpr ⟨w_running, w_runnable, w_alone, w_named, w_hears, w_ripe, w_room, w_tables⟩
theorem atStart : AtStart classFile x code maxLocals ret World_1 tables_1 room_1 Calls_1 rest_1 Pre_1 launch0 p0 e0 about1 theMethod args0 below0 :=
  ⟨lists_1, trivial, launch0.admits_env _ _ _, launch0.least_env, fairChoices_fair.cas, fairChoices_fair.clock, w_frames, w_args, w_heap, w_applies, ⟨w_consts, trivial⟩, w_rest, w_case⟩
end start1
theorem witness_1 : WitnessClaimed_1 := ⟨start1.p0, start1.e0, start1.about1, start1.theMethod, start1.args0, start1.below0, start1.atStart⟩
end Jvm.Pilot.@@N@@
