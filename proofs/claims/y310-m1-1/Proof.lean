import JvmDerived
import JvmDerived.Pilot.@@N@@Statement
import JvmDerived.Pilot.@@N@@Code
set_option linter.unusedVariables false
set_option linter.unusedSimpArgs false
namespace Jvm.RoadKit
open Sem ClassFile Op Lib Jvm.Stand Jvm.Free Jvm.LawKit
section New
variable {p : Program} {l : Launch} {e : Env} {R : Room} {s : State} {m : MethodId} {args : Array Value} {below : List Frame} {meth : Method} {c : Code} {T : State} {locs : List Loc} {cells slots : Nat}
theorem retI (X : Stand p l e R s m args below meth c T locs cells slots) (hx : p.tables.exec = Jvm.exec) {pc : Nat} {Ls : Array Slot} {z : Int32} {rest : List Value} (hret : meth.sig.returnType = some .int) (hd : decode c.code pc = .ok (.ireturn, 1)) {fs : List Frame}
    (hl : ∀ (f : JFrame) (acts : List Action), f.method = m → f.locked = none → f.entered = [] → (doReturn e (T.setTop f) acts (some (.int z))).1 = T.setFrames fs) : Steps p.tables e below (T.setTop (mkF m pc Ls (.int z :: rest))) (T.setFrames fs) := by
  have hm' : T.vm.method? m = some meth := X.method'
  have hn : narrow .int (.int z) = .int z := rfl
  show Steps p.tables e below (T.setTop { method := m, pc := pc, locals := Ls, stack := _ :: rest, locked := none }) _
  jvm_step X.here [X.here.top, hx, hd, hm', hret, hn]
  first | (intro acts; rw [hl _ acts rfl rfl rfl]) | rw [hl _ _ rfl rfl rfl]
  exact Steps.refl _
end New
end Jvm.RoadKit
/- laws to paste: pair_says, chr8_lo8, lo8_mask, shr0 (cut by pick.py; bodies as the Statement names them) -/
namespace Jvm.Pilot.@@N@@
namespace StrChars
open Jvm Sem ClassFile Op Lib Jvm.Stand Jvm.Free.XT Jvm.Free.ALB Jvm.Free.JM Jvm.Free
open Jvm.Lib.Cold (StaticIs)
/-- the byte that i2b leaves of a char -/
def lo8 (x : Int32) : Int32 := x.toInt8.toInt32
/-- the byte, read back as charAt reads it, is the char -/
theorem lo8_mask {x : Int32} (h0 : ¬ x < 0) (h1 : ¬ 255 < x) : lo8 x &&& 255 = x := by
  have t : ∀ k : Fin 256, lo8 (Int32.ofNat k.val) &&& 255 = Int32.ofNat k.val := by decide +kernel
  rw [Int32.lt_iff_toInt_lt] at h0 h1
  have e0 : (0 : Int32).toInt = 0 := rfl
  have e1 : (255 : Int32).toInt = 255 := rfl
  obtain ⟨k, hk⟩ : ∃ k : Nat, x.toInt = k := ⟨x.toInt.toNat, by omega⟩
  have hx : x = Int32.ofNat k := Int32.toInt_inj.mp (by rw [hk, Int32.toInt_ofNat_small (by omega)])
  rw [hx]
  exact t ⟨k, by omega⟩
end StrChars
namespace StrChars
open Jvm Sem ClassFile Op Lib Jvm.Stand Jvm.Free.XT Jvm.Free.ALB Jvm.Free.JM Jvm.Free
open Jvm.Lib.Cold (StaticIs)
def hi8 (x : Int32) : Int32 := lo8 (x >>> ((8 : Int32) &&& 31))
/-- what StringUTF16.getChar makes of two bytes -/
def pairCh (u v : Int32) : Int32 := (((u &&& 255) <<< ((0 : Int32) &&& 31)) ||| ((v &&& 255) <<< ((8 : Int32) &&& 31))).toUInt32.toUInt16.toUInt32.toInt32
theorem shr0 (c : Int32) : c >>> ((0 : Int32) &&& 31) = c := by
  have e : ((0 : Int32) &&& 31) = 0 := by decide
  rw [e]
  apply Int32.toBitVec_inj.mp
  rw [Int32.toBitVec_shiftRight]
  have e1 : ((0 : Int32).toBitVec.smod 32) = 0#32 := by decide
  rw [e1, BitVec.sshiftRight_eq']
  exact BitVec.sshiftRight_zero
theorem lo8_and (x : Int32) : (lo8 x &&& 255).toBitVec.toNat = x.toBitVec.toNat % 256 := by
  have h : (lo8 x).toBitVec = (x.toBitVec.signExtend 8).signExtend 32 := by rw [lo8, Int8.toBitVec_toInt32, Int32.toBitVec_toInt8]
  rw [Int32.toBitVec_and, BitVec.toNat_and, h]
  have e : ((x.toBitVec.signExtend 8).signExtend 32).toNat % 256 = x.toBitVec.toNat % 256 := by
    rw [BitVec.toNat_signExtend]
    have hlt := x.toBitVec.isLt
    simp only [BitVec.toNat_setWidth, BitVec.toNat_signExtend]
    split <;> split <;> omega
  rw [← e]
  exact Nat.and_two_pow_sub_one_eq_mod _ 8
theorem pair_says {c : Int32} (h0 : ¬ c < 0) (h1 : ¬ 65535 < c) : pairCh (lo8 c) (hi8 c) = c := by
  rw [Int32.lt_iff_toInt_lt] at h0 h1
  have e0 : (0 : Int32).toInt = 0 := rfl
  have e1 : (65535 : Int32).toInt = 65535 := rfl
  have hc : c.toInt = c.toBitVec.toNat := by
    have := c.toBitVec.isLt
    have e : c.toInt = c.toBitVec.toInt := rfl
    rw [e] at h0 h1
    rw [e]
    rw [BitVec.toInt_eq_toNat_cond] at h0 h1 ⊢
    split at h0 <;> split <;> omega
  have hn : c.toBitVec.toNat < 65536 := by omega
  have a1 := lo8_and c
  have a2 : (hi8 c &&& 255).toBitVec.toNat = c.toBitVec.toNat / 256 := by
    rw [hi8, lo8_and]
    have e : ((8 : Int32) &&& 31) = 8 := by decide
    rw [e, Int32.toBitVec_shiftRight]
    have e2 : ((8 : Int32).toBitVec.smod 32) = 8#32 := by decide
    rw [e2, BitVec.sshiftRight_eq', BitVec.toNat_sshiftRight_of_msb_false (by rw [BitVec.msb_eq_false_iff_two_mul_lt]; omega)]
    show c.toBitVec.toNat >>> 8 % 256 = _
    rw [Nat.shiftRight_eq_div_pow]
    omega
  unfold pairCh
  apply Int32.toBitVec_inj.mp
  apply BitVec.eq_of_toNat_eq
  have f0 : ((0 : Int32) &&& 31) = 0 := by decide
  have f8 : ((8 : Int32) &&& 31) = 8 := by decide
  rw [f0, f8]
  have g : (((lo8 c &&& 255) <<< (0 : Int32)) ||| ((hi8 c &&& 255) <<< (8 : Int32))).toBitVec.toNat = c.toBitVec.toNat := by
    rw [Int32.toBitVec_or, Int32.toBitVec_shiftLeft, Int32.toBitVec_shiftLeft]
    have s0 : ((0 : Int32).toBitVec.smod 32) = 0#32 := by decide
    have s8 : ((8 : Int32).toBitVec.smod 32) = 8#32 := by decide
    rw [s0, s8, BitVec.toNat_or]
    simp only [BitVec.shiftLeft_eq', BitVec.toNat_shiftLeft, a1, a2]
    show (c.toBitVec.toNat % 256) <<< 0 % 2 ^ 32 ||| (c.toBitVec.toNat / 256) <<< 8 % 2 ^ 32 = _
    rw [Nat.shiftLeft_zero, Nat.mod_eq_of_lt (show c.toBitVec.toNat % 256 < 2 ^ 32 by omega), Nat.mod_eq_of_lt (show (c.toBitVec.toNat / 256) <<< 8 < 2 ^ 32 by rw [Nat.shiftLeft_eq]; omega), Nat.or_comm, ← Nat.shiftLeft_add_eq_or_of_lt (by omega), Nat.shiftLeft_eq]
    omega
  show BitVec.toNat (((((lo8 c &&& 255) <<< (0 : Int32)) ||| ((hi8 c &&& 255) <<< (8 : Int32))).toBitVec.setWidth 16).setWidth 32) = _
  rw [BitVec.toNat_setWidth, BitVec.toNat_setWidth, g]
  omega
end StrChars
namespace StrChars
open Jvm Sem ClassFile Op Lib Jvm.Stand Jvm.Free.XT Jvm.Free.ALB Jvm.Free.JM Jvm.Free
open Jvm.Lib.Cold (StaticIs)
/-- charAt's cast of a byte read back -/
def chr8 (u : Int32) : Int32 := (u &&& 255).toUInt32.toUInt16.toUInt32.toInt32
theorem chr8_lo8 {c : Int32} (h0 : ¬ c < 0) (h1 : ¬ 255 < c) : chr8 (lo8 c) = c := by
  have t : ∀ k : Fin 256, (Int32.ofNat k.val).toUInt32.toUInt16.toUInt32.toInt32 = Int32.ofNat k.val := by decide +kernel
  unfold chr8
  rw [lo8_mask h0 h1]
  rw [Int32.lt_iff_toInt_lt] at h0 h1
  have e0 : (0 : Int32).toInt = 0 := rfl
  have e1 : (255 : Int32).toInt = 255 := rfl
  obtain ⟨k, hk⟩ : ∃ k : Nat, c.toInt = k := ⟨c.toInt.toNat, by omega⟩
  have hx : c = Int32.ofNat k := Int32.toInt_inj.mp (by rw [hk, Int32.toInt_ofNat_small (by omega)])
  rw [hx]
  exact t ⟨k, by omega⟩
end StrChars
end Jvm.Pilot.@@N@@
namespace Jvm.Pilot.@@N@@
open Jvm Jvm.ClassFile Sem Op Lib Jvm.Free Jvm.Stand Jvm.LawKit Jvm.RoadKit Bundle Jvm.Pilot.@@N@@.Jvm.D
theorem tk {α : Type _} {L : List α} {y : α} (i : Nat) (h : L[i]? = some y) : y ∈ L := List.mem_of_getElem? h
/-! numbers and lists -/
theorem own_priv {y : MethodName} {C : String} {a : Array Value} {s : State} (hy : y.cls ≠ "java/lang/invoke/MethodHandle" ∧ y.cls ≠ "java/lang/invoke/VarHandle") (w : (Jvm.Cond.selects C y y).before a s = true) (hp : (Jvm.Cond.privateMethod y).before a s = true) : (Jvm.Cond.selects y.cls y y).before a s = true := by
  obtain ⟨c, r, m, h1, h2, h3, h4, mk, h5, h6⟩ := Cond.selects_spec w
  have hc := findClass_of_methodNamed h3
  have h7 := State.methodFound?_of_named h3 hy
  obtain ⟨meth, hm⟩ : ∃ meth, s.vm.method? m = some meth := by
    cases q : s.vm.method? m with
    | some meth => exact ⟨meth, rfl⟩
    | none => simp [Cond.before, Cond.holds, Cond.value, h3, q] at hp
  have h8 := selectMethod_private (p := {}) (c := m.cls) hm (Cond.privateMethod_at hp m meth h3 hm)
  simp [Cond.before, Cond.holds, Cond.value, hc, h7, h3, h8, h5, h6]
theorem own_same {y z : MethodName} {C : String} {x : MethodName} {a : Array Value} {s : State} (hy : y.cls ≠ "java/lang/invoke/MethodHandle" ∧ y.cls ≠ "java/lang/invoke/VarHandle") (w : (Jvm.Cond.declares y).before a s = true) (v : (Jvm.Cond.selects C x z).before a s = true) (e : z.cls = y.cls) : (Jvm.Cond.sameMethod y.cls y.cls y.name y.desc).before a s = true := by
  obtain ⟨m, meth, h1, h2, h3, h4⟩ := Cond.declares_spec w
  have hc := findClass_of_methodNamed h1
  have h7 := State.methodFound?_of_named h1 hy
  obtain ⟨c, r, m', g1, g2, g3, g4, mk, g5, g6⟩ := Cond.selects_spec v
  have gc := findClass_of_methodNamed g3
  rw [e] at gc
  have e2 := Option.some.inj (hc.symm.trans gc)
  rw [← e2] at g5
  obtain ⟨yc, yn, yd⟩ := y
  simp [Cond.before, Cond.holds, Cond.value, hc, h7, h1, g5, g6]
def own_b0 (c : Int32) : Int32 := nar .byte ((c >>> ((0 : Int32) &&& 31)).toInt8.toInt32)
def own_b1 (c : Int32) : Int32 := nar .byte ((c >>> ((8 : Int32) &&& 31)).toInt8.toInt32)
/-- the bytes of the chars, low before high -/
def own_wide : List Int32 → List Value
  | [] => []
  | c :: cs => .int (own_b0 c) :: .int (own_b1 c) :: own_wide cs
def own_l8 (c : Int32) : Int32 := nar .byte (c.toInt8.toInt32)
def own_lat (cs : List Int32) : List Value := cs.map fun c => .int (own_l8 c)
theorem own_lat_len (cs : List Int32) : (own_lat cs).length = cs.length := by simp [own_lat]
theorem own_wide_len : ∀ cs : List Int32, (own_wide cs).length = 2 * cs.length
  | [] => rfl
  | c :: cs => by simp [own_wide, own_wide_len cs]; omega
theorem own_wide_app : ∀ (cs : List Int32) (c : Int32), own_wide (cs ++ [c]) = own_wide cs ++ [.int (own_b0 c), .int (own_b1 c)]
  | [], _ => rfl
  | d :: cs, c => by simp [own_wide, own_wide_app cs c]
theorem own_lat_app (cs : List Int32) (c : Int32) : own_lat (cs ++ [c]) = own_lat cs ++ [.int (own_l8 c)] := by simp [own_lat]
theorem own_set_lat (cs : List Int32) (c : Int32) (v : Value) (n : Nat) (hn : cs.length = n) : (own_lat cs ++ List.replicate 1 v).set n (.int (own_l8 c)) = own_lat (cs ++ [c]) := by
  subst hn
  rw [own_lat_app, List.set_append_right _ _ (by rw [own_lat_len]; exact Nat.le_refl _), own_lat_len, Nat.sub_self]; rfl
theorem own_set_w0 (cs : List Int32) (x v : Value) (n : Nat) (hn : 2 * cs.length = n) : (own_wide cs ++ List.replicate 2 v).set n x = own_wide cs ++ [x, v] := by
  subst hn
  rw [List.set_append_right _ _ (by rw [own_wide_len]; exact Nat.le_refl _), own_wide_len, Nat.sub_self]; rfl
theorem own_set_w1 (cs : List Int32) (x y v : Value) (n : Nat) (hn : 2 * cs.length + 1 = n) : (own_wide cs ++ [x, v]).set n y = own_wide cs ++ [x, y] := by
  subst hn
  rw [List.set_append_right _ _ (by rw [own_wide_len]; omega), own_wide_len, show 2 * cs.length + 1 - 2 * cs.length = 1 by omega]; rfl
theorem own_wide_at (d : Value) : ∀ (cs : List Int32) (j : Nat), j < cs.length → (own_wide cs).getD (2 * j) d = .int (own_b0 (cs.getD j 0)) ∧ (own_wide cs).getD (2 * j + 1) d = .int (own_b1 (cs.getD j 0))
  | [], j, h => absurd h (Nat.not_lt_zero j)
  | c :: cs, 0, _ => ⟨rfl, rfl⟩
  | c :: cs, j + 1, h => by
    have q := own_wide_at d cs j (by simpa using h)
    rw [show 2 * (j + 1) = 2 * j + 1 + 1 from by omega]
    simpa [own_wide] using q
theorem own_lat_at (d : Value) (cs : List Int32) (j : Nat) (h : j < cs.length) : (own_lat cs).getD j d = .int (own_l8 (cs.getD j 0)) := by
  simp [own_lat, List.getD_eq_getElem?_getD, h]
theorem own_nat {j : Nat} (h : j < 2 ^ 31) : (Int32.ofNat j).toInt = j := Int32.toInt_ofNat_of_lt h
theorem own_clamp {j : Nat} (h : j < 2 ^ 31) : (Int32.ofNat j).toNatClampNeg = j := by simp only [Int32.toNatClampNeg, own_nat h]; rfl
theorem own_add {i j : Nat} : Int32.ofNat i + Int32.ofNat j = Int32.ofNat (i + j) := by
  apply Int32.toBitVec_inj.mp
  show BitVec.ofNat 32 i + BitVec.ofNat 32 j = BitVec.ofNat 32 (i + j)
  rw [BitVec.ofNat_add]
theorem own_sub {i j : Nat} (h : j ≤ i) (hi : i < 2 ^ 31) : Int32.ofNat i - Int32.ofNat j = Int32.ofNat (i - j) := by
  have e : Int32.ofNat i = Int32.ofNat (i - j) + Int32.ofNat j := by rw [own_add, Nat.sub_add_cancel h]
  rw [e]
  simp
theorem own_lt {i j : Nat} (hi : i < 2 ^ 31) (hj : j < 2 ^ 31) : Int32.ofNat i < Int32.ofNat j ↔ i < j := by rw [Int32.lt_iff_toInt_lt, own_nat hi, own_nat hj]; omega
theorem own_eq {i j : Nat} (hi : i < 2 ^ 31) (hj : j < 2 ^ 31) : Int32.ofNat i = Int32.ofNat j ↔ i = j := ⟨fun h => by have := congrArg Int32.toInt h; rw [own_nat hi, own_nat hj] at this; omega, fun h => by rw [h]⟩
theorem own_n0 {i : Nat} (hi : i < 2 ^ 31) : ¬ Int32.ofNat i < (0 : Int32) := fun h => by rw [Int32.lt_iff_toInt_lt, own_nat hi] at h; have : (0 : Int32).toInt = 0 := rfl; omega
theorem own_shl {j : Nat} (h : j < 64) : (Int32.ofNat j <<< ((1 : Int32) &&& 31)) = Int32.ofNat (2 * j) := by
  have t : ∀ k : Fin 64, (Int32.ofNat k.val <<< ((1 : Int32) &&& 31)) = Int32.ofNat (2 * k.val) := by decide +kernel
  exact t ⟨j, h⟩
theorem own_shr {j : Nat} (h : j < 64) : (Int32.ofNat (2 * j) >>> ((1 : Int32) &&& 31)) = Int32.ofNat j := by
  have t : ∀ k : Fin 64, (Int32.ofNat (2 * k.val) >>> ((1 : Int32) &&& 31)) = Int32.ofNat k.val := by decide +kernel
  exact t ⟨j, h⟩
theorem own_shr0 {j : Nat} (h : j < 64) : (Int32.ofNat j >>> ((0 : Int32) &&& 31)) = Int32.ofNat j := by
  have t : ∀ k : Fin 64, (Int32.ofNat k.val >>> ((0 : Int32) &&& 31)) = Int32.ofNat k.val := by decide +kernel
  exact t ⟨j, h⟩
def own_ch (c : Int32) : Prop := ¬ c < 0 ∧ ¬ (65535 : Int32) < c
theorem own_i8 (x : Int8) : x.toInt32.toInt8 = x := by simp
theorem own_l8_eq (c : Int32) : own_l8 c = StrChars.lo8 c := by show (c.toInt8.toInt32).toInt8.toInt32 = _; rw [own_i8]; rfl
theorem own_b0_eq (c : Int32) : own_b0 c = StrChars.lo8 c := by show ((c >>> ((0 : Int32) &&& 31)).toInt8.toInt32).toInt8.toInt32 = _; rw [own_i8, StrChars.shr0]; rfl
theorem own_b1_eq (c : Int32) : own_b1 c = StrChars.hi8 c := by show ((c >>> ((8 : Int32) &&& 31)).toInt8.toInt32).toInt8.toInt32 = _; rw [own_i8]; rfl
theorem own_pair {c : Int32} (h : own_ch c) : ((((own_b0 c) &&& (255 : Int32)) <<< ((0 : Int32) &&& 31)) ||| (((own_b1 c) &&& (255 : Int32)) <<< ((8 : Int32) &&& 31))).toUInt32.toUInt16.toUInt32.toInt32 = c := by
  rw [own_b0_eq, own_b1_eq]; exact StrChars.pair_says h.1 h.2
theorem own_chr {c : Int32} (h0 : ¬ c < 0) (h1 : ¬ (255 : Int32) < c) : ((own_l8 c) &&& (255 : Int32)).toUInt32.toUInt16.toUInt32.toInt32 = c := by
  rw [own_l8_eq]; exact StrChars.chr8_lo8 h0 h1
theorem own_msk {c : Int32} (h0 : ¬ c < 0) (h1 : ¬ (255 : Int32) < c) : (own_l8 c) &&& (255 : Int32) = c := by
  rw [own_l8_eq]; exact StrChars.lo8_mask h0 h1
theorem own_narch (x : Int32) : own_ch (nar .char x) := by
  have h := fits_nar_char x
  simp only [fits, Bool.and_eq_true, decide_eq_true_eq] at h
  exact ⟨Int32.not_lt.mpr h.1, Int32.not_lt.mpr h.2⟩
theorem own_narc {c : Int32} (h : own_ch c) : nar .char c = c := by
  have q := own_pair h
  have e : ∀ x : Int32, nar .char (x.toUInt32.toUInt16.toUInt32.toInt32) = x.toUInt32.toUInt16.toUInt32.toInt32 := fun x => by
    show (x.toUInt32.toUInt16.toUInt32.toInt32).toUInt32.toUInt16.toUInt32.toInt32 = _
    have : (x.toUInt32.toUInt16.toUInt32.toInt32).toUInt32 = x.toUInt32.toUInt16.toUInt32 := rfl
    rw [this]
    have h2 : (x.toUInt32.toUInt16.toUInt32).toUInt16 = x.toUInt32.toUInt16 := UInt16.toUInt16_toUInt32 _
    rw [h2]
  rw [← q]; exact e _
theorem own_up {c : Int32} (h0 : ¬ c < 0) (h1 : ¬ (255 : Int32) < c) : own_ch c := ⟨h0, fun q => h1 (by rw [Int32.lt_iff_toInt_lt] at q ⊢; have e1 : (65535 : Int32).toInt = 65535 := rfl; have e2 : (255 : Int32).toInt = 255 := rfl; omega)⟩
/-- what the JDK's statics hold -/
def own_env (Z : State) (G1 : Int32) (G3 G4 : Value) : Prop := Sta Z Z.heap "java/lang/String" "COMPACT_STRINGS" "Z" (.int G1) ∧ ¬ (G1 = (0 : Int32)) ∧ Sta Z Z.heap "jdk/internal/util/Preconditions" "SIOOBE_FORMATTER" "Ljava/util/function/BiFunction;" G3 ∧ G3.isRef = true ∧ Sta Z Z.heap "jdk/internal/util/Preconditions" "IOOBE_FORMATTER" "Ljava/util/function/BiFunction;" G4 ∧ G4.isRef = true ∧ Sta Z Z.heap "java/lang/StringUTF16" "$assertionsDisabled" "Z" (.int 1) ∧ Sta Z Z.heap "java/lang/StringUTF16" "HI_BYTE_SHIFT" "I" (.int 0) ∧ Sta Z Z.heap "java/lang/StringUTF16" "LO_BYTE_SHIFT" "I" (.int 8)
def own_Q (Z : State) (r : Option Value) (h0 : Heap) (n0 : Nat) (v : Option Value) (h : Heap) (L : List Loc) : Prop := v = r ∧ Fr n0 L ∧ h = h0
theorem d31_0 : decode jdk_41_method_11_code 0 = .ok (.iload_n 0, 1) := by decide +kernel
theorem d31_1 : decode jdk_41_method_11_code 1 = .ok (.ifCond .lt 8, 3) := by decide +kernel
theorem d31_4 : decode jdk_41_method_11_code 4 = .ok (.iload_n 0, 1) := by decide +kernel
theorem d31_5 : decode jdk_41_method_11_code 5 = .ok (.iload_n 1, 1) := by decide +kernel
theorem d31_6 : decode jdk_41_method_11_code 6 = .ok (.if_icmp .lt 10, 3) := by decide +kernel
theorem d31_16 : decode jdk_41_method_11_code 16 = .ok (.iload_n 0, 1) := by decide +kernel
theorem d31_17 : decode jdk_41_method_11_code 17 = .ok (.ireturn, 1) := by decide +kernel
theorem pn_31 : plainName "jdk/internal/util/Preconditions" = true := by first | (simp [plainName, overriddenIn]; done) | decide +kernel
theorem ef_31_rrv (m : MethodId) (x0 : Int32) (x1 : Int32) (x2 : Value) (y2 : x2.isRef = true) : entryFrame m #[(.int x0), (.int x1), x2] 3 = mkF m 0 #[.val (.int x0), .val (.int x1), .val x2] [] := by rcases ref_cases y2 with rfl | ⟨z2, rfl⟩ <;> first | (simp [entryFrame, mkF, argsToLocals, Value.category]; done) | rfl
set_option maxRecDepth 65536 in
set_option maxHeartbeats 40000000 in
theorem rmPCI (l : Launch) (Z : State) (a0 : Array Value) (hw : ∀ d ∈ tables_1, d.before a0 Z = true) (ws : List Jvm.Cond) (p1 : Int32) (p2 : Int32) (g : Value) (h0 : Heap) (n0 : Nat) (Z0 : n0 ≤ h0.size) (rg : g.isRef = true) (hc1 : ¬ (p1 < (0 : Int32))) (hc6 : p1 < p2) :
    MetFree l (⟨"jdk/internal/util/Preconditions", "checkIndex", "(IILjava/util/function/BiFunction;)I"⟩ : MethodName) (head1 (Jvm.Cond.code (⟨"jdk/internal/util/Preconditions", "checkIndex", "(IILjava/util/function/BiFunction;)I"⟩ : MethodName) jdk_41_method_11_code 3 (some .int) :: ws) ({ frames := 0, cells := 0, slots := 0, locals := 0 } : Room)) (fun a_ U_ => a_ = #[(.int p1), (.int p2), g] ∧ Z.Warmed39 U_.vm ∧ U_.heap = h0) (fun _ _ _ _ _ => True) (fun _ U_ o_ U1_ => ∃ v_ L_, o_ = .returned v_ ∧ own_Q Z (some (.int p1)) h0 n0 v_ U1_.heap L_ ∧ FrameEnd U_ o_ U1_ L_ ({ frames := 0, cells := 0, slots := 0, locals := 0 } : Room).cells ({ frames := 0, cells := 0, slots := 0, locals := 0 } : Room).slots) := by
  refine MetFree.of_bodySF (plainFor_of_name pn_31) hisR ?_
  intro p e s m args below meth c s₁ Bd hml0 hP hK
  obtain ⟨rfl, hZ, hh⟩ := hP
  have hx := Bd.exec
  have hby := Bd.bytes
  have hml : c.maxLocals = 3 := hml0
  have hown : s.vm.findClass "jdk/internal/util/Preconditions" = some m.cls := findClass_of_methodNamed Bd.named
  have hnm := (name_of_methodNamed Bd.named Bd.method).1
  have X0 : Stand p l e ({ frames := 0, cells := 0, slots := 0, locals := 0 } : Room) s m #[(.int p1), (.int p2), g] below meth c s₁ [] 0 0 := Stand.of_body Bd
  have e0 : s₁.heap = h0 := by rw [← hh, Bd.state]; rfl
  have N0 := Fr.nil n0
  have pre0 : ∀ tt, Steps p.tables e below (s₁.setTop (mkF m 0 #[.val (.int p1), .val (.int p2), .val g] [])) tt → Steps p.tables e below (s₁.setTop (entryFrame m #[(.int p1), (.int p2), g] 3)) tt := fun tt kk => castTop (ef_31_rrv m p1 p2 g rg) kk
  obtain ⟨fs, hr, hrun, hended, hW, hsame⟩ := X0.leave (v := some (.int p1)) (fun h => by rw [Bd.returns] at h; cases h)
  refine ⟨_, _, pre0 _ ?_, hrun, hended, _, _, rfl, ?_, ⟨_, rfl⟩, hW, hsame.mono (by decide) (by decide)⟩
  · show Steps p.tables e below (s₁.setTop (mkF m 0 #[.val (.int p1), .val (.int p2), .val g] [])) _
    refine XS.iloadN X0.here hx rfl (hb hby d31_0) rfl ?_
    refine XS.ifNo X0.here hx rfl (hb hby d31_1) rfl ((if0 _ _).trans (flt hc1).1) ?_
    refine XS.iloadN X0.here hx rfl (hb hby d31_4) rfl ?_
    refine XS.iloadN X0.here hx rfl (hb hby d31_5) rfl ?_
    refine XS.icmpYes X0.here hx rfl (pc0 := 6) (pc' := 16) rfl (hb hby d31_6) rfl (tlt hc6).1 (by decide) (by decide) ?_
    refine XS.iloadN X0.here hx rfl (hb hby d31_16) rfl ?_
    show Steps p.tables e below (s₁.setTop (mkF m 17 #[.val (.int p1), .val (.int p2), .val g] [(.int p1)])) _
    exact retI X0 hx Bd.returns (hb hby d31_17) hr
  · show own_Q Z (some (.int p1)) h0 n0 _ s₁.heap _
    rw [e0]
    exact ⟨rfl, N0, rfl⟩
theorem d9_0 : decode jdk_41_method_12_code 0 = .ok (.iload_n 0, 1) := by decide +kernel
theorem d9_1 : decode jdk_41_method_12_code 1 = .ok (.ifCond .lt 13, 3) := by decide +kernel
theorem d9_4 : decode jdk_41_method_12_code 4 = .ok (.iload_n 0, 1) := by decide +kernel
theorem d9_5 : decode jdk_41_method_12_code 5 = .ok (.iload_n 1, 1) := by decide +kernel
theorem d9_6 : decode jdk_41_method_12_code 6 = .ok (.if_icmp .gt 8, 3) := by decide +kernel
theorem d9_9 : decode jdk_41_method_12_code 9 = .ok (.iload_n 1, 1) := by decide +kernel
theorem d9_10 : decode jdk_41_method_12_code 10 = .ok (.iload_n 2, 1) := by decide +kernel
theorem d9_11 : decode jdk_41_method_12_code 11 = .ok (.if_icmp .le 11, 3) := by decide +kernel
theorem d9_22 : decode jdk_41_method_12_code 22 = .ok (.iload_n 0, 1) := by decide +kernel
theorem d9_23 : decode jdk_41_method_12_code 23 = .ok (.ireturn, 1) := by decide +kernel
theorem pn_9 : plainName "jdk/internal/util/Preconditions" = true := by first | (simp [plainName, overriddenIn]; done) | decide +kernel
theorem ef_9_rrrv (m : MethodId) (x0 : Int32) (x1 : Int32) (x2 : Int32) (x3 : Value) (y3 : x3.isRef = true) : entryFrame m #[(.int x0), (.int x1), (.int x2), x3] 4 = mkF m 0 #[.val (.int x0), .val (.int x1), .val (.int x2), .val x3] [] := by rcases ref_cases y3 with rfl | ⟨z3, rfl⟩ <;> first | (simp [entryFrame, mkF, argsToLocals, Value.category]; done) | rfl
set_option maxRecDepth 65536 in
set_option maxHeartbeats 40000000 in
theorem rmPFT (l : Launch) (Z : State) (a0 : Array Value) (hw : ∀ d ∈ tables_1, d.before a0 Z = true) (ws : List Jvm.Cond) (p1 : Int32) (p2 : Int32) (p3 : Int32) (g : Value) (h0 : Heap) (n0 : Nat) (Z0 : n0 ≤ h0.size) (rg : g.isRef = true) (hc1 : ¬ (p1 < (0 : Int32))) (hc6 : ¬ (p2 < p1)) (hc11 : ¬ (p3 < p2)) :
    MetFree l (⟨"jdk/internal/util/Preconditions", "checkFromToIndex", "(IIILjava/util/function/BiFunction;)I"⟩ : MethodName) (head1 (Jvm.Cond.code (⟨"jdk/internal/util/Preconditions", "checkFromToIndex", "(IIILjava/util/function/BiFunction;)I"⟩ : MethodName) jdk_41_method_12_code 4 (some .int) :: ws) ({ frames := 0, cells := 0, slots := 0, locals := 0 } : Room)) (fun a_ U_ => a_ = #[(.int p1), (.int p2), (.int p3), g] ∧ Z.Warmed39 U_.vm ∧ U_.heap = h0) (fun _ _ _ _ _ => True) (fun _ U_ o_ U1_ => ∃ v_ L_, o_ = .returned v_ ∧ own_Q Z (some (.int p1)) h0 n0 v_ U1_.heap L_ ∧ FrameEnd U_ o_ U1_ L_ ({ frames := 0, cells := 0, slots := 0, locals := 0 } : Room).cells ({ frames := 0, cells := 0, slots := 0, locals := 0 } : Room).slots) := by
  refine MetFree.of_bodySF (plainFor_of_name pn_9) hisR ?_
  intro p e s m args below meth c s₁ Bd hml0 hP hK
  obtain ⟨rfl, hZ, hh⟩ := hP
  have hx := Bd.exec
  have hby := Bd.bytes
  have hml : c.maxLocals = 4 := hml0
  have hown : s.vm.findClass "jdk/internal/util/Preconditions" = some m.cls := findClass_of_methodNamed Bd.named
  have hnm := (name_of_methodNamed Bd.named Bd.method).1
  have X0 : Stand p l e ({ frames := 0, cells := 0, slots := 0, locals := 0 } : Room) s m #[(.int p1), (.int p2), (.int p3), g] below meth c s₁ [] 0 0 := Stand.of_body Bd
  have e0 : s₁.heap = h0 := by rw [← hh, Bd.state]; rfl
  have N0 := Fr.nil n0
  have pre0 : ∀ tt, Steps p.tables e below (s₁.setTop (mkF m 0 #[.val (.int p1), .val (.int p2), .val (.int p3), .val g] [])) tt → Steps p.tables e below (s₁.setTop (entryFrame m #[(.int p1), (.int p2), (.int p3), g] 4)) tt := fun tt kk => castTop (ef_9_rrrv m p1 p2 p3 g rg) kk
  obtain ⟨fs, hr, hrun, hended, hW, hsame⟩ := X0.leave (v := some (.int p1)) (fun h => by rw [Bd.returns] at h; cases h)
  refine ⟨_, _, pre0 _ ?_, hrun, hended, _, _, rfl, ?_, ⟨_, rfl⟩, hW, hsame.mono (by decide) (by decide)⟩
  · show Steps p.tables e below (s₁.setTop (mkF m 0 #[.val (.int p1), .val (.int p2), .val (.int p3), .val g] [])) _
    refine XS.iloadN X0.here hx rfl (hb hby d9_0) rfl ?_
    refine XS.ifNo X0.here hx rfl (hb hby d9_1) rfl ((if0 _ _).trans (flt hc1).1) ?_
    refine XS.iloadN X0.here hx rfl (hb hby d9_4) rfl ?_
    refine XS.iloadN X0.here hx rfl (hb hby d9_5) rfl ?_
    refine XS.icmpNo X0.here hx rfl (hb hby d9_6) rfl (flt hc6).2.2.1 ?_
    refine XS.iloadN X0.here hx rfl (hb hby d9_9) rfl ?_
    refine XS.iloadN X0.here hx rfl (hb hby d9_10) rfl ?_
    refine XS.icmpYes X0.here hx rfl (pc0 := 11) (pc' := 22) rfl (hb hby d9_11) rfl (flt hc11).2.2.2 (by decide) (by decide) ?_
    refine XS.iloadN X0.here hx rfl (hb hby d9_22) rfl ?_
    show Steps p.tables e below (s₁.setTop (mkF m 23 #[.val (.int p1), .val (.int p2), .val (.int p3), .val g] [(.int p1)])) _
    exact retI X0 hx Bd.returns (hb hby d9_23) hr
  · show own_Q Z (some (.int p1)) h0 n0 _ s₁.heap _
    rw [e0]
    exact ⟨rfl, N0, rfl⟩
theorem d43_0 : decode jdk_41_method_13_code 0 = .ok (.iload_n 2, 1) := by decide +kernel
theorem d43_1 : decode jdk_41_method_13_code 1 = .ok (.iload_n 0, 1) := by decide +kernel
theorem d43_2 : decode jdk_41_method_13_code 2 = .ok (.ior, 1) := by decide +kernel
theorem d43_3 : decode jdk_41_method_13_code 3 = .ok (.iload_n 1, 1) := by decide +kernel
theorem d43_4 : decode jdk_41_method_13_code 4 = .ok (.ior, 1) := by decide +kernel
theorem d43_5 : decode jdk_41_method_13_code 5 = .ok (.ifCond .lt 10, 3) := by decide +kernel
theorem d43_8 : decode jdk_41_method_13_code 8 = .ok (.iload_n 1, 1) := by decide +kernel
theorem d43_9 : decode jdk_41_method_13_code 9 = .ok (.iload_n 2, 1) := by decide +kernel
theorem d43_10 : decode jdk_41_method_13_code 10 = .ok (.iload_n 0, 1) := by decide +kernel
theorem d43_11 : decode jdk_41_method_13_code 11 = .ok (.isub, 1) := by decide +kernel
theorem d43_12 : decode jdk_41_method_13_code 12 = .ok (.if_icmp .le 11, 3) := by decide +kernel
theorem d43_23 : decode jdk_41_method_13_code 23 = .ok (.iload_n 0, 1) := by decide +kernel
theorem d43_24 : decode jdk_41_method_13_code 24 = .ok (.ireturn, 1) := by decide +kernel
theorem pn_43 : plainName "jdk/internal/util/Preconditions" = true := by first | (simp [plainName, overriddenIn]; done) | decide +kernel
theorem ef_43_rrrv (m : MethodId) (x0 : Int32) (x1 : Int32) (x2 : Int32) (x3 : Value) (y3 : x3.isRef = true) : entryFrame m #[(.int x0), (.int x1), (.int x2), x3] 4 = mkF m 0 #[.val (.int x0), .val (.int x1), .val (.int x2), .val x3] [] := by rcases ref_cases y3 with rfl | ⟨z3, rfl⟩ <;> first | (simp [entryFrame, mkF, argsToLocals, Value.category]; done) | rfl
set_option maxRecDepth 65536 in
set_option maxHeartbeats 40000000 in
theorem rmPFS (l : Launch) (Z : State) (a0 : Array Value) (hw : ∀ d ∈ tables_1, d.before a0 Z = true) (ws : List Jvm.Cond) (p1 : Int32) (p2 : Int32) (p3 : Int32) (g : Value) (h0 : Heap) (n0 : Nat) (Z0 : n0 ≤ h0.size) (rg : g.isRef = true) (hc5 : ¬ (((p3 ||| p1) ||| p2) < (0 : Int32))) (hc12 : ¬ ((p3 - p1) < p2)) :
    MetFree l (⟨"jdk/internal/util/Preconditions", "checkFromIndexSize", "(IIILjava/util/function/BiFunction;)I"⟩ : MethodName) (head1 (Jvm.Cond.code (⟨"jdk/internal/util/Preconditions", "checkFromIndexSize", "(IIILjava/util/function/BiFunction;)I"⟩ : MethodName) jdk_41_method_13_code 4 (some .int) :: ws) ({ frames := 0, cells := 0, slots := 0, locals := 0 } : Room)) (fun a_ U_ => a_ = #[(.int p1), (.int p2), (.int p3), g] ∧ Z.Warmed39 U_.vm ∧ U_.heap = h0) (fun _ _ _ _ _ => True) (fun _ U_ o_ U1_ => ∃ v_ L_, o_ = .returned v_ ∧ own_Q Z (some (.int p1)) h0 n0 v_ U1_.heap L_ ∧ FrameEnd U_ o_ U1_ L_ ({ frames := 0, cells := 0, slots := 0, locals := 0 } : Room).cells ({ frames := 0, cells := 0, slots := 0, locals := 0 } : Room).slots) := by
  refine MetFree.of_bodySF (plainFor_of_name pn_43) hisR ?_
  intro p e s m args below meth c s₁ Bd hml0 hP hK
  obtain ⟨rfl, hZ, hh⟩ := hP
  have hx := Bd.exec
  have hby := Bd.bytes
  have hml : c.maxLocals = 4 := hml0
  have hown : s.vm.findClass "jdk/internal/util/Preconditions" = some m.cls := findClass_of_methodNamed Bd.named
  have hnm := (name_of_methodNamed Bd.named Bd.method).1
  have X0 : Stand p l e ({ frames := 0, cells := 0, slots := 0, locals := 0 } : Room) s m #[(.int p1), (.int p2), (.int p3), g] below meth c s₁ [] 0 0 := Stand.of_body Bd
  have e0 : s₁.heap = h0 := by rw [← hh, Bd.state]; rfl
  have N0 := Fr.nil n0
  have pre0 : ∀ tt, Steps p.tables e below (s₁.setTop (mkF m 0 #[.val (.int p1), .val (.int p2), .val (.int p3), .val g] [])) tt → Steps p.tables e below (s₁.setTop (entryFrame m #[(.int p1), (.int p2), (.int p3), g] 4)) tt := fun tt kk => castTop (ef_43_rrrv m p1 p2 p3 g rg) kk
  obtain ⟨fs, hr, hrun, hended, hW, hsame⟩ := X0.leave (v := some (.int p1)) (fun h => by rw [Bd.returns] at h; cases h)
  refine ⟨_, _, pre0 _ ?_, hrun, hended, _, _, rfl, ?_, ⟨_, rfl⟩, hW, hsame.mono (by decide) (by decide)⟩
  · show Steps p.tables e below (s₁.setTop (mkF m 0 #[.val (.int p1), .val (.int p2), .val (.int p3), .val g] [])) _
    refine XS.iloadN X0.here hx rfl (hb hby d43_0) rfl ?_
    refine XS.iloadN X0.here hx rfl (hb hby d43_1) rfl ?_
    refine XS.ior X0.here hx rfl (hb hby d43_2) rfl ?_
    refine XS.iloadN X0.here hx rfl (hb hby d43_3) rfl ?_
    refine XS.ior X0.here hx rfl (hb hby d43_4) rfl ?_
    refine XS.ifNo X0.here hx rfl (hb hby d43_5) rfl ((if0 _ _).trans (flt hc5).1) ?_
    refine XS.iloadN X0.here hx rfl (hb hby d43_8) rfl ?_
    refine XS.iloadN X0.here hx rfl (hb hby d43_9) rfl ?_
    refine XS.iloadN X0.here hx rfl (hb hby d43_10) rfl ?_
    refine XS.isub X0.here hx rfl (hb hby d43_11) rfl ?_
    refine XS.icmpYes X0.here hx rfl (pc0 := 12) (pc' := 23) rfl (hb hby d43_12) rfl (flt hc12).2.2.2 (by decide) (by decide) ?_
    show Steps p.tables e below (s₁.setTop (mkF m 23 #[.val (.int p1), .val (.int p2), .val (.int p3), .val g] [])) _
    refine XS.iloadN X0.here hx rfl (hb hby d43_23) rfl ?_
    show Steps p.tables e below (s₁.setTop (mkF m 24 #[.val (.int p1), .val (.int p2), .val (.int p3), .val g] [(.int p1)])) _
    exact retI X0 hx Bd.returns (hb hby d43_24) hr
  · show own_Q Z (some (.int p1)) h0 n0 _ s₁.heap _
    rw [e0]
    exact ⟨rfl, N0, rfl⟩
theorem d30_0 : decode jdk_42_method_155_code 0 = .ok (.iload_n 0, 1) := by decide +kernel
theorem d30_1 : decode jdk_42_method_155_code 1 = .ok (.iload_n 1, 1) := by decide +kernel
theorem d30_2 : decode jdk_42_method_155_code 2 = .ok (.getstatic 1053, 3) := by decide +kernel
theorem pd__IILjava_util_function_BiFunction__I : parseMethodDescriptor "(IILjava/util/function/BiFunction;)I" = some ⟨[.int, .int, (.object "java/util/function/BiFunction")], some .int⟩ := by decide +kernel
theorem d30_5 : decode jdk_42_method_155_code 5 = .ok (.invokestatic 1059, 3) := by decide +kernel
theorem d30_8 : decode jdk_42_method_155_code 8 = .ok (.pop, 1) := by decide +kernel
theorem d30_9 : decode jdk_42_method_155_code 9 = .ok (.return_, 1) := by decide +kernel
theorem pn_30 : plainName "java/lang/String" = true := by first | (simp [plainName, overriddenIn]; done) | decide +kernel
theorem ef_30_rr (m : MethodId) (x0 : Int32) (x1 : Int32) : entryFrame m #[(.int x0), (.int x1)] 2 = mkF m 0 #[.val (.int x0), .val (.int x1)] [] := by first | (simp [entryFrame, mkF, argsToLocals, Value.category]; done) | rfl
set_option maxRecDepth 65536 in
set_option maxHeartbeats 40000000 in
theorem rmSCI (l : Launch) (Z : State) (a0 : Array Value) (hw : ∀ d ∈ tables_1, d.before a0 Z = true) (ws : List Jvm.Cond) (G1 : Int32) (G3 : Value) (G4 : Value) (p1 : Int32) (p2 : Int32) (h0 : Heap) (n0 : Nat) (Z0 : n0 ≤ h0.size) (EN : own_env Z G1 G3 G4) (X00 : Old Z n0 h0) (hi0 : ¬ (p1 < (0 : Int32))) (hi1 : p1 < p2) :
    MetFree l (⟨"java/lang/String", "checkIndex", "(II)V"⟩ : MethodName) (head1 (Jvm.Cond.code (⟨"java/lang/String", "checkIndex", "(II)V"⟩ : MethodName) jdk_42_method_155_code 2 none :: ws) ({ frames := 1, cells := 0, slots := 0, locals := 14 } : Room)) (fun a_ U_ => a_ = #[(.int p1), (.int p2)] ∧ Z.Warmed39 U_.vm ∧ U_.heap = h0) (fun _ _ _ _ _ => True) (fun _ U_ o_ U1_ => ∃ v_ L_, o_ = .returned v_ ∧ own_Q Z none h0 n0 v_ U1_.heap L_ ∧ FrameEnd U_ o_ U1_ L_ ({ frames := 1, cells := 0, slots := 0, locals := 14 } : Room).cells ({ frames := 1, cells := 0, slots := 0, locals := 14 } : Room).slots) := by
  refine MetFree.of_bodySF (plainFor_of_name pn_30) hisR ?_
  intro p e s m args below meth c s₁ Bd hml0 hP hK
  obtain ⟨rfl, hZ, hh⟩ := hP
  have hx := Bd.exec
  have hby := Bd.bytes
  have hml : c.maxLocals = 2 := hml0
  have hown : s.vm.findClass "java/lang/String" = some m.cls := findClass_of_methodNamed Bd.named
  have hnm := (name_of_methodNamed Bd.named Bd.method).1
  have X0 : Stand p l e ({ frames := 1, cells := 0, slots := 0, locals := 14 } : Room) s m #[(.int p1), (.int p2)] below meth c s₁ [] 0 0 := Stand.of_body Bd
  have e0 : s₁.heap = h0 := by rw [← hh, Bd.state]; rfl
  have N0 := Fr.nil n0
  have pre0 : ∀ tt, Steps p.tables e below (s₁.setTop (mkF m 0 #[.val (.int p1), .val (.int p2)] [])) tt → Steps p.tables e below (s₁.setTop (entryFrame m #[(.int p1), (.int p2)] 2)) tt := fun tt kk => castTop (ef_30_rr m p1 p2) kk
  have EN0 := EN
  obtain ⟨O2, P5, O4, rG3, O5, rG4, O6, O7, O8⟩ := EN
  obtain ⟨T1, X1, e1, st1⟩ := getS2 X0 hx hZ hown (host := "") (Or.inl (hw _ (tk 165 rfl))) Via.refl e0 (Sta.ext X00.2 O4) (g := (mkF m 2 #[.val (.int p1), .val (.int p2)] [(.int p2), (.int p1)])) rfl (hb hby d30_2)
  obtain ⟨_, _, ⟨T2, L2, k2, n2⟩, -, X2, ⟨Lc2, hQ2, l2, y2, z2⟩, st2⟩ := Jvm.LawKit.callS X1 hx (y := (⟨"jdk/internal/util/Preconditions", "checkIndex", "(IILjava/util/function/BiFunction;)I"⟩ : MethodName)) hown (mvT hZ (hw _ (tk 166 rfl))) (mvT hZ (hw _ (tk 167 rfl))) (mvT hZ (hw _ (tk 56 rfl))) (mvT hZ (hw _ (tk 168 rfl))) (by decide) (backOf (W := 0) (rmPCI l Z a0 hw [] p1 p2 G3 h0 n0 Z0 rG3 hi0 hi1) hZ (hw _ (tk 168 rfl)) (hw _ (tk 56 rfl)) (by decide) (by decide)) (g := (mkF m 5 #[.val (.int p1), .val (.int p2)] [G3, (.int p2), (.int p1)])) rfl (by rw [hml]; rfl) (argsL := [(.int p1), (.int p2), G3]) (rest := []) (lenOf pd__IILjava_util_function_BiFunction__I rfl) rfl (by show 2 * 0 + _ ≤ _; exact Nat.le_of_eq rfl) (hb hby d30_5) (fun _ _ => ⟨rfl, e1, (by decide : 0 + 0 ≤ _), (by decide : 0 + 0 ≤ _)⟩)
  dsimp only [Pt.U, Pt.locs, Pt.cells, Pt.slots] at X2 l2 y2 z2 st2 hQ2
  subst l2 y2 z2
  obtain ⟨rfl, Nq2, eq2⟩ := hQ2
  have N2 := Fr.app N0 Nq2
  obtain ⟨fs, hr, hrun, hended, hW, hsame⟩ := X2.leave (v := none) (fun _ => rfl)
  refine ⟨_, _, pre0 _ ?_, hrun, hended, _, _, rfl, ?_, ⟨_, rfl⟩, hW, hsame.mono (by decide) (by decide)⟩
  · show Steps p.tables e below (s₁.setTop (mkF m 0 #[.val (.int p1), .val (.int p2)] [])) _
    refine XS.iloadN X0.here hx rfl (hb hby d30_0) rfl ?_
    refine XS.iloadN X0.here hx rfl (hb hby d30_1) rfl ?_
    show Steps p.tables e below (s₁.setTop (mkF m 2 #[.val (.int p1), .val (.int p2)] [(.int p2), (.int p1)])) _
    refine st1 _ ?_
    show Steps p.tables e below (T1.setTop (mkF m 5 #[.val (.int p1), .val (.int p2)] [G3, (.int p2), (.int p1)])) _
    refine st2 _ ?_
    show Steps p.tables e below (T2.setTop (mkF m 8 #[.val (.int p1), .val (.int p2)] [(.int p1)])) _
    refine XS.pop X2.here hx rfl (hb hby d30_8) rfl rfl ?_
    show Steps p.tables e below (T2.setTop (mkF m 9 #[.val (.int p1), .val (.int p2)] [])) _
    exact X2.returnOut hx Bd.returns (hb hby d30_9) hr
  · show own_Q Z none h0 n0 _ T2.heap _
    rw [eq2]
    exact ⟨rfl, N2, rfl⟩
theorem d42_0 : decode jdk_42_method_157_code 0 = .ok (.iload_n 0, 1) := by decide +kernel
theorem d42_1 : decode jdk_42_method_157_code 1 = .ok (.iload_n 1, 1) := by decide +kernel
theorem d42_2 : decode jdk_42_method_157_code 2 = .ok (.iload_n 2, 1) := by decide +kernel
theorem d42_3 : decode jdk_42_method_157_code 3 = .ok (.getstatic 1053, 3) := by decide +kernel
theorem pd__IIILjava_util_function_BiFunction__I : parseMethodDescriptor "(IIILjava/util/function/BiFunction;)I" = some ⟨[.int, .int, .int, (.object "java/util/function/BiFunction")], some .int⟩ := by decide +kernel
theorem d42_6 : decode jdk_42_method_157_code 6 = .ok (.invokestatic 1065, 3) := by decide +kernel
theorem d42_9 : decode jdk_42_method_157_code 9 = .ok (.ireturn, 1) := by decide +kernel
theorem pn_42 : plainName "java/lang/String" = true := by first | (simp [plainName, overriddenIn]; done) | decide +kernel
theorem ef_42_rrr (m : MethodId) (x0 : Int32) (x1 : Int32) (x2 : Int32) : entryFrame m #[(.int x0), (.int x1), (.int x2)] 3 = mkF m 0 #[.val (.int x0), .val (.int x1), .val (.int x2)] [] := by first | (simp [entryFrame, mkF, argsToLocals, Value.category]; done) | rfl
set_option maxRecDepth 65536 in
set_option maxHeartbeats 40000000 in
theorem rmSOC (l : Launch) (Z : State) (a0 : Array Value) (hw : ∀ d ∈ tables_1, d.before a0 Z = true) (ws : List Jvm.Cond) (G1 : Int32) (G3 : Value) (G4 : Value) (p1 : Int32) (p2 : Int32) (p3 : Int32) (h0 : Heap) (n0 : Nat) (Z0 : n0 ≤ h0.size) (EN : own_env Z G1 G3 G4) (X00 : Old Z n0 h0) (hi0 : ¬ (((p3 ||| p1) ||| p2) < (0 : Int32))) (hi1 : ¬ ((p3 - p1) < p2)) :
    MetFree l (⟨"java/lang/String", "checkBoundsOffCount", "(III)I"⟩ : MethodName) (head1 (Jvm.Cond.code (⟨"java/lang/String", "checkBoundsOffCount", "(III)I"⟩ : MethodName) jdk_42_method_157_code 3 (some .int) :: ws) ({ frames := 1, cells := 0, slots := 0, locals := 15 } : Room)) (fun a_ U_ => a_ = #[(.int p1), (.int p2), (.int p3)] ∧ Z.Warmed39 U_.vm ∧ U_.heap = h0) (fun _ _ _ _ _ => True) (fun _ U_ o_ U1_ => ∃ v_ L_, o_ = .returned v_ ∧ own_Q Z (some (.int p1)) h0 n0 v_ U1_.heap L_ ∧ FrameEnd U_ o_ U1_ L_ ({ frames := 1, cells := 0, slots := 0, locals := 15 } : Room).cells ({ frames := 1, cells := 0, slots := 0, locals := 15 } : Room).slots) := by
  refine MetFree.of_bodySF (plainFor_of_name pn_42) hisR ?_
  intro p e s m args below meth c s₁ Bd hml0 hP hK
  obtain ⟨rfl, hZ, hh⟩ := hP
  have hx := Bd.exec
  have hby := Bd.bytes
  have hml : c.maxLocals = 3 := hml0
  have hown : s.vm.findClass "java/lang/String" = some m.cls := findClass_of_methodNamed Bd.named
  have hnm := (name_of_methodNamed Bd.named Bd.method).1
  have X0 : Stand p l e ({ frames := 1, cells := 0, slots := 0, locals := 15 } : Room) s m #[(.int p1), (.int p2), (.int p3)] below meth c s₁ [] 0 0 := Stand.of_body Bd
  have e0 : s₁.heap = h0 := by rw [← hh, Bd.state]; rfl
  have N0 := Fr.nil n0
  have pre0 : ∀ tt, Steps p.tables e below (s₁.setTop (mkF m 0 #[.val (.int p1), .val (.int p2), .val (.int p3)] [])) tt → Steps p.tables e below (s₁.setTop (entryFrame m #[(.int p1), (.int p2), (.int p3)] 3)) tt := fun tt kk => castTop (ef_42_rrr m p1 p2 p3) kk
  have EN0 := EN
  obtain ⟨O2, P5, O4, rG3, O5, rG4, O6, O7, O8⟩ := EN
  obtain ⟨T1, X1, e1, st1⟩ := getS2 X0 hx hZ hown (host := "") (Or.inl (hw _ (tk 165 rfl))) Via.refl e0 (Sta.ext X00.2 O4) (g := (mkF m 3 #[.val (.int p1), .val (.int p2), .val (.int p3)] [(.int p3), (.int p2), (.int p1)])) rfl (hb hby d42_3)
  obtain ⟨_, _, ⟨T2, L2, k2, n2⟩, -, X2, ⟨Lc2, hQ2, l2, y2, z2⟩, st2⟩ := Jvm.LawKit.callS X1 hx (y := (⟨"jdk/internal/util/Preconditions", "checkFromIndexSize", "(IIILjava/util/function/BiFunction;)I"⟩ : MethodName)) hown (mvT hZ (hw _ (tk 211 rfl))) (mvT hZ (hw _ (tk 212 rfl))) (mvT hZ (hw _ (tk 56 rfl))) (mvT hZ (hw _ (tk 213 rfl))) (by decide) (backOf (W := 0) (rmPFS l Z a0 hw [] p1 p2 p3 G3 h0 n0 Z0 rG3 hi0 hi1) hZ (hw _ (tk 213 rfl)) (hw _ (tk 56 rfl)) (by decide) (by decide)) (g := (mkF m 6 #[.val (.int p1), .val (.int p2), .val (.int p3)] [G3, (.int p3), (.int p2), (.int p1)])) rfl (by rw [hml]; rfl) (argsL := [(.int p1), (.int p2), (.int p3), G3]) (rest := []) (lenOf pd__IIILjava_util_function_BiFunction__I rfl) rfl (by show 2 * 0 + _ ≤ _; exact Nat.le_of_eq rfl) (hb hby d42_6) (fun _ _ => ⟨rfl, e1, (by decide : 0 + 0 ≤ _), (by decide : 0 + 0 ≤ _)⟩)
  dsimp only [Pt.U, Pt.locs, Pt.cells, Pt.slots] at X2 l2 y2 z2 st2 hQ2
  subst l2 y2 z2
  obtain ⟨rfl, Nq2, eq2⟩ := hQ2
  have N2 := Fr.app N0 Nq2
  obtain ⟨fs, hr, hrun, hended, hW, hsame⟩ := X2.leave (v := some (.int p1)) (fun h => by rw [Bd.returns] at h; cases h)
  refine ⟨_, _, pre0 _ ?_, hrun, hended, _, _, rfl, ?_, ⟨_, rfl⟩, hW, hsame.mono (by decide) (by decide)⟩
  · show Steps p.tables e below (s₁.setTop (mkF m 0 #[.val (.int p1), .val (.int p2), .val (.int p3)] [])) _
    refine XS.iloadN X0.here hx rfl (hb hby d42_0) rfl ?_
    refine XS.iloadN X0.here hx rfl (hb hby d42_1) rfl ?_
    refine XS.iloadN X0.here hx rfl (hb hby d42_2) rfl ?_
    show Steps p.tables e below (s₁.setTop (mkF m 3 #[.val (.int p1), .val (.int p2), .val (.int p3)] [(.int p3), (.int p2), (.int p1)])) _
    refine st1 _ ?_
    show Steps p.tables e below (T1.setTop (mkF m 6 #[.val (.int p1), .val (.int p2), .val (.int p3)] [G3, (.int p3), (.int p2), (.int p1)])) _
    refine st2 _ ?_
    show Steps p.tables e below (T2.setTop (mkF m 9 #[.val (.int p1), .val (.int p2), .val (.int p3)] [(.int p1)])) _
    exact retI X2 hx Bd.returns (hb hby d42_9) hr
  · show own_Q Z (some (.int p1)) h0 n0 _ T2.heap _
    rw [eq2]
    exact ⟨rfl, N2, rfl⟩
theorem d49_0 : decode jdk_42_method_158_code 0 = .ok (.iload_n 0, 1) := by decide +kernel
theorem d49_1 : decode jdk_42_method_158_code 1 = .ok (.iload_n 1, 1) := by decide +kernel
theorem d49_2 : decode jdk_42_method_158_code 2 = .ok (.iload_n 2, 1) := by decide +kernel
theorem d49_3 : decode jdk_42_method_158_code 3 = .ok (.getstatic 1053, 3) := by decide +kernel
theorem d49_6 : decode jdk_42_method_158_code 6 = .ok (.invokestatic 1062, 3) := by decide +kernel
theorem d49_9 : decode jdk_42_method_158_code 9 = .ok (.pop, 1) := by decide +kernel
theorem d49_10 : decode jdk_42_method_158_code 10 = .ok (.return_, 1) := by decide +kernel
theorem pn_49 : plainName "java/lang/String" = true := by first | (simp [plainName, overriddenIn]; done) | decide +kernel
theorem ef_49_rrr (m : MethodId) (x0 : Int32) (x1 : Int32) (x2 : Int32) : entryFrame m #[(.int x0), (.int x1), (.int x2)] 3 = mkF m 0 #[.val (.int x0), .val (.int x1), .val (.int x2)] [] := by first | (simp [entryFrame, mkF, argsToLocals, Value.category]; done) | rfl
set_option maxRecDepth 65536 in
set_option maxHeartbeats 40000000 in
theorem rmSBE (l : Launch) (Z : State) (a0 : Array Value) (hw : ∀ d ∈ tables_1, d.before a0 Z = true) (ws : List Jvm.Cond) (G1 : Int32) (G3 : Value) (G4 : Value) (p1 : Int32) (p2 : Int32) (p3 : Int32) (h0 : Heap) (n0 : Nat) (Z0 : n0 ≤ h0.size) (EN : own_env Z G1 G3 G4) (X00 : Old Z n0 h0) (hi0 : ¬ (p1 < (0 : Int32))) (hi1 : ¬ (p2 < p1)) (hi2 : ¬ (p3 < p2)) :
    MetFree l (⟨"java/lang/String", "checkBoundsBeginEnd", "(III)V"⟩ : MethodName) (head1 (Jvm.Cond.code (⟨"java/lang/String", "checkBoundsBeginEnd", "(III)V"⟩ : MethodName) jdk_42_method_158_code 3 none :: ws) ({ frames := 1, cells := 0, slots := 0, locals := 15 } : Room)) (fun a_ U_ => a_ = #[(.int p1), (.int p2), (.int p3)] ∧ Z.Warmed39 U_.vm ∧ U_.heap = h0) (fun _ _ _ _ _ => True) (fun _ U_ o_ U1_ => ∃ v_ L_, o_ = .returned v_ ∧ own_Q Z none h0 n0 v_ U1_.heap L_ ∧ FrameEnd U_ o_ U1_ L_ ({ frames := 1, cells := 0, slots := 0, locals := 15 } : Room).cells ({ frames := 1, cells := 0, slots := 0, locals := 15 } : Room).slots) := by
  refine MetFree.of_bodySF (plainFor_of_name pn_49) hisR ?_
  intro p e s m args below meth c s₁ Bd hml0 hP hK
  obtain ⟨rfl, hZ, hh⟩ := hP
  have hx := Bd.exec
  have hby := Bd.bytes
  have hml : c.maxLocals = 3 := hml0
  have hown : s.vm.findClass "java/lang/String" = some m.cls := findClass_of_methodNamed Bd.named
  have hnm := (name_of_methodNamed Bd.named Bd.method).1
  have X0 : Stand p l e ({ frames := 1, cells := 0, slots := 0, locals := 15 } : Room) s m #[(.int p1), (.int p2), (.int p3)] below meth c s₁ [] 0 0 := Stand.of_body Bd
  have e0 : s₁.heap = h0 := by rw [← hh, Bd.state]; rfl
  have N0 := Fr.nil n0
  have pre0 : ∀ tt, Steps p.tables e below (s₁.setTop (mkF m 0 #[.val (.int p1), .val (.int p2), .val (.int p3)] [])) tt → Steps p.tables e below (s₁.setTop (entryFrame m #[(.int p1), (.int p2), (.int p3)] 3)) tt := fun tt kk => castTop (ef_49_rrr m p1 p2 p3) kk
  have EN0 := EN
  obtain ⟨O2, P5, O4, rG3, O5, rG4, O6, O7, O8⟩ := EN
  obtain ⟨T1, X1, e1, st1⟩ := getS2 X0 hx hZ hown (host := "") (Or.inl (hw _ (tk 165 rfl))) Via.refl e0 (Sta.ext X00.2 O4) (g := (mkF m 3 #[.val (.int p1), .val (.int p2), .val (.int p3)] [(.int p3), (.int p2), (.int p1)])) rfl (hb hby d49_3)
  obtain ⟨_, _, ⟨T2, L2, k2, n2⟩, -, X2, ⟨Lc2, hQ2, l2, y2, z2⟩, st2⟩ := Jvm.LawKit.callS X1 hx (y := (⟨"jdk/internal/util/Preconditions", "checkFromToIndex", "(IIILjava/util/function/BiFunction;)I"⟩ : MethodName)) hown (mvT hZ (hw _ (tk 236 rfl))) (mvT hZ (hw _ (tk 59 rfl))) (mvT hZ (hw _ (tk 56 rfl))) (mvT hZ (hw _ (tk 60 rfl))) (by decide) (backOf (W := 0) (rmPFT l Z a0 hw [] p1 p2 p3 G3 h0 n0 Z0 rG3 hi0 hi1 hi2) hZ (hw _ (tk 60 rfl)) (hw _ (tk 56 rfl)) (by decide) (by decide)) (g := (mkF m 6 #[.val (.int p1), .val (.int p2), .val (.int p3)] [G3, (.int p3), (.int p2), (.int p1)])) rfl (by rw [hml]; rfl) (argsL := [(.int p1), (.int p2), (.int p3), G3]) (rest := []) (lenOf pd__IIILjava_util_function_BiFunction__I rfl) rfl (by show 2 * 0 + _ ≤ _; exact Nat.le_of_eq rfl) (hb hby d49_6) (fun _ _ => ⟨rfl, e1, (by decide : 0 + 0 ≤ _), (by decide : 0 + 0 ≤ _)⟩)
  dsimp only [Pt.U, Pt.locs, Pt.cells, Pt.slots] at X2 l2 y2 z2 st2 hQ2
  subst l2 y2 z2
  obtain ⟨rfl, Nq2, eq2⟩ := hQ2
  have N2 := Fr.app N0 Nq2
  obtain ⟨fs, hr, hrun, hended, hW, hsame⟩ := X2.leave (v := none) (fun _ => rfl)
  refine ⟨_, _, pre0 _ ?_, hrun, hended, _, _, rfl, ?_, ⟨_, rfl⟩, hW, hsame.mono (by decide) (by decide)⟩
  · show Steps p.tables e below (s₁.setTop (mkF m 0 #[.val (.int p1), .val (.int p2), .val (.int p3)] [])) _
    refine XS.iloadN X0.here hx rfl (hb hby d49_0) rfl ?_
    refine XS.iloadN X0.here hx rfl (hb hby d49_1) rfl ?_
    refine XS.iloadN X0.here hx rfl (hb hby d49_2) rfl ?_
    show Steps p.tables e below (s₁.setTop (mkF m 3 #[.val (.int p1), .val (.int p2), .val (.int p3)] [(.int p3), (.int p2), (.int p1)])) _
    refine st1 _ ?_
    show Steps p.tables e below (T1.setTop (mkF m 6 #[.val (.int p1), .val (.int p2), .val (.int p3)] [G3, (.int p3), (.int p2), (.int p1)])) _
    refine st2 _ ?_
    show Steps p.tables e below (T2.setTop (mkF m 9 #[.val (.int p1), .val (.int p2), .val (.int p3)] [(.int p1)])) _
    refine XS.pop X2.here hx rfl (hb hby d49_9) rfl rfl ?_
    show Steps p.tables e below (T2.setTop (mkF m 10 #[.val (.int p1), .val (.int p2), .val (.int p3)] [])) _
    exact X2.returnOut hx Bd.returns (hb hby d49_10) hr
  · show own_Q Z none h0 n0 _ T2.heap _
    rw [eq2]
    exact ⟨rfl, N2, rfl⟩
theorem d41_0 : decode jdk_52_method_6_code 0 = .ok (.aload_n 0, 1) := by decide +kernel
theorem d41_1 : decode jdk_52_method_6_code 1 = .ok (.arraylength, 1) := by decide +kernel
theorem d41_2 : decode jdk_52_method_6_code 2 = .ok (.iconst 1, 1) := by decide +kernel
theorem d41_3 : decode jdk_52_method_6_code 3 = .ok (.ishr, 1) := by decide +kernel
theorem d41_4 : decode jdk_52_method_6_code 4 = .ok (.ireturn, 1) := by decide +kernel
theorem pn_41 : plainName "java/lang/StringUTF16" = true := by first | (simp [plainName, overriddenIn]; done) | decide +kernel
theorem ef_41_r (m : MethodId) (x0 : Addr) : entryFrame m #[(.ref x0)] 1 = mkF m 0 #[.val (.ref x0)] [] := by first | (simp [entryFrame, mkF, argsToLocals, Value.category]; done) | rfl
set_option maxRecDepth 65536 in
set_option maxHeartbeats 40000000 in
theorem rmULN (l : Launch) (Z : State) (a0 : Array Value) (hw : ∀ d ∈ tables_1, d.before a0 Z = true) (ws : List Jvm.Cond) (t : Addr) (k : ClassId) (M : Nat) (vs : List Value) (h0 : Heap) (n0 : Nat) (Z0 : n0 ≤ h0.size) (V_t : Arv Z h0 t k .byte (Int32.ofNat (2 * M)) vs (.int 0)) (hM : M < 64) :
    MetFree l (⟨"java/lang/StringUTF16", "length", "([B)I"⟩ : MethodName) (head1 (Jvm.Cond.code (⟨"java/lang/StringUTF16", "length", "([B)I"⟩ : MethodName) jdk_52_method_6_code 1 (some .int) :: ws) ({ frames := 0, cells := 0, slots := 0, locals := 0 } : Room)) (fun a_ U_ => a_ = #[(.ref t)] ∧ Z.Warmed39 U_.vm ∧ U_.heap = h0) (fun _ _ _ _ _ => True) (fun _ U_ o_ U1_ => ∃ v_ L_, o_ = .returned v_ ∧ own_Q Z (some (.int (Int32.ofNat M))) h0 n0 v_ U1_.heap L_ ∧ FrameEnd U_ o_ U1_ L_ ({ frames := 0, cells := 0, slots := 0, locals := 0 } : Room).cells ({ frames := 0, cells := 0, slots := 0, locals := 0 } : Room).slots) := by
  refine MetFree.of_bodySF (plainFor_of_name pn_41) hisR ?_
  intro p e s m args below meth c s₁ Bd hml0 hP hK
  obtain ⟨rfl, hZ, hh⟩ := hP
  have hx := Bd.exec
  have hby := Bd.bytes
  have hml : c.maxLocals = 1 := hml0
  have hown : s.vm.findClass "java/lang/StringUTF16" = some m.cls := findClass_of_methodNamed Bd.named
  have hnm := (name_of_methodNamed Bd.named Bd.method).1
  have X0 : Stand p l e ({ frames := 0, cells := 0, slots := 0, locals := 0 } : Room) s m #[(.ref t)] below meth c s₁ [] 0 0 := Stand.of_body Bd
  have e0 : s₁.heap = h0 := by rw [← hh, Bd.state]; rfl
  have N0 := Fr.nil n0
  have pre0 : ∀ tt, Steps p.tables e below (s₁.setTop (mkF m 0 #[.val (.ref t)] [])) tt → Steps p.tables e below (s₁.setTop (entryFrame m #[(.ref t)] 1)) tt := fun tt kk => castTop (ef_41_r m t) kk
  obtain ⟨c1, Ar1, -, S1, M1, -, -⟩ := id V_t
  obtain ⟨fs, hr, hrun, hended, hW, hsame⟩ := X0.leave (v := some (.int (Int32.ofNat M))) (fun h => by rw [Bd.returns] at h; cases h)
  refine ⟨_, _, pre0 _ ?_, hrun, hended, _, _, rfl, ?_, ⟨_, rfl⟩, hW, hsame.mono (by decide) (by decide)⟩
  · show Steps p.tables e below (s₁.setTop (mkF m 0 #[.val (.ref t)] [])) _
    refine XS.aloadN X0.here hx rfl (hb hby d41_0) rfl rfl ?_
    show Steps p.tables e below (s₁.setTop (mkF m 1 #[.val (.ref t)] [(.ref t)])) _
    refine X0.arraylength hx (by rw [e0]; exact Ar1.1) (State.isArrayOf_alike hZ.alike Ar1.2.1) (g := (mkF m 1 #[.val (.ref t)] [(.ref t)])) rfl rfl (hb hby d41_1) _ ?_
    rw [len_of S1 M1]
    show Steps p.tables e below (s₁.setTop (mkF m 2 #[.val (.ref t)] [(.int (Int32.ofNat (2 * M)))])) _
    refine XS.iconst X0.here hx rfl (hb hby d41_2) ?_
    refine XS.ishr X0.here hx rfl (hb hby d41_3) rfl ?_
    show Steps p.tables e below (s₁.setTop (mkF m 4 #[.val (.ref t)] [(.int ((Int32.ofNat (2 * M)) >>> ((1 : Int32) &&& 31)))])) _
    rw [(own_shr hM)]
    show Steps p.tables e below (s₁.setTop (mkF m 4 #[.val (.ref t)] [(.int (Int32.ofNat M))])) _
    exact retI X0 hx Bd.returns (hb hby d41_4) hr
  · show own_Q Z (some (.int (Int32.ofNat M))) h0 n0 _ s₁.heap _
    rw [e0]
    exact ⟨rfl, N0, rfl⟩
theorem d45_0 : decode jdk_52_method_91_code 0 = .ok (.iload_n 0, 1) := by decide +kernel
theorem d45_1 : decode jdk_52_method_91_code 1 = .ok (.aload_n 1, 1) := by decide +kernel
theorem pd___B_I : parseMethodDescriptor "([B)I" = some ⟨[(.array .byte)], some .int⟩ := by decide +kernel
theorem d45_2 : decode jdk_52_method_91_code 2 = .ok (.invokestatic 48, 3) := by decide +kernel
theorem pd__II_V : parseMethodDescriptor "(II)V" = some ⟨[.int, .int], none⟩ := by decide +kernel
theorem d45_5 : decode jdk_52_method_91_code 5 = .ok (.invokestatic 414, 3) := by decide +kernel
theorem d45_8 : decode jdk_52_method_91_code 8 = .ok (.return_, 1) := by decide +kernel
theorem pn_45 : plainName "java/lang/StringUTF16" = true := by first | (simp [plainName, overriddenIn]; done) | decide +kernel
theorem ef_45_rr (m : MethodId) (x0 : Int32) (x1 : Addr) : entryFrame m #[(.int x0), (.ref x1)] 2 = mkF m 0 #[.val (.int x0), .val (.ref x1)] [] := by first | (simp [entryFrame, mkF, argsToLocals, Value.category]; done) | rfl
set_option maxRecDepth 65536 in
set_option maxHeartbeats 40000000 in
theorem rmUCI (l : Launch) (Z : State) (a0 : Array Value) (hw : ∀ d ∈ tables_1, d.before a0 Z = true) (ws : List Jvm.Cond) (G1 : Int32) (G3 : Value) (G4 : Value) (p1 : Int32) (t : Addr) (k : ClassId) (M : Nat) (vs : List Value) (h0 : Heap) (n0 : Nat) (Z0 : n0 ≤ h0.size) (EN : own_env Z G1 G3 G4) (X00 : Old Z n0 h0) (hi0 : ¬ (p1 < (0 : Int32))) (hi1 : p1 < (Int32.ofNat M)) (V_t : Arv Z h0 t k .byte (Int32.ofNat (2 * M)) vs (.int 0)) (hM : M < 64) :
    MetFree l (⟨"java/lang/StringUTF16", "checkIndex", "(I[B)V"⟩ : MethodName) (head1 (Jvm.Cond.code (⟨"java/lang/StringUTF16", "checkIndex", "(I[B)V"⟩ : MethodName) jdk_52_method_91_code 2 none :: ws) ({ frames := 2, cells := 0, slots := 0, locals := 27 } : Room)) (fun a_ U_ => a_ = #[(.int p1), (.ref t)] ∧ Z.Warmed39 U_.vm ∧ U_.heap = h0) (fun _ _ _ _ _ => True) (fun _ U_ o_ U1_ => ∃ v_ L_, o_ = .returned v_ ∧ own_Q Z none h0 n0 v_ U1_.heap L_ ∧ FrameEnd U_ o_ U1_ L_ ({ frames := 2, cells := 0, slots := 0, locals := 27 } : Room).cells ({ frames := 2, cells := 0, slots := 0, locals := 27 } : Room).slots) := by
  refine MetFree.of_bodySF (plainFor_of_name pn_45) hisR ?_
  intro p e s m args below meth c s₁ Bd hml0 hP hK
  obtain ⟨rfl, hZ, hh⟩ := hP
  have hx := Bd.exec
  have hby := Bd.bytes
  have hml : c.maxLocals = 2 := hml0
  have hown : s.vm.findClass "java/lang/StringUTF16" = some m.cls := findClass_of_methodNamed Bd.named
  have hnm := (name_of_methodNamed Bd.named Bd.method).1
  have X0 : Stand p l e ({ frames := 2, cells := 0, slots := 0, locals := 27 } : Room) s m #[(.int p1), (.ref t)] below meth c s₁ [] 0 0 := Stand.of_body Bd
  have e0 : s₁.heap = h0 := by rw [← hh, Bd.state]; rfl
  have N0 := Fr.nil n0
  have pre0 : ∀ tt, Steps p.tables e below (s₁.setTop (mkF m 0 #[.val (.int p1), .val (.ref t)] [])) tt → Steps p.tables e below (s₁.setTop (entryFrame m #[(.int p1), (.ref t)] 2)) tt := fun tt kk => castTop (ef_45_rr m p1 t) kk
  have EN0 := EN
  obtain ⟨O2, P5, O4, rG3, O5, rG4, O6, O7, O8⟩ := EN
  obtain ⟨_, _, ⟨T1, L1, k1, n1⟩, -, X1, ⟨Lc1, hQ1, l1, y1, z1⟩, st1⟩ := Jvm.LawKit.callS X0 hx (y := (⟨"java/lang/StringUTF16", "length", "([B)I"⟩ : MethodName)) hown (mvT hZ (hw _ (tk 205 rfl))) (mvT hZ (hw _ (tk 206 rfl))) (mvT hZ (hw _ (tk 190 rfl))) (mvT hZ (hw _ (tk 207 rfl))) (by decide) (backOf (W := 1) (rmULN l Z a0 hw [] t k M vs h0 n0 Z0 V_t hM) hZ (hw _ (tk 207 rfl)) (hw _ (tk 190 rfl)) (by decide) (by decide)) (g := (mkF m 2 #[.val (.int p1), .val (.ref t)] [(.ref t), (.int p1)])) rfl (by rw [hml]; rfl) (argsL := [(.ref t)]) (rest := [(.int p1)]) (lenOf pd___B_I rfl) rfl (by show 2 * 0 + _ ≤ _; exact Nat.le_of_eq rfl) (hb hby d45_2) (fun _ _ => ⟨rfl, e0, (by decide : 0 + 0 ≤ _), (by decide : 0 + 0 ≤ _)⟩)
  dsimp only [Pt.U, Pt.locs, Pt.cells, Pt.slots] at X1 l1 y1 z1 st1 hQ1
  subst l1 y1 z1
  obtain ⟨rfl, Nq1, eq1⟩ := hQ1
  have N1 := Fr.app N0 Nq1
  obtain ⟨_, _, ⟨T2, L2, k2, n2⟩, -, X2, ⟨Lc2, hQ2, l2, y2, z2⟩, st2⟩ := Jvm.LawKit.callS X1 hx (y := (⟨"java/lang/String", "checkIndex", "(II)V"⟩ : MethodName)) hown (mvT hZ (hw _ (tk 220 rfl))) (mvT hZ (hw _ (tk 163 rfl))) (mvT hZ (hw _ (tk 32 rfl))) (mvT hZ (hw _ (tk 164 rfl))) (by decide) (backOf (W := 0) (rmSCI l Z a0 hw [] G1 G3 G4 p1 (Int32.ofNat M) h0 n0 Z0 EN0 X00 hi0 hi1) hZ (hw _ (tk 164 rfl)) (hw _ (tk 32 rfl)) (by decide) (by decide)) (g := (mkF m 5 #[.val (.int p1), .val (.ref t)] [(.int (Int32.ofNat M)), (.int p1)])) rfl (by rw [hml]; rfl) (argsL := [(.int p1), (.int (Int32.ofNat M))]) (rest := []) (lenOf pd__II_V rfl) rfl (by show 2 * 0 + _ ≤ _; exact Nat.le_of_eq rfl) (hb hby d45_5) (fun _ _ => ⟨rfl, eq1, (by decide : 0 + 0 ≤ _), (by decide : 0 + 0 ≤ _)⟩)
  dsimp only [Pt.U, Pt.locs, Pt.cells, Pt.slots] at X2 l2 y2 z2 st2 hQ2
  subst l2 y2 z2
  obtain ⟨rfl, Nq2, eq2⟩ := hQ2
  have N2 := Fr.app N1 Nq2
  obtain ⟨fs, hr, hrun, hended, hW, hsame⟩ := X2.leave (v := none) (fun _ => rfl)
  refine ⟨_, _, pre0 _ ?_, hrun, hended, _, _, rfl, ?_, ⟨_, rfl⟩, hW, hsame.mono (by decide) (by decide)⟩
  · show Steps p.tables e below (s₁.setTop (mkF m 0 #[.val (.int p1), .val (.ref t)] [])) _
    refine XS.iloadN X0.here hx rfl (hb hby d45_0) rfl ?_
    refine XS.aloadN X0.here hx rfl (hb hby d45_1) rfl rfl ?_
    show Steps p.tables e below (s₁.setTop (mkF m 2 #[.val (.int p1), .val (.ref t)] [(.ref t), (.int p1)])) _
    refine st1 _ ?_
    show Steps p.tables e below (T1.setTop (mkF m 5 #[.val (.int p1), .val (.ref t)] [(.int (Int32.ofNat M)), (.int p1)])) _
    refine st2 _ ?_
    show Steps p.tables e below (T2.setTop (mkF m 8 #[.val (.int p1), .val (.ref t)] [])) _
    exact X2.returnOut hx Bd.returns (hb hby d45_8) hr
  · show own_Q Z none h0 n0 _ T2.heap _
    rw [eq2]
    exact ⟨rfl, N2, rfl⟩
theorem d40_0 : decode jdk_52_method_94_code 0 = .ok (.iload_n 0, 1) := by decide +kernel
theorem d40_1 : decode jdk_52_method_94_code 1 = .ok (.iload_n 1, 1) := by decide +kernel
theorem d40_2 : decode jdk_52_method_94_code 2 = .ok (.aload_n 2, 1) := by decide +kernel
theorem d40_3 : decode jdk_52_method_94_code 3 = .ok (.invokestatic 48, 3) := by decide +kernel
theorem pd__III_I : parseMethodDescriptor "(III)I" = some ⟨[.int, .int, .int], some .int⟩ := by decide +kernel
theorem d40_6 : decode jdk_52_method_94_code 6 = .ok (.invokestatic 419, 3) := by decide +kernel
theorem d40_9 : decode jdk_52_method_94_code 9 = .ok (.pop, 1) := by decide +kernel
theorem d40_10 : decode jdk_52_method_94_code 10 = .ok (.return_, 1) := by decide +kernel
theorem pn_40 : plainName "java/lang/StringUTF16" = true := by first | (simp [plainName, overriddenIn]; done) | decide +kernel
theorem ef_40_rrr (m : MethodId) (x0 : Int32) (x1 : Int32) (x2 : Addr) : entryFrame m #[(.int x0), (.int x1), (.ref x2)] 3 = mkF m 0 #[.val (.int x0), .val (.int x1), .val (.ref x2)] [] := by first | (simp [entryFrame, mkF, argsToLocals, Value.category]; done) | rfl
set_option maxRecDepth 65536 in
set_option maxHeartbeats 40000000 in
theorem rmUOC (l : Launch) (Z : State) (a0 : Array Value) (hw : ∀ d ∈ tables_1, d.before a0 Z = true) (ws : List Jvm.Cond) (G1 : Int32) (G3 : Value) (G4 : Value) (p1 : Int32) (p2 : Int32) (t : Addr) (k : ClassId) (M : Nat) (vs : List Value) (h0 : Heap) (n0 : Nat) (Z0 : n0 ≤ h0.size) (EN : own_env Z G1 G3 G4) (X00 : Old Z n0 h0) (hi0 : ¬ ((((Int32.ofNat M) ||| p1) ||| p2) < (0 : Int32))) (hi1 : ¬ (((Int32.ofNat M) - p1) < p2)) (V_t : Arv Z h0 t k .byte (Int32.ofNat (2 * M)) vs (.int 0)) (hM : M < 64) :
    MetFree l (⟨"java/lang/StringUTF16", "checkBoundsOffCount", "(II[B)V"⟩ : MethodName) (head1 (Jvm.Cond.code (⟨"java/lang/StringUTF16", "checkBoundsOffCount", "(II[B)V"⟩ : MethodName) jdk_52_method_94_code 3 none :: ws) ({ frames := 2, cells := 0, slots := 0, locals := 29 } : Room)) (fun a_ U_ => a_ = #[(.int p1), (.int p2), (.ref t)] ∧ Z.Warmed39 U_.vm ∧ U_.heap = h0) (fun _ _ _ _ _ => True) (fun _ U_ o_ U1_ => ∃ v_ L_, o_ = .returned v_ ∧ own_Q Z none h0 n0 v_ U1_.heap L_ ∧ FrameEnd U_ o_ U1_ L_ ({ frames := 2, cells := 0, slots := 0, locals := 29 } : Room).cells ({ frames := 2, cells := 0, slots := 0, locals := 29 } : Room).slots) := by
  refine MetFree.of_bodySF (plainFor_of_name pn_40) hisR ?_
  intro p e s m args below meth c s₁ Bd hml0 hP hK
  obtain ⟨rfl, hZ, hh⟩ := hP
  have hx := Bd.exec
  have hby := Bd.bytes
  have hml : c.maxLocals = 3 := hml0
  have hown : s.vm.findClass "java/lang/StringUTF16" = some m.cls := findClass_of_methodNamed Bd.named
  have hnm := (name_of_methodNamed Bd.named Bd.method).1
  have X0 : Stand p l e ({ frames := 2, cells := 0, slots := 0, locals := 29 } : Room) s m #[(.int p1), (.int p2), (.ref t)] below meth c s₁ [] 0 0 := Stand.of_body Bd
  have e0 : s₁.heap = h0 := by rw [← hh, Bd.state]; rfl
  have N0 := Fr.nil n0
  have pre0 : ∀ tt, Steps p.tables e below (s₁.setTop (mkF m 0 #[.val (.int p1), .val (.int p2), .val (.ref t)] [])) tt → Steps p.tables e below (s₁.setTop (entryFrame m #[(.int p1), (.int p2), (.ref t)] 3)) tt := fun tt kk => castTop (ef_40_rrr m p1 p2 t) kk
  have EN0 := EN
  obtain ⟨O2, P5, O4, rG3, O5, rG4, O6, O7, O8⟩ := EN
  obtain ⟨_, _, ⟨T1, L1, k1, n1⟩, -, X1, ⟨Lc1, hQ1, l1, y1, z1⟩, st1⟩ := Jvm.LawKit.callS X0 hx (y := (⟨"java/lang/StringUTF16", "length", "([B)I"⟩ : MethodName)) hown (mvT hZ (hw _ (tk 205 rfl))) (mvT hZ (hw _ (tk 206 rfl))) (mvT hZ (hw _ (tk 190 rfl))) (mvT hZ (hw _ (tk 207 rfl))) (by decide) (backOf (W := 2) (rmULN l Z a0 hw [] t k M vs h0 n0 Z0 V_t hM) hZ (hw _ (tk 207 rfl)) (hw _ (tk 190 rfl)) (by decide) (by decide)) (g := (mkF m 3 #[.val (.int p1), .val (.int p2), .val (.ref t)] [(.ref t), (.int p2), (.int p1)])) rfl (by rw [hml]; rfl) (argsL := [(.ref t)]) (rest := [(.int p2), (.int p1)]) (lenOf pd___B_I rfl) rfl (by show 2 * 0 + _ ≤ _; exact Nat.le_of_eq rfl) (hb hby d40_3) (fun _ _ => ⟨rfl, e0, (by decide : 0 + 0 ≤ _), (by decide : 0 + 0 ≤ _)⟩)
  dsimp only [Pt.U, Pt.locs, Pt.cells, Pt.slots] at X1 l1 y1 z1 st1 hQ1
  subst l1 y1 z1
  obtain ⟨rfl, Nq1, eq1⟩ := hQ1
  have N1 := Fr.app N0 Nq1
  obtain ⟨_, _, ⟨T2, L2, k2, n2⟩, -, X2, ⟨Lc2, hQ2, l2, y2, z2⟩, st2⟩ := Jvm.LawKit.callS X1 hx (y := (⟨"java/lang/String", "checkBoundsOffCount", "(III)I"⟩ : MethodName)) hown (mvT hZ (hw _ (tk 208 rfl))) (mvT hZ (hw _ (tk 209 rfl))) (mvT hZ (hw _ (tk 32 rfl))) (mvT hZ (hw _ (tk 210 rfl))) (by decide) (backOf (W := 0) (rmSOC l Z a0 hw [] G1 G3 G4 p1 p2 (Int32.ofNat M) h0 n0 Z0 EN0 X00 hi0 hi1) hZ (hw _ (tk 210 rfl)) (hw _ (tk 32 rfl)) (by decide) (by decide)) (g := (mkF m 6 #[.val (.int p1), .val (.int p2), .val (.ref t)] [(.int (Int32.ofNat M)), (.int p2), (.int p1)])) rfl (by rw [hml]; rfl) (argsL := [(.int p1), (.int p2), (.int (Int32.ofNat M))]) (rest := []) (lenOf pd__III_I rfl) rfl (by show 2 * 0 + _ ≤ _; exact Nat.le_of_eq rfl) (hb hby d40_6) (fun _ _ => ⟨rfl, eq1, (by decide : 0 + 0 ≤ _), (by decide : 0 + 0 ≤ _)⟩)
  dsimp only [Pt.U, Pt.locs, Pt.cells, Pt.slots] at X2 l2 y2 z2 st2 hQ2
  subst l2 y2 z2
  obtain ⟨rfl, Nq2, eq2⟩ := hQ2
  have N2 := Fr.app N1 Nq2
  obtain ⟨fs, hr, hrun, hended, hW, hsame⟩ := X2.leave (v := none) (fun _ => rfl)
  refine ⟨_, _, pre0 _ ?_, hrun, hended, _, _, rfl, ?_, ⟨_, rfl⟩, hW, hsame.mono (by decide) (by decide)⟩
  · show Steps p.tables e below (s₁.setTop (mkF m 0 #[.val (.int p1), .val (.int p2), .val (.ref t)] [])) _
    refine XS.iloadN X0.here hx rfl (hb hby d40_0) rfl ?_
    refine XS.iloadN X0.here hx rfl (hb hby d40_1) rfl ?_
    refine XS.aloadN X0.here hx rfl (hb hby d40_2) rfl rfl ?_
    show Steps p.tables e below (s₁.setTop (mkF m 3 #[.val (.int p1), .val (.int p2), .val (.ref t)] [(.ref t), (.int p2), (.int p1)])) _
    refine st1 _ ?_
    show Steps p.tables e below (T1.setTop (mkF m 6 #[.val (.int p1), .val (.int p2), .val (.ref t)] [(.int (Int32.ofNat M)), (.int p2), (.int p1)])) _
    refine st2 _ ?_
    show Steps p.tables e below (T2.setTop (mkF m 9 #[.val (.int p1), .val (.int p2), .val (.ref t)] [(.int p1)])) _
    refine XS.pop X2.here hx rfl (hb hby d40_9) rfl rfl ?_
    show Steps p.tables e below (T2.setTop (mkF m 10 #[.val (.int p1), .val (.int p2), .val (.ref t)] [])) _
    exact X2.returnOut hx Bd.returns (hb hby d40_10) hr
  · show own_Q Z none h0 n0 _ T2.heap _
    rw [eq2]
    exact ⟨rfl, N2, rfl⟩
theorem d48_0 : decode jdk_52_method_93_code 0 = .ok (.iload_n 0, 1) := by decide +kernel
theorem d48_1 : decode jdk_52_method_93_code 1 = .ok (.iload_n 1, 1) := by decide +kernel
theorem d48_2 : decode jdk_52_method_93_code 2 = .ok (.aload_n 2, 1) := by decide +kernel
theorem d48_3 : decode jdk_52_method_93_code 3 = .ok (.invokestatic 48, 3) := by decide +kernel
theorem pd__III_V : parseMethodDescriptor "(III)V" = some ⟨[.int, .int, .int], none⟩ := by decide +kernel
theorem d48_6 : decode jdk_52_method_93_code 6 = .ok (.invokestatic 241, 3) := by decide +kernel
theorem d48_9 : decode jdk_52_method_93_code 9 = .ok (.return_, 1) := by decide +kernel
theorem pn_48 : plainName "java/lang/StringUTF16" = true := by first | (simp [plainName, overriddenIn]; done) | decide +kernel
theorem ef_48_rrr (m : MethodId) (x0 : Int32) (x1 : Int32) (x2 : Addr) : entryFrame m #[(.int x0), (.int x1), (.ref x2)] 3 = mkF m 0 #[.val (.int x0), .val (.int x1), .val (.ref x2)] [] := by first | (simp [entryFrame, mkF, argsToLocals, Value.category]; done) | rfl
set_option maxRecDepth 65536 in
set_option maxHeartbeats 40000000 in
theorem rmUBE (l : Launch) (Z : State) (a0 : Array Value) (hw : ∀ d ∈ tables_1, d.before a0 Z = true) (ws : List Jvm.Cond) (G1 : Int32) (G3 : Value) (G4 : Value) (p1 : Int32) (p2 : Int32) (t : Addr) (k : ClassId) (M : Nat) (vs : List Value) (h0 : Heap) (n0 : Nat) (Z0 : n0 ≤ h0.size) (EN : own_env Z G1 G3 G4) (X00 : Old Z n0 h0) (hi0 : ¬ (p1 < (0 : Int32))) (hi1 : ¬ (p2 < p1)) (hi2 : ¬ ((Int32.ofNat M) < p2)) (V_t : Arv Z h0 t k .byte (Int32.ofNat (2 * M)) vs (.int 0)) (hM : M < 64) :
    MetFree l (⟨"java/lang/StringUTF16", "checkBoundsBeginEnd", "(II[B)V"⟩ : MethodName) (head1 (Jvm.Cond.code (⟨"java/lang/StringUTF16", "checkBoundsBeginEnd", "(II[B)V"⟩ : MethodName) jdk_52_method_93_code 3 none :: ws) ({ frames := 2, cells := 0, slots := 0, locals := 29 } : Room)) (fun a_ U_ => a_ = #[(.int p1), (.int p2), (.ref t)] ∧ Z.Warmed39 U_.vm ∧ U_.heap = h0) (fun _ _ _ _ _ => True) (fun _ U_ o_ U1_ => ∃ v_ L_, o_ = .returned v_ ∧ own_Q Z none h0 n0 v_ U1_.heap L_ ∧ FrameEnd U_ o_ U1_ L_ ({ frames := 2, cells := 0, slots := 0, locals := 29 } : Room).cells ({ frames := 2, cells := 0, slots := 0, locals := 29 } : Room).slots) := by
  refine MetFree.of_bodySF (plainFor_of_name pn_48) hisR ?_
  intro p e s m args below meth c s₁ Bd hml0 hP hK
  obtain ⟨rfl, hZ, hh⟩ := hP
  have hx := Bd.exec
  have hby := Bd.bytes
  have hml : c.maxLocals = 3 := hml0
  have hown : s.vm.findClass "java/lang/StringUTF16" = some m.cls := findClass_of_methodNamed Bd.named
  have hnm := (name_of_methodNamed Bd.named Bd.method).1
  have X0 : Stand p l e ({ frames := 2, cells := 0, slots := 0, locals := 29 } : Room) s m #[(.int p1), (.int p2), (.ref t)] below meth c s₁ [] 0 0 := Stand.of_body Bd
  have e0 : s₁.heap = h0 := by rw [← hh, Bd.state]; rfl
  have N0 := Fr.nil n0
  have pre0 : ∀ tt, Steps p.tables e below (s₁.setTop (mkF m 0 #[.val (.int p1), .val (.int p2), .val (.ref t)] [])) tt → Steps p.tables e below (s₁.setTop (entryFrame m #[(.int p1), (.int p2), (.ref t)] 3)) tt := fun tt kk => castTop (ef_48_rrr m p1 p2 t) kk
  have EN0 := EN
  obtain ⟨O2, P5, O4, rG3, O5, rG4, O6, O7, O8⟩ := EN
  obtain ⟨_, _, ⟨T1, L1, k1, n1⟩, -, X1, ⟨Lc1, hQ1, l1, y1, z1⟩, st1⟩ := Jvm.LawKit.callS X0 hx (y := (⟨"java/lang/StringUTF16", "length", "([B)I"⟩ : MethodName)) hown (mvT hZ (hw _ (tk 205 rfl))) (mvT hZ (hw _ (tk 206 rfl))) (mvT hZ (hw _ (tk 190 rfl))) (mvT hZ (hw _ (tk 207 rfl))) (by decide) (backOf (W := 2) (rmULN l Z a0 hw [] t k M vs h0 n0 Z0 V_t hM) hZ (hw _ (tk 207 rfl)) (hw _ (tk 190 rfl)) (by decide) (by decide)) (g := (mkF m 3 #[.val (.int p1), .val (.int p2), .val (.ref t)] [(.ref t), (.int p2), (.int p1)])) rfl (by rw [hml]; rfl) (argsL := [(.ref t)]) (rest := [(.int p2), (.int p1)]) (lenOf pd___B_I rfl) rfl (by show 2 * 0 + _ ≤ _; exact Nat.le_of_eq rfl) (hb hby d48_3) (fun _ _ => ⟨rfl, e0, (by decide : 0 + 0 ≤ _), (by decide : 0 + 0 ≤ _)⟩)
  dsimp only [Pt.U, Pt.locs, Pt.cells, Pt.slots] at X1 l1 y1 z1 st1 hQ1
  subst l1 y1 z1
  obtain ⟨rfl, Nq1, eq1⟩ := hQ1
  have N1 := Fr.app N0 Nq1
  obtain ⟨_, _, ⟨T2, L2, k2, n2⟩, -, X2, ⟨Lc2, hQ2, l2, y2, z2⟩, st2⟩ := Jvm.LawKit.callS X1 hx (y := (⟨"java/lang/String", "checkBoundsBeginEnd", "(III)V"⟩ : MethodName)) hown (mvT hZ (hw _ (tk 233 rfl))) (mvT hZ (hw _ (tk 234 rfl))) (mvT hZ (hw _ (tk 32 rfl))) (mvT hZ (hw _ (tk 235 rfl))) (by decide) (backOf (W := 0) (rmSBE l Z a0 hw [] G1 G3 G4 p1 p2 (Int32.ofNat M) h0 n0 Z0 EN0 X00 hi0 hi1 hi2) hZ (hw _ (tk 235 rfl)) (hw _ (tk 32 rfl)) (by decide) (by decide)) (g := (mkF m 6 #[.val (.int p1), .val (.int p2), .val (.ref t)] [(.int (Int32.ofNat M)), (.int p2), (.int p1)])) rfl (by rw [hml]; rfl) (argsL := [(.int p1), (.int p2), (.int (Int32.ofNat M))]) (rest := []) (lenOf pd__III_V rfl) rfl (by show 2 * 0 + _ ≤ _; exact Nat.le_of_eq rfl) (hb hby d48_6) (fun _ _ => ⟨rfl, eq1, (by decide : 0 + 0 ≤ _), (by decide : 0 + 0 ≤ _)⟩)
  dsimp only [Pt.U, Pt.locs, Pt.cells, Pt.slots] at X2 l2 y2 z2 st2 hQ2
  subst l2 y2 z2
  obtain ⟨rfl, Nq2, eq2⟩ := hQ2
  have N2 := Fr.app N1 Nq2
  obtain ⟨fs, hr, hrun, hended, hW, hsame⟩ := X2.leave (v := none) (fun _ => rfl)
  refine ⟨_, _, pre0 _ ?_, hrun, hended, _, _, rfl, ?_, ⟨_, rfl⟩, hW, hsame.mono (by decide) (by decide)⟩
  · show Steps p.tables e below (s₁.setTop (mkF m 0 #[.val (.int p1), .val (.int p2), .val (.ref t)] [])) _
    refine XS.iloadN X0.here hx rfl (hb hby d48_0) rfl ?_
    refine XS.iloadN X0.here hx rfl (hb hby d48_1) rfl ?_
    refine XS.aloadN X0.here hx rfl (hb hby d48_2) rfl rfl ?_
    show Steps p.tables e below (s₁.setTop (mkF m 3 #[.val (.int p1), .val (.int p2), .val (.ref t)] [(.ref t), (.int p2), (.int p1)])) _
    refine st1 _ ?_
    show Steps p.tables e below (T1.setTop (mkF m 6 #[.val (.int p1), .val (.int p2), .val (.ref t)] [(.int (Int32.ofNat M)), (.int p2), (.int p1)])) _
    refine st2 _ ?_
    show Steps p.tables e below (T2.setTop (mkF m 9 #[.val (.int p1), .val (.int p2), .val (.ref t)] [])) _
    exact X2.returnOut hx Bd.returns (hb hby d48_9) hr
  · show own_Q Z none h0 n0 _ T2.heap _
    rw [eq2]
    exact ⟨rfl, N2, rfl⟩
def own_QW (Z : State) (t : Addr) (k : ClassId) (cs : List Int32) (h0 : Heap) (n0 : Nat) (v : Option Value) (h : Heap) (L : List Loc) : Prop := v = none ∧ Fr n0 L ∧ Keep h0 h [t] ∧ Arv Z h t k .byte (Int32.ofNat (2 * 16)) (own_wide cs) (.int 0)
theorem own_ca (as : List Int32) (o : Nat) (h : o < 2 ^ 31) : (as.map Value.int).getD (Int32.ofNat o).toNatClampNeg (.int 0) = .int (as.getD o 0) := by
  rw [own_clamp h]
  simp only [List.getD_eq_getElem?_getD, List.getElem?_map]
  cases as[o]? <;> rfl
theorem own_in {j n : Nat} (h : j < n) (hn : n < 2 ^ 31) : ¬ (Int32.ofNat j) < (0 : Int32) ∧ (Int32.ofNat j) < (Int32.ofNat n) := ⟨own_n0 (by omega), (own_lt (by omega) hn).mpr h⟩
theorem own_succ (j : Nat) : (Int32.ofNat j) + (1 : Int32) = Int32.ofNat (j + 1) := own_add (i := j) (j := 1)
theorem d46_0 : decode jdk_52_method_4_code 0 = .ok (.getstatic 44, 3) := by decide +kernel
theorem d46_3 : decode jdk_52_method_4_code 3 = .ok (.ifCond .ne 25, 3) := by decide +kernel
theorem d46_28 : decode jdk_52_method_4_code 28 = .ok (.iload_n 1, 1) := by decide +kernel
theorem d46_29 : decode jdk_52_method_4_code 29 = .ok (.iconst 1, 1) := by decide +kernel
theorem d46_30 : decode jdk_52_method_4_code 30 = .ok (.ishl, 1) := by decide +kernel
theorem d46_31 : decode jdk_52_method_4_code 31 = .ok (.istore_n 1, 1) := by decide +kernel
theorem d46_32 : decode jdk_52_method_4_code 32 = .ok (.aload_n 0, 1) := by decide +kernel
theorem d46_33 : decode jdk_52_method_4_code 33 = .ok (.iload_n 1, 1) := by decide +kernel
theorem d46_34 : decode jdk_52_method_4_code 34 = .ok (.iinc 1 1, 3) := by decide +kernel
theorem d46_37 : decode jdk_52_method_4_code 37 = .ok (.iload_n 2, 1) := by decide +kernel
theorem d46_38 : decode jdk_52_method_4_code 38 = .ok (.getstatic 59, 3) := by decide +kernel
theorem d46_41 : decode jdk_52_method_4_code 41 = .ok (.ishr, 1) := by decide +kernel
theorem d46_42 : decode jdk_52_method_4_code 42 = .ok (.i2b, 1) := by decide +kernel
theorem d46_43 : decode jdk_52_method_4_code 43 = .ok (.bastore, 1) := by decide +kernel
theorem d46_44 : decode jdk_52_method_4_code 44 = .ok (.aload_n 0, 1) := by decide +kernel
theorem d46_45 : decode jdk_52_method_4_code 45 = .ok (.iload_n 1, 1) := by decide +kernel
theorem d46_46 : decode jdk_52_method_4_code 46 = .ok (.iload_n 2, 1) := by decide +kernel
theorem d46_47 : decode jdk_52_method_4_code 47 = .ok (.getstatic 63, 3) := by decide +kernel
theorem d46_50 : decode jdk_52_method_4_code 50 = .ok (.ishr, 1) := by decide +kernel
theorem d46_51 : decode jdk_52_method_4_code 51 = .ok (.i2b, 1) := by decide +kernel
theorem d46_52 : decode jdk_52_method_4_code 52 = .ok (.bastore, 1) := by decide +kernel
theorem d46_53 : decode jdk_52_method_4_code 53 = .ok (.return_, 1) := by decide +kernel
theorem pn_46 : plainName "java/lang/StringUTF16" = true := by first | (simp [plainName, overriddenIn]; done) | decide +kernel
theorem ef_46_rrr (m : MethodId) (x0 : Addr) (x1 : Int32) (x2 : Int32) : entryFrame m #[(.ref x0), (.int x1), (.int x2)] 3 = mkF m 0 #[.val (.ref x0), .val (.int x1), .val (.int x2)] [] := by first | (simp [entryFrame, mkF, argsToLocals, Value.category]; done) | rfl
set_option maxRecDepth 65536 in
set_option maxHeartbeats 40000000 in
theorem rmPUT (l : Launch) (Z : State) (a0 : Array Value) (hw : ∀ d ∈ tables_1, d.before a0 Z = true) (ws : List Jvm.Cond) (G1 : Int32) (G3 : Value) (G4 : Value) (t : Addr) (k : ClassId) (cs : List Int32) (j : Nat) (ch : Int32) (h0 : Heap) (n0 : Nat) (Z0 : n0 ≤ h0.size) (EN : own_env Z G1 G3 G4) (X00 : Old Z n0 h0) (V_t : Arv Z h0 t k .byte (Int32.ofNat (2 * 16)) (own_wide cs) (.int 0)) (hcs : cs.length = j) (hj : j < 16) (g_t : n0 ≤ t) :
    MetFree l (⟨"java/lang/StringUTF16", "putChar", "([BII)V"⟩ : MethodName) (head1 (Jvm.Cond.code (⟨"java/lang/StringUTF16", "putChar", "([BII)V"⟩ : MethodName) jdk_52_method_4_code 3 none :: ws) ({ frames := 0, cells := 0, slots := 0, locals := 0 } : Room)) (fun a_ U_ => a_ = #[(.ref t), (.int (Int32.ofNat j)), (.int ch)] ∧ Z.Warmed39 U_.vm ∧ U_.heap = h0) (fun _ _ _ _ _ => True) (fun _ U_ o_ U1_ => ∃ v_ L_, o_ = .returned v_ ∧ own_QW Z t k (cs ++ [ch]) h0 n0 v_ U1_.heap L_ ∧ FrameEnd U_ o_ U1_ L_ ({ frames := 0, cells := 0, slots := 0, locals := 0 } : Room).cells ({ frames := 0, cells := 0, slots := 0, locals := 0 } : Room).slots) := by
  refine MetFree.of_bodySF (plainFor_of_name pn_46) hisR ?_
  intro p e s m args below meth c s₁ Bd hml0 hP hK
  obtain ⟨rfl, hZ, hh⟩ := hP
  have hx := Bd.exec
  have hby := Bd.bytes
  have hml : c.maxLocals = 3 := hml0
  have hown : s.vm.findClass "java/lang/StringUTF16" = some m.cls := findClass_of_methodNamed Bd.named
  have hnm := (name_of_methodNamed Bd.named Bd.method).1
  have X0 : Stand p l e ({ frames := 0, cells := 0, slots := 0, locals := 0 } : Room) s m #[(.ref t), (.int (Int32.ofNat j)), (.int ch)] below meth c s₁ [] 0 0 := Stand.of_body Bd
  have e0 : s₁.heap = h0 := by rw [← hh, Bd.state]; rfl
  have N0 := Fr.nil n0
  have pre0 : ∀ tt, Steps p.tables e below (s₁.setTop (mkF m 0 #[.val (.ref t), .val (.int (Int32.ofNat j)), .val (.int ch)] [])) tt → Steps p.tables e below (s₁.setTop (entryFrame m #[(.ref t), (.int (Int32.ofNat j)), (.int ch)] 3)) tt := fun tt kk => castTop (ef_46_rrr m t (Int32.ofNat j) ch) kk
  have EN0 := EN
  obtain ⟨O2, P5, O4, rG3, O5, rG4, O6, O7, O8⟩ := EN
  obtain ⟨T1, X1, e1, st1⟩ := getS2 X0 hx hZ hown (host := "") (Or.inl (hw _ (tk 224 rfl))) Via.refl e0 (Sta.ext X00.2 O6) (g := (mkF m 0 #[.val (.ref t), .val (.int (Int32.ofNat j)), .val (.int ch)] [])) rfl (hb hby d46_0)
  obtain ⟨T2, X2, e2, st2⟩ := getS2 X1 hx hZ hown (host := "") (Or.inl (hw _ (tk 225 rfl))) Via.refl e1 (Sta.ext X00.2 O7) (g := (mkF m 38 #[.val (.ref t), .val (.int ((Int32.ofNat (2 * j)) + (1 : Int32))), .val (.int ch)] [(.int ch), (.int (Int32.ofNat (2 * j))), (.ref t)])) rfl (hb hby d46_38)
  obtain ⟨c3, Ar3, q3, S3, M3, H3, Gz3⟩ := id (V_t.pad (pad_rep (own_wide cs) (.int 0) 2))
  have hin3 := inb_of (j := (Int32.ofNat (2 * j))) S3 (own_in (by omega) (by decide))
  obtain ⟨T3, h3, X3, e3, W3, st3⟩ := stB X2 hx hZ e2 Ar3 (j := (Int32.ofNat (2 * j))) hin3 (g := (mkF m 43 #[.val (.ref t), .val (.int ((Int32.ofNat (2 * j)) + (1 : Int32))), .val (.int ch)] [(.int ((ch >>> ((0 : Int32) &&& 31)).toInt8.toInt32)), (.int (Int32.ofNat (2 * j))), (.ref t)])) rfl rfl (hb hby d46_43)
  have V3 : Arv Z h3 t k .byte (Int32.ofNat (2 * 16)) (own_wide cs ++ [(.int (own_b0 ch)), (.int 0)]) (.int 0) := (by rw [← own_set_w0 cs (.int (own_b0 ch)) (.int 0) (2 * j) (by omega)]; exact Arv.set Ar3 q3 S3 M3 H3 Gz3 (fits_nar_byte _) W3 (2 * j) (own_clamp (by omega)) (by rw [List.length_append, own_wide_len]; simp; omega))
  have N3 := Fr.snoc X3 N0 g_t
  have f5 := (X00.wr W3 g_t)
  obtain ⟨T4, X4, e4, st4⟩ := getS2 X3 hx hZ hown (host := "") (Or.inl (hw _ (tk 226 rfl))) Via.refl e3 (Sta.ext f5.2 O8) (g := (mkF m 47 #[.val (.ref t), .val (.int (Int32.ofNat (2 * j + 1))), .val (.int ch)] [(.int ch), (.int (Int32.ofNat (2 * j + 1))), (.ref t)])) rfl (hb hby d46_47)
  obtain ⟨c6, Ar6, q6, S6, M6, H6, Gz6⟩ := id V3
  have hin6 := inb_of (j := (Int32.ofNat (2 * j + 1))) S6 (own_in (by omega) (by decide))
  obtain ⟨T6, h6, X6, e6, W6, st6⟩ := stB X4 hx hZ e4 Ar6 (j := (Int32.ofNat (2 * j + 1))) hin6 (g := (mkF m 52 #[.val (.ref t), .val (.int (Int32.ofNat (2 * j + 1))), .val (.int ch)] [(.int ((ch >>> ((8 : Int32) &&& 31)).toInt8.toInt32)), (.int (Int32.ofNat (2 * j + 1))), (.ref t)])) rfl rfl (hb hby d46_52)
  have V6 : Arv Z h6 t k .byte (Int32.ofNat (2 * 16)) (own_wide (cs ++ [ch])) (.int 0) := (by rw [← (own_set_w1 cs (.int (own_b0 ch)) (.int (own_b1 ch)) (.int 0) (2 * j + 1) (by omega)).trans (own_wide_app cs ch).symm]; exact Arv.set Ar6 q6 S6 M6 H6 Gz6 (fits_nar_byte _) W6 (2 * j + 1) (own_clamp (by omega)) (by rw [List.length_append, own_wide_len]; simp; omega))
  have N6 := Fr.snoc X6 N3 g_t
  obtain ⟨fs, hr, hrun, hended, hW, hsame⟩ := X6.leave (v := none) (fun _ => rfl)
  refine ⟨_, _, pre0 _ ?_, hrun, hended, _, _, rfl, ?_, ⟨_, rfl⟩, hW, hsame.mono (by decide) (by decide)⟩
  · show Steps p.tables e below (s₁.setTop (mkF m 0 #[.val (.ref t), .val (.int (Int32.ofNat j)), .val (.int ch)] [])) _
    refine st1 _ ?_
    show Steps p.tables e below (T1.setTop (mkF m 3 #[.val (.ref t), .val (.int (Int32.ofNat j)), .val (.int ch)] [(.int 1)])) _
    refine XS.ifYes X1.here hx rfl (pc0 := 3) (pc' := 28) rfl (hb hby d46_3) rfl ((if0 _ _).trans (feq (by decide : ¬ ((1 : Int32) = (0 : Int32)))).2) (by decide) (by decide) ?_
    refine XS.iloadN X1.here hx rfl (hb hby d46_28) rfl ?_
    refine XS.iconst X1.here hx rfl (hb hby d46_29) ?_
    refine XS.ishl X1.here hx rfl (hb hby d46_30) rfl ?_
    show Steps p.tables e below (T1.setTop (mkF m 31 #[.val (.ref t), .val (.int (Int32.ofNat j)), .val (.int ch)] [(.int ((Int32.ofNat j) <<< ((1 : Int32) &&& 31)))])) _
    rw [(own_shl (j := j) (by omega))]
    show Steps p.tables e below (T1.setTop (mkF m 31 #[.val (.ref t), .val (.int (Int32.ofNat j)), .val (.int ch)] [(.int (Int32.ofNat (2 * j)))])) _
    refine XS.istoreN X1.here hx rfl (hb hby d46_31) rfl (l' := #[.val (.ref t), .val (.int (Int32.ofNat (2 * j))), .val (.int ch)]) rfl ?_
    refine XS.aloadN X1.here hx rfl (hb hby d46_32) rfl rfl ?_
    refine XS.iloadN X1.here hx rfl (hb hby d46_33) rfl ?_
    refine XS.iinc X1.here hx rfl (hb hby d46_34) rfl (l' := #[.val (.ref t), .val (.int ((Int32.ofNat (2 * j)) + (1 : Int32))), .val (.int ch)]) rfl ?_
    refine XS.iloadN X1.here hx rfl (hb hby d46_37) rfl ?_
    show Steps p.tables e below (T1.setTop (mkF m 38 #[.val (.ref t), .val (.int ((Int32.ofNat (2 * j)) + (1 : Int32))), .val (.int ch)] [(.int ch), (.int (Int32.ofNat (2 * j))), (.ref t)])) _
    refine st2 _ ?_
    show Steps p.tables e below (T2.setTop (mkF m 41 #[.val (.ref t), .val (.int ((Int32.ofNat (2 * j)) + (1 : Int32))), .val (.int ch)] [(.int 0), (.int ch), (.int (Int32.ofNat (2 * j))), (.ref t)])) _
    refine XS.ishr X2.here hx rfl (hb hby d46_41) rfl ?_
    refine XS.i2b X2.here hx rfl (hb hby d46_42) rfl ?_
    show Steps p.tables e below (T2.setTop (mkF m 43 #[.val (.ref t), .val (.int ((Int32.ofNat (2 * j)) + (1 : Int32))), .val (.int ch)] [(.int ((ch >>> ((0 : Int32) &&& 31)).toInt8.toInt32)), (.int (Int32.ofNat (2 * j))), (.ref t)])) _
    refine st3 _ ?_
    show Steps p.tables e below (T3.setTop (mkF m 44 #[.val (.ref t), .val (.int ((Int32.ofNat (2 * j)) + (1 : Int32))), .val (.int ch)] [])) _
    refine XS.aloadN X3.here hx rfl (hb hby d46_44) rfl rfl ?_
    refine XS.iloadN X3.here hx rfl (hb hby d46_45) rfl ?_
    show Steps p.tables e below (T3.setTop (mkF m 46 #[.val (.ref t), .val (.int ((Int32.ofNat (2 * j)) + (1 : Int32))), .val (.int ch)] [(.int ((Int32.ofNat (2 * j)) + (1 : Int32))), (.ref t)])) _
    rw [own_succ]
    show Steps p.tables e below (T3.setTop (mkF m 46 #[.val (.ref t), .val (.int (Int32.ofNat (2 * j + 1))), .val (.int ch)] [(.int (Int32.ofNat (2 * j + 1))), (.ref t)])) _
    refine XS.iloadN X3.here hx rfl (hb hby d46_46) rfl ?_
    show Steps p.tables e below (T3.setTop (mkF m 47 #[.val (.ref t), .val (.int (Int32.ofNat (2 * j + 1))), .val (.int ch)] [(.int ch), (.int (Int32.ofNat (2 * j + 1))), (.ref t)])) _
    refine st4 _ ?_
    show Steps p.tables e below (T4.setTop (mkF m 50 #[.val (.ref t), .val (.int (Int32.ofNat (2 * j + 1))), .val (.int ch)] [(.int 8), (.int ch), (.int (Int32.ofNat (2 * j + 1))), (.ref t)])) _
    refine XS.ishr X4.here hx rfl (hb hby d46_50) rfl ?_
    refine XS.i2b X4.here hx rfl (hb hby d46_51) rfl ?_
    show Steps p.tables e below (T4.setTop (mkF m 52 #[.val (.ref t), .val (.int (Int32.ofNat (2 * j + 1))), .val (.int ch)] [(.int ((ch >>> ((8 : Int32) &&& 31)).toInt8.toInt32)), (.int (Int32.ofNat (2 * j + 1))), (.ref t)])) _
    refine st6 _ ?_
    show Steps p.tables e below (T6.setTop (mkF m 53 #[.val (.ref t), .val (.int (Int32.ofNat (2 * j + 1))), .val (.int ch)] [])) _
    exact X6.returnOut hx Bd.returns (hb hby d46_53) hr
  · show own_QW Z t k (cs ++ [ch]) h0 n0 _ T6.heap _
    rw [e6]
    exact ⟨rfl, N6, (((Keep.refl h0 [t]).wr W3 (Or.inl (tk 0 rfl))).wr W6 (Or.inl (tk 0 rfl))), V6⟩
theorem d44_0 : decode jdk_52_method_71_code 0 = .ok (.iload_n 1, 1) := by decide +kernel
theorem d44_1 : decode jdk_52_method_71_code 1 = .ok (.aload_n 0, 1) := by decide +kernel
theorem pd__I_B_V : parseMethodDescriptor "(I[B)V" = some ⟨[.int, (.array .byte)], none⟩ := by decide +kernel
theorem d44_2 : decode jdk_52_method_71_code 2 = .ok (.invokestatic 67, 3) := by decide +kernel
theorem d44_5 : decode jdk_52_method_71_code 5 = .ok (.aload_n 0, 1) := by decide +kernel
theorem d44_6 : decode jdk_52_method_71_code 6 = .ok (.iload_n 1, 1) := by decide +kernel
theorem d44_7 : decode jdk_52_method_71_code 7 = .ok (.iload_n 2, 1) := by decide +kernel
theorem pd___BII_V : parseMethodDescriptor "([BII)V" = some ⟨[(.array .byte), .int, .int], none⟩ := by decide +kernel
theorem d44_8 : decode jdk_52_method_71_code 8 = .ok (.invokestatic 111, 3) := by decide +kernel
theorem d44_11 : decode jdk_52_method_71_code 11 = .ok (.return_, 1) := by decide +kernel
theorem pn_44 : plainName "java/lang/StringUTF16" = true := by first | (simp [plainName, overriddenIn]; done) | decide +kernel
theorem ef_44_rrr (m : MethodId) (x0 : Addr) (x1 : Int32) (x2 : Int32) : entryFrame m #[(.ref x0), (.int x1), (.int x2)] 3 = mkF m 0 #[.val (.ref x0), .val (.int x1), .val (.int x2)] [] := by first | (simp [entryFrame, mkF, argsToLocals, Value.category]; done) | rfl
set_option maxRecDepth 65536 in
set_option maxHeartbeats 40000000 in
theorem rmPSB (l : Launch) (Z : State) (a0 : Array Value) (hw : ∀ d ∈ tables_1, d.before a0 Z = true) (ws : List Jvm.Cond) (G1 : Int32) (G3 : Value) (G4 : Value) (t : Addr) (k : ClassId) (cs : List Int32) (j : Nat) (ch : Int32) (h0 : Heap) (n0 : Nat) (Z0 : n0 ≤ h0.size) (EN : own_env Z G1 G3 G4) (X00 : Old Z n0 h0) (V_t : Arv Z h0 t k .byte (Int32.ofNat (2 * 16)) (own_wide cs) (.int 0)) (hcs : cs.length = j) (hj : j < 16) (g_t : n0 ≤ t) :
    MetFree l (⟨"java/lang/StringUTF16", "putCharSB", "([BII)V"⟩ : MethodName) (head1 (Jvm.Cond.code (⟨"java/lang/StringUTF16", "putCharSB", "([BII)V"⟩ : MethodName) jdk_52_method_71_code 3 none :: ws) ({ frames := 3, cells := 0, slots := 0, locals := 40 } : Room)) (fun a_ U_ => a_ = #[(.ref t), (.int (Int32.ofNat j)), (.int ch)] ∧ Z.Warmed39 U_.vm ∧ U_.heap = h0) (fun _ _ _ _ _ => True) (fun _ U_ o_ U1_ => ∃ v_ L_, o_ = .returned v_ ∧ own_QW Z t k (cs ++ [ch]) h0 n0 v_ U1_.heap L_ ∧ FrameEnd U_ o_ U1_ L_ ({ frames := 3, cells := 0, slots := 0, locals := 40 } : Room).cells ({ frames := 3, cells := 0, slots := 0, locals := 40 } : Room).slots) := by
  refine MetFree.of_bodySF (plainFor_of_name pn_44) hisR ?_
  intro p e s m args below meth c s₁ Bd hml0 hP hK
  obtain ⟨rfl, hZ, hh⟩ := hP
  have hx := Bd.exec
  have hby := Bd.bytes
  have hml : c.maxLocals = 3 := hml0
  have hown : s.vm.findClass "java/lang/StringUTF16" = some m.cls := findClass_of_methodNamed Bd.named
  have hnm := (name_of_methodNamed Bd.named Bd.method).1
  have X0 : Stand p l e ({ frames := 3, cells := 0, slots := 0, locals := 40 } : Room) s m #[(.ref t), (.int (Int32.ofNat j)), (.int ch)] below meth c s₁ [] 0 0 := Stand.of_body Bd
  have e0 : s₁.heap = h0 := by rw [← hh, Bd.state]; rfl
  have N0 := Fr.nil n0
  have pre0 : ∀ tt, Steps p.tables e below (s₁.setTop (mkF m 0 #[.val (.ref t), .val (.int (Int32.ofNat j)), .val (.int ch)] [])) tt → Steps p.tables e below (s₁.setTop (entryFrame m #[(.ref t), (.int (Int32.ofNat j)), (.int ch)] 3)) tt := fun tt kk => castTop (ef_44_rrr m t (Int32.ofNat j) ch) kk
  have EN0 := EN
  obtain ⟨O2, P5, O4, rG3, O5, rG4, O6, O7, O8⟩ := EN
  obtain ⟨_, _, ⟨T1, L1, k1, n1⟩, -, X1, ⟨Lc1, hQ1, l1, y1, z1⟩, st1⟩ := Jvm.LawKit.callS X0 hx (y := (⟨"java/lang/StringUTF16", "checkIndex", "(I[B)V"⟩ : MethodName)) hown (mvT hZ (hw _ (tk 217 rfl))) (mvT hZ (hw _ (tk 218 rfl))) (mvT hZ (hw _ (tk 190 rfl))) (mvT hZ (hw _ (tk 219 rfl))) (by decide) (backOf (W := 0) (rmUCI l Z a0 hw [] G1 G3 G4 (Int32.ofNat j) t k 16 (own_wide cs) h0 n0 Z0 EN0 X00 (own_in hj (by decide)).1 (own_in hj (by decide)).2 V_t (by decide)) hZ (hw _ (tk 219 rfl)) (hw _ (tk 190 rfl)) (by decide) (by decide)) (g := (mkF m 2 #[.val (.ref t), .val (.int (Int32.ofNat j)), .val (.int ch)] [(.ref t), (.int (Int32.ofNat j))])) rfl (by rw [hml]; rfl) (argsL := [(.int (Int32.ofNat j)), (.ref t)]) (rest := []) (lenOf pd__I_B_V rfl) rfl (by show 2 * 0 + _ ≤ _; exact Nat.le_of_eq rfl) (hb hby d44_2) (fun _ _ => ⟨rfl, e0, (by decide : 0 + 0 ≤ _), (by decide : 0 + 0 ≤ _)⟩)
  dsimp only [Pt.U, Pt.locs, Pt.cells, Pt.slots] at X1 l1 y1 z1 st1 hQ1
  subst l1 y1 z1
  obtain ⟨rfl, Nq1, eq1⟩ := hQ1
  have N1 := Fr.app N0 Nq1
  obtain ⟨_, _, ⟨T2, L2, k2, n2⟩, -, X2, ⟨Lc2, hQ2, l2, y2, z2⟩, st2⟩ := Jvm.LawKit.callS X1 hx (y := (⟨"java/lang/StringUTF16", "putChar", "([BII)V"⟩ : MethodName)) hown (mvT hZ (hw _ (tk 221 rfl))) (mvT hZ (hw _ (tk 222 rfl))) (mvT hZ (hw _ (tk 190 rfl))) (mvT hZ (hw _ (tk 223 rfl))) (by decide) (backOf (W := 0) (rmPUT l Z a0 hw [] G1 G3 G4 t k cs j ch h0 n0 Z0 EN0 X00 V_t hcs hj g_t) hZ (hw _ (tk 223 rfl)) (hw _ (tk 190 rfl)) (by decide) (by decide)) (g := (mkF m 8 #[.val (.ref t), .val (.int (Int32.ofNat j)), .val (.int ch)] [(.int ch), (.int (Int32.ofNat j)), (.ref t)])) rfl (by rw [hml]; rfl) (argsL := [(.ref t), (.int (Int32.ofNat j)), (.int ch)]) (rest := []) (lenOf pd___BII_V rfl) rfl (by show 2 * 0 + _ ≤ _; exact Nat.le_of_eq rfl) (hb hby d44_8) (fun _ _ => ⟨rfl, eq1, (by decide : 0 + 0 ≤ _), (by decide : 0 + 0 ≤ _)⟩)
  dsimp only [Pt.U, Pt.locs, Pt.cells, Pt.slots] at X2 l2 y2 z2 st2 hQ2
  subst l2 y2 z2
  obtain ⟨rfl, Nq2, Kq2, Vq2⟩ := hQ2
  have N2 := Fr.app N1 Nq2
  obtain ⟨fs, hr, hrun, hended, hW, hsame⟩ := X2.leave (v := none) (fun _ => rfl)
  refine ⟨_, _, pre0 _ ?_, hrun, hended, _, _, rfl, ?_, ⟨_, rfl⟩, hW, hsame.mono (by decide) (by decide)⟩
  · show Steps p.tables e below (s₁.setTop (mkF m 0 #[.val (.ref t), .val (.int (Int32.ofNat j)), .val (.int ch)] [])) _
    refine XS.iloadN X0.here hx rfl (hb hby d44_0) rfl ?_
    refine XS.aloadN X0.here hx rfl (hb hby d44_1) rfl rfl ?_
    show Steps p.tables e below (s₁.setTop (mkF m 2 #[.val (.ref t), .val (.int (Int32.ofNat j)), .val (.int ch)] [(.ref t), (.int (Int32.ofNat j))])) _
    refine st1 _ ?_
    show Steps p.tables e below (T1.setTop (mkF m 5 #[.val (.ref t), .val (.int (Int32.ofNat j)), .val (.int ch)] [])) _
    refine XS.aloadN X1.here hx rfl (hb hby d44_5) rfl rfl ?_
    refine XS.iloadN X1.here hx rfl (hb hby d44_6) rfl ?_
    refine XS.iloadN X1.here hx rfl (hb hby d44_7) rfl ?_
    show Steps p.tables e below (T1.setTop (mkF m 8 #[.val (.ref t), .val (.int (Int32.ofNat j)), .val (.int ch)] [(.int ch), (.int (Int32.ofNat j)), (.ref t)])) _
    refine st2 _ ?_
    show Steps p.tables e below (T2.setTop (mkF m 11 #[.val (.ref t), .val (.int (Int32.ofNat j)), .val (.int ch)] [])) _
    exact X2.returnOut hx Bd.returns (hb hby d44_11) hr
  · show own_QW Z t k (cs ++ [ch]) h0 n0 _ T2.heap _
    exact ⟨rfl, N2, ((Keep.refl h0 [t]).trans Kq2 (allS (P := fun zz => zz ∈ [t] ∨ h0.size ≤ zz) (Or.inl (tk 0 rfl)) all0)), Vq2⟩
theorem d50_0 : decode jdk_52_method_68_code 0 = .ok (.iload_n 3, 1) := by decide +kernel
theorem d50_1 : decode jdk_52_method_68_code 1 = .ok (.iload 4, 2) := by decide +kernel
theorem d50_3 : decode jdk_52_method_68_code 3 = .ok (.if_icmp .ge 20, 3) := by decide +kernel
theorem d50_6 : decode jdk_52_method_68_code 6 = .ok (.aload_n 0, 1) := by decide +kernel
theorem d50_7 : decode jdk_52_method_68_code 7 = .ok (.iload_n 1, 1) := by decide +kernel
theorem d50_8 : decode jdk_52_method_68_code 8 = .ok (.iinc 1 1, 3) := by decide +kernel
theorem d50_11 : decode jdk_52_method_68_code 11 = .ok (.aload_n 2, 1) := by decide +kernel
theorem d50_12 : decode jdk_52_method_68_code 12 = .ok (.iload_n 3, 1) := by decide +kernel
theorem d50_13 : decode jdk_52_method_68_code 13 = .ok (.iinc 3 1, 3) := by decide +kernel
theorem d50_16 : decode jdk_52_method_68_code 16 = .ok (.caload, 1) := by decide +kernel
theorem d50_17 : decode jdk_52_method_68_code 17 = .ok (.invokestatic 111, 3) := by decide +kernel
theorem d50_20 : decode jdk_52_method_68_code 20 = .ok (.goto (-20), 3) := by decide +kernel
set_option maxRecDepth 65536 in
set_option maxHeartbeats 40000000 in
theorem tnPC {p : Program} {l : Launch} {e : Env} {s : State} {m : MethodId} {args : Array Value} {below : List Frame} {meth : Method} {c : Code} {s₁ : State} {L0 : List Loc} {Z : State} {a0 : Array Value} (G1 : Int32) (G3 : Value) (G4 : Value) (t : Addr) (k : ClassId) (cs : List Int32) (j : Nat) (ar : Addr) (ka : ClassId) (as : List Int32) (o : Nat) (ee : Nat) (h0 : Heap) (n0 : Nat) (X0 : Stand p l e ({ frames := 1, cells := 0, slots := 0, locals := 14 } : Room) s m args below meth c s₁ L0 0 0) (hx : p.tables.exec = Jvm.exec) (hZ : Z.Warmed39 s.vm) (hw : ∀ d ∈ tables_1, d.before a0 Z = true) (hby : c.code = jdk_52_method_68_code) (hml : c.maxLocals = 5) (hown : s.vm.findClass "java/lang/StringUTF16" = some m.cls) (e0 : s₁.heap = h0) (N0 : Fr n0 L0) (Z0 : n0 ≤ h0.size) (EN : own_env Z G1 G3 G4) (X00 : Old Z n0 h0) (V_t : Arv Z h0 t k .byte (Int32.ofNat (2 * 16)) (own_wide cs) (.int 0)) (hcs : cs.length = j) (hj : j < 16) (g_t : n0 ≤ t) (V_ar : Arv Z h0 ar ka .char (Int32.ofNat as.length) (as.map Value.int) (.int 0)) (hta : ar ≠ t) (ho : o < ee) (he : ee ≤ as.length) (ha : as.length < 2 ^ 31) :
    ∃ (T' : State) (h' : Heap) (L' : List Loc) , Stand p l e ({ frames := 1, cells := 0, slots := 0, locals := 14 } : Room) s m args below meth c T' L' 0 0 ∧ T'.heap = h' ∧ Fr n0 L' ∧ n0 ≤ h'.size ∧ Old Z n0 h' ∧ Keep h0 h' [t] ∧ Arv Z h' t k .byte (Int32.ofNat (2 * 16)) (own_wide (cs ++ [as.getD o 0])) (.int 0) ∧ Arv Z h' ar ka .char (Int32.ofNat as.length) (as.map Value.int) (.int 0) ∧ 
      ∀ target, Steps p.tables e below (T'.setTop (mkF m 0 #[.val (.ref t), .val (.int (Int32.ofNat (j + 1))), .val (.ref ar), .val (.int (Int32.ofNat (o + 1))), .val (.int (Int32.ofNat ee))] [])) target → Steps p.tables e below (s₁.setTop (mkF m 0 #[.val (.ref t), .val (.int (Int32.ofNat j)), .val (.ref ar), .val (.int (Int32.ofNat o)), .val (.int (Int32.ofNat ee))] [])) target := by
  have EN0 := EN
  obtain ⟨O2, P5, O4, rG3, O5, rG4, O6, O7, O8⟩ := EN
  obtain ⟨c1, Ar1, -, S1, M1, H1, -⟩ := id V_ar
  have hin1 := inb_of (j := (Int32.ofNat o)) S1 (own_in (by omega) ha)
  obtain ⟨_, _, ⟨T2, L2, k2, n2⟩, -, X2, ⟨Lc2, hQ2, l2, y2, z2⟩, st2⟩ := Jvm.LawKit.callS X0 hx (y := (⟨"java/lang/StringUTF16", "putChar", "([BII)V"⟩ : MethodName)) hown (mvT hZ (hw _ (tk 221 rfl))) (mvT hZ (hw _ (tk 222 rfl))) (mvT hZ (hw _ (tk 190 rfl))) (mvT hZ (hw _ (tk 223 rfl))) (by decide) (backOf (W := 0) (rmPUT l Z a0 hw [] G1 G3 G4 t k cs j (as.getD o 0) h0 n0 Z0 EN0 X00 V_t hcs hj g_t) hZ (hw _ (tk 223 rfl)) (hw _ (tk 190 rfl)) (by decide) (by decide)) (g := (mkF m 17 #[.val (.ref t), .val (.int ((Int32.ofNat j) + (1 : Int32))), .val (.ref ar), .val (.int ((Int32.ofNat o) + (1 : Int32))), .val (.int (Int32.ofNat ee))] [(.int (as.getD o 0)), (.int (Int32.ofNat j)), (.ref t)])) rfl (by rw [hml]; rfl) (argsL := [(.ref t), (.int (Int32.ofNat j)), (.int (as.getD o 0))]) (rest := []) (lenOf pd___BII_V rfl) rfl (by show 2 * 0 + _ ≤ _; exact Nat.le_of_eq rfl) (hb hby d50_17) (fun _ _ => ⟨rfl, e0, (by decide : 0 + 0 ≤ _), (by decide : 0 + 0 ≤ _)⟩)
  dsimp only [Pt.U, Pt.locs, Pt.cells, Pt.slots] at X2 l2 y2 z2 st2 hQ2
  subst l2 y2 z2
  obtain ⟨rfl, Nq2, Kq2, Vq2⟩ := hQ2
  have N2 := Fr.app N0 Nq2
  have f3 := (X00.keep Kq2 (allS g_t all0))
  have f4 := (V_ar.keep Kq2 (ninS hta nin0))
  refine ⟨T2, T2.heap, _, X2, rfl, N2, (Nat.le_trans Z0 Kq2.1), f3, ((Keep.refl h0 [t]).trans Kq2 (allS (P := fun zz => zz ∈ [t] ∨ h0.size ≤ zz) (Or.inl (tk 0 rfl)) all0)), Vq2, f4, fun target kt => ?_⟩
  show Steps p.tables e below (s₁.setTop (mkF m 0 #[.val (.ref t), .val (.int (Int32.ofNat j)), .val (.ref ar), .val (.int (Int32.ofNat o)), .val (.int (Int32.ofNat ee))] [])) _
  refine XS.iloadN X0.here hx rfl (hb hby d50_0) rfl ?_
  refine XS.iload X0.here hx rfl (hb hby d50_1) rfl ?_
  refine XS.icmpNo X0.here hx rfl (hb hby d50_3) rfl (tlt ((own_lt (by omega) (by omega)).mpr ho)).2.1 ?_
  refine XS.aloadN X0.here hx rfl (hb hby d50_6) rfl rfl ?_
  refine XS.iloadN X0.here hx rfl (hb hby d50_7) rfl ?_
  refine XS.iinc X0.here hx rfl (hb hby d50_8) rfl (l' := #[.val (.ref t), .val (.int ((Int32.ofNat j) + (1 : Int32))), .val (.ref ar), .val (.int (Int32.ofNat o)), .val (.int (Int32.ofNat ee))]) rfl ?_
  refine XS.aloadN X0.here hx rfl (hb hby d50_11) rfl rfl ?_
  refine XS.iloadN X0.here hx rfl (hb hby d50_12) rfl ?_
  refine XS.iinc X0.here hx rfl (hb hby d50_13) rfl (l' := #[.val (.ref t), .val (.int ((Int32.ofNat j) + (1 : Int32))), .val (.ref ar), .val (.int ((Int32.ofNat o) + (1 : Int32))), .val (.int (Int32.ofNat ee))]) rfl ?_
  show Steps p.tables e below (s₁.setTop (mkF m 16 #[.val (.ref t), .val (.int ((Int32.ofNat j) + (1 : Int32))), .val (.ref ar), .val (.int ((Int32.ofNat o) + (1 : Int32))), .val (.int (Int32.ofNat ee))] [(.int (Int32.ofNat o)), (.ref ar), (.int (Int32.ofNat j)), (.ref t)])) _
  refine X0.caload hx (j := (Int32.ofNat o)) (v := (.int (as.getD o 0))) (by rw [e0]; exact Ar1.1) (State.isArrayOf_alike hZ.alike Ar1.2.1) Ar1.2.2 hin1 (H1.at hin1 (own_ca as o (by omega))) (g := (mkF m 16 #[.val (.ref t), .val (.int ((Int32.ofNat j) + (1 : Int32))), .val (.ref ar), .val (.int ((Int32.ofNat o) + (1 : Int32))), .val (.int (Int32.ofNat ee))] [(.int (Int32.ofNat o)), (.ref ar), (.int (Int32.ofNat j)), (.ref t)])) rfl rfl (hb hby d50_16) _ ?_
  show Steps p.tables e below (s₁.setTop (mkF m 17 #[.val (.ref t), .val (.int ((Int32.ofNat j) + (1 : Int32))), .val (.ref ar), .val (.int ((Int32.ofNat o) + (1 : Int32))), .val (.int (Int32.ofNat ee))] [(.int (as.getD o 0)), (.int (Int32.ofNat j)), (.ref t)])) _
  refine st2 _ ?_
  show Steps p.tables e below (T2.setTop (mkF m 20 #[.val (.ref t), .val (.int ((Int32.ofNat j) + (1 : Int32))), .val (.ref ar), .val (.int ((Int32.ofNat o) + (1 : Int32))), .val (.int (Int32.ofNat ee))] [])) _
  refine XS.goto X2.here hx rfl (pc0 := 20) (pc' := 0) rfl (hb hby d50_20) (by decide) (by decide) ?_
  show Steps p.tables e below (T2.setTop (mkF m 0 #[.val (.ref t), .val (.int ((Int32.ofNat j) + (1 : Int32))), .val (.ref ar), .val (.int ((Int32.ofNat o) + (1 : Int32))), .val (.int (Int32.ofNat ee))] [])) _
  rw [(own_succ j)]
  show Steps p.tables e below (T2.setTop (mkF m 0 #[.val (.ref t), .val (.int (Int32.ofNat (j + 1))), .val (.ref ar), .val (.int ((Int32.ofNat o) + (1 : Int32))), .val (.int (Int32.ofNat ee))] [])) _
  rw [(own_succ o)]
  show Steps p.tables e below (T2.setTop (mkF m 0 #[.val (.ref t), .val (.int (Int32.ofNat (j + 1))), .val (.ref ar), .val (.int (Int32.ofNat (o + 1))), .val (.int (Int32.ofNat ee))] [])) _
  exact kt
set_option maxRecDepth 65536 in
set_option maxHeartbeats 40000000 in
theorem lvPC {p : Program} {l : Launch} {e : Env} {s : State} {m : MethodId} {args : Array Value} {below : List Frame} {meth : Method} {c : Code} {s₁ : State} {L0 : List Loc} {Z : State} {a0 : Array Value} (t : Addr) (j : Nat) (ar : Addr) (o : Nat) (ee : Nat) (h0 : Heap) (n0 : Nat) (X0 : Stand p l e ({ frames := 1, cells := 0, slots := 0, locals := 14 } : Room) s m args below meth c s₁ L0 0 0) (hx : p.tables.exec = Jvm.exec) (hZ : Z.Warmed39 s.vm) (hw : ∀ d ∈ tables_1, d.before a0 Z = true) (hby : c.code = jdk_52_method_68_code) (hml : c.maxLocals = 5) (hown : s.vm.findClass "java/lang/StringUTF16" = some m.cls) (e0 : s₁.heap = h0) (N0 : Fr n0 L0) (Z0 : n0 ≤ h0.size) (ho : ¬ (o < ee)) (hbd : o < 2 ^ 31 ∧ ee < 2 ^ 31) :
    ∃ (T' : State) (h' : Heap) (L' : List Loc) , Stand p l e ({ frames := 1, cells := 0, slots := 0, locals := 14 } : Room) s m args below meth c T' L' 0 0 ∧ T'.heap = h' ∧ Fr n0 L' ∧ n0 ≤ h'.size ∧ h' = h0 ∧ 
      ∀ target, Steps p.tables e below (T'.setTop (mkF m 23 #[.val (.ref t), .val (.int (Int32.ofNat j)), .val (.ref ar), .val (.int (Int32.ofNat o)), .val (.int (Int32.ofNat ee))] [])) target → Steps p.tables e below (s₁.setTop (mkF m 0 #[.val (.ref t), .val (.int (Int32.ofNat j)), .val (.ref ar), .val (.int (Int32.ofNat o)), .val (.int (Int32.ofNat ee))] [])) target := by
  refine ⟨s₁, h0, _, X0, e0, N0, Z0, rfl, fun target kt => ?_⟩
  show Steps p.tables e below (s₁.setTop (mkF m 0 #[.val (.ref t), .val (.int (Int32.ofNat j)), .val (.ref ar), .val (.int (Int32.ofNat o)), .val (.int (Int32.ofNat ee))] [])) _
  refine XS.iloadN X0.here hx rfl (hb hby d50_0) rfl ?_
  refine XS.iload X0.here hx rfl (hb hby d50_1) rfl ?_
  refine XS.icmpYes X0.here hx rfl (pc0 := 3) (pc' := 23) rfl (hb hby d50_3) rfl (flt (fun q => ho ((own_lt hbd.1 hbd.2).mp q))).2.1 (by decide) (by decide) ?_
  exact kt
theorem own_take (as : List Int32) (o n : Nat) (h : o < as.length) : (as.drop o).take (n + 1) = as.getD o 0 :: (as.drop (o + 1)).take n := by
  rw [List.drop_eq_getElem_cons h, List.take_succ_cons]
  simp [List.getD_eq_getElem?_getD, h]
theorem lpPC {p : Program} {l : Launch} {e : Env} {s : State} {m : MethodId} {args : Array Value} {below : List Frame} {meth : Method} {c : Code} {Z : State} {a0 : Array Value} (G1 : Int32) (G3 G4 : Value) (t : Addr) (k : ClassId) (ar : Addr) (ka : ClassId) (as : List Int32) (ee : Nat) (n0 : Nat) (hx : p.tables.exec = Jvm.exec) (hZ : Z.Warmed39 s.vm) (hw : ∀ d ∈ tables_1, d.before a0 Z = true) (hby : c.code = jdk_52_method_68_code) (hml : c.maxLocals = 5) (hown : s.vm.findClass "java/lang/StringUTF16" = some m.cls) (EN : own_env Z G1 G3 G4) (g_t : n0 ≤ t) (hta : ar ≠ t) (he : ee ≤ as.length) (ha : as.length < 2 ^ 31) :
    ∀ (n : Nat) (s₁ : State) (L0 : List Loc) (h0 : Heap) (cs : List Int32) (j o : Nat) (X0 : Stand p l e ({ frames := 1, cells := 0, slots := 0, locals := 14 } : Room) s m args below meth c s₁ L0 0 0) (e0 : s₁.heap = h0) (N0 : Fr n0 L0) (Z0 : n0 ≤ h0.size) (X00 : Old Z n0 h0) (V_t : Arv Z h0 t k .byte (Int32.ofNat (2 * 16)) (own_wide cs) (.int 0)) (hcs : cs.length = j) (hj : j + n ≤ 16) (V_ar : Arv Z h0 ar ka .char (Int32.ofNat as.length) (as.map Value.int) (.int 0)) (ho : o + n = ee),
    ∃ (T' : State) (h' : Heap) (L' : List Loc), Stand p l e ({ frames := 1, cells := 0, slots := 0, locals := 14 } : Room) s m args below meth c T' L' 0 0 ∧ T'.heap = h' ∧ Fr n0 L' ∧ n0 ≤ h'.size ∧ Keep h0 h' [t] ∧ Arv Z h' t k .byte (Int32.ofNat (2 * 16)) (own_wide (cs ++ (as.drop o).take n)) (.int 0) ∧
      ∀ target, Steps p.tables e below (T'.setTop (mkF m 23 #[.val (.ref t), .val (.int (Int32.ofNat (j + n))), .val (.ref ar), .val (.int (Int32.ofNat ee)), .val (.int (Int32.ofNat ee))] [])) target → Steps p.tables e below (s₁.setTop (mkF m 0 #[.val (.ref t), .val (.int (Int32.ofNat j)), .val (.ref ar), .val (.int (Int32.ofNat o)), .val (.int (Int32.ofNat ee))] [])) target := by
  intro n
  induction n with
  | zero =>
    intro s₁ L0 h0 cs j o X0 e0 N0 Z0 X00 V_t hcs hj V_ar ho
    have ho' : o = ee := by omega
    subst ho'
    obtain ⟨T1, h1, L1, X1, f1, N1, Z1, hh, st1⟩ := lvPC t j ar o o h0 n0 X0 hx hZ hw hby hml hown e0 N0 Z0 (Nat.lt_irrefl _) ⟨by omega, by omega⟩
    subst hh
    exact ⟨T1, _, L1, X1, f1, N1, Z1, Keep.refl _ _, by rw [List.take_zero, List.append_nil]; exact V_t, st1⟩
  | succ n ih =>
    intro s₁ L0 h0 cs j o X0 e0 N0 Z0 X00 V_t hcs hj V_ar ho
    obtain ⟨T1, h1, L1, X1, f1, N1, Z1, O1, K1, V1, A1, st1⟩ := tnPC G1 G3 G4 t k cs j ar ka as o ee h0 n0 X0 hx hZ hw hby hml hown e0 N0 Z0 EN X00 V_t hcs (by omega) g_t V_ar hta (by omega) he ha
    obtain ⟨T2, h2, L2, X2, f2, N2, Z2, K2, V2, st2⟩ := ih T1 L1 h1 (cs ++ [as.getD o 0]) (j + 1) (o + 1) X1 f1 N1 Z1 O1 V1 (by rw [List.length_append, hcs]; rfl) (by omega) A1 (by omega)
    refine ⟨T2, h2, L2, X2, f2, N2, Z2, K1.trans K2 (fun x hx => Or.inl hx), ?_, fun target kt => st1 _ (st2 _ ?_)⟩
    · rw [own_take as o n (by omega), ← List.singleton_append, ← List.append_assoc]; exact V2
    · rw [show j + 1 + n = j + (n + 1) by omega]; exact kt
theorem d50_23 : decode jdk_52_method_68_code 23 = .ok (.return_, 1) := by decide +kernel
theorem pn_50 : plainName "java/lang/StringUTF16" = true := by first | (simp [plainName, overriddenIn]; done) | decide +kernel
theorem ef_50_rrrrr (m : MethodId) (x0 : Addr) (x1 : Int32) (x2 : Addr) (x3 : Int32) (x4 : Int32) : entryFrame m #[(.ref x0), (.int x1), (.ref x2), (.int x3), (.int x4)] 5 = mkF m 0 #[.val (.ref x0), .val (.int x1), .val (.ref x2), .val (.int x3), .val (.int x4)] [] := by first | (simp [entryFrame, mkF, argsToLocals, Value.category]; done) | rfl
set_option maxRecDepth 65536 in
set_option maxHeartbeats 40000000 in
theorem rmPCH (l : Launch) (Z : State) (a0 : Array Value) (hw : ∀ d ∈ tables_1, d.before a0 Z = true) (ws : List Jvm.Cond) (G1 : Int32) (G3 : Value) (G4 : Value) (t : Addr) (k : ClassId) (cs : List Int32) (j : Nat) (ar : Addr) (ka : ClassId) (as : List Int32) (o : Nat) (ee : Nat) (n : Nat) (h0 : Heap) (n0 : Nat) (Z0 : n0 ≤ h0.size) (EN : own_env Z G1 G3 G4) (X00 : Old Z n0 h0) (V_t : Arv Z h0 t k .byte (Int32.ofNat (2 * 16)) (own_wide cs) (.int 0)) (hcs : cs.length = j) (hj : j + n ≤ 16) (g_t : n0 ≤ t) (V_ar : Arv Z h0 ar ka .char (Int32.ofNat as.length) (as.map Value.int) (.int 0)) (hta : ar ≠ t) (ho : o + n = ee) (he : ee ≤ as.length) (ha : as.length < 2 ^ 30) :
    MetFree l (⟨"java/lang/StringUTF16", "putChars", "([BI[CII)V"⟩ : MethodName) (head1 (Jvm.Cond.code (⟨"java/lang/StringUTF16", "putChars", "([BI[CII)V"⟩ : MethodName) jdk_52_method_68_code 5 none :: ws) ({ frames := 1, cells := 0, slots := 0, locals := 14 } : Room)) (fun a_ U_ => a_ = #[(.ref t), (.int (Int32.ofNat j)), (.ref ar), (.int (Int32.ofNat o)), (.int (Int32.ofNat ee))] ∧ Z.Warmed39 U_.vm ∧ U_.heap = h0) (fun _ _ _ _ _ => True) (fun _ U_ o_ U1_ => ∃ v_ L_, o_ = .returned v_ ∧ own_QW Z t k (cs ++ (as.drop o).take n) h0 n0 v_ U1_.heap L_ ∧ FrameEnd U_ o_ U1_ L_ ({ frames := 1, cells := 0, slots := 0, locals := 14 } : Room).cells ({ frames := 1, cells := 0, slots := 0, locals := 14 } : Room).slots) := by
  refine MetFree.of_bodySF (plainFor_of_name pn_50) hisR ?_
  intro p e s m args below meth c s₁ Bd hml0 hP hK
  obtain ⟨rfl, hZ, hh⟩ := hP
  have hx := Bd.exec
  have hby := Bd.bytes
  have hml : c.maxLocals = 5 := hml0
  have hown : s.vm.findClass "java/lang/StringUTF16" = some m.cls := findClass_of_methodNamed Bd.named
  have hnm := (name_of_methodNamed Bd.named Bd.method).1
  have X0 : Stand p l e ({ frames := 1, cells := 0, slots := 0, locals := 14 } : Room) s m #[(.ref t), (.int (Int32.ofNat j)), (.ref ar), (.int (Int32.ofNat o)), (.int (Int32.ofNat ee))] below meth c s₁ [] 0 0 := Stand.of_body Bd
  have e0 : s₁.heap = h0 := by rw [← hh, Bd.state]; rfl
  have N0 := Fr.nil n0
  have pre0 : ∀ tt, Steps p.tables e below (s₁.setTop (mkF m 0 #[.val (.ref t), .val (.int (Int32.ofNat j)), .val (.ref ar), .val (.int (Int32.ofNat o)), .val (.int (Int32.ofNat ee))] [])) tt → Steps p.tables e below (s₁.setTop (entryFrame m #[(.ref t), (.int (Int32.ofNat j)), (.ref ar), (.int (Int32.ofNat o)), (.int (Int32.ofNat ee))] 5)) tt := fun tt kk => castTop (ef_50_rrrrr m t (Int32.ofNat j) ar (Int32.ofNat o) (Int32.ofNat ee)) kk
  have EN0 := EN
  obtain ⟨O2, P5, O4, rG3, O5, rG4, O6, O7, O8⟩ := EN
  obtain ⟨T1, h1, L1, X1, ee_, N1, Z1, K1, V1, st1⟩ := lpPC G1 G3 G4 t k ar ka as ee n0 hx hZ hw hby hml hown EN0 g_t hta he (by omega) n s₁ [] h0 cs j o X0 e0 N0 Z0 X00 V_t hcs hj V_ar ho
  obtain ⟨fs, hr, hrun, hended, hW, hsame⟩ := X1.leave (v := none) (fun _ => rfl)
  refine ⟨_, _, pre0 _ ?_, hrun, hended, _, _, rfl, ?_, ⟨_, rfl⟩, hW, hsame.mono (by decide) (by decide)⟩
  · show Steps p.tables e below (s₁.setTop (mkF m 0 #[.val (.ref t), .val (.int (Int32.ofNat j)), .val (.ref ar), .val (.int (Int32.ofNat o)), .val (.int (Int32.ofNat ee))] [])) _
    refine st1 _ ?_
    show Steps p.tables e below (T1.setTop (mkF m 23 #[.val (.ref t), .val (.int (Int32.ofNat (j + n))), .val (.ref ar), .val (.int (Int32.ofNat ee)), .val (.int (Int32.ofNat ee))] [])) _
    exact X1.returnOut hx Bd.returns (hb hby d50_23) hr
  · show own_QW Z t k (cs ++ (as.drop o).take n) h0 n0 _ T1.heap _
    rw [ee_]
    exact ⟨rfl, N1, ((Keep.refl h0 [t]).trans K1 (allS (P := fun zz => zz ∈ [t] ∨ h0.size ≤ zz) (Or.inl (tk 0 rfl)) all0)), V1⟩
theorem own_jeo {j o n e : Nat} (h : o + n = e) (hb : j + e < 2 ^ 31) : ((Int32.ofNat j) + (Int32.ofNat e)) - (Int32.ofNat o) = Int32.ofNat (j + n) := by
  rw [own_add, own_sub (by omega) hb, show j + e - o = j + n by omega]
theorem own_nlt {i j : Nat} (h : j ≤ i) (hi : i < 2 ^ 31) : ¬ (Int32.ofNat i) < (Int32.ofNat j) := fun q => by have := (own_lt hi (by omega)).mp q; omega
theorem d47_0 : decode jdk_52_method_72_code 0 = .ok (.iload_n 1, 1) := by decide +kernel
theorem d47_1 : decode jdk_52_method_72_code 1 = .ok (.iload_n 1, 1) := by decide +kernel
theorem d47_2 : decode jdk_52_method_72_code 2 = .ok (.iload 4, 2) := by decide +kernel
theorem d47_4 : decode jdk_52_method_72_code 4 = .ok (.iadd, 1) := by decide +kernel
theorem d47_5 : decode jdk_52_method_72_code 5 = .ok (.iload_n 3, 1) := by decide +kernel
theorem d47_6 : decode jdk_52_method_72_code 6 = .ok (.isub, 1) := by decide +kernel
theorem d47_7 : decode jdk_52_method_72_code 7 = .ok (.aload_n 0, 1) := by decide +kernel
theorem pd__II_B_V : parseMethodDescriptor "(II[B)V" = some ⟨[.int, .int, (.array .byte)], none⟩ := by decide +kernel
theorem d47_8 : decode jdk_52_method_72_code 8 = .ok (.invokestatic 96, 3) := by decide +kernel
theorem d47_11 : decode jdk_52_method_72_code 11 = .ok (.aload_n 0, 1) := by decide +kernel
theorem d47_12 : decode jdk_52_method_72_code 12 = .ok (.iload_n 1, 1) := by decide +kernel
theorem d47_13 : decode jdk_52_method_72_code 13 = .ok (.aload_n 2, 1) := by decide +kernel
theorem d47_14 : decode jdk_52_method_72_code 14 = .ok (.iload_n 3, 1) := by decide +kernel
theorem d47_15 : decode jdk_52_method_72_code 15 = .ok (.iload 4, 2) := by decide +kernel
theorem pd___BI_CII_V : parseMethodDescriptor "([BI[CII)V" = some ⟨[(.array .byte), .int, (.array .char), .int, .int], none⟩ := by decide +kernel
theorem d47_17 : decode jdk_52_method_72_code 17 = .ok (.invokestatic 384, 3) := by decide +kernel
theorem d47_20 : decode jdk_52_method_72_code 20 = .ok (.return_, 1) := by decide +kernel
theorem pn_47 : plainName "java/lang/StringUTF16" = true := by first | (simp [plainName, overriddenIn]; done) | decide +kernel
theorem ef_47_rrrrr (m : MethodId) (x0 : Addr) (x1 : Int32) (x2 : Addr) (x3 : Int32) (x4 : Int32) : entryFrame m #[(.ref x0), (.int x1), (.ref x2), (.int x3), (.int x4)] 5 = mkF m 0 #[.val (.ref x0), .val (.int x1), .val (.ref x2), .val (.int x3), .val (.int x4)] [] := by first | (simp [entryFrame, mkF, argsToLocals, Value.category]; done) | rfl
set_option maxRecDepth 65536 in
set_option maxHeartbeats 40000000 in
theorem rmPCB (l : Launch) (Z : State) (a0 : Array Value) (hw : ∀ d ∈ tables_1, d.before a0 Z = true) (ws : List Jvm.Cond) (G1 : Int32) (G3 : Value) (G4 : Value) (t : Addr) (k : ClassId) (cs : List Int32) (j : Nat) (ar : Addr) (ka : ClassId) (as : List Int32) (o : Nat) (ee : Nat) (n : Nat) (h0 : Heap) (n0 : Nat) (Z0 : n0 ≤ h0.size) (EN : own_env Z G1 G3 G4) (X00 : Old Z n0 h0) (V_t : Arv Z h0 t k .byte (Int32.ofNat (2 * 16)) (own_wide cs) (.int 0)) (hcs : cs.length = j) (hj : j + n ≤ 16) (g_t : n0 ≤ t) (V_ar : Arv Z h0 ar ka .char (Int32.ofNat as.length) (as.map Value.int) (.int 0)) (hta : ar ≠ t) (ho : o + n = ee) (he : ee ≤ as.length) (ha : as.length < 2 ^ 30) :
    MetFree l (⟨"java/lang/StringUTF16", "putCharsSB", "([BI[CII)V"⟩ : MethodName) (head1 (Jvm.Cond.code (⟨"java/lang/StringUTF16", "putCharsSB", "([BI[CII)V"⟩ : MethodName) jdk_52_method_72_code 5 none :: ws) ({ frames := 3, cells := 0, slots := 0, locals := 43 } : Room)) (fun a_ U_ => a_ = #[(.ref t), (.int (Int32.ofNat j)), (.ref ar), (.int (Int32.ofNat o)), (.int (Int32.ofNat ee))] ∧ Z.Warmed39 U_.vm ∧ U_.heap = h0) (fun _ _ _ _ _ => True) (fun _ U_ o_ U1_ => ∃ v_ L_, o_ = .returned v_ ∧ own_QW Z t k (cs ++ (as.drop o).take n) h0 n0 v_ U1_.heap L_ ∧ FrameEnd U_ o_ U1_ L_ ({ frames := 3, cells := 0, slots := 0, locals := 43 } : Room).cells ({ frames := 3, cells := 0, slots := 0, locals := 43 } : Room).slots) := by
  refine MetFree.of_bodySF (plainFor_of_name pn_47) hisR ?_
  intro p e s m args below meth c s₁ Bd hml0 hP hK
  obtain ⟨rfl, hZ, hh⟩ := hP
  have hx := Bd.exec
  have hby := Bd.bytes
  have hml : c.maxLocals = 5 := hml0
  have hown : s.vm.findClass "java/lang/StringUTF16" = some m.cls := findClass_of_methodNamed Bd.named
  have hnm := (name_of_methodNamed Bd.named Bd.method).1
  have X0 : Stand p l e ({ frames := 3, cells := 0, slots := 0, locals := 43 } : Room) s m #[(.ref t), (.int (Int32.ofNat j)), (.ref ar), (.int (Int32.ofNat o)), (.int (Int32.ofNat ee))] below meth c s₁ [] 0 0 := Stand.of_body Bd
  have e0 : s₁.heap = h0 := by rw [← hh, Bd.state]; rfl
  have N0 := Fr.nil n0
  have pre0 : ∀ tt, Steps p.tables e below (s₁.setTop (mkF m 0 #[.val (.ref t), .val (.int (Int32.ofNat j)), .val (.ref ar), .val (.int (Int32.ofNat o)), .val (.int (Int32.ofNat ee))] [])) tt → Steps p.tables e below (s₁.setTop (entryFrame m #[(.ref t), (.int (Int32.ofNat j)), (.ref ar), (.int (Int32.ofNat o)), (.int (Int32.ofNat ee))] 5)) tt := fun tt kk => castTop (ef_47_rrrrr m t (Int32.ofNat j) ar (Int32.ofNat o) (Int32.ofNat ee)) kk
  have EN0 := EN
  obtain ⟨O2, P5, O4, rG3, O5, rG4, O6, O7, O8⟩ := EN
  obtain ⟨_, _, ⟨T1, L1, k1, n1⟩, -, X1, ⟨Lc1, hQ1, l1, y1, z1⟩, st1⟩ := Jvm.LawKit.callS X0 hx (y := (⟨"java/lang/StringUTF16", "checkBoundsBeginEnd", "(II[B)V"⟩ : MethodName)) hown (mvT hZ (hw _ (tk 230 rfl))) (mvT hZ (hw _ (tk 231 rfl))) (mvT hZ (hw _ (tk 190 rfl))) (mvT hZ (hw _ (tk 232 rfl))) (by decide) (backOf (W := 0) (rmUBE l Z a0 hw [] G1 G3 G4 (Int32.ofNat j) (Int32.ofNat (j + n)) t k 16 (own_wide cs) h0 n0 Z0 EN0 X00 (own_n0 (by omega)) (own_nlt (by omega) (by omega)) (own_nlt (by omega) (by omega)) V_t (by decide)) hZ (hw _ (tk 232 rfl)) (hw _ (tk 190 rfl)) (by decide) (by decide)) (g := (mkF m 8 #[.val (.ref t), .val (.int (Int32.ofNat j)), .val (.ref ar), .val (.int (Int32.ofNat o)), .val (.int (Int32.ofNat ee))] [(.ref t), (.int (Int32.ofNat (j + n))), (.int (Int32.ofNat j))])) rfl (by rw [hml]; rfl) (argsL := [(.int (Int32.ofNat j)), (.int (Int32.ofNat (j + n))), (.ref t)]) (rest := []) (lenOf pd__II_B_V rfl) rfl (by show 2 * 0 + _ ≤ _; exact Nat.le_of_eq rfl) (hb hby d47_8) (fun _ _ => ⟨rfl, e0, (by decide : 0 + 0 ≤ _), (by decide : 0 + 0 ≤ _)⟩)
  dsimp only [Pt.U, Pt.locs, Pt.cells, Pt.slots] at X1 l1 y1 z1 st1 hQ1
  subst l1 y1 z1
  obtain ⟨rfl, Nq1, eq1⟩ := hQ1
  have N1 := Fr.app N0 Nq1
  obtain ⟨_, _, ⟨T2, L2, k2, n2⟩, -, X2, ⟨Lc2, hQ2, l2, y2, z2⟩, st2⟩ := Jvm.LawKit.callS X1 hx (y := (⟨"java/lang/StringUTF16", "putChars", "([BI[CII)V"⟩ : MethodName)) hown (mvT hZ (hw _ (tk 237 rfl))) (mvT hZ (hw _ (tk 238 rfl))) (mvT hZ (hw _ (tk 190 rfl))) (mvT hZ (hw _ (tk 239 rfl))) (by decide) (backOf (W := 0) (rmPCH l Z a0 hw [] G1 G3 G4 t k cs j ar ka as o ee n h0 n0 Z0 EN0 X00 V_t hcs hj g_t V_ar hta ho he ha) hZ (hw _ (tk 239 rfl)) (hw _ (tk 190 rfl)) (by decide) (by decide)) (g := (mkF m 17 #[.val (.ref t), .val (.int (Int32.ofNat j)), .val (.ref ar), .val (.int (Int32.ofNat o)), .val (.int (Int32.ofNat ee))] [(.int (Int32.ofNat ee)), (.int (Int32.ofNat o)), (.ref ar), (.int (Int32.ofNat j)), (.ref t)])) rfl (by rw [hml]; rfl) (argsL := [(.ref t), (.int (Int32.ofNat j)), (.ref ar), (.int (Int32.ofNat o)), (.int (Int32.ofNat ee))]) (rest := []) (lenOf pd___BI_CII_V rfl) rfl (by show 2 * 0 + _ ≤ _; exact Nat.le_of_eq rfl) (hb hby d47_17) (fun _ _ => ⟨rfl, eq1, (by decide : 0 + 0 ≤ _), (by decide : 0 + 0 ≤ _)⟩)
  dsimp only [Pt.U, Pt.locs, Pt.cells, Pt.slots] at X2 l2 y2 z2 st2 hQ2
  subst l2 y2 z2
  obtain ⟨rfl, Nq2, Kq2, Vq2⟩ := hQ2
  have N2 := Fr.app N1 Nq2
  obtain ⟨fs, hr, hrun, hended, hW, hsame⟩ := X2.leave (v := none) (fun _ => rfl)
  refine ⟨_, _, pre0 _ ?_, hrun, hended, _, _, rfl, ?_, ⟨_, rfl⟩, hW, hsame.mono (by decide) (by decide)⟩
  · show Steps p.tables e below (s₁.setTop (mkF m 0 #[.val (.ref t), .val (.int (Int32.ofNat j)), .val (.ref ar), .val (.int (Int32.ofNat o)), .val (.int (Int32.ofNat ee))] [])) _
    refine XS.iloadN X0.here hx rfl (hb hby d47_0) rfl ?_
    refine XS.iloadN X0.here hx rfl (hb hby d47_1) rfl ?_
    refine XS.iload X0.here hx rfl (hb hby d47_2) rfl ?_
    refine XS.iadd X0.here hx rfl (hb hby d47_4) rfl ?_
    refine XS.iloadN X0.here hx rfl (hb hby d47_5) rfl ?_
    refine XS.isub X0.here hx rfl (hb hby d47_6) rfl ?_
    show Steps p.tables e below (s₁.setTop (mkF m 7 #[.val (.ref t), .val (.int (Int32.ofNat j)), .val (.ref ar), .val (.int (Int32.ofNat o)), .val (.int (Int32.ofNat ee))] [(.int (((Int32.ofNat j) + (Int32.ofNat ee)) - (Int32.ofNat o))), (.int (Int32.ofNat j))])) _
    rw [(own_jeo (j := j) ho (by omega))]
    show Steps p.tables e below (s₁.setTop (mkF m 7 #[.val (.ref t), .val (.int (Int32.ofNat j)), .val (.ref ar), .val (.int (Int32.ofNat o)), .val (.int (Int32.ofNat ee))] [(.int (Int32.ofNat (j + n))), (.int (Int32.ofNat j))])) _
    refine XS.aloadN X0.here hx rfl (hb hby d47_7) rfl rfl ?_
    show Steps p.tables e below (s₁.setTop (mkF m 8 #[.val (.ref t), .val (.int (Int32.ofNat j)), .val (.ref ar), .val (.int (Int32.ofNat o)), .val (.int (Int32.ofNat ee))] [(.ref t), (.int (Int32.ofNat (j + n))), (.int (Int32.ofNat j))])) _
    refine st1 _ ?_
    show Steps p.tables e below (T1.setTop (mkF m 11 #[.val (.ref t), .val (.int (Int32.ofNat j)), .val (.ref ar), .val (.int (Int32.ofNat o)), .val (.int (Int32.ofNat ee))] [])) _
    refine XS.aloadN X1.here hx rfl (hb hby d47_11) rfl rfl ?_
    refine XS.iloadN X1.here hx rfl (hb hby d47_12) rfl ?_
    refine XS.aloadN X1.here hx rfl (hb hby d47_13) rfl rfl ?_
    refine XS.iloadN X1.here hx rfl (hb hby d47_14) rfl ?_
    refine XS.iload X1.here hx rfl (hb hby d47_15) rfl ?_
    show Steps p.tables e below (T1.setTop (mkF m 17 #[.val (.ref t), .val (.int (Int32.ofNat j)), .val (.ref ar), .val (.int (Int32.ofNat o)), .val (.int (Int32.ofNat ee))] [(.int (Int32.ofNat ee)), (.int (Int32.ofNat o)), (.ref ar), (.int (Int32.ofNat j)), (.ref t)])) _
    refine st2 _ ?_
    show Steps p.tables e below (T2.setTop (mkF m 20 #[.val (.ref t), .val (.int (Int32.ofNat j)), .val (.ref ar), .val (.int (Int32.ofNat o)), .val (.int (Int32.ofNat ee))] [])) _
    exact X2.returnOut hx Bd.returns (hb hby d47_20) hr
  · show own_QW Z t k (cs ++ (as.drop o).take n) h0 n0 _ T2.heap _
    exact ⟨rfl, N2, ((Keep.refl h0 [t]).trans Kq2 (allS (P := fun zz => zz ∈ [t] ∨ h0.size ≤ zz) (Or.inl (tk 0 rfl)) all0)), Vq2⟩
def own_l1 (cs : List Int32) : Prop := ∀ c ∈ cs, ¬ c < 0 ∧ ¬ (255 : Int32) < c
theorem own_l1_at {cs : List Int32} (h : own_l1 cs) {i : Nat} (hi : i < cs.length) : ¬ cs.getD i 0 < 0 ∧ ¬ (255 : Int32) < cs.getD i 0 := by
  have e : cs.getD i 0 = cs[i] := by simp [List.getD_eq_getElem?_getD, hi]
  rw [e]; exact h _ (List.getElem_mem _)
theorem own_take1 (cs : List Int32) (i : Nat) (h : i < cs.length) : cs.take i ++ [cs.getD i 0] = cs.take (i + 1) := by
  rw [List.take_add_one]
  simp [List.getD_eq_getElem?_getD, h]
theorem own_la (cs : List Int32) (i : Nat) (h : i < cs.length) (hb : i < 2 ^ 31) : (own_lat cs).getD (Int32.ofNat i).toNatClampNeg (.int 0) = .int (own_l8 (cs.getD i 0)) := by
  rw [own_clamp hb]; exact own_lat_at _ cs i h
theorem own_bo {n : Nat} (h : n ≤ 16) : ¬ ((((Int32.ofNat 16) ||| (0 : Int32)) ||| (Int32.ofNat n)) < (0 : Int32)) ∧ ¬ (((Int32.ofNat 16) - (0 : Int32)) < (Int32.ofNat n)) := by
  have t : ∀ k : Fin 17, ¬ ((((Int32.ofNat 16) ||| (0 : Int32)) ||| (Int32.ofNat k.val)) < (0 : Int32)) ∧ ¬ (((Int32.ofNat 16) - (0 : Int32)) < (Int32.ofNat k.val)) := by decide +kernel
  exact t ⟨n, by omega⟩
theorem d39_0 : decode jdk_52_method_86_code 0 = .ok (.iload_n 3, 1) := by decide +kernel
theorem d39_1 : decode jdk_52_method_86_code 1 = .ok (.iload 4, 2) := by decide +kernel
theorem d39_3 : decode jdk_52_method_86_code 3 = .ok (.aload_n 2, 1) := by decide +kernel
theorem d39_4 : decode jdk_52_method_86_code 4 = .ok (.invokestatic 173, 3) := by decide +kernel
theorem d39_7 : decode jdk_52_method_86_code 7 = .ok (.iconst 0, 1) := by decide +kernel
theorem d39_8 : decode jdk_52_method_86_code 8 = .ok (.istore 5, 2) := by decide +kernel
theorem d39_41 : decode jdk_52_method_86_code 41 = .ok (.return_, 1) := by decide +kernel
theorem pn_39 : plainName "java/lang/StringUTF16" = true := by first | (simp [plainName, overriddenIn]; done) | decide +kernel
theorem ef_39_rrrrr (m : MethodId) (x0 : Addr) (x1 : Int32) (x2 : Addr) (x3 : Int32) (x4 : Int32) : entryFrame m #[(.ref x0), (.int x1), (.ref x2), (.int x1), (.int x4)] 6 = mkF m 0 #[.val (.ref x0), .val (.int x1), .val (.ref x2), .val (.int x1), .val (.int x4), .unset] [] := by first | (simp [entryFrame, mkF, argsToLocals, Value.category]; done) | rfl
theorem d39_10 : decode jdk_52_method_86_code 10 = .ok (.iload 5, 2) := by decide +kernel
theorem d39_12 : decode jdk_52_method_86_code 12 = .ok (.iload 4, 2) := by decide +kernel
theorem d39_14 : decode jdk_52_method_86_code 14 = .ok (.if_icmp .ge 27, 3) := by decide +kernel
theorem d39_17 : decode jdk_52_method_86_code 17 = .ok (.aload_n 2, 1) := by decide +kernel
theorem d39_18 : decode jdk_52_method_86_code 18 = .ok (.iload_n 3, 1) := by decide +kernel
theorem d39_19 : decode jdk_52_method_86_code 19 = .ok (.iinc 3 1, 3) := by decide +kernel
theorem d39_22 : decode jdk_52_method_86_code 22 = .ok (.aload_n 0, 1) := by decide +kernel
theorem d39_23 : decode jdk_52_method_86_code 23 = .ok (.iload_n 1, 1) := by decide +kernel
theorem d39_24 : decode jdk_52_method_86_code 24 = .ok (.iinc 1 1, 3) := by decide +kernel
theorem d39_27 : decode jdk_52_method_86_code 27 = .ok (.baload, 1) := by decide +kernel
theorem d39_28 : decode jdk_52_method_86_code 28 = .ok (.sipush 255, 3) := by decide +kernel
theorem d39_31 : decode jdk_52_method_86_code 31 = .ok (.iand, 1) := by decide +kernel
theorem d39_32 : decode jdk_52_method_86_code 32 = .ok (.invokestatic 111, 3) := by decide +kernel
theorem d39_35 : decode jdk_52_method_86_code 35 = .ok (.iinc 5 1, 3) := by decide +kernel
theorem d39_38 : decode jdk_52_method_86_code 38 = .ok (.goto (-28), 3) := by decide +kernel
set_option maxRecDepth 65536 in
set_option maxHeartbeats 40000000 in
theorem tnIF {p : Program} {l : Launch} {e : Env} {s : State} {m : MethodId} {args : Array Value} {below : List Frame} {meth : Method} {c : Code} {s₁ : State} {L0 : List Loc} {Z : State} {a0 : Array Value} (G1 : Int32) (G3 : Value) (G4 : Value) (sr : Addr) (ks : ClassId) (t : Addr) (k : ClassId) (cs : List Int32) (i : Nat) (n : Nat) (h0 : Heap) (n0 : Nat) (X0 : Stand p l e ({ frames := 3, cells := 0, slots := 0, locals := 43 } : Room) s m args below meth c s₁ L0 0 0) (hx : p.tables.exec = Jvm.exec) (hZ : Z.Warmed39 s.vm) (hw : ∀ d ∈ tables_1, d.before a0 Z = true) (hby : c.code = jdk_52_method_86_code) (hml : c.maxLocals = 6) (hown : s.vm.findClass "java/lang/StringUTF16" = some m.cls) (e0 : s₁.heap = h0) (N0 : Fr n0 L0) (Z0 : n0 ≤ h0.size) (EN : own_env Z G1 G3 G4) (X00 : Old Z n0 h0) (V_sr : Arv Z h0 sr ks .byte (Int32.ofNat 16) (own_lat cs) (.int 0)) (V_t : Arv Z h0 t k .byte (Int32.ofNat (2 * 16)) (own_wide (cs.take i)) (.int 0)) (hl : own_l1 cs) (hn : cs.length = n) (hn16 : n ≤ 16) (g_t : n0 ≤ t) (hst : sr ≠ t) (hi : i < n) :
    ∃ (T' : State) (h' : Heap) (L' : List Loc) , Stand p l e ({ frames := 3, cells := 0, slots := 0, locals := 43 } : Room) s m args below meth c T' L' 0 0 ∧ T'.heap = h' ∧ Fr n0 L' ∧ n0 ≤ h'.size ∧ Old Z n0 h' ∧ Keep h0 h' [t] ∧ Arv Z h' t k .byte (Int32.ofNat (2 * 16)) (own_wide (cs.take (i + 1))) (.int 0) ∧ Arv Z h' sr ks .byte (Int32.ofNat 16) (own_lat cs) (.int 0) ∧ 
      ∀ target, Steps p.tables e below (T'.setTop (mkF m 10 #[.val (.ref sr), .val (.int (Int32.ofNat (i + 1))), .val (.ref t), .val (.int (Int32.ofNat (i + 1))), .val (.int (Int32.ofNat n)), .val (.int (Int32.ofNat (i + 1)))] [])) target → Steps p.tables e below (s₁.setTop (mkF m 10 #[.val (.ref sr), .val (.int (Int32.ofNat i)), .val (.ref t), .val (.int (Int32.ofNat i)), .val (.int (Int32.ofNat n)), .val (.int (Int32.ofNat i))] [])) target := by
  have EN0 := EN
  obtain ⟨O2, P5, O4, rG3, O5, rG4, O6, O7, O8⟩ := EN
  obtain ⟨c1, Ar1, -, S1, M1, H1, -⟩ := id V_sr
  have hin1 := inb_of (j := (Int32.ofNat i)) S1 (own_in (by omega) (by decide))
  obtain ⟨_, _, ⟨T2, L2, k2, n2⟩, -, X2, ⟨Lc2, hQ2, l2, y2, z2⟩, st2⟩ := Jvm.LawKit.callS X0 hx (y := (⟨"java/lang/StringUTF16", "putChar", "([BII)V"⟩ : MethodName)) hown (mvT hZ (hw _ (tk 221 rfl))) (mvT hZ (hw _ (tk 222 rfl))) (mvT hZ (hw _ (tk 190 rfl))) (mvT hZ (hw _ (tk 223 rfl))) (by decide) (backOf (W := 0) (rmPUT l Z a0 hw [] G1 G3 G4 t k (cs.take i) i (cs.getD i 0) h0 n0 Z0 EN0 X00 V_t (by rw [List.length_take]; omega) (by omega) g_t) hZ (hw _ (tk 223 rfl)) (hw _ (tk 190 rfl)) (by decide) (by decide)) (g := (mkF m 32 #[.val (.ref sr), .val (.int ((Int32.ofNat i) + (1 : Int32))), .val (.ref t), .val (.int ((Int32.ofNat i) + (1 : Int32))), .val (.int (Int32.ofNat n)), .val (.int (Int32.ofNat i))] [(.int (cs.getD i 0)), (.int (Int32.ofNat i)), (.ref t)])) rfl (by rw [hml]; rfl) (argsL := [(.ref t), (.int (Int32.ofNat i)), (.int (cs.getD i 0))]) (rest := []) (lenOf pd___BII_V rfl) rfl (by show 2 * 0 + _ ≤ _; exact Nat.le_of_eq rfl) (hb hby d39_32) (fun _ _ => ⟨rfl, e0, (by decide : 0 + 0 ≤ _), (by decide : 0 + 0 ≤ _)⟩)
  dsimp only [Pt.U, Pt.locs, Pt.cells, Pt.slots] at X2 l2 y2 z2 st2 hQ2
  subst l2 y2 z2
  obtain ⟨rfl, Nq2, Kq2, Vq2⟩ := hQ2
  have N2 := Fr.app N0 Nq2
  have f3 := (X00.keep Kq2 (allS g_t all0))
  have f4 := (V_sr.keep Kq2 (ninS hst nin0))
  refine ⟨T2, T2.heap, _, X2, rfl, N2, (Nat.le_trans Z0 Kq2.1), f3, ((Keep.refl h0 [t]).trans Kq2 (allS (P := fun zz => zz ∈ [t] ∨ h0.size ≤ zz) (Or.inl (tk 0 rfl)) all0)), (by rw [← own_take1 cs i (by omega)]; exact Vq2), f4, fun target kt => ?_⟩
  show Steps p.tables e below (s₁.setTop (mkF m 10 #[.val (.ref sr), .val (.int (Int32.ofNat i)), .val (.ref t), .val (.int (Int32.ofNat i)), .val (.int (Int32.ofNat n)), .val (.int (Int32.ofNat i))] [])) _
  refine XS.iload X0.here hx rfl (hb hby d39_10) rfl ?_
  refine XS.iload X0.here hx rfl (hb hby d39_12) rfl ?_
  refine XS.icmpNo X0.here hx rfl (hb hby d39_14) rfl (tlt ((own_lt (by omega) (by omega)).mpr hi)).2.1 ?_
  refine XS.aloadN X0.here hx rfl (hb hby d39_17) rfl rfl ?_
  refine XS.iloadN X0.here hx rfl (hb hby d39_18) rfl ?_
  refine XS.iinc X0.here hx rfl (hb hby d39_19) rfl (l' := #[.val (.ref sr), .val (.int (Int32.ofNat i)), .val (.ref t), .val (.int ((Int32.ofNat i) + (1 : Int32))), .val (.int (Int32.ofNat n)), .val (.int (Int32.ofNat i))]) rfl ?_
  refine XS.aloadN X0.here hx rfl (hb hby d39_22) rfl rfl ?_
  refine XS.iloadN X0.here hx rfl (hb hby d39_23) rfl ?_
  refine XS.iinc X0.here hx rfl (hb hby d39_24) rfl (l' := #[.val (.ref sr), .val (.int ((Int32.ofNat i) + (1 : Int32))), .val (.ref t), .val (.int ((Int32.ofNat i) + (1 : Int32))), .val (.int (Int32.ofNat n)), .val (.int (Int32.ofNat i))]) rfl ?_
  show Steps p.tables e below (s₁.setTop (mkF m 27 #[.val (.ref sr), .val (.int ((Int32.ofNat i) + (1 : Int32))), .val (.ref t), .val (.int ((Int32.ofNat i) + (1 : Int32))), .val (.int (Int32.ofNat n)), .val (.int (Int32.ofNat i))] [(.int (Int32.ofNat i)), (.ref sr), (.int (Int32.ofNat i)), (.ref t)])) _
  refine X0.baloadBytes hx (j := (Int32.ofNat i)) (v := (.int (own_l8 (cs.getD i 0)))) (by rw [e0]; exact Ar1.1) (State.isArrayOf_alike hZ.alike Ar1.2.1) Ar1.2.2 hin1 (H1.at hin1 (own_la cs i (by omega) (by omega))) (g := (mkF m 27 #[.val (.ref sr), .val (.int ((Int32.ofNat i) + (1 : Int32))), .val (.ref t), .val (.int ((Int32.ofNat i) + (1 : Int32))), .val (.int (Int32.ofNat n)), .val (.int (Int32.ofNat i))] [(.int (Int32.ofNat i)), (.ref sr), (.int (Int32.ofNat i)), (.ref t)])) rfl rfl (hb hby d39_27) _ ?_
  show Steps p.tables e below (s₁.setTop (mkF m 28 #[.val (.ref sr), .val (.int ((Int32.ofNat i) + (1 : Int32))), .val (.ref t), .val (.int ((Int32.ofNat i) + (1 : Int32))), .val (.int (Int32.ofNat n)), .val (.int (Int32.ofNat i))] [(.int (own_l8 (cs.getD i 0))), (.int (Int32.ofNat i)), (.ref t)])) _
  refine XS.sipush X0.here hx rfl (hb hby d39_28) ?_
  refine XS.iand X0.here hx rfl (hb hby d39_31) rfl ?_
  show Steps p.tables e below (s₁.setTop (mkF m 32 #[.val (.ref sr), .val (.int ((Int32.ofNat i) + (1 : Int32))), .val (.ref t), .val (.int ((Int32.ofNat i) + (1 : Int32))), .val (.int (Int32.ofNat n)), .val (.int (Int32.ofNat i))] [(.int ((own_l8 (cs.getD i 0)) &&& (255 : Int32))), (.int (Int32.ofNat i)), (.ref t)])) _
  rw [(own_msk (own_l1_at hl (by omega)).1 (own_l1_at hl (by omega)).2)]
  show Steps p.tables e below (s₁.setTop (mkF m 32 #[.val (.ref sr), .val (.int ((Int32.ofNat i) + (1 : Int32))), .val (.ref t), .val (.int ((Int32.ofNat i) + (1 : Int32))), .val (.int (Int32.ofNat n)), .val (.int (Int32.ofNat i))] [(.int (cs.getD i 0)), (.int (Int32.ofNat i)), (.ref t)])) _
  refine st2 _ ?_
  show Steps p.tables e below (T2.setTop (mkF m 35 #[.val (.ref sr), .val (.int ((Int32.ofNat i) + (1 : Int32))), .val (.ref t), .val (.int ((Int32.ofNat i) + (1 : Int32))), .val (.int (Int32.ofNat n)), .val (.int (Int32.ofNat i))] [])) _
  refine XS.iinc X2.here hx rfl (hb hby d39_35) rfl (l' := #[.val (.ref sr), .val (.int ((Int32.ofNat i) + (1 : Int32))), .val (.ref t), .val (.int ((Int32.ofNat i) + (1 : Int32))), .val (.int (Int32.ofNat n)), .val (.int ((Int32.ofNat i) + (1 : Int32)))]) rfl ?_
  refine XS.goto X2.here hx rfl (pc0 := 38) (pc' := 10) rfl (hb hby d39_38) (by decide) (by decide) ?_
  show Steps p.tables e below (T2.setTop (mkF m 10 #[.val (.ref sr), .val (.int ((Int32.ofNat i) + (1 : Int32))), .val (.ref t), .val (.int ((Int32.ofNat i) + (1 : Int32))), .val (.int (Int32.ofNat n)), .val (.int ((Int32.ofNat i) + (1 : Int32)))] [])) _
  rw [(own_succ i)]
  show Steps p.tables e below (T2.setTop (mkF m 10 #[.val (.ref sr), .val (.int (Int32.ofNat (i + 1))), .val (.ref t), .val (.int (Int32.ofNat (i + 1))), .val (.int (Int32.ofNat n)), .val (.int (Int32.ofNat (i + 1)))] [])) _
  exact kt
set_option maxRecDepth 65536 in
set_option maxHeartbeats 40000000 in
theorem lvIF {p : Program} {l : Launch} {e : Env} {s : State} {m : MethodId} {args : Array Value} {below : List Frame} {meth : Method} {c : Code} {s₁ : State} {L0 : List Loc} {Z : State} {a0 : Array Value} (sr : Addr) (t : Addr) (i : Nat) (n : Nat) (h0 : Heap) (n0 : Nat) (X0 : Stand p l e ({ frames := 3, cells := 0, slots := 0, locals := 43 } : Room) s m args below meth c s₁ L0 0 0) (hx : p.tables.exec = Jvm.exec) (hZ : Z.Warmed39 s.vm) (hw : ∀ d ∈ tables_1, d.before a0 Z = true) (hby : c.code = jdk_52_method_86_code) (hml : c.maxLocals = 6) (hown : s.vm.findClass "java/lang/StringUTF16" = some m.cls) (e0 : s₁.heap = h0) (N0 : Fr n0 L0) (Z0 : n0 ≤ h0.size) (hi : ¬ (i < n)) (hbd : i < 2 ^ 31 ∧ n < 2 ^ 31) :
    ∃ (T' : State) (h' : Heap) (L' : List Loc) , Stand p l e ({ frames := 3, cells := 0, slots := 0, locals := 43 } : Room) s m args below meth c T' L' 0 0 ∧ T'.heap = h' ∧ Fr n0 L' ∧ n0 ≤ h'.size ∧ h' = h0 ∧ 
      ∀ target, Steps p.tables e below (T'.setTop (mkF m 41 #[.val (.ref sr), .val (.int (Int32.ofNat i)), .val (.ref t), .val (.int (Int32.ofNat i)), .val (.int (Int32.ofNat n)), .val (.int (Int32.ofNat i))] [])) target → Steps p.tables e below (s₁.setTop (mkF m 10 #[.val (.ref sr), .val (.int (Int32.ofNat i)), .val (.ref t), .val (.int (Int32.ofNat i)), .val (.int (Int32.ofNat n)), .val (.int (Int32.ofNat i))] [])) target := by
  refine ⟨s₁, h0, _, X0, e0, N0, Z0, rfl, fun target kt => ?_⟩
  show Steps p.tables e below (s₁.setTop (mkF m 10 #[.val (.ref sr), .val (.int (Int32.ofNat i)), .val (.ref t), .val (.int (Int32.ofNat i)), .val (.int (Int32.ofNat n)), .val (.int (Int32.ofNat i))] [])) _
  refine XS.iload X0.here hx rfl (hb hby d39_10) rfl ?_
  refine XS.iload X0.here hx rfl (hb hby d39_12) rfl ?_
  refine XS.icmpYes X0.here hx rfl (pc0 := 14) (pc' := 41) rfl (hb hby d39_14) rfl (flt (fun q => hi ((own_lt hbd.1 hbd.2).mp q))).2.1 (by decide) (by decide) ?_
  exact kt
theorem lpIF {p : Program} {l : Launch} {e : Env} {s : State} {m : MethodId} {args : Array Value} {below : List Frame} {meth : Method} {c : Code} {Z : State} {a0 : Array Value} (G1 : Int32) (G3 G4 : Value) (sr : Addr) (ks : ClassId) (t : Addr) (k : ClassId) (cs : List Int32) (n : Nat) (n0 : Nat) (hx : p.tables.exec = Jvm.exec) (hZ : Z.Warmed39 s.vm) (hw : ∀ d ∈ tables_1, d.before a0 Z = true) (hby : c.code = jdk_52_method_86_code) (hml : c.maxLocals = 6) (hown : s.vm.findClass "java/lang/StringUTF16" = some m.cls) (EN : own_env Z G1 G3 G4) (hl : own_l1 cs) (hn : cs.length = n) (hn16 : n ≤ 16) (g_t : n0 ≤ t) (hst : sr ≠ t) :
    ∀ (r : Nat) (s₁ : State) (L0 : List Loc) (h0 : Heap) (i : Nat) (X0 : Stand p l e ({ frames := 3, cells := 0, slots := 0, locals := 43 } : Room) s m args below meth c s₁ L0 0 0) (e0 : s₁.heap = h0) (N0 : Fr n0 L0) (Z0 : n0 ≤ h0.size) (X00 : Old Z n0 h0) (V_t : Arv Z h0 t k .byte (Int32.ofNat (2 * 16)) (own_wide (cs.take i)) (.int 0)) (V_sr : Arv Z h0 sr ks .byte (Int32.ofNat 16) (own_lat cs) (.int 0)) (hi : i + r = n),
    ∃ (T' : State) (h' : Heap) (L' : List Loc), Stand p l e ({ frames := 3, cells := 0, slots := 0, locals := 43 } : Room) s m args below meth c T' L' 0 0 ∧ T'.heap = h' ∧ Fr n0 L' ∧ n0 ≤ h'.size ∧ Keep h0 h' [t] ∧ Arv Z h' t k .byte (Int32.ofNat (2 * 16)) (own_wide cs) (.int 0) ∧
      ∀ target, Steps p.tables e below (T'.setTop (mkF m 41 #[.val (.ref sr), .val (.int (Int32.ofNat n)), .val (.ref t), .val (.int (Int32.ofNat n)), .val (.int (Int32.ofNat n)), .val (.int (Int32.ofNat n))] [])) target → Steps p.tables e below (s₁.setTop (mkF m 10 #[.val (.ref sr), .val (.int (Int32.ofNat i)), .val (.ref t), .val (.int (Int32.ofNat i)), .val (.int (Int32.ofNat n)), .val (.int (Int32.ofNat i))] [])) target := by
  intro r
  induction r with
  | zero =>
    intro s₁ L0 h0 i X0 e0 N0 Z0 X00 V_t V_sr hi
    have hi' : i = n := by omega
    subst hi'
    obtain ⟨T1, h1, L1, X1, f1, N1, Z1, hh, st1⟩ := lvIF sr t i i h0 n0 X0 hx hZ hw hby hml hown e0 N0 Z0 (Nat.lt_irrefl _) ⟨by omega, by omega⟩
    subst hh
    exact ⟨T1, _, L1, X1, f1, N1, Z1, Keep.refl _ _, by rw [List.take_of_length_le (by omega)] at V_t; exact V_t, st1⟩
  | succ r ih =>
    intro s₁ L0 h0 i X0 e0 N0 Z0 X00 V_t V_sr hi
    obtain ⟨T1, h1, L1, X1, f1, N1, Z1, O1, K1, V1, S1, st1⟩ := tnIF G1 G3 G4 sr ks t k cs i n h0 n0 X0 hx hZ hw hby hml hown e0 N0 Z0 EN X00 V_sr V_t hl hn hn16 g_t hst (by omega)
    obtain ⟨T2, h2, L2, X2, f2, N2, Z2, K2, V2, st2⟩ := ih T1 L1 h1 (i + 1) X1 f1 N1 Z1 O1 V1 S1 (by omega)
    exact ⟨T2, h2, L2, X2, f2, N2, Z2, K1.trans K2 (fun x hx => Or.inl hx), V2, fun target kt => st1 _ (st2 _ kt)⟩
set_option maxRecDepth 65536 in
set_option maxHeartbeats 40000000 in
theorem rmUIF (l : Launch) (Z : State) (a0 : Array Value) (hw : ∀ d ∈ tables_1, d.before a0 Z = true) (ws : List Jvm.Cond) (G1 : Int32) (G3 : Value) (G4 : Value) (sr : Addr) (ks : ClassId) (t : Addr) (k : ClassId) (cs : List Int32) (n : Nat) (h0 : Heap) (n0 : Nat) (Z0 : n0 ≤ h0.size) (EN : own_env Z G1 G3 G4) (X00 : Old Z n0 h0) (V_sr : Arv Z h0 sr ks .byte (Int32.ofNat 16) (own_lat cs) (.int 0)) (V_t : Arv Z h0 t k .byte (Int32.ofNat (2 * 16)) (own_wide []) (.int 0)) (hl : own_l1 cs) (hn : cs.length = n) (hn16 : n ≤ 16) (g_t : n0 ≤ t) (hst : sr ≠ t) :
    MetFree l (⟨"java/lang/StringUTF16", "inflate", "([BI[BII)V"⟩ : MethodName) (head1 (Jvm.Cond.code (⟨"java/lang/StringUTF16", "inflate", "([BI[BII)V"⟩ : MethodName) jdk_52_method_86_code 6 none :: ws) ({ frames := 3, cells := 0, slots := 0, locals := 43 } : Room)) (fun a_ U_ => a_ = #[(.ref sr), (.int 0), (.ref t), (.int 0), (.int (Int32.ofNat n))] ∧ Z.Warmed39 U_.vm ∧ U_.heap = h0) (fun _ _ _ _ _ => True) (fun _ U_ o_ U1_ => ∃ v_ L_, o_ = .returned v_ ∧ own_QW Z t k cs h0 n0 v_ U1_.heap L_ ∧ FrameEnd U_ o_ U1_ L_ ({ frames := 3, cells := 0, slots := 0, locals := 43 } : Room).cells ({ frames := 3, cells := 0, slots := 0, locals := 43 } : Room).slots) := by
  refine MetFree.of_bodySF (plainFor_of_name pn_39) hisR ?_
  intro p e s m args below meth c s₁ Bd hml0 hP hK
  obtain ⟨rfl, hZ, hh⟩ := hP
  have hx := Bd.exec
  have hby := Bd.bytes
  have hml : c.maxLocals = 6 := hml0
  have hown : s.vm.findClass "java/lang/StringUTF16" = some m.cls := findClass_of_methodNamed Bd.named
  have hnm := (name_of_methodNamed Bd.named Bd.method).1
  have X0 : Stand p l e ({ frames := 3, cells := 0, slots := 0, locals := 43 } : Room) s m #[(.ref sr), (.int 0), (.ref t), (.int 0), (.int (Int32.ofNat n))] below meth c s₁ [] 0 0 := Stand.of_body Bd
  have e0 : s₁.heap = h0 := by rw [← hh, Bd.state]; rfl
  have N0 := Fr.nil n0
  have pre0 : ∀ tt, Steps p.tables e below (s₁.setTop (mkF m 0 #[.val (.ref sr), .val (.int 0), .val (.ref t), .val (.int 0), .val (.int (Int32.ofNat n)), .unset] [])) tt → Steps p.tables e below (s₁.setTop (entryFrame m #[(.ref sr), (.int 0), (.ref t), (.int 0), (.int (Int32.ofNat n))] 6)) tt := fun tt kk => castTop (ef_39_rrrrr m sr (0 : Int32) t (0 : Int32) (Int32.ofNat n)) kk
  have EN0 := EN
  obtain ⟨O2, P5, O4, rG3, O5, rG4, O6, O7, O8⟩ := EN
  obtain ⟨_, _, ⟨T1, L1, k1, n1⟩, -, X1, ⟨Lc1, hQ1, l1, y1, z1⟩, st1⟩ := Jvm.LawKit.callS X0 hx (y := (⟨"java/lang/StringUTF16", "checkBoundsOffCount", "(II[B)V"⟩ : MethodName)) hown (mvT hZ (hw _ (tk 202 rfl))) (mvT hZ (hw _ (tk 203 rfl))) (mvT hZ (hw _ (tk 190 rfl))) (mvT hZ (hw _ (tk 204 rfl))) (by decide) (backOf (W := 0) (rmUOC l Z a0 hw [] G1 G3 G4 (0 : Int32) (Int32.ofNat n) t k 16 (own_wide []) h0 n0 Z0 EN0 X00 (own_bo hn16).1 (own_bo hn16).2 V_t (by decide)) hZ (hw _ (tk 204 rfl)) (hw _ (tk 190 rfl)) (by decide) (by decide)) (g := (mkF m 4 #[.val (.ref sr), .val (.int 0), .val (.ref t), .val (.int 0), .val (.int (Int32.ofNat n)), .unset] [(.ref t), (.int (Int32.ofNat n)), (.int 0)])) rfl (by rw [hml]; rfl) (argsL := [(.int 0), (.int (Int32.ofNat n)), (.ref t)]) (rest := []) (lenOf pd__II_B_V rfl) rfl (by show 2 * 0 + _ ≤ _; exact Nat.le_of_eq rfl) (hb hby d39_4) (fun _ _ => ⟨rfl, e0, (by decide : 0 + 0 ≤ _), (by decide : 0 + 0 ≤ _)⟩)
  dsimp only [Pt.U, Pt.locs, Pt.cells, Pt.slots] at X1 l1 y1 z1 st1 hQ1
  subst l1 y1 z1
  obtain ⟨rfl, Nq1, eq1⟩ := hQ1
  have N1 := Fr.app N0 Nq1
  obtain ⟨T9, h9, L9, X9, e9, N9, Z9, K9, V9, st9⟩ := lpIF G1 G3 G4 sr ks t k cs n n0 hx hZ hw hby hml hown EN0 hl hn hn16 g_t hst n T1 _ h0 0 X1 eq1 N1 Z0 X00 V_t V_sr (by omega)
  obtain ⟨fs, hr, hrun, hended, hW, hsame⟩ := X9.leave (v := none) (fun _ => rfl)
  refine ⟨_, _, pre0 _ ?_, hrun, hended, _, _, rfl, ?_, ⟨_, rfl⟩, hW, hsame.mono (by decide) (by decide)⟩
  · show Steps p.tables e below (s₁.setTop (mkF m 0 #[.val (.ref sr), .val (.int 0), .val (.ref t), .val (.int 0), .val (.int (Int32.ofNat n)), .unset] [])) _
    refine XS.iloadN X0.here hx rfl (hb hby d39_0) rfl ?_
    refine XS.iload X0.here hx rfl (hb hby d39_1) rfl ?_
    refine XS.aloadN X0.here hx rfl (hb hby d39_3) rfl rfl ?_
    show Steps p.tables e below (s₁.setTop (mkF m 4 #[.val (.ref sr), .val (.int 0), .val (.ref t), .val (.int 0), .val (.int (Int32.ofNat n)), .unset] [(.ref t), (.int (Int32.ofNat n)), (.int 0)])) _
    refine st1 _ ?_
    show Steps p.tables e below (T1.setTop (mkF m 7 #[.val (.ref sr), .val (.int 0), .val (.ref t), .val (.int 0), .val (.int (Int32.ofNat n)), .unset] [])) _
    refine XS.iconst X1.here hx rfl (hb hby d39_7) ?_
    refine XS.istore X1.here hx rfl (hb hby d39_8) rfl (l' := #[.val (.ref sr), .val (.int 0), .val (.ref t), .val (.int 0), .val (.int (Int32.ofNat n)), .val (.int 0)]) rfl ?_
    show Steps p.tables e below (T1.setTop (mkF m 10 #[.val (.ref sr), .val (.int 0), .val (.ref t), .val (.int 0), .val (.int (Int32.ofNat n)), .val (.int 0)] [])) _
    refine st9 _ ?_
    show Steps p.tables e below (T9.setTop (mkF m 41 #[.val (.ref sr), .val (.int (Int32.ofNat n)), .val (.ref t), .val (.int (Int32.ofNat n)), .val (.int (Int32.ofNat n)), .val (.int (Int32.ofNat n))] [])) _
    exact X9.returnOut hx Bd.returns (hb hby d39_41) hr
  · show own_QW Z t k cs h0 n0 _ T9.heap _
    rw [e9]
    exact ⟨rfl, N9, ((Keep.refl h0 [t]).trans K9 (allS (P := fun zz => zz ∈ [t] ∨ h0.size ≤ zz) (Or.inl (tk 0 rfl)) all0)), V9⟩
theorem d38_0 : decode jdk_43_method_50_code 0 = .ok (.aload_n 0, 1) := by decide +kernel
theorem d38_1 : decode jdk_43_method_50_code 1 = .ok (.iload_n 1, 1) := by decide +kernel
theorem d38_2 : decode jdk_43_method_50_code 2 = .ok (.aload_n 2, 1) := by decide +kernel
theorem d38_3 : decode jdk_43_method_50_code 3 = .ok (.iload_n 3, 1) := by decide +kernel
theorem d38_4 : decode jdk_43_method_50_code 4 = .ok (.iload 4, 2) := by decide +kernel
theorem pd___BI_BII_V : parseMethodDescriptor "([BI[BII)V" = some ⟨[(.array .byte), .int, (.array .byte), .int, .int], none⟩ := by decide +kernel
theorem d38_6 : decode jdk_43_method_50_code 6 = .ok (.invokestatic 240, 3) := by decide +kernel
theorem d38_9 : decode jdk_43_method_50_code 9 = .ok (.return_, 1) := by decide +kernel
theorem pn_38 : plainName "java/lang/StringLatin1" = true := by first | (simp [plainName, overriddenIn]; done) | decide +kernel
theorem ef_38_rrrrr (m : MethodId) (x0 : Addr) (x1 : Int32) (x2 : Addr) (x3 : Int32) (x4 : Int32) : entryFrame m #[(.ref x0), (.int x1), (.ref x2), (.int x1), (.int x4)] 5 = mkF m 0 #[.val (.ref x0), .val (.int x1), .val (.ref x2), .val (.int x1), .val (.int x4)] [] := by first | (simp [entryFrame, mkF, argsToLocals, Value.category]; done) | rfl
set_option maxRecDepth 65536 in
set_option maxHeartbeats 40000000 in
theorem rmLIF (l : Launch) (Z : State) (a0 : Array Value) (hw : ∀ d ∈ tables_1, d.before a0 Z = true) (ws : List Jvm.Cond) (G1 : Int32) (G3 : Value) (G4 : Value) (sr : Addr) (ks : ClassId) (t : Addr) (k : ClassId) (cs : List Int32) (n : Nat) (h0 : Heap) (n0 : Nat) (Z0 : n0 ≤ h0.size) (EN : own_env Z G1 G3 G4) (X00 : Old Z n0 h0) (V_sr : Arv Z h0 sr ks .byte (Int32.ofNat 16) (own_lat cs) (.int 0)) (V_t : Arv Z h0 t k .byte (Int32.ofNat (2 * 16)) (own_wide []) (.int 0)) (hl : own_l1 cs) (hn : cs.length = n) (hn16 : n ≤ 16) (g_t : n0 ≤ t) (hst : sr ≠ t) :
    MetFree l (⟨"java/lang/StringLatin1", "inflate", "([BI[BII)V"⟩ : MethodName) (head1 (Jvm.Cond.code (⟨"java/lang/StringLatin1", "inflate", "([BI[BII)V"⟩ : MethodName) jdk_43_method_50_code 5 none :: ws) ({ frames := 4, cells := 0, slots := 0, locals := 60 } : Room)) (fun a_ U_ => a_ = #[(.ref sr), (.int 0), (.ref t), (.int 0), (.int (Int32.ofNat n))] ∧ Z.Warmed39 U_.vm ∧ U_.heap = h0) (fun _ _ _ _ _ => True) (fun _ U_ o_ U1_ => ∃ v_ L_, o_ = .returned v_ ∧ own_QW Z t k cs h0 n0 v_ U1_.heap L_ ∧ FrameEnd U_ o_ U1_ L_ ({ frames := 4, cells := 0, slots := 0, locals := 60 } : Room).cells ({ frames := 4, cells := 0, slots := 0, locals := 60 } : Room).slots) := by
  refine MetFree.of_bodySF (plainFor_of_name pn_38) hisR ?_
  intro p e s m args below meth c s₁ Bd hml0 hP hK
  obtain ⟨rfl, hZ, hh⟩ := hP
  have hx := Bd.exec
  have hby := Bd.bytes
  have hml : c.maxLocals = 5 := hml0
  have hown : s.vm.findClass "java/lang/StringLatin1" = some m.cls := findClass_of_methodNamed Bd.named
  have hnm := (name_of_methodNamed Bd.named Bd.method).1
  have X0 : Stand p l e ({ frames := 4, cells := 0, slots := 0, locals := 60 } : Room) s m #[(.ref sr), (.int 0), (.ref t), (.int 0), (.int (Int32.ofNat n))] below meth c s₁ [] 0 0 := Stand.of_body Bd
  have e0 : s₁.heap = h0 := by rw [← hh, Bd.state]; rfl
  have N0 := Fr.nil n0
  have pre0 : ∀ tt, Steps p.tables e below (s₁.setTop (mkF m 0 #[.val (.ref sr), .val (.int 0), .val (.ref t), .val (.int 0), .val (.int (Int32.ofNat n))] [])) tt → Steps p.tables e below (s₁.setTop (entryFrame m #[(.ref sr), (.int 0), (.ref t), (.int 0), (.int (Int32.ofNat n))] 5)) tt := fun tt kk => castTop (ef_38_rrrrr m sr (0 : Int32) t (0 : Int32) (Int32.ofNat n)) kk
  have EN0 := EN
  obtain ⟨O2, P5, O4, rG3, O5, rG4, O6, O7, O8⟩ := EN
  obtain ⟨_, _, ⟨T1, L1, k1, n1⟩, -, X1, ⟨Lc1, hQ1, l1, y1, z1⟩, st1⟩ := Jvm.LawKit.callS X0 hx (y := (⟨"java/lang/StringUTF16", "inflate", "([BI[BII)V"⟩ : MethodName)) hown (mvT hZ (hw _ (tk 199 rfl))) (mvT hZ (hw _ (tk 200 rfl))) (mvT hZ (hw _ (tk 190 rfl))) (mvT hZ (hw _ (tk 201 rfl))) (by decide) (backOf (W := 0) (rmUIF l Z a0 hw [] G1 G3 G4 sr ks t k cs n h0 n0 Z0 EN0 X00 V_sr V_t hl hn hn16 g_t hst) hZ (hw _ (tk 201 rfl)) (hw _ (tk 190 rfl)) (by decide) (by decide)) (g := (mkF m 6 #[.val (.ref sr), .val (.int 0), .val (.ref t), .val (.int 0), .val (.int (Int32.ofNat n))] [(.int (Int32.ofNat n)), (.int 0), (.ref t), (.int 0), (.ref sr)])) rfl (by rw [hml]; rfl) (argsL := [(.ref sr), (.int 0), (.ref t), (.int 0), (.int (Int32.ofNat n))]) (rest := []) (lenOf pd___BI_BII_V rfl) rfl (by show 2 * 0 + _ ≤ _; exact Nat.le_of_eq rfl) (hb hby d38_6) (fun _ _ => ⟨rfl, e0, (by decide : 0 + 0 ≤ _), (by decide : 0 + 0 ≤ _)⟩)
  dsimp only [Pt.U, Pt.locs, Pt.cells, Pt.slots] at X1 l1 y1 z1 st1 hQ1
  subst l1 y1 z1
  obtain ⟨rfl, Nq1, Kq1, Vq1⟩ := hQ1
  have N1 := Fr.app N0 Nq1
  obtain ⟨fs, hr, hrun, hended, hW, hsame⟩ := X1.leave (v := none) (fun _ => rfl)
  refine ⟨_, _, pre0 _ ?_, hrun, hended, _, _, rfl, ?_, ⟨_, rfl⟩, hW, hsame.mono (by decide) (by decide)⟩
  · show Steps p.tables e below (s₁.setTop (mkF m 0 #[.val (.ref sr), .val (.int 0), .val (.ref t), .val (.int 0), .val (.int (Int32.ofNat n))] [])) _
    refine XS.aloadN X0.here hx rfl (hb hby d38_0) rfl rfl ?_
    refine XS.iloadN X0.here hx rfl (hb hby d38_1) rfl ?_
    refine XS.aloadN X0.here hx rfl (hb hby d38_2) rfl rfl ?_
    refine XS.iloadN X0.here hx rfl (hb hby d38_3) rfl ?_
    refine XS.iload X0.here hx rfl (hb hby d38_4) rfl ?_
    show Steps p.tables e below (s₁.setTop (mkF m 6 #[.val (.ref sr), .val (.int 0), .val (.ref t), .val (.int 0), .val (.int (Int32.ofNat n))] [(.int (Int32.ofNat n)), (.int 0), (.ref t), (.int 0), (.ref sr)])) _
    refine st1 _ ?_
    show Steps p.tables e below (T1.setTop (mkF m 9 #[.val (.ref sr), .val (.int 0), .val (.ref t), .val (.int 0), .val (.int (Int32.ofNat n))] [])) _
    exact X1.returnOut hx Bd.returns (hb hby d38_9) hr
  · show own_QW Z t k cs h0 n0 _ T1.heap _
    exact ⟨rfl, N1, ((Keep.refl h0 [t]).trans Kq1 (allS (P := fun zz => zz ∈ [t] ∨ h0.size ≤ zz) (Or.inl (tk 0 rfl)) all0)), Vq1⟩
theorem d37_0 : decode jdk_52_method_3_code 0 = .ok (.iload_n 0, 1) := by decide +kernel
theorem d37_1 : decode jdk_52_method_3_code 1 = .ok (.ifCond .ge 11, 3) := by decide +kernel
theorem d37_12 : decode jdk_52_method_3_code 12 = .ok (.iload_n 0, 1) := by decide +kernel
theorem d37_13 : decode jdk_52_method_3_code 13 = .ok (.ldc 20, 2) := by decide +kernel
theorem d37_15 : decode jdk_52_method_3_code 15 = .ok (.if_icmp .lt 40, 3) := by decide +kernel
theorem d37_55 : decode jdk_52_method_3_code 55 = .ok (.iload_n 0, 1) := by decide +kernel
theorem d37_56 : decode jdk_52_method_3_code 56 = .ok (.iconst 1, 1) := by decide +kernel
theorem d37_57 : decode jdk_52_method_3_code 57 = .ok (.ishl, 1) := by decide +kernel
theorem d37_58 : decode jdk_52_method_3_code 58 = .ok (.ireturn, 1) := by decide +kernel
theorem pn_37 : plainName "java/lang/StringUTF16" = true := by first | (simp [plainName, overriddenIn]; done) | decide +kernel
theorem ef_37_r (m : MethodId) (x0 : Int32) : entryFrame m #[(.int x0)] 1 = mkF m 0 #[.val (.int x0)] [] := by first | (simp [entryFrame, mkF, argsToLocals, Value.category]; done) | rfl
set_option maxRecDepth 65536 in
set_option maxHeartbeats 40000000 in
theorem rmNBL (l : Launch) (Z : State) (a0 : Array Value) (hw : ∀ d ∈ tables_1, d.before a0 Z = true) (ws : List Jvm.Cond)  (h0 : Heap) (n0 : Nat) (Z0 : n0 ≤ h0.size) :
    MetFree l (⟨"java/lang/StringUTF16", "newBytesLength", "(I)I"⟩ : MethodName) (head1 (Jvm.Cond.code (⟨"java/lang/StringUTF16", "newBytesLength", "(I)I"⟩ : MethodName) jdk_52_method_3_code 1 (some .int) :: ws) ({ frames := 0, cells := 0, slots := 0, locals := 0 } : Room)) (fun a_ U_ => a_ = #[(.int 16)] ∧ Z.Warmed39 U_.vm ∧ U_.heap = h0) (fun _ _ _ _ _ => True) (fun _ U_ o_ U1_ => ∃ v_ L_, o_ = .returned v_ ∧ own_Q Z (some (.int (Int32.ofNat (2 * 16)))) h0 n0 v_ U1_.heap L_ ∧ FrameEnd U_ o_ U1_ L_ ({ frames := 0, cells := 0, slots := 0, locals := 0 } : Room).cells ({ frames := 0, cells := 0, slots := 0, locals := 0 } : Room).slots) := by
  refine MetFree.of_bodySF (plainFor_of_name pn_37) hisR ?_
  intro p e s m args below meth c s₁ Bd hml0 hP hK
  obtain ⟨rfl, hZ, hh⟩ := hP
  have hx := Bd.exec
  have hby := Bd.bytes
  have hml : c.maxLocals = 1 := hml0
  have hown : s.vm.findClass "java/lang/StringUTF16" = some m.cls := findClass_of_methodNamed Bd.named
  have hnm := (name_of_methodNamed Bd.named Bd.method).1
  have X0 : Stand p l e ({ frames := 0, cells := 0, slots := 0, locals := 0 } : Room) s m #[(.int 16)] below meth c s₁ [] 0 0 := Stand.of_body Bd
  have e0 : s₁.heap = h0 := by rw [← hh, Bd.state]; rfl
  have N0 := Fr.nil n0
  have pre0 : ∀ tt, Steps p.tables e below (s₁.setTop (mkF m 0 #[.val (.int 16)] [])) tt → Steps p.tables e below (s₁.setTop (entryFrame m #[(.int 16)] 1)) tt := fun tt kk => castTop (ef_37_r m (16 : Int32)) kk
  obtain ⟨fs, hr, hrun, hended, hW, hsame⟩ := X0.leave (v := some (.int (Int32.ofNat (2 * 16)))) (fun h => by rw [Bd.returns] at h; cases h)
  refine ⟨_, _, pre0 _ ?_, hrun, hended, _, _, rfl, ?_, ⟨_, rfl⟩, hW, hsame.mono (by decide) (by decide)⟩
  · show Steps p.tables e below (s₁.setTop (mkF m 0 #[.val (.int 16)] [])) _
    refine XS.iloadN X0.here hx rfl (hb hby d37_0) rfl ?_
    refine XS.ifYes X0.here hx rfl (pc0 := 1) (pc' := 12) rfl (hb hby d37_1) rfl ((if0 _ _).trans (flt (by decide : ¬ ((16 : Int32) < (0 : Int32)))).2.1) (by decide) (by decide) ?_
    refine XS.iloadN X0.here hx rfl (hb hby d37_12) rfl ?_
    show Steps p.tables e below (s₁.setTop (mkF m 13 #[.val (.int 16)] [(.int 16)])) _
    refine X0.ldcInt hx hown (mvT hZ (hw _ (tk 195 rfl))) (g := (mkF m 13 #[.val (.int 16)] [(.int 16)])) rfl (hb hby d37_13) _ ?_
    show Steps p.tables e below (s₁.setTop (mkF m 15 #[.val (.int 16)] [(.int 1073741823), (.int 16)])) _
    refine XS.icmpYes X0.here hx rfl (pc0 := 15) (pc' := 55) rfl (hb hby d37_15) rfl (tlt (by decide : (16 : Int32) < (1073741823 : Int32))).1 (by decide) (by decide) ?_
    refine XS.iloadN X0.here hx rfl (hb hby d37_55) rfl ?_
    refine XS.iconst X0.here hx rfl (hb hby d37_56) ?_
    refine XS.ishl X0.here hx rfl (hb hby d37_57) rfl ?_
    show Steps p.tables e below (s₁.setTop (mkF m 58 #[.val (.int 16)] [(.int ((16 : Int32) <<< ((1 : Int32) &&& 31)))])) _
    rw [(by decide : ((16 : Int32) <<< ((1 : Int32) &&& 31)) = (Int32.ofNat (2 * 16)))]
    show Steps p.tables e below (s₁.setTop (mkF m 58 #[.val (.int 16)] [(.int (Int32.ofNat (2 * 16)))])) _
    exact retI X0 hx Bd.returns (hb hby d37_58) hr
  · show own_Q Z (some (.int (Int32.ofNat (2 * 16)))) h0 n0 _ s₁.heap _
    rw [e0]
    exact ⟨rfl, N0, rfl⟩
def own_QN (Z : State) (h0 : Heap) (n0 : Nat) (v : Option Value) (h : Heap) (L : List Loc) : Prop := ∃ (t : Addr) (k : ClassId), v = some (.ref t) ∧ Fr n0 L ∧ n0 ≤ t ∧ h0.size ≤ t ∧ Keep h0 h [] ∧ Arv Z h t k .byte (Int32.ofNat (2 * 16)) (own_wide []) (.int 0)
theorem d36_0 : decode jdk_52_method_2_code 0 = .ok (.iload_n 0, 1) := by decide +kernel
theorem pd__I_I : parseMethodDescriptor "(I)I" = some ⟨[.int], some .int⟩ := by decide +kernel
theorem d36_1 : decode jdk_52_method_2_code 1 = .ok (.invokestatic 11, 3) := by decide +kernel
theorem d36_4 : decode jdk_52_method_2_code 4 = .ok (.newarray .byte, 2) := by decide +kernel
theorem d36_6 : decode jdk_52_method_2_code 6 = .ok (.areturn, 1) := by decide +kernel
theorem pn_36 : plainName "java/lang/StringUTF16" = true := by first | (simp [plainName, overriddenIn]; done) | decide +kernel
theorem ef_36_r (m : MethodId) (x0 : Int32) : entryFrame m #[(.int x0)] 1 = mkF m 0 #[.val (.int x0)] [] := by first | (simp [entryFrame, mkF, argsToLocals, Value.category]; done) | rfl
set_option maxRecDepth 65536 in
set_option maxHeartbeats 40000000 in
theorem rmNBF (l : Launch) (Z : State) (a0 : Array Value) (hw : ∀ d ∈ tables_1, d.before a0 Z = true) (ws : List Jvm.Cond)  (h0 : Heap) (n0 : Nat) (Z0 : n0 ≤ h0.size) :
    MetFree l (⟨"java/lang/StringUTF16", "newBytesFor", "(I)[B"⟩ : MethodName) (head1 (Jvm.Cond.code (⟨"java/lang/StringUTF16", "newBytesFor", "(I)[B"⟩ : MethodName) jdk_52_method_2_code 1 (some (.array .byte)) :: ws) ({ frames := 1, cells := 1, slots := 32, locals := 12 } : Room)) (fun a_ U_ => a_ = #[(.int 16)] ∧ Z.Warmed39 U_.vm ∧ U_.heap = h0) (fun _ _ _ _ _ => True) (fun _ U_ o_ U1_ => ∃ v_ L_, o_ = .returned v_ ∧ own_QN Z  h0 n0 v_ U1_.heap L_ ∧ FrameEnd U_ o_ U1_ L_ ({ frames := 1, cells := 1, slots := 32, locals := 12 } : Room).cells ({ frames := 1, cells := 1, slots := 32, locals := 12 } : Room).slots) := by
  refine MetFree.of_bodySF (plainFor_of_name pn_36) hisR ?_
  intro p e s m args below meth c s₁ Bd hml0 hP hK
  obtain ⟨rfl, hZ, hh⟩ := hP
  have hx := Bd.exec
  have hby := Bd.bytes
  have hml : c.maxLocals = 1 := hml0
  have hown : s.vm.findClass "java/lang/StringUTF16" = some m.cls := findClass_of_methodNamed Bd.named
  have hnm := (name_of_methodNamed Bd.named Bd.method).1
  have X0 : Stand p l e ({ frames := 1, cells := 1, slots := 32, locals := 12 } : Room) s m #[(.int 16)] below meth c s₁ [] 0 0 := Stand.of_body Bd
  have e0 : s₁.heap = h0 := by rw [← hh, Bd.state]; rfl
  have N0 := Fr.nil n0
  have pre0 : ∀ tt, Steps p.tables e below (s₁.setTop (mkF m 0 #[.val (.int 16)] [])) tt → Steps p.tables e below (s₁.setTop (entryFrame m #[(.int 16)] 1)) tt := fun tt kk => castTop (ef_36_r m (16 : Int32)) kk
  obtain ⟨_, _, ⟨T1, L1, k1, n1⟩, -, X1, ⟨Lc1, hQ1, l1, y1, z1⟩, st1⟩ := Jvm.LawKit.callS X0 hx (y := (⟨"java/lang/StringUTF16", "newBytesLength", "(I)I"⟩ : MethodName)) hown (mvT hZ (hw _ (tk 192 rfl))) (mvT hZ (hw _ (tk 193 rfl))) (mvT hZ (hw _ (tk 190 rfl))) (mvT hZ (hw _ (tk 194 rfl))) (by decide) (backOf (W := 0) (rmNBL l Z a0 hw []  h0 n0 Z0 ) hZ (hw _ (tk 194 rfl)) (hw _ (tk 190 rfl)) (by decide) (by decide)) (g := (mkF m 1 #[.val (.int 16)] [(.int 16)])) rfl (by rw [hml]; rfl) (argsL := [(.int 16)]) (rest := []) (lenOf pd__I_I rfl) rfl (by show 2 * 0 + _ ≤ _; exact Nat.le_of_eq rfl) (hb hby d36_1) (fun _ _ => ⟨rfl, e0, (by decide : 0 + 0 ≤ _), (by decide : 0 + 0 ≤ _)⟩)
  dsimp only [Pt.U, Pt.locs, Pt.cells, Pt.slots] at X1 l1 y1 z1 st1 hQ1
  subst l1 y1 z1
  obtain ⟨rfl, Nq1, eq1⟩ := hQ1
  have N1 := Fr.app N0 Nq1
  obtain ⟨T2, h2, k2, X2, e2, E2, A2, st2⟩ := newP X1 hx hZ (hw _ (tk 33 rfl)) eq1 (g := (mkF m 4 #[.val (.int 16)] [(.int (Int32.ofNat (2 * 16)))])) rfl (hb hby d36_4) rfl (by decide) (cap := 32) (by decide) (by decide) (by decide) (by decide)
  obtain ⟨b2, g2⟩ : ∃ z, z = h0.size := ⟨_, rfl⟩
  rw [← g2] at A2 st2
  have g_b2 : n0 ≤ b2 := Nat.le_trans Z0 (Nat.le_of_eq g2.symm)
  have sz_b2 : h0.size ≤ b2 := Nat.le_trans (Nat.le_refl _) (Nat.le_of_eq g2.symm)
  have V2 : Arv Z h2 b2 k2 .byte (Int32.ofNat (2 * 16)) (own_wide []) (.int 0) := Arv.new A2 (by decide)
  obtain ⟨fs, hr, hrun, hended, hW, hsame⟩ := X2.leave (v := some (.ref b2)) (fun h => by rw [Bd.returns] at h; cases h)
  refine ⟨_, _, pre0 _ ?_, hrun, hended, _, _, rfl, ?_, ⟨_, rfl⟩, hW, hsame.mono (by decide) (by decide)⟩
  · show Steps p.tables e below (s₁.setTop (mkF m 0 #[.val (.int 16)] [])) _
    refine XS.iloadN X0.here hx rfl (hb hby d36_0) rfl ?_
    show Steps p.tables e below (s₁.setTop (mkF m 1 #[.val (.int 16)] [(.int 16)])) _
    refine st1 _ ?_
    show Steps p.tables e below (T1.setTop (mkF m 4 #[.val (.int 16)] [(.int (Int32.ofNat (2 * 16)))])) _
    refine st2 _ ?_
    show Steps p.tables e below (T2.setTop (mkF m 6 #[.val (.int 16)] [(.ref b2)])) _
    jvm_step X2.here [X2.here.top, hx, (hb hby d36_6), X2.method', Bd.returns, Value.isRef, FieldType.isReference]
    first | (intro acts; rw [hr _ acts rfl rfl rfl]) | rw [hr _ _ rfl rfl rfl]
    exact Steps.refl _
  · show own_QN Z  h0 n0 _ T2.heap _
    rw [e2]
    exact ⟨b2, k2, rfl, N1, g_b2, sz_b2, ((Keep.refl h0 []).ext E2), V2⟩
theorem d12_0 : decode jdk_68_method_68_code 0 = .ok (.getstatic 18, 3) := by decide +kernel
theorem d12_3 : decode jdk_68_method_68_code 3 = .ok (.ifCond .eq 14, 3) := by decide +kernel
theorem d12_6 : decode jdk_68_method_68_code 6 = .ok (.aload_n 0, 1) := by decide +kernel
theorem d12_7 : decode jdk_68_method_68_code 7 = .ok (.getfield 22, 3) := by decide +kernel
theorem d12_10 : decode jdk_68_method_68_code 10 = .ok (.ifCond .ne 7, 3) := by decide +kernel
theorem d12_13 : decode jdk_68_method_68_code 13 = .ok (.iconst 1, 1) := by decide +kernel
theorem d12_14 : decode jdk_68_method_68_code 14 = .ok (.goto 4, 3) := by decide +kernel
theorem d12_18 : decode jdk_68_method_68_code 18 = .ok (.ireturn, 1) := by decide +kernel
theorem pn_12 : plainName "java/lang/AbstractStringBuilder" = true := by first | (simp [plainName, overriddenIn]; done) | decide +kernel
theorem ef_12_r (m : MethodId) (x0 : Addr) : entryFrame m #[(.ref x0)] 1 = mkF m 0 #[.val (.ref x0)] [] := by first | (simp [entryFrame, mkF, argsToLocals, Value.category]; done) | rfl
set_option maxRecDepth 65536 in
set_option maxHeartbeats 40000000 in
theorem rmIL0 (l : Launch) (Z : State) (a0 : Array Value) (hw : ∀ d ∈ tables_1, d.before a0 Z = true) (ws : List Jvm.Cond) (G1 : Int32) (G3 : Value) (G4 : Value) (a : Addr) (h0 : Heap) (n0 : Nat) (Z0 : n0 ≤ h0.size) (EN : own_env Z G1 G3 G4) (X00 : Old Z n0 h0) (E_a : Exa Z h0 a "java/lang/StringBuilder") (F_coder_a : Fld Z h0 a "java/lang/AbstractStringBuilder" "coder" "B" (.int 0)) :
    MetFree l (⟨"java/lang/AbstractStringBuilder", "isLatin1", "()Z"⟩ : MethodName) (head1 (Jvm.Cond.code (⟨"java/lang/AbstractStringBuilder", "isLatin1", "()Z"⟩ : MethodName) jdk_68_method_68_code 1 (some .boolean) :: ws) ({ frames := 0, cells := 0, slots := 0, locals := 0 } : Room)) (fun a_ U_ => a_ = #[(.ref a)] ∧ Z.Warmed39 U_.vm ∧ U_.heap = h0) (fun _ _ _ _ _ => True) (fun _ U_ o_ U1_ => ∃ v_ L_, o_ = .returned v_ ∧ own_Q Z (some (.int 1)) h0 n0 v_ U1_.heap L_ ∧ FrameEnd U_ o_ U1_ L_ ({ frames := 0, cells := 0, slots := 0, locals := 0 } : Room).cells ({ frames := 0, cells := 0, slots := 0, locals := 0 } : Room).slots) := by
  refine MetFree.of_bodySF (plainFor_of_name pn_12) hisR ?_
  intro p e s m args below meth c s₁ Bd hml0 hP hK
  obtain ⟨rfl, hZ, hh⟩ := hP
  have hx := Bd.exec
  have hby := Bd.bytes
  have hml : c.maxLocals = 1 := hml0
  have hown : s.vm.findClass "java/lang/AbstractStringBuilder" = some m.cls := findClass_of_methodNamed Bd.named
  have hnm := (name_of_methodNamed Bd.named Bd.method).1
  have X0 : Stand p l e ({ frames := 0, cells := 0, slots := 0, locals := 0 } : Room) s m #[(.ref a)] below meth c s₁ [] 0 0 := Stand.of_body Bd
  have e0 : s₁.heap = h0 := by rw [← hh, Bd.state]; rfl
  have N0 := Fr.nil n0
  have pre0 : ∀ tt, Steps p.tables e below (s₁.setTop (mkF m 0 #[.val (.ref a)] [])) tt → Steps p.tables e below (s₁.setTop (entryFrame m #[(.ref a)] 1)) tt := fun tt kk => castTop (ef_12_r m a) kk
  have EN0 := EN
  obtain ⟨O2, P5, O4, rG3, O5, rG4, O6, O7, O8⟩ := EN
  obtain ⟨T1, X1, e1, st1⟩ := getS2 X0 hx hZ hown (host := "") (Or.inl (hw _ (tk 31 rfl))) Via.refl e0 (Sta.ext X00.2 O2) (g := (mkF m 0 #[.val (.ref a)] [])) rfl (hb hby d12_0)
  obtain ⟨T2, X2, e2, st2⟩ := getF X1 hx hZ hown (host := "") (Or.inl (hw _ (tk 36 rfl))) Via.refl e1 F_coder_a (g := (mkF m 7 #[.val (.ref a)] [(.ref a)])) rfl rfl (hb hby d12_7)
  obtain ⟨fs, hr, hrun, hended, hW, hsame⟩ := X2.leave (v := some (.int 1)) (fun h => by rw [Bd.returns] at h; cases h)
  refine ⟨_, _, pre0 _ ?_, hrun, hended, _, _, rfl, ?_, ⟨_, rfl⟩, hW, hsame.mono (by decide) (by decide)⟩
  · show Steps p.tables e below (s₁.setTop (mkF m 0 #[.val (.ref a)] [])) _
    refine st1 _ ?_
    show Steps p.tables e below (T1.setTop (mkF m 3 #[.val (.ref a)] [(.int G1)])) _
    refine XS.ifNo X1.here hx rfl (hb hby d12_3) rfl ((if0 _ _).trans (feq P5).1) ?_
    refine XS.aloadN X1.here hx rfl (hb hby d12_6) rfl rfl ?_
    show Steps p.tables e below (T1.setTop (mkF m 7 #[.val (.ref a)] [(.ref a)])) _
    refine st2 _ ?_
    show Steps p.tables e below (T2.setTop (mkF m 10 #[.val (.ref a)] [(.int 0)])) _
    refine XS.ifNo X2.here hx rfl (hb hby d12_10) rfl ((if0 _ _).trans (teq (by decide : (0 : Int32) = (0 : Int32))).2) ?_
    refine XS.iconst X2.here hx rfl (hb hby d12_13) ?_
    refine XS.goto X2.here hx rfl (pc0 := 14) (pc' := 18) rfl (hb hby d12_14) (by decide) (by decide) ?_
    show Steps p.tables e below (T2.setTop (mkF m 18 #[.val (.ref a)] [(.int 1)])) _
    exact retN X2 hx (t := .boolean) Bd.returns (by simp) (hb hby d12_18) hr
  · show own_Q Z (some (.int 1)) h0 n0 _ T2.heap _
    rw [e2]
    exact ⟨rfl, N0, rfl⟩
theorem d12_17 : decode jdk_68_method_68_code 17 = .ok (.iconst 0, 1) := by decide +kernel
set_option maxRecDepth 65536 in
set_option maxHeartbeats 40000000 in
theorem rmIL1 (l : Launch) (Z : State) (a0 : Array Value) (hw : ∀ d ∈ tables_1, d.before a0 Z = true) (ws : List Jvm.Cond) (G1 : Int32) (G3 : Value) (G4 : Value) (a : Addr) (h0 : Heap) (n0 : Nat) (Z0 : n0 ≤ h0.size) (EN : own_env Z G1 G3 G4) (X00 : Old Z n0 h0) (E_a : Exa Z h0 a "java/lang/StringBuilder") (F_coder_a : Fld Z h0 a "java/lang/AbstractStringBuilder" "coder" "B" (.int 1)) :
    MetFree l (⟨"java/lang/AbstractStringBuilder", "isLatin1", "()Z"⟩ : MethodName) (head1 (Jvm.Cond.code (⟨"java/lang/AbstractStringBuilder", "isLatin1", "()Z"⟩ : MethodName) jdk_68_method_68_code 1 (some .boolean) :: ws) ({ frames := 0, cells := 0, slots := 0, locals := 0 } : Room)) (fun a_ U_ => a_ = #[(.ref a)] ∧ Z.Warmed39 U_.vm ∧ U_.heap = h0) (fun _ _ _ _ _ => True) (fun _ U_ o_ U1_ => ∃ v_ L_, o_ = .returned v_ ∧ own_Q Z (some (.int 0)) h0 n0 v_ U1_.heap L_ ∧ FrameEnd U_ o_ U1_ L_ ({ frames := 0, cells := 0, slots := 0, locals := 0 } : Room).cells ({ frames := 0, cells := 0, slots := 0, locals := 0 } : Room).slots) := by
  refine MetFree.of_bodySF (plainFor_of_name pn_12) hisR ?_
  intro p e s m args below meth c s₁ Bd hml0 hP hK
  obtain ⟨rfl, hZ, hh⟩ := hP
  have hx := Bd.exec
  have hby := Bd.bytes
  have hml : c.maxLocals = 1 := hml0
  have hown : s.vm.findClass "java/lang/AbstractStringBuilder" = some m.cls := findClass_of_methodNamed Bd.named
  have hnm := (name_of_methodNamed Bd.named Bd.method).1
  have X0 : Stand p l e ({ frames := 0, cells := 0, slots := 0, locals := 0 } : Room) s m #[(.ref a)] below meth c s₁ [] 0 0 := Stand.of_body Bd
  have e0 : s₁.heap = h0 := by rw [← hh, Bd.state]; rfl
  have N0 := Fr.nil n0
  have pre0 : ∀ tt, Steps p.tables e below (s₁.setTop (mkF m 0 #[.val (.ref a)] [])) tt → Steps p.tables e below (s₁.setTop (entryFrame m #[(.ref a)] 1)) tt := fun tt kk => castTop (ef_12_r m a) kk
  have EN0 := EN
  obtain ⟨O2, P5, O4, rG3, O5, rG4, O6, O7, O8⟩ := EN
  obtain ⟨T1, X1, e1, st1⟩ := getS2 X0 hx hZ hown (host := "") (Or.inl (hw _ (tk 31 rfl))) Via.refl e0 (Sta.ext X00.2 O2) (g := (mkF m 0 #[.val (.ref a)] [])) rfl (hb hby d12_0)
  obtain ⟨T2, X2, e2, st2⟩ := getF X1 hx hZ hown (host := "") (Or.inl (hw _ (tk 36 rfl))) Via.refl e1 F_coder_a (g := (mkF m 7 #[.val (.ref a)] [(.ref a)])) rfl rfl (hb hby d12_7)
  obtain ⟨fs, hr, hrun, hended, hW, hsame⟩ := X2.leave (v := some (.int 0)) (fun h => by rw [Bd.returns] at h; cases h)
  refine ⟨_, _, pre0 _ ?_, hrun, hended, _, _, rfl, ?_, ⟨_, rfl⟩, hW, hsame.mono (by decide) (by decide)⟩
  · show Steps p.tables e below (s₁.setTop (mkF m 0 #[.val (.ref a)] [])) _
    refine st1 _ ?_
    show Steps p.tables e below (T1.setTop (mkF m 3 #[.val (.ref a)] [(.int G1)])) _
    refine XS.ifNo X1.here hx rfl (hb hby d12_3) rfl ((if0 _ _).trans (feq P5).1) ?_
    refine XS.aloadN X1.here hx rfl (hb hby d12_6) rfl rfl ?_
    show Steps p.tables e below (T1.setTop (mkF m 7 #[.val (.ref a)] [(.ref a)])) _
    refine st2 _ ?_
    show Steps p.tables e below (T2.setTop (mkF m 10 #[.val (.ref a)] [(.int 1)])) _
    refine XS.ifYes X2.here hx rfl (pc0 := 10) (pc' := 17) rfl (hb hby d12_10) rfl ((if0 _ _).trans (feq (by decide : ¬ ((1 : Int32) = (0 : Int32)))).2) (by decide) (by decide) ?_
    refine XS.iconst X2.here hx rfl (hb hby d12_17) ?_
    show Steps p.tables e below (T2.setTop (mkF m 18 #[.val (.ref a)] [(.int 0)])) _
    exact retN X2 hx (t := .boolean) Bd.returns (by simp) (hb hby d12_18) hr
  · show own_Q Z (some (.int 0)) h0 n0 _ T2.heap _
    rw [e2]
    exact ⟨rfl, N0, rfl⟩
theorem d13_0 : decode jdk_43_method_3_code 0 = .ok (.iload_n 0, 1) := by decide +kernel
theorem d13_1 : decode jdk_43_method_3_code 1 = .ok (.sipush 255, 3) := by decide +kernel
theorem d13_4 : decode jdk_43_method_3_code 4 = .ok (.if_icmp .gt 7, 3) := by decide +kernel
theorem d13_7 : decode jdk_43_method_3_code 7 = .ok (.iconst 1, 1) := by decide +kernel
theorem d13_8 : decode jdk_43_method_3_code 8 = .ok (.goto 4, 3) := by decide +kernel
theorem d13_12 : decode jdk_43_method_3_code 12 = .ok (.ireturn, 1) := by decide +kernel
theorem pn_13 : plainName "java/lang/StringLatin1" = true := by first | (simp [plainName, overriddenIn]; done) | decide +kernel
theorem ef_13_r (m : MethodId) (x0 : Int32) : entryFrame m #[(.int x0)] 1 = mkF m 0 #[.val (.int x0)] [] := by first | (simp [entryFrame, mkF, argsToLocals, Value.category]; done) | rfl
set_option maxRecDepth 65536 in
set_option maxHeartbeats 40000000 in
theorem rmCE1 (l : Launch) (Z : State) (a0 : Array Value) (hw : ∀ d ∈ tables_1, d.before a0 Z = true) (ws : List Jvm.Cond) (ch : Int32) (h0 : Heap) (n0 : Nat) (Z0 : n0 ≤ h0.size) (hc4 : ¬ ((255 : Int32) < ch)) :
    MetFree l (⟨"java/lang/StringLatin1", "canEncode", "(C)Z"⟩ : MethodName) (head1 (Jvm.Cond.code (⟨"java/lang/StringLatin1", "canEncode", "(C)Z"⟩ : MethodName) jdk_43_method_3_code 1 (some .boolean) :: ws) ({ frames := 0, cells := 0, slots := 0, locals := 0 } : Room)) (fun a_ U_ => a_ = #[(.int ch)] ∧ Z.Warmed39 U_.vm ∧ U_.heap = h0) (fun _ _ _ _ _ => True) (fun _ U_ o_ U1_ => ∃ v_ L_, o_ = .returned v_ ∧ own_Q Z (some (.int 1)) h0 n0 v_ U1_.heap L_ ∧ FrameEnd U_ o_ U1_ L_ ({ frames := 0, cells := 0, slots := 0, locals := 0 } : Room).cells ({ frames := 0, cells := 0, slots := 0, locals := 0 } : Room).slots) := by
  refine MetFree.of_bodySF (plainFor_of_name pn_13) hisR ?_
  intro p e s m args below meth c s₁ Bd hml0 hP hK
  obtain ⟨rfl, hZ, hh⟩ := hP
  have hx := Bd.exec
  have hby := Bd.bytes
  have hml : c.maxLocals = 1 := hml0
  have hown : s.vm.findClass "java/lang/StringLatin1" = some m.cls := findClass_of_methodNamed Bd.named
  have hnm := (name_of_methodNamed Bd.named Bd.method).1
  have X0 : Stand p l e ({ frames := 0, cells := 0, slots := 0, locals := 0 } : Room) s m #[(.int ch)] below meth c s₁ [] 0 0 := Stand.of_body Bd
  have e0 : s₁.heap = h0 := by rw [← hh, Bd.state]; rfl
  have N0 := Fr.nil n0
  have pre0 : ∀ tt, Steps p.tables e below (s₁.setTop (mkF m 0 #[.val (.int ch)] [])) tt → Steps p.tables e below (s₁.setTop (entryFrame m #[(.int ch)] 1)) tt := fun tt kk => castTop (ef_13_r m ch) kk
  obtain ⟨fs, hr, hrun, hended, hW, hsame⟩ := X0.leave (v := some (.int 1)) (fun h => by rw [Bd.returns] at h; cases h)
  refine ⟨_, _, pre0 _ ?_, hrun, hended, _, _, rfl, ?_, ⟨_, rfl⟩, hW, hsame.mono (by decide) (by decide)⟩
  · show Steps p.tables e below (s₁.setTop (mkF m 0 #[.val (.int ch)] [])) _
    refine XS.iloadN X0.here hx rfl (hb hby d13_0) rfl ?_
    refine XS.sipush X0.here hx rfl (hb hby d13_1) ?_
    refine XS.icmpNo X0.here hx rfl (hb hby d13_4) rfl (flt hc4).2.2.1 ?_
    refine XS.iconst X0.here hx rfl (hb hby d13_7) ?_
    refine XS.goto X0.here hx rfl (pc0 := 8) (pc' := 12) rfl (hb hby d13_8) (by decide) (by decide) ?_
    show Steps p.tables e below (s₁.setTop (mkF m 12 #[.val (.int ch)] [(.int 1)])) _
    exact retN X0 hx (t := .boolean) Bd.returns (by simp) (hb hby d13_12) hr
  · show own_Q Z (some (.int 1)) h0 n0 _ s₁.heap _
    rw [e0]
    exact ⟨rfl, N0, rfl⟩
theorem d13_11 : decode jdk_43_method_3_code 11 = .ok (.iconst 0, 1) := by decide +kernel
set_option maxRecDepth 65536 in
set_option maxHeartbeats 40000000 in
theorem rmCE0 (l : Launch) (Z : State) (a0 : Array Value) (hw : ∀ d ∈ tables_1, d.before a0 Z = true) (ws : List Jvm.Cond) (ch : Int32) (h0 : Heap) (n0 : Nat) (Z0 : n0 ≤ h0.size) (hc4 : (255 : Int32) < ch) :
    MetFree l (⟨"java/lang/StringLatin1", "canEncode", "(C)Z"⟩ : MethodName) (head1 (Jvm.Cond.code (⟨"java/lang/StringLatin1", "canEncode", "(C)Z"⟩ : MethodName) jdk_43_method_3_code 1 (some .boolean) :: ws) ({ frames := 0, cells := 0, slots := 0, locals := 0 } : Room)) (fun a_ U_ => a_ = #[(.int ch)] ∧ Z.Warmed39 U_.vm ∧ U_.heap = h0) (fun _ _ _ _ _ => True) (fun _ U_ o_ U1_ => ∃ v_ L_, o_ = .returned v_ ∧ own_Q Z (some (.int 0)) h0 n0 v_ U1_.heap L_ ∧ FrameEnd U_ o_ U1_ L_ ({ frames := 0, cells := 0, slots := 0, locals := 0 } : Room).cells ({ frames := 0, cells := 0, slots := 0, locals := 0 } : Room).slots) := by
  refine MetFree.of_bodySF (plainFor_of_name pn_13) hisR ?_
  intro p e s m args below meth c s₁ Bd hml0 hP hK
  obtain ⟨rfl, hZ, hh⟩ := hP
  have hx := Bd.exec
  have hby := Bd.bytes
  have hml : c.maxLocals = 1 := hml0
  have hown : s.vm.findClass "java/lang/StringLatin1" = some m.cls := findClass_of_methodNamed Bd.named
  have hnm := (name_of_methodNamed Bd.named Bd.method).1
  have X0 : Stand p l e ({ frames := 0, cells := 0, slots := 0, locals := 0 } : Room) s m #[(.int ch)] below meth c s₁ [] 0 0 := Stand.of_body Bd
  have e0 : s₁.heap = h0 := by rw [← hh, Bd.state]; rfl
  have N0 := Fr.nil n0
  have pre0 : ∀ tt, Steps p.tables e below (s₁.setTop (mkF m 0 #[.val (.int ch)] [])) tt → Steps p.tables e below (s₁.setTop (entryFrame m #[(.int ch)] 1)) tt := fun tt kk => castTop (ef_13_r m ch) kk
  obtain ⟨fs, hr, hrun, hended, hW, hsame⟩ := X0.leave (v := some (.int 0)) (fun h => by rw [Bd.returns] at h; cases h)
  refine ⟨_, _, pre0 _ ?_, hrun, hended, _, _, rfl, ?_, ⟨_, rfl⟩, hW, hsame.mono (by decide) (by decide)⟩
  · show Steps p.tables e below (s₁.setTop (mkF m 0 #[.val (.int ch)] [])) _
    refine XS.iloadN X0.here hx rfl (hb hby d13_0) rfl ?_
    refine XS.sipush X0.here hx rfl (hb hby d13_1) ?_
    refine XS.icmpYes X0.here hx rfl (pc0 := 4) (pc' := 11) rfl (hb hby d13_4) rfl (tlt hc4).2.2.1 (by decide) (by decide) ?_
    refine XS.iconst X0.here hx rfl (hb hby d13_11) ?_
    show Steps p.tables e below (s₁.setTop (mkF m 12 #[.val (.int ch)] [(.int 0)])) _
    exact retN X0 hx (t := .boolean) Bd.returns (by simp) (hb hby d13_12) hr
  · show own_Q Z (some (.int 0)) h0 n0 _ s₁.heap _
    rw [e0]
    exact ⟨rfl, N0, rfl⟩
theorem d10_0 : decode jdk_68_method_9_code 0 = .ok (.aload_n 0, 1) := by decide +kernel
theorem d10_1 : decode jdk_68_method_9_code 1 = .ok (.getfield 15, 3) := by decide +kernel
theorem d10_4 : decode jdk_68_method_9_code 4 = .ok (.arraylength, 1) := by decide +kernel
theorem d10_5 : decode jdk_68_method_9_code 5 = .ok (.aload_n 0, 1) := by decide +kernel
theorem d10_6 : decode jdk_68_method_9_code 6 = .ok (.getfield 22, 3) := by decide +kernel
theorem d10_9 : decode jdk_68_method_9_code 9 = .ok (.ishr, 1) := by decide +kernel
theorem d10_10 : decode jdk_68_method_9_code 10 = .ok (.istore_n 2, 1) := by decide +kernel
theorem d10_11 : decode jdk_68_method_9_code 11 = .ok (.iload_n 1, 1) := by decide +kernel
theorem d10_12 : decode jdk_68_method_9_code 12 = .ok (.iload_n 2, 1) := by decide +kernel
theorem d10_13 : decode jdk_68_method_9_code 13 = .ok (.isub, 1) := by decide +kernel
theorem d10_14 : decode jdk_68_method_9_code 14 = .ok (.ifCond .le 24, 3) := by decide +kernel
theorem d10_38 : decode jdk_68_method_9_code 38 = .ok (.return_, 1) := by decide +kernel
theorem pn_10 : plainName "java/lang/AbstractStringBuilder" = true := by first | (simp [plainName, overriddenIn]; done) | decide +kernel
theorem ef_10_rr (m : MethodId) (x0 : Addr) (x1 : Int32) : entryFrame m #[(.ref x0), (.int x1)] 3 = mkF m 0 #[.val (.ref x0), .val (.int x1), .unset] [] := by first | (simp [entryFrame, mkF, argsToLocals, Value.category]; done) | rfl
set_option maxRecDepth 65536 in
set_option maxHeartbeats 40000000 in
theorem rmEC0 (l : Launch) (Z : State) (a0 : Array Value) (hw : ∀ d ∈ tables_1, d.before a0 Z = true) (ws : List Jvm.Cond) (a : Addr) (p1 : Int32) (t : Addr) (k : ClassId) (vs : List Value) (h0 : Heap) (n0 : Nat) (Z0 : n0 ≤ h0.size) (E_a : Exa Z h0 a "java/lang/StringBuilder") (F_value_a : Fld Z h0 a "java/lang/AbstractStringBuilder" "value" "[B" (.ref t)) (F_coder_a : Fld Z h0 a "java/lang/AbstractStringBuilder" "coder" "B" (.int 0)) (V_t : Arv Z h0 t k .byte (Int32.ofNat 16) vs (.int 0)) (hcap : ¬ ((0 : Int32) < (p1 - (Int32.ofNat 16)))) :
    MetFree l (⟨"java/lang/AbstractStringBuilder", "ensureCapacityInternal", "(I)V"⟩ : MethodName) (head1 (Jvm.Cond.code (⟨"java/lang/AbstractStringBuilder", "ensureCapacityInternal", "(I)V"⟩ : MethodName) jdk_68_method_9_code 3 none :: ws) ({ frames := 0, cells := 0, slots := 0, locals := 0 } : Room)) (fun a_ U_ => a_ = #[(.ref a), (.int p1)] ∧ Z.Warmed39 U_.vm ∧ U_.heap = h0) (fun _ _ _ _ _ => True) (fun _ U_ o_ U1_ => ∃ v_ L_, o_ = .returned v_ ∧ own_Q Z none h0 n0 v_ U1_.heap L_ ∧ FrameEnd U_ o_ U1_ L_ ({ frames := 0, cells := 0, slots := 0, locals := 0 } : Room).cells ({ frames := 0, cells := 0, slots := 0, locals := 0 } : Room).slots) := by
  refine MetFree.of_bodySF (plainFor_of_name pn_10) hisR ?_
  intro p e s m args below meth c s₁ Bd hml0 hP hK
  obtain ⟨rfl, hZ, hh⟩ := hP
  have hx := Bd.exec
  have hby := Bd.bytes
  have hml : c.maxLocals = 3 := hml0
  have hown : s.vm.findClass "java/lang/AbstractStringBuilder" = some m.cls := findClass_of_methodNamed Bd.named
  have hnm := (name_of_methodNamed Bd.named Bd.method).1
  have X0 : Stand p l e ({ frames := 0, cells := 0, slots := 0, locals := 0 } : Room) s m #[(.ref a), (.int p1)] below meth c s₁ [] 0 0 := Stand.of_body Bd
  have e0 : s₁.heap = h0 := by rw [← hh, Bd.state]; rfl
  have N0 := Fr.nil n0
  have pre0 : ∀ tt, Steps p.tables e below (s₁.setTop (mkF m 0 #[.val (.ref a), .val (.int p1), .unset] [])) tt → Steps p.tables e below (s₁.setTop (entryFrame m #[(.ref a), (.int p1)] 3)) tt := fun tt kk => castTop (ef_10_rr m a p1) kk
  obtain ⟨T1, X1, e1, st1⟩ := getF X0 hx hZ hown (host := "") (Or.inl (hw _ (tk 34 rfl))) Via.refl e0 F_value_a (g := (mkF m 1 #[.val (.ref a), .val (.int p1), .unset] [(.ref a)])) rfl rfl (hb hby d10_1)
  obtain ⟨c2, Ar2, -, S2, M2, -, -⟩ := id V_t
  obtain ⟨T3, X3, e3, st3⟩ := getF X1 hx hZ hown (host := "") (Or.inl (hw _ (tk 36 rfl))) Via.refl e1 F_coder_a (g := (mkF m 6 #[.val (.ref a), .val (.int p1), .unset] [(.ref a), (.int (Int32.ofNat 16))])) rfl rfl (hb hby d10_6)
  obtain ⟨fs, hr, hrun, hended, hW, hsame⟩ := X3.leave (v := none) (fun _ => rfl)
  refine ⟨_, _, pre0 _ ?_, hrun, hended, _, _, rfl, ?_, ⟨_, rfl⟩, hW, hsame.mono (by decide) (by decide)⟩
  · show Steps p.tables e below (s₁.setTop (mkF m 0 #[.val (.ref a), .val (.int p1), .unset] [])) _
    refine XS.aloadN X0.here hx rfl (hb hby d10_0) rfl rfl ?_
    show Steps p.tables e below (s₁.setTop (mkF m 1 #[.val (.ref a), .val (.int p1), .unset] [(.ref a)])) _
    refine st1 _ ?_
    show Steps p.tables e below (T1.setTop (mkF m 4 #[.val (.ref a), .val (.int p1), .unset] [(.ref t)])) _
    refine X1.arraylength hx (by rw [e1]; exact Ar2.1) (State.isArrayOf_alike hZ.alike Ar2.2.1) (g := (mkF m 4 #[.val (.ref a), .val (.int p1), .unset] [(.ref t)])) rfl rfl (hb hby d10_4) _ ?_
    rw [len_of S2 M2]
    show Steps p.tables e below (T1.setTop (mkF m 5 #[.val (.ref a), .val (.int p1), .unset] [(.int (Int32.ofNat 16))])) _
    refine XS.aloadN X1.here hx rfl (hb hby d10_5) rfl rfl ?_
    show Steps p.tables e below (T1.setTop (mkF m 6 #[.val (.ref a), .val (.int p1), .unset] [(.ref a), (.int (Int32.ofNat 16))])) _
    refine st3 _ ?_
    show Steps p.tables e below (T3.setTop (mkF m 9 #[.val (.ref a), .val (.int p1), .unset] [(.int 0), (.int (Int32.ofNat 16))])) _
    refine XS.ishr X3.here hx rfl (hb hby d10_9) rfl ?_
    show Steps p.tables e below (T3.setTop (mkF m 10 #[.val (.ref a), .val (.int p1), .unset] [(.int ((Int32.ofNat 16) >>> ((0 : Int32) &&& 31)))])) _
    rw [(by decide : ((Int32.ofNat 16) >>> ((0 : Int32) &&& 31)) = (Int32.ofNat 16))]
    show Steps p.tables e below (T3.setTop (mkF m 10 #[.val (.ref a), .val (.int p1), .unset] [(.int (Int32.ofNat 16))])) _
    refine XS.istoreN X3.here hx rfl (hb hby d10_10) rfl (l' := #[.val (.ref a), .val (.int p1), .val (.int (Int32.ofNat 16))]) rfl ?_
    refine XS.iloadN X3.here hx rfl (hb hby d10_11) rfl ?_
    refine XS.iloadN X3.here hx rfl (hb hby d10_12) rfl ?_
    refine XS.isub X3.here hx rfl (hb hby d10_13) rfl ?_
    refine XS.ifYes X3.here hx rfl (pc0 := 14) (pc' := 38) rfl (hb hby d10_14) rfl ((if0 _ _).trans (flt hcap).2.2.2) (by decide) (by decide) ?_
    show Steps p.tables e below (T3.setTop (mkF m 38 #[.val (.ref a), .val (.int p1), .val (.int (Int32.ofNat 16))] [])) _
    exact X3.returnOut hx Bd.returns (hb hby d10_38) hr
  · show own_Q Z none h0 n0 _ T3.heap _
    rw [e3]
    exact ⟨rfl, N0, rfl⟩
set_option maxRecDepth 65536 in
set_option maxHeartbeats 40000000 in
theorem rmEC1 (l : Launch) (Z : State) (a0 : Array Value) (hw : ∀ d ∈ tables_1, d.before a0 Z = true) (ws : List Jvm.Cond) (a : Addr) (p1 : Int32) (t : Addr) (k : ClassId) (vs : List Value) (h0 : Heap) (n0 : Nat) (Z0 : n0 ≤ h0.size) (E_a : Exa Z h0 a "java/lang/StringBuilder") (F_value_a : Fld Z h0 a "java/lang/AbstractStringBuilder" "value" "[B" (.ref t)) (F_coder_a : Fld Z h0 a "java/lang/AbstractStringBuilder" "coder" "B" (.int 1)) (V_t : Arv Z h0 t k .byte (Int32.ofNat (2 * 16)) vs (.int 0)) (hcap : ¬ ((0 : Int32) < (p1 - (Int32.ofNat 16)))) :
    MetFree l (⟨"java/lang/AbstractStringBuilder", "ensureCapacityInternal", "(I)V"⟩ : MethodName) (head1 (Jvm.Cond.code (⟨"java/lang/AbstractStringBuilder", "ensureCapacityInternal", "(I)V"⟩ : MethodName) jdk_68_method_9_code 3 none :: ws) ({ frames := 0, cells := 0, slots := 0, locals := 0 } : Room)) (fun a_ U_ => a_ = #[(.ref a), (.int p1)] ∧ Z.Warmed39 U_.vm ∧ U_.heap = h0) (fun _ _ _ _ _ => True) (fun _ U_ o_ U1_ => ∃ v_ L_, o_ = .returned v_ ∧ own_Q Z none h0 n0 v_ U1_.heap L_ ∧ FrameEnd U_ o_ U1_ L_ ({ frames := 0, cells := 0, slots := 0, locals := 0 } : Room).cells ({ frames := 0, cells := 0, slots := 0, locals := 0 } : Room).slots) := by
  refine MetFree.of_bodySF (plainFor_of_name pn_10) hisR ?_
  intro p e s m args below meth c s₁ Bd hml0 hP hK
  obtain ⟨rfl, hZ, hh⟩ := hP
  have hx := Bd.exec
  have hby := Bd.bytes
  have hml : c.maxLocals = 3 := hml0
  have hown : s.vm.findClass "java/lang/AbstractStringBuilder" = some m.cls := findClass_of_methodNamed Bd.named
  have hnm := (name_of_methodNamed Bd.named Bd.method).1
  have X0 : Stand p l e ({ frames := 0, cells := 0, slots := 0, locals := 0 } : Room) s m #[(.ref a), (.int p1)] below meth c s₁ [] 0 0 := Stand.of_body Bd
  have e0 : s₁.heap = h0 := by rw [← hh, Bd.state]; rfl
  have N0 := Fr.nil n0
  have pre0 : ∀ tt, Steps p.tables e below (s₁.setTop (mkF m 0 #[.val (.ref a), .val (.int p1), .unset] [])) tt → Steps p.tables e below (s₁.setTop (entryFrame m #[(.ref a), (.int p1)] 3)) tt := fun tt kk => castTop (ef_10_rr m a p1) kk
  obtain ⟨T1, X1, e1, st1⟩ := getF X0 hx hZ hown (host := "") (Or.inl (hw _ (tk 34 rfl))) Via.refl e0 F_value_a (g := (mkF m 1 #[.val (.ref a), .val (.int p1), .unset] [(.ref a)])) rfl rfl (hb hby d10_1)
  obtain ⟨c2, Ar2, -, S2, M2, -, -⟩ := id V_t
  obtain ⟨T3, X3, e3, st3⟩ := getF X1 hx hZ hown (host := "") (Or.inl (hw _ (tk 36 rfl))) Via.refl e1 F_coder_a (g := (mkF m 6 #[.val (.ref a), .val (.int p1), .unset] [(.ref a), (.int (Int32.ofNat (2 * 16)))])) rfl rfl (hb hby d10_6)
  obtain ⟨fs, hr, hrun, hended, hW, hsame⟩ := X3.leave (v := none) (fun _ => rfl)
  refine ⟨_, _, pre0 _ ?_, hrun, hended, _, _, rfl, ?_, ⟨_, rfl⟩, hW, hsame.mono (by decide) (by decide)⟩
  · show Steps p.tables e below (s₁.setTop (mkF m 0 #[.val (.ref a), .val (.int p1), .unset] [])) _
    refine XS.aloadN X0.here hx rfl (hb hby d10_0) rfl rfl ?_
    show Steps p.tables e below (s₁.setTop (mkF m 1 #[.val (.ref a), .val (.int p1), .unset] [(.ref a)])) _
    refine st1 _ ?_
    show Steps p.tables e below (T1.setTop (mkF m 4 #[.val (.ref a), .val (.int p1), .unset] [(.ref t)])) _
    refine X1.arraylength hx (by rw [e1]; exact Ar2.1) (State.isArrayOf_alike hZ.alike Ar2.2.1) (g := (mkF m 4 #[.val (.ref a), .val (.int p1), .unset] [(.ref t)])) rfl rfl (hb hby d10_4) _ ?_
    rw [len_of S2 M2]
    show Steps p.tables e below (T1.setTop (mkF m 5 #[.val (.ref a), .val (.int p1), .unset] [(.int (Int32.ofNat (2 * 16)))])) _
    refine XS.aloadN X1.here hx rfl (hb hby d10_5) rfl rfl ?_
    show Steps p.tables e below (T1.setTop (mkF m 6 #[.val (.ref a), .val (.int p1), .unset] [(.ref a), (.int (Int32.ofNat (2 * 16)))])) _
    refine st3 _ ?_
    show Steps p.tables e below (T3.setTop (mkF m 9 #[.val (.ref a), .val (.int p1), .unset] [(.int 1), (.int (Int32.ofNat (2 * 16)))])) _
    refine XS.ishr X3.here hx rfl (hb hby d10_9) rfl ?_
    show Steps p.tables e below (T3.setTop (mkF m 10 #[.val (.ref a), .val (.int p1), .unset] [(.int ((Int32.ofNat (2 * 16)) >>> ((1 : Int32) &&& 31)))])) _
    rw [(by decide : ((Int32.ofNat (2 * 16)) >>> ((1 : Int32) &&& 31)) = (Int32.ofNat 16))]
    show Steps p.tables e below (T3.setTop (mkF m 10 #[.val (.ref a), .val (.int p1), .unset] [(.int (Int32.ofNat 16))])) _
    refine XS.istoreN X3.here hx rfl (hb hby d10_10) rfl (l' := #[.val (.ref a), .val (.int p1), .val (.int (Int32.ofNat 16))]) rfl ?_
    refine XS.iloadN X3.here hx rfl (hb hby d10_11) rfl ?_
    refine XS.iloadN X3.here hx rfl (hb hby d10_12) rfl ?_
    refine XS.isub X3.here hx rfl (hb hby d10_13) rfl ?_
    refine XS.ifYes X3.here hx rfl (pc0 := 14) (pc' := 38) rfl (hb hby d10_14) rfl ((if0 _ _).trans (flt hcap).2.2.2) (by decide) (by decide) ?_
    show Steps p.tables e below (T3.setTop (mkF m 38 #[.val (.ref a), .val (.int p1), .val (.int (Int32.ofNat 16))] [])) _
    exact X3.returnOut hx Bd.returns (hb hby d10_38) hr
  · show own_Q Z none h0 n0 _ T3.heap _
    rw [e3]
    exact ⟨rfl, N0, rfl⟩
def own_QI (Z : State) (a : Addr) (cs : List Int32) (h0 : Heap) (n0 : Nat) (v : Option Value) (h : Heap) (L : List Loc) : Prop := ∃ (t : Addr) (k : ClassId), v = none ∧ Fr n0 L ∧ n0 ≤ t ∧ h0.size ≤ t ∧ Keep h0 h [a] ∧ Exa Z h a "java/lang/StringBuilder" ∧ Fld Z h a "java/lang/AbstractStringBuilder" "value" "[B" (.ref t) ∧ Fld Z h a "java/lang/AbstractStringBuilder" "coder" "B" (.int 1) ∧ Fld Z h a "java/lang/AbstractStringBuilder" "count" "I" (.int (Int32.ofNat cs.length)) ∧ Fld Z h a "java/lang/AbstractStringBuilder" "maybeLatin1" "Z" (.int 0) ∧ Arv Z h t k .byte (Int32.ofNat (2 * 16)) (own_wide cs) (.int 0)
theorem d35_0 : decode jdk_68_method_11_code 0 = .ok (.aload_n 0, 1) := by decide +kernel
theorem pd___Z : parseMethodDescriptor "()Z" = some ⟨[], some .boolean⟩ := by decide +kernel
theorem d35_1 : decode jdk_68_method_11_code 1 = .ok (.invokevirtual 83, 3) := by decide +kernel
theorem d35_4 : decode jdk_68_method_11_code 4 = .ok (.ifCond .ne 4, 3) := by decide +kernel
theorem d35_8 : decode jdk_68_method_11_code 8 = .ok (.aload_n 0, 1) := by decide +kernel
theorem d35_9 : decode jdk_68_method_11_code 9 = .ok (.getfield 15, 3) := by decide +kernel
theorem d35_12 : decode jdk_68_method_11_code 12 = .ok (.arraylength, 1) := by decide +kernel
theorem pd__I__B : parseMethodDescriptor "(I)[B" = some ⟨[.int], some (.array .byte)⟩ := by decide +kernel
theorem d35_13 : decode jdk_68_method_11_code 13 = .ok (.invokestatic 26, 3) := by decide +kernel
theorem d35_16 : decode jdk_68_method_11_code 16 = .ok (.astore_n 1, 1) := by decide +kernel
theorem d35_17 : decode jdk_68_method_11_code 17 = .ok (.aload_n 0, 1) := by decide +kernel
theorem d35_18 : decode jdk_68_method_11_code 18 = .ok (.getfield 15, 3) := by decide +kernel
theorem d35_21 : decode jdk_68_method_11_code 21 = .ok (.iconst 0, 1) := by decide +kernel
theorem d35_22 : decode jdk_68_method_11_code 22 = .ok (.aload_n 1, 1) := by decide +kernel
theorem d35_23 : decode jdk_68_method_11_code 23 = .ok (.iconst 0, 1) := by decide +kernel
theorem d35_24 : decode jdk_68_method_11_code 24 = .ok (.aload_n 0, 1) := by decide +kernel
theorem d35_25 : decode jdk_68_method_11_code 25 = .ok (.getfield 79, 3) := by decide +kernel
theorem d35_28 : decode jdk_68_method_11_code 28 = .ok (.invokestatic 125, 3) := by decide +kernel
theorem d35_31 : decode jdk_68_method_11_code 31 = .ok (.aload_n 0, 1) := by decide +kernel
theorem d35_32 : decode jdk_68_method_11_code 32 = .ok (.aload_n 1, 1) := by decide +kernel
theorem d35_33 : decode jdk_68_method_11_code 33 = .ok (.putfield 15, 3) := by decide +kernel
theorem d35_36 : decode jdk_68_method_11_code 36 = .ok (.aload_n 0, 1) := by decide +kernel
theorem d35_37 : decode jdk_68_method_11_code 37 = .ok (.iconst 1, 1) := by decide +kernel
theorem d35_38 : decode jdk_68_method_11_code 38 = .ok (.putfield 22, 3) := by decide +kernel
theorem d35_41 : decode jdk_68_method_11_code 41 = .ok (.return_, 1) := by decide +kernel
theorem pn_35 : plainName "java/lang/AbstractStringBuilder" = true := by first | (simp [plainName, overriddenIn]; done) | decide +kernel
theorem ef_35_r (m : MethodId) (x0 : Addr) : entryFrame m #[(.ref x0)] 2 = mkF m 0 #[.val (.ref x0), .unset] [] := by first | (simp [entryFrame, mkF, argsToLocals, Value.category]; done) | rfl
set_option maxRecDepth 65536 in
set_option maxHeartbeats 40000000 in
theorem rmINF (l : Launch) (Z : State) (a0 : Array Value) (hw : ∀ d ∈ tables_1, d.before a0 Z = true) (ws : List Jvm.Cond) (G1 : Int32) (G3 : Value) (G4 : Value) (a : Addr) (t : Addr) (k : ClassId) (cs : List Int32) (h0 : Heap) (n0 : Nat) (Z0 : n0 ≤ h0.size) (EN : own_env Z G1 G3 G4) (X00 : Old Z n0 h0) (E_a : Exa Z h0 a "java/lang/StringBuilder") (F_value_a : Fld Z h0 a "java/lang/AbstractStringBuilder" "value" "[B" (.ref t)) (F_coder_a : Fld Z h0 a "java/lang/AbstractStringBuilder" "coder" "B" (.int 0)) (F_count_a : Fld Z h0 a "java/lang/AbstractStringBuilder" "count" "I" (.int (Int32.ofNat cs.length))) (F_maybeLatin1_a : Fld Z h0 a "java/lang/AbstractStringBuilder" "maybeLatin1" "Z" (.int 0)) (V_t : Arv Z h0 t k .byte (Int32.ofNat 16) (own_lat cs) (.int 0)) (hl : own_l1 cs) (hlen : cs.length ≤ 15) (g_a : n0 ≤ a) (g_t : n0 ≤ t) :
    MetFree l (⟨"java/lang/AbstractStringBuilder", "inflate", "()V"⟩ : MethodName) (head1 (Jvm.Cond.code (⟨"java/lang/AbstractStringBuilder", "inflate", "()V"⟩ : MethodName) jdk_68_method_11_code 2 none :: ws) ({ frames := 5, cells := 1, slots := 32, locals := 76 } : Room)) (fun a_ U_ => a_ = #[(.ref a)] ∧ Z.Warmed39 U_.vm ∧ U_.heap = h0) (fun _ _ _ _ _ => True) (fun _ U_ o_ U1_ => ∃ v_ L_, o_ = .returned v_ ∧ own_QI Z a cs h0 n0 v_ U1_.heap L_ ∧ FrameEnd U_ o_ U1_ L_ ({ frames := 5, cells := 1, slots := 32, locals := 76 } : Room).cells ({ frames := 5, cells := 1, slots := 32, locals := 76 } : Room).slots) := by
  refine MetFree.of_bodySF (plainFor_of_name pn_35) hisR ?_
  intro p e s m args below meth c s₁ Bd hml0 hP hK
  obtain ⟨rfl, hZ, hh⟩ := hP
  have hx := Bd.exec
  have hby := Bd.bytes
  have hml : c.maxLocals = 2 := hml0
  have hown : s.vm.findClass "java/lang/AbstractStringBuilder" = some m.cls := findClass_of_methodNamed Bd.named
  have hnm := (name_of_methodNamed Bd.named Bd.method).1
  have X0 : Stand p l e ({ frames := 5, cells := 1, slots := 32, locals := 76 } : Room) s m #[(.ref a)] below meth c s₁ [] 0 0 := Stand.of_body Bd
  have e0 : s₁.heap = h0 := by rw [← hh, Bd.state]; rfl
  have N0 := Fr.nil n0
  have pre0 : ∀ tt, Steps p.tables e below (s₁.setTop (mkF m 0 #[.val (.ref a), .unset] [])) tt → Steps p.tables e below (s₁.setTop (entryFrame m #[(.ref a)] 2)) tt := fun tt kk => castTop (ef_35_r m a) kk
  have EN0 := EN
  obtain ⟨O2, P5, O4, rG3, O5, rG4, O6, O7, O8⟩ := EN
  obtain ⟨cq1, kq1, q1a, q1b, q1c⟩ := isOf hZ e0 E_a
  obtain ⟨_, _, ⟨T1, L1, k1, n1⟩, -, X1, ⟨Lc1, hQ1, l1, y1, z1⟩, st1⟩ := X0.virtualBack hx (y := (⟨"java/lang/AbstractStringBuilder", "isLatin1", "()Z"⟩ : MethodName)) (z := (⟨"java/lang/AbstractStringBuilder", "isLatin1", "()Z"⟩ : MethodName)) hown (mvT hZ (hw _ (tk 73 rfl))) (mvT hZ (hw _ (tk 74 rfl))) (notFace_of_selects (args := #[]) (mvT hZ (hw _ (tk 76 rfl)))) (mvT hZ (hw _ (tk 76 rfl))) (mvT hZ (hw _ (tk 75 rfl))) (by decide) (backOf (W := 0) (rmIL0 l Z a0 hw [] G1 G3 G4 a h0 n0 Z0 EN0 X00 E_a F_coder_a) hZ (hw _ (tk 77 rfl)) (hw _ (tk 28 rfl)) (by decide) (by decide)) q1a q1c (g := (mkF m 1 #[.val (.ref a), .unset] [(.ref a)])) rfl (by rw [hml]; rfl) (Steps.refl _) (argsL := []) (rest := []) (lenOf pd___Z rfl) rfl (by show 2 * 0 + _ ≤ _; exact Nat.le_of_eq rfl) (hb hby d35_1) (fun _ _ => ⟨rfl, e0, (by decide : 0 + 0 ≤ _), (by decide : 0 + 0 ≤ _)⟩)
  dsimp only [Pt.U, Pt.locs, Pt.cells, Pt.slots] at X1 l1 y1 z1 st1 hQ1
  subst l1 y1 z1
  obtain ⟨rfl, Nq1, eq1⟩ := hQ1
  have N1 := Fr.app N0 Nq1
  obtain ⟨T2, X2, e2, st2⟩ := getF X1 hx hZ hown (host := "") (Or.inl (hw _ (tk 34 rfl))) Via.refl eq1 F_value_a (g := (mkF m 9 #[.val (.ref a), .unset] [(.ref a)])) rfl rfl (hb hby d35_9)
  obtain ⟨c3, Ar3, -, S3, M3, -, -⟩ := id V_t
  obtain ⟨_, _, ⟨T4, L4, k4, n4⟩, -, X4, ⟨Lc4, hQ4, l4, y4, z4⟩, st4⟩ := Jvm.LawKit.callS X2 hx (y := (⟨"java/lang/StringUTF16", "newBytesFor", "(I)[B"⟩ : MethodName)) hown (mvT hZ (hw _ (tk 188 rfl))) (mvT hZ (hw _ (tk 189 rfl))) (mvT hZ (hw _ (tk 190 rfl))) (mvT hZ (hw _ (tk 191 rfl))) (by decide) (backOf (W := 0) (rmNBF l Z a0 hw [] h0 n0 Z0) hZ (hw _ (tk 191 rfl)) (hw _ (tk 190 rfl)) (by decide) (by decide)) (g := (mkF m 13 #[.val (.ref a), .unset] [(.int (Int32.ofNat 16))])) rfl (by rw [hml]; rfl) (argsL := [(.int (Int32.ofNat 16))]) (rest := []) (lenOf pd__I__B rfl) rfl (by show 2 * 0 + _ ≤ _; exact Nat.le_of_eq rfl) (hb hby d35_13) (fun _ _ => ⟨rfl, e2, (by decide : 0 + 1 ≤ _), (by decide : 0 + 32 ≤ _)⟩)
  dsimp only [Pt.U, Pt.locs, Pt.cells, Pt.slots] at X4 l4 y4 z4 st4 hQ4
  subst l4 y4 z4
  obtain ⟨t4, k4q, rfl, Nq4, gt4, sq4, Kq4, V4q⟩ := hQ4
  have N4 := Fr.app N1 Nq4
  have szt4 : h0.size ≤ t4 := Nat.le_trans (Nat.le_refl _) sq4
  have f6 := (F_value_a.keep Kq4 nin0)
  obtain ⟨T5, X5, e5, st5⟩ := getF X4 hx hZ hown (host := "") (Or.inl (hw _ (tk 34 rfl))) Via.refl rfl f6 (g := (mkF m 18 #[.val (.ref a), .val (.ref t4)] [(.ref a)])) rfl rfl (hb hby d35_18)
  have f8 := (F_count_a.keep Kq4 nin0)
  obtain ⟨T7, X7, e7, st7⟩ := getF X5 hx hZ hown (host := "") (Or.inl (hw _ (tk 61 rfl))) Via.refl e5 f8 (g := (mkF m 25 #[.val (.ref a), .val (.ref t4)] [(.ref a), (.int 0), (.ref t4), (.int 0), (.ref t)])) rfl rfl (hb hby d35_25)
  have f10 := (X00.keep Kq4 all0)
  have f11 := (V_t.keep Kq4 nin0)
  obtain ⟨_, _, ⟨T9, L9, k9, n9⟩, -, X9, ⟨Lc9, hQ9, l9, y9, z9⟩, st9⟩ := Jvm.LawKit.callS X7 hx (y := (⟨"java/lang/StringLatin1", "inflate", "([BI[BII)V"⟩ : MethodName)) hown (mvT hZ (hw _ (tk 196 rfl))) (mvT hZ (hw _ (tk 197 rfl))) (mvT hZ (hw _ (tk 80 rfl))) (mvT hZ (hw _ (tk 198 rfl))) (by decide) (backOf (W := 0) (rmLIF l Z a0 hw [] G1 G3 G4 t k t4 k4q cs cs.length T4.heap n0 (Nat.le_trans Z0 Kq4.1) EN0 f10 f11 V4q hl rfl (by omega) gt4 (Nat.ne_of_lt (Nat.lt_of_lt_of_le V_t.lt sq4))) hZ (hw _ (tk 198 rfl)) (hw _ (tk 80 rfl)) (by decide) (by decide)) (g := (mkF m 28 #[.val (.ref a), .val (.ref t4)] [(.int (Int32.ofNat cs.length)), (.int 0), (.ref t4), (.int 0), (.ref t)])) rfl (by rw [hml]; rfl) (argsL := [(.ref t), (.int 0), (.ref t4), (.int 0), (.int (Int32.ofNat cs.length))]) (rest := []) (lenOf pd___BI_BII_V rfl) rfl (by show 2 * 0 + _ ≤ _; exact Nat.le_of_eq rfl) (hb hby d35_28) (fun _ _ => ⟨rfl, e7, (by decide : 1 + 0 ≤ _), (by decide : 32 + 0 ≤ _)⟩)
  dsimp only [Pt.U, Pt.locs, Pt.cells, Pt.slots] at X9 l9 y9 z9 st9 hQ9
  subst l9 y9 z9
  obtain ⟨rfl, Nq9, Kq9, Vq9⟩ := hQ9
  have N9 := Fr.app N4 Nq9
  have f13 := ((E_a.keep Kq4).keep Kq9)
  have f14 := (f6.keep Kq9 (ninS (Nat.ne_of_lt (Nat.lt_of_lt_of_le E_a.lt sq4)) nin0))
  obtain ⟨T12, h12, X12, e12, W12, st12⟩ := putF X9 hx hZ hown (host := "") (Or.inl (hw _ (tk 34 rfl))) Via.refl rfl f14 f13 (Or.inl (hw _ (tk 35 rfl))) (hw _ (tk 19 rfl)) (ty := (.array .byte)) (by decide) rfl rfl (g := (mkF m 33 #[.val (.ref a), .val (.ref t4)] [(.ref t4), (.ref a)])) rfl rfl (hb hby d35_33)
  have Fw12 := f14.same W12
  have N12 := Fr.snoc X12 N9 g_a
  have f16 := (f13.wr W12)
  have f17 := (((F_coder_a.keep Kq4 nin0).keep Kq9 (ninS (Nat.ne_of_lt (Nat.lt_of_lt_of_le E_a.lt sq4)) nin0)).other W12 (Or.inr (slot_ne (Or.inl (hw _ (tk 37 rfl))) (Or.inl (hw _ (tk 35 rfl))) (by decide) (t := .byte) (t' := (.array .byte)) (by decide) (by decide))))
  obtain ⟨T15, h15, X15, e15, W15, st15⟩ := putFN X12 hx hZ hown (hw _ (tk 36 rfl)) Via.refl e12 f17 f16 (Or.inl (hw _ (tk 37 rfl))) (hw _ (tk 19 rfl)) (ty := .byte) (v' := (.int 1)) (by decide) rfl (by decide) (g := (mkF m 38 #[.val (.ref a), .val (.ref t4)] [(.int 1), (.ref a)])) rfl rfl (hb hby d35_38)
  have Fw15 := f17.same W15
  have N15 := Fr.snoc X15 N12 g_a
  have f18 := (f16.wr W15)
  have f19 := (Fw12.other W15 (Or.inr (slot_ne (Or.inl (hw _ (tk 35 rfl))) (Or.inl (hw _ (tk 37 rfl))) (by decide) (t := (.array .byte)) (t' := .byte) (by decide) (by decide))))
  have f20 := (((f8.keep Kq9 (ninS (Nat.ne_of_lt (Nat.lt_of_lt_of_le E_a.lt sq4)) nin0)).other W12 (Or.inr (slot_ne (Or.inl (hw _ (tk 62 rfl))) (Or.inl (hw _ (tk 35 rfl))) (by decide) (t := .int) (t' := (.array .byte)) (by decide) (by decide)))).other W15 (Or.inr (slot_ne (Or.inl (hw _ (tk 62 rfl))) (Or.inl (hw _ (tk 37 rfl))) (by decide) (t := .int) (t' := .byte) (by decide) (by decide))))
  have f21 := ((((F_maybeLatin1_a.keep Kq4 nin0).keep Kq9 (ninS (Nat.ne_of_lt (Nat.lt_of_lt_of_le E_a.lt sq4)) nin0)).other W12 (Or.inr (slot_ne (Or.inl (hw _ (tk 241 rfl))) (Or.inl (hw _ (tk 35 rfl))) (by decide) (t := .boolean) (t' := (.array .byte)) (by decide) (by decide)))).other W15 (Or.inr (slot_ne (Or.inl (hw _ (tk 241 rfl))) (Or.inl (hw _ (tk 37 rfl))) (by decide) (t := .boolean) (t' := .byte) (by decide) (by decide))))
  have f22 := ((Vq9.other W12 (Ne.symm (Nat.ne_of_lt (Nat.lt_of_lt_of_le E_a.lt sq4)))).other W15 (Ne.symm (Nat.ne_of_lt (Nat.lt_of_lt_of_le E_a.lt sq4))))
  obtain ⟨fs, hr, hrun, hended, hW, hsame⟩ := X15.leave (v := none) (fun _ => rfl)
  refine ⟨_, _, pre0 _ ?_, hrun, hended, _, _, rfl, ?_, ⟨_, rfl⟩, hW, hsame.mono (by decide) (by decide)⟩
  · show Steps p.tables e below (s₁.setTop (mkF m 0 #[.val (.ref a), .unset] [])) _
    refine XS.aloadN X0.here hx rfl (hb hby d35_0) rfl rfl ?_
    show Steps p.tables e below (s₁.setTop (mkF m 1 #[.val (.ref a), .unset] [(.ref a)])) _
    refine st1.trans ?_
    show Steps p.tables e below (T1.setTop (mkF m 4 #[.val (.ref a), .unset] [(.int 1)])) _
    refine XS.ifYes X1.here hx rfl (pc0 := 4) (pc' := 8) rfl (hb hby d35_4) rfl ((if0 _ _).trans (feq (by decide : ¬ ((1 : Int32) = (0 : Int32)))).2) (by decide) (by decide) ?_
    refine XS.aloadN X1.here hx rfl (hb hby d35_8) rfl rfl ?_
    show Steps p.tables e below (T1.setTop (mkF m 9 #[.val (.ref a), .unset] [(.ref a)])) _
    refine st2 _ ?_
    show Steps p.tables e below (T2.setTop (mkF m 12 #[.val (.ref a), .unset] [(.ref t)])) _
    refine X2.arraylength hx (by rw [e2]; exact Ar3.1) (State.isArrayOf_alike hZ.alike Ar3.2.1) (g := (mkF m 12 #[.val (.ref a), .unset] [(.ref t)])) rfl rfl (hb hby d35_12) _ ?_
    rw [len_of S3 M3]
    show Steps p.tables e below (T2.setTop (mkF m 13 #[.val (.ref a), .unset] [(.int (Int32.ofNat 16))])) _
    refine st4 _ ?_
    show Steps p.tables e below (T4.setTop (mkF m 16 #[.val (.ref a), .unset] [(.ref t4)])) _
    refine XS.astoreN X4.here hx rfl (hb hby d35_16) rfl rfl (l' := #[.val (.ref a), .val (.ref t4)]) rfl ?_
    refine XS.aloadN X4.here hx rfl (hb hby d35_17) rfl rfl ?_
    show Steps p.tables e below (T4.setTop (mkF m 18 #[.val (.ref a), .val (.ref t4)] [(.ref a)])) _
    refine st5 _ ?_
    show Steps p.tables e below (T5.setTop (mkF m 21 #[.val (.ref a), .val (.ref t4)] [(.ref t)])) _
    refine XS.iconst X5.here hx rfl (hb hby d35_21) ?_
    refine XS.aloadN X5.here hx rfl (hb hby d35_22) rfl rfl ?_
    refine XS.iconst X5.here hx rfl (hb hby d35_23) ?_
    refine XS.aloadN X5.here hx rfl (hb hby d35_24) rfl rfl ?_
    show Steps p.tables e below (T5.setTop (mkF m 25 #[.val (.ref a), .val (.ref t4)] [(.ref a), (.int 0), (.ref t4), (.int 0), (.ref t)])) _
    refine st7 _ ?_
    show Steps p.tables e below (T7.setTop (mkF m 28 #[.val (.ref a), .val (.ref t4)] [(.int (Int32.ofNat cs.length)), (.int 0), (.ref t4), (.int 0), (.ref t)])) _
    refine st9 _ ?_
    show Steps p.tables e below (T9.setTop (mkF m 31 #[.val (.ref a), .val (.ref t4)] [])) _
    refine XS.aloadN X9.here hx rfl (hb hby d35_31) rfl rfl ?_
    refine XS.aloadN X9.here hx rfl (hb hby d35_32) rfl rfl ?_
    show Steps p.tables e below (T9.setTop (mkF m 33 #[.val (.ref a), .val (.ref t4)] [(.ref t4), (.ref a)])) _
    refine st12 _ ?_
    show Steps p.tables e below (T12.setTop (mkF m 36 #[.val (.ref a), .val (.ref t4)] [])) _
    refine XS.aloadN X12.here hx rfl (hb hby d35_36) rfl rfl ?_
    refine XS.iconst X12.here hx rfl (hb hby d35_37) ?_
    show Steps p.tables e below (T12.setTop (mkF m 38 #[.val (.ref a), .val (.ref t4)] [(.int 1), (.ref a)])) _
    refine st15 _ ?_
    show Steps p.tables e below (T15.setTop (mkF m 41 #[.val (.ref a), .val (.ref t4)] [])) _
    exact X15.returnOut hx Bd.returns (hb hby d35_41) hr
  · show own_QI Z a cs h0 n0 _ T15.heap _
    rw [e15]
    exact ⟨t4, k4q, rfl, N15, gt4, szt4, (((((Keep.refl h0 [a]).trans Kq4 all0).trans Kq9 (allS (P := fun zz => zz ∈ [a] ∨ h0.size ≤ zz) (Or.inr szt4) all0)).wr W12 (Or.inl (tk 0 rfl))).wr W15 (Or.inl (tk 0 rfl))), f18, f19, Fw15, f20, f21, f22⟩
theorem own_snoc (cs : List Int32) (ch : Int32) : (cs ++ [ch]).length = cs.length + 1 := by simp
theorem own_cap {n : Nat} (h : n ≤ 16) : ¬ ((0 : Int32) < ((Int32.ofNat n) - (Int32.ofNat 16))) := by
  have t : ∀ k : Fin 17, ¬ ((0 : Int32) < ((Int32.ofNat k.val) - (Int32.ofNat 16))) := by decide +kernel
  exact t ⟨n, by omega⟩
theorem own_l1_app {cs : List Int32} {ch : Int32} (h : own_l1 cs) (h0 : ¬ ch < 0) (h1 : ¬ (255 : Int32) < ch) : own_l1 (cs ++ [ch]) := fun c hc => by
  rcases List.mem_append.mp hc with q | q
  · exact h c q
  · cases List.mem_singleton.mp q; exact ⟨h0, h1⟩
/-- the builder at a holds the chars cs -/
def own_bd (Z : State) (h : Heap) (a t : Addr) (k : ClassId) (cs : List Int32) : Prop := Exa Z h a "java/lang/StringBuilder" ∧ Fld Z h a "java/lang/AbstractStringBuilder" "value" "[B" (.ref t) ∧ Fld Z h a "java/lang/AbstractStringBuilder" "count" "I" (.int (Int32.ofNat cs.length)) ∧ Fld Z h a "java/lang/AbstractStringBuilder" "maybeLatin1" "Z" (.int 0) ∧ ((Fld Z h a "java/lang/AbstractStringBuilder" "coder" "B" (.int 0) ∧ Arv Z h t k .byte (Int32.ofNat 16) (own_lat cs) (.int 0) ∧ own_l1 cs) ∨ (Fld Z h a "java/lang/AbstractStringBuilder" "coder" "B" (.int 1) ∧ Arv Z h t k .byte (Int32.ofNat (2 * 16)) (own_wide cs) (.int 0)))
def own_QA (Z : State) (r : Option Value) (a t : Addr) (cs : List Int32) (h0 : Heap) (n0 : Nat) (v : Option Value) (h : Heap) (L : List Loc) : Prop := v = r ∧ Fr n0 L ∧ Keep h0 h [a, t] ∧ ∃ (t' : Addr) (k' : ClassId), n0 ≤ t' ∧ (t' = t ∨ h0.size ≤ t') ∧ own_bd Z h a t' k' cs
theorem d34_0 : decode jdk_68_method_31_code 0 = .ok (.aload_n 0, 1) := by decide +kernel
theorem d34_1 : decode jdk_68_method_31_code 1 = .ok (.aload_n 0, 1) := by decide +kernel
theorem d34_2 : decode jdk_68_method_31_code 2 = .ok (.getfield 79, 3) := by decide +kernel
theorem d34_5 : decode jdk_68_method_31_code 5 = .ok (.iconst 1, 1) := by decide +kernel
theorem d34_6 : decode jdk_68_method_31_code 6 = .ok (.iadd, 1) := by decide +kernel
theorem pd__I_V : parseMethodDescriptor "(I)V" = some ⟨[.int], none⟩ := by decide +kernel
theorem d34_7 : decode jdk_68_method_31_code 7 = .ok (.invokevirtual 100, 3) := by decide +kernel
theorem d34_10 : decode jdk_68_method_31_code 10 = .ok (.aload_n 0, 1) := by decide +kernel
theorem d34_11 : decode jdk_68_method_31_code 11 = .ok (.invokevirtual 83, 3) := by decide +kernel
theorem d34_14 : decode jdk_68_method_31_code 14 = .ok (.ifCond .eq 31, 3) := by decide +kernel
theorem d34_17 : decode jdk_68_method_31_code 17 = .ok (.iload_n 1, 1) := by decide +kernel
theorem pd__C_Z : parseMethodDescriptor "(C)Z" = some ⟨[.char], some .boolean⟩ := by decide +kernel
theorem d34_18 : decode jdk_68_method_31_code 18 = .ok (.invokestatic 191, 3) := by decide +kernel
theorem d34_21 : decode jdk_68_method_31_code 21 = .ok (.ifCond .eq 24, 3) := by decide +kernel
theorem d34_24 : decode jdk_68_method_31_code 24 = .ok (.aload_n 0, 1) := by decide +kernel
theorem d34_25 : decode jdk_68_method_31_code 25 = .ok (.getfield 15, 3) := by decide +kernel
theorem d34_28 : decode jdk_68_method_31_code 28 = .ok (.aload_n 0, 1) := by decide +kernel
theorem d34_29 : decode jdk_68_method_31_code 29 = .ok (.dup, 1) := by decide +kernel
theorem d34_30 : decode jdk_68_method_31_code 30 = .ok (.getfield 79, 3) := by decide +kernel
theorem d34_33 : decode jdk_68_method_31_code 33 = .ok (.dup_x1, 1) := by decide +kernel
theorem d34_34 : decode jdk_68_method_31_code 34 = .ok (.iconst 1, 1) := by decide +kernel
theorem d34_35 : decode jdk_68_method_31_code 35 = .ok (.iadd, 1) := by decide +kernel
theorem d34_36 : decode jdk_68_method_31_code 36 = .ok (.putfield 79, 3) := by decide +kernel
theorem d34_39 : decode jdk_68_method_31_code 39 = .ok (.iload_n 1, 1) := by decide +kernel
theorem d34_40 : decode jdk_68_method_31_code 40 = .ok (.i2b, 1) := by decide +kernel
theorem d34_41 : decode jdk_68_method_31_code 41 = .ok (.bastore, 1) := by decide +kernel
theorem d34_42 : decode jdk_68_method_31_code 42 = .ok (.goto 33, 3) := by decide +kernel
theorem d34_75 : decode jdk_68_method_31_code 75 = .ok (.aload_n 0, 1) := by decide +kernel
theorem d34_76 : decode jdk_68_method_31_code 76 = .ok (.areturn, 1) := by decide +kernel
theorem d34_45 : decode jdk_68_method_31_code 45 = .ok (.aload_n 0, 1) := by decide +kernel
theorem d34_46 : decode jdk_68_method_31_code 46 = .ok (.invokevirtual 83, 3) := by decide +kernel
theorem d34_49 : decode jdk_68_method_31_code 49 = .ok (.ifCond .eq 7, 3) := by decide +kernel
theorem d34_52 : decode jdk_68_method_31_code 52 = .ok (.aload_n 0, 1) := by decide +kernel
theorem pd___V : parseMethodDescriptor "()V" = some ⟨[], none⟩ := by decide +kernel
theorem d34_53 : decode jdk_68_method_31_code 53 = .ok (.invokevirtual 195, 3) := by decide +kernel
theorem d34_56 : decode jdk_68_method_31_code 56 = .ok (.aload_n 0, 1) := by decide +kernel
theorem d34_57 : decode jdk_68_method_31_code 57 = .ok (.getfield 15, 3) := by decide +kernel
theorem d34_60 : decode jdk_68_method_31_code 60 = .ok (.aload_n 0, 1) := by decide +kernel
theorem d34_61 : decode jdk_68_method_31_code 61 = .ok (.dup, 1) := by decide +kernel
theorem d34_62 : decode jdk_68_method_31_code 62 = .ok (.getfield 79, 3) := by decide +kernel
theorem d34_65 : decode jdk_68_method_31_code 65 = .ok (.dup_x1, 1) := by decide +kernel
theorem d34_66 : decode jdk_68_method_31_code 66 = .ok (.iconst 1, 1) := by decide +kernel
theorem d34_67 : decode jdk_68_method_31_code 67 = .ok (.iadd, 1) := by decide +kernel
theorem d34_68 : decode jdk_68_method_31_code 68 = .ok (.putfield 79, 3) := by decide +kernel
theorem d34_71 : decode jdk_68_method_31_code 71 = .ok (.iload_n 1, 1) := by decide +kernel
theorem d34_72 : decode jdk_68_method_31_code 72 = .ok (.invokestatic 197, 3) := by decide +kernel
theorem pn_34 : plainName "java/lang/AbstractStringBuilder" = true := by first | (simp [plainName, overriddenIn]; done) | decide +kernel
theorem ef_34_rr (m : MethodId) (x0 : Addr) (x1 : Int32) : entryFrame m #[(.ref x0), (.int x1)] 2 = mkF m 0 #[.val (.ref x0), .val (.int x1)] [] := by first | (simp [entryFrame, mkF, argsToLocals, Value.category]; done) | rfl
set_option maxRecDepth 65536 in
set_option maxHeartbeats 40000000 in
theorem rmAC_l (l : Launch) (Z : State) (a0 : Array Value) (hw : ∀ d ∈ tables_1, d.before a0 Z = true) (ws : List Jvm.Cond) (G1 : Int32) (G3 : Value) (G4 : Value) (a : Addr) (t : Addr) (k : ClassId) (cs : List Int32) (ch : Int32) (h0 : Heap) (n0 : Nat) (Z0 : n0 ≤ h0.size) (EN : own_env Z G1 G3 G4) (X00 : Old Z n0 h0) (E_a : Exa Z h0 a "java/lang/StringBuilder") (F_value_a : Fld Z h0 a "java/lang/AbstractStringBuilder" "value" "[B" (.ref t)) (F_coder_a : Fld Z h0 a "java/lang/AbstractStringBuilder" "coder" "B" (.int 0)) (F_count_a : Fld Z h0 a "java/lang/AbstractStringBuilder" "count" "I" (.int (Int32.ofNat cs.length))) (F_maybeLatin1_a : Fld Z h0 a "java/lang/AbstractStringBuilder" "maybeLatin1" "Z" (.int 0)) (V_t : Arv Z h0 t k .byte (Int32.ofNat 16) (own_lat cs) (.int 0)) (hl : own_l1 cs) (hlen : cs.length ≤ 15) (g_a : n0 ≤ a) (g_t : n0 ≤ t) (hc0 : ¬ (ch < (0 : Int32))) (hc1 : ¬ ((255 : Int32) < ch)) :
    MetFree l (⟨"java/lang/AbstractStringBuilder", "append", "(C)Ljava/lang/AbstractStringBuilder;"⟩ : MethodName) (head1 (Jvm.Cond.code (⟨"java/lang/AbstractStringBuilder", "append", "(C)Ljava/lang/AbstractStringBuilder;"⟩ : MethodName) jdk_68_method_31_code 2 (some (.object "java/lang/AbstractStringBuilder")) :: ws) ({ frames := 6, cells := 1, slots := 32, locals := 89 } : Room)) (fun a_ U_ => a_ = #[(.ref a), (.int ch)] ∧ Z.Warmed39 U_.vm ∧ U_.heap = h0) (fun _ _ _ _ _ => True) (fun _ U_ o_ U1_ => ∃ v_ L_, o_ = .returned v_ ∧ own_QA Z (some (.ref a)) a t (cs ++ [ch]) h0 n0 v_ U1_.heap L_ ∧ FrameEnd U_ o_ U1_ L_ ({ frames := 6, cells := 1, slots := 32, locals := 89 } : Room).cells ({ frames := 6, cells := 1, slots := 32, locals := 89 } : Room).slots) := by
  refine MetFree.of_bodySF (plainFor_of_name pn_34) hisR ?_
  intro p e s m args below meth c s₁ Bd hml0 hP hK
  obtain ⟨rfl, hZ, hh⟩ := hP
  have hx := Bd.exec
  have hby := Bd.bytes
  have hml : c.maxLocals = 2 := hml0
  have hown : s.vm.findClass "java/lang/AbstractStringBuilder" = some m.cls := findClass_of_methodNamed Bd.named
  have hnm := (name_of_methodNamed Bd.named Bd.method).1
  have X0 : Stand p l e ({ frames := 6, cells := 1, slots := 32, locals := 89 } : Room) s m #[(.ref a), (.int ch)] below meth c s₁ [] 0 0 := Stand.of_body Bd
  have e0 : s₁.heap = h0 := by rw [← hh, Bd.state]; rfl
  have N0 := Fr.nil n0
  have pre0 : ∀ tt, Steps p.tables e below (s₁.setTop (mkF m 0 #[.val (.ref a), .val (.int ch)] [])) tt → Steps p.tables e below (s₁.setTop (entryFrame m #[(.ref a), (.int ch)] 2)) tt := fun tt kk => castTop (ef_34_rr m a ch) kk
  have EN0 := EN
  obtain ⟨O2, P5, O4, rG3, O5, rG4, O6, O7, O8⟩ := EN
  obtain ⟨T1, X1, e1, st1⟩ := getF X0 hx hZ hown (host := "") (Or.inl (hw _ (tk 61 rfl))) Via.refl e0 F_count_a (g := (mkF m 2 #[.val (.ref a), .val (.int ch)] [(.ref a), (.ref a)])) rfl rfl (hb hby d34_2)
  obtain ⟨cq2, q2, q2'⟩ := Exa.cell E_a
  obtain ⟨_, _, ⟨T2, L2, k2, n2⟩, -, X2, ⟨Lc2, hQ2, l2, y2, z2⟩, st2⟩ := X1.privateBack hx (y := (⟨"java/lang/AbstractStringBuilder", "ensureCapacityInternal", "(I)V"⟩ : MethodName)) hown (mvT hZ (hw _ (tk 63 rfl))) (mvT hZ (hw _ (tk 64 rfl))) (own_priv (y := (⟨"java/lang/AbstractStringBuilder", "ensureCapacityInternal", "(I)V"⟩ : MethodName)) (by decide) (mvT hZ (hw _ (tk 66 rfl))) (mvP hZ (hw _ (tk 65 rfl)))) (Cond.privateMethod_at (mvP hZ (hw _ (tk 65 rfl)) (args := #[]))) (mvT hZ (hw _ (tk 67 rfl))) (by decide) (backOf (W := 0) (rmEC0 l Z a0 hw [] a (Int32.ofNat (cs.length + 1)) t k (own_lat cs) h0 n0 Z0 E_a F_value_a F_coder_a V_t (own_cap (by omega))) hZ (hw _ (tk 67 rfl)) (hw _ (tk 28 rfl)) (by decide) (by decide)) (g := (mkF m 7 #[.val (.ref a), .val (.int ch)] [(.int (Int32.ofNat (cs.length + 1))), (.ref a)])) rfl (by rw [hml]; rfl) (Steps.refl _) (a := a) (by rw [e1]; exact q2) q2' (argsL := [(.int (Int32.ofNat (cs.length + 1)))]) (rest := []) (lenOf pd__I_V rfl) rfl (by show 2 * 0 + _ ≤ _; exact Nat.le_of_eq rfl) (hb hby d34_7) (fun _ _ => ⟨rfl, e1, (by decide : 0 + 0 ≤ _), (by decide : 0 + 0 ≤ _)⟩)
  dsimp only [Pt.U, Pt.locs, Pt.cells, Pt.slots] at X2 l2 y2 z2 st2 hQ2
  subst l2 y2 z2
  obtain ⟨rfl, Nq2, eq2⟩ := hQ2
  have N2 := Fr.app N0 Nq2
  obtain ⟨cq3, kq3, q3a, q3b, q3c⟩ := isOf hZ eq2 E_a
  obtain ⟨_, _, ⟨T3, L3, k3, n3⟩, -, X3, ⟨Lc3, hQ3, l3, y3, z3⟩, st3⟩ := X2.virtualBack hx (y := (⟨"java/lang/AbstractStringBuilder", "isLatin1", "()Z"⟩ : MethodName)) (z := (⟨"java/lang/AbstractStringBuilder", "isLatin1", "()Z"⟩ : MethodName)) hown (mvT hZ (hw _ (tk 73 rfl))) (mvT hZ (hw _ (tk 74 rfl))) (notFace_of_selects (args := #[]) (mvT hZ (hw _ (tk 76 rfl)))) (mvT hZ (hw _ (tk 76 rfl))) (mvT hZ (hw _ (tk 75 rfl))) (by decide) (backOf (W := 0) (rmIL0 l Z a0 hw [] G1 G3 G4 a h0 n0 Z0 EN0 X00 E_a F_coder_a) hZ (hw _ (tk 77 rfl)) (hw _ (tk 28 rfl)) (by decide) (by decide)) q3a q3c (g := (mkF m 11 #[.val (.ref a), .val (.int ch)] [(.ref a)])) rfl (by rw [hml]; rfl) (Steps.refl _) (argsL := []) (rest := []) (lenOf pd___Z rfl) rfl (by show 2 * 0 + _ ≤ _; exact Nat.le_of_eq rfl) (hb hby d34_11) (fun _ _ => ⟨rfl, eq2, (by decide : 0 + 0 ≤ _), (by decide : 0 + 0 ≤ _)⟩)
  dsimp only [Pt.U, Pt.locs, Pt.cells, Pt.slots] at X3 l3 y3 z3 st3 hQ3
  subst l3 y3 z3
  obtain ⟨rfl, Nq3, eq3⟩ := hQ3
  have N3 := Fr.app N2 Nq3
  obtain ⟨_, _, ⟨T4, L4, k4, n4⟩, -, X4, ⟨Lc4, hQ4, l4, y4, z4⟩, st4⟩ := Jvm.LawKit.callS X3 hx (y := (⟨"java/lang/StringLatin1", "canEncode", "(C)Z"⟩ : MethodName)) hown (mvT hZ (hw _ (tk 78 rfl))) (mvT hZ (hw _ (tk 79 rfl))) (mvT hZ (hw _ (tk 80 rfl))) (mvT hZ (hw _ (tk 81 rfl))) (by decide) (backOf (W := 0) (rmCE1 l Z a0 hw [] ch h0 n0 Z0 hc1) hZ (hw _ (tk 81 rfl)) (hw _ (tk 80 rfl)) (by decide) (by decide)) (g := (mkF m 18 #[.val (.ref a), .val (.int ch)] [(.int ch)])) rfl (by rw [hml]; rfl) (argsL := [(.int ch)]) (rest := []) (lenOf pd__C_Z rfl) rfl (by show 2 * 0 + _ ≤ _; exact Nat.le_of_eq rfl) (hb hby d34_18) (fun _ _ => ⟨rfl, eq3, (by decide : 0 + 0 ≤ _), (by decide : 0 + 0 ≤ _)⟩)
  dsimp only [Pt.U, Pt.locs, Pt.cells, Pt.slots] at X4 l4 y4 z4 st4 hQ4
  subst l4 y4 z4
  obtain ⟨rfl, Nq4, eq4⟩ := hQ4
  have N4 := Fr.app N3 Nq4
  obtain ⟨T5, X5, e5, st5⟩ := getF X4 hx hZ hown (host := "") (Or.inl (hw _ (tk 34 rfl))) Via.refl eq4 F_value_a (g := (mkF m 25 #[.val (.ref a), .val (.int ch)] [(.ref a)])) rfl rfl (hb hby d34_25)
  obtain ⟨T6, X6, e6, st6⟩ := getF X5 hx hZ hown (host := "") (Or.inl (hw _ (tk 61 rfl))) Via.refl e5 F_count_a (g := (mkF m 30 #[.val (.ref a), .val (.int ch)] [(.ref a), (.ref a), (.ref t)])) rfl rfl (hb hby d34_30)
  obtain ⟨T7, h7, X7, e7, W7, st7⟩ := putF X6 hx hZ hown (host := "") (Or.inl (hw _ (tk 61 rfl))) Via.refl e6 F_count_a E_a (Or.inl (hw _ (tk 62 rfl))) (hw _ (tk 19 rfl)) (ty := .int) (by decide) rfl rfl (g := (mkF m 36 #[.val (.ref a), .val (.int ch)] [(.int (Int32.ofNat (cs.length + 1))), (.ref a), (.int (Int32.ofNat cs.length)), (.ref t)])) rfl rfl (hb hby d34_36)
  have Fw7 := F_count_a.same W7
  have N7 := Fr.snoc X7 N4 g_a
  have f9 := (V_t.other W7 (Ne.symm (Exa.neArv E_a V_t (hw _ (tk 19 rfl)))))
  obtain ⟨c8, Ar8, q8, S8, M8, H8, Gz8⟩ := id (f9.pad (pad_rep (own_lat cs) (.int 0) 1))
  have hin8 := inb_of (j := (Int32.ofNat cs.length)) S8 (own_in (by omega) (by decide))
  obtain ⟨T8, h8, X8, e8, W8, st8⟩ := stB X7 hx hZ e7 Ar8 (j := (Int32.ofNat cs.length)) hin8 (g := (mkF m 41 #[.val (.ref a), .val (.int ch)] [(.int (ch.toInt8.toInt32)), (.int (Int32.ofNat cs.length)), (.ref t)])) rfl rfl (hb hby d34_41)
  have V8 : Arv Z h8 t k .byte (Int32.ofNat 16) (own_lat (cs ++ [ch])) (.int 0) := (by rw [← own_set_lat cs ch (.int 0) cs.length rfl]; exact Arv.set Ar8 q8 S8 M8 H8 Gz8 (fits_nar_byte _) W8 cs.length (own_clamp (by omega)) (by rw [List.length_append, own_lat_len]; simp))
  have N8 := Fr.snoc X8 N7 g_t
  have f10 := ((E_a.wr W7).wr W8)
  have f11 := ((F_value_a.other W7 (Or.inr (slot_ne (Or.inl (hw _ (tk 35 rfl))) (Or.inl (hw _ (tk 62 rfl))) (by decide) (t := (.array .byte)) (t' := .int) (by decide) (by decide)))).other W8 (Or.inl (Exa.neArv E_a V_t (hw _ (tk 19 rfl)))))
  have f12 := ((F_coder_a.other W7 (Or.inr (slot_ne (Or.inl (hw _ (tk 37 rfl))) (Or.inl (hw _ (tk 62 rfl))) (by decide) (t := .byte) (t' := .int) (by decide) (by decide)))).other W8 (Or.inl (Exa.neArv E_a V_t (hw _ (tk 19 rfl)))))
  have f13 := (Fw7.other W8 (Or.inl (Exa.neArv E_a V_t (hw _ (tk 19 rfl)))))
  have f14 := ((F_maybeLatin1_a.other W7 (Or.inr (slot_ne (Or.inl (hw _ (tk 241 rfl))) (Or.inl (hw _ (tk 62 rfl))) (by decide) (t := .boolean) (t' := .int) (by decide) (by decide)))).other W8 (Or.inl (Exa.neArv E_a V_t (hw _ (tk 19 rfl)))))
  obtain ⟨fs, hr, hrun, hended, hW, hsame⟩ := X8.leave (v := some (.ref a)) (fun h => by rw [Bd.returns] at h; cases h)
  refine ⟨_, _, pre0 _ ?_, hrun, hended, _, _, rfl, ?_, ⟨_, rfl⟩, hW, hsame.mono (by decide) (by decide)⟩
  · show Steps p.tables e below (s₁.setTop (mkF m 0 #[.val (.ref a), .val (.int ch)] [])) _
    refine XS.aloadN X0.here hx rfl (hb hby d34_0) rfl rfl ?_
    refine XS.aloadN X0.here hx rfl (hb hby d34_1) rfl rfl ?_
    show Steps p.tables e below (s₁.setTop (mkF m 2 #[.val (.ref a), .val (.int ch)] [(.ref a), (.ref a)])) _
    refine st1 _ ?_
    show Steps p.tables e below (T1.setTop (mkF m 5 #[.val (.ref a), .val (.int ch)] [(.int (Int32.ofNat cs.length)), (.ref a)])) _
    refine XS.iconst X1.here hx rfl (hb hby d34_5) ?_
    refine XS.iadd X1.here hx rfl (hb hby d34_6) rfl ?_
    show Steps p.tables e below (T1.setTop (mkF m 7 #[.val (.ref a), .val (.int ch)] [(.int ((Int32.ofNat cs.length) + (1 : Int32))), (.ref a)])) _
    rw [(own_succ cs.length)]
    show Steps p.tables e below (T1.setTop (mkF m 7 #[.val (.ref a), .val (.int ch)] [(.int (Int32.ofNat (cs.length + 1))), (.ref a)])) _
    refine st2.trans ?_
    show Steps p.tables e below (T2.setTop (mkF m 10 #[.val (.ref a), .val (.int ch)] [])) _
    refine XS.aloadN X2.here hx rfl (hb hby d34_10) rfl rfl ?_
    show Steps p.tables e below (T2.setTop (mkF m 11 #[.val (.ref a), .val (.int ch)] [(.ref a)])) _
    refine st3.trans ?_
    show Steps p.tables e below (T3.setTop (mkF m 14 #[.val (.ref a), .val (.int ch)] [(.int 1)])) _
    refine XS.ifNo X3.here hx rfl (hb hby d34_14) rfl ((if0 _ _).trans (feq (by decide : ¬ ((1 : Int32) = (0 : Int32)))).1) ?_
    refine XS.iloadN X3.here hx rfl (hb hby d34_17) rfl ?_
    show Steps p.tables e below (T3.setTop (mkF m 18 #[.val (.ref a), .val (.int ch)] [(.int ch)])) _
    refine st4 _ ?_
    show Steps p.tables e below (T4.setTop (mkF m 21 #[.val (.ref a), .val (.int ch)] [(.int 1)])) _
    refine XS.ifNo X4.here hx rfl (hb hby d34_21) rfl ((if0 _ _).trans (feq (by decide : ¬ ((1 : Int32) = (0 : Int32)))).1) ?_
    refine XS.aloadN X4.here hx rfl (hb hby d34_24) rfl rfl ?_
    show Steps p.tables e below (T4.setTop (mkF m 25 #[.val (.ref a), .val (.int ch)] [(.ref a)])) _
    refine st5 _ ?_
    show Steps p.tables e below (T5.setTop (mkF m 28 #[.val (.ref a), .val (.int ch)] [(.ref t)])) _
    refine XS.aloadN X5.here hx rfl (hb hby d34_28) rfl rfl ?_
    refine XS.dup X5.here hx rfl (hb hby d34_29) rfl rfl ?_
    show Steps p.tables e below (T5.setTop (mkF m 30 #[.val (.ref a), .val (.int ch)] [(.ref a), (.ref a), (.ref t)])) _
    refine st6 _ ?_
    show Steps p.tables e below (T6.setTop (mkF m 33 #[.val (.ref a), .val (.int ch)] [(.int (Int32.ofNat cs.length)), (.ref a), (.ref t)])) _
    refine XS.dupX1 X6.here hx rfl (hb hby d34_33) rfl rfl rfl ?_
    refine XS.iconst X6.here hx rfl (hb hby d34_34) ?_
    refine XS.iadd X6.here hx rfl (hb hby d34_35) rfl ?_
    show Steps p.tables e below (T6.setTop (mkF m 36 #[.val (.ref a), .val (.int ch)] [(.int ((Int32.ofNat cs.length) + (1 : Int32))), (.ref a), (.int (Int32.ofNat cs.length)), (.ref t)])) _
    rw [(own_succ cs.length)]
    show Steps p.tables e below (T6.setTop (mkF m 36 #[.val (.ref a), .val (.int ch)] [(.int (Int32.ofNat (cs.length + 1))), (.ref a), (.int (Int32.ofNat cs.length)), (.ref t)])) _
    refine st7 _ ?_
    show Steps p.tables e below (T7.setTop (mkF m 39 #[.val (.ref a), .val (.int ch)] [(.int (Int32.ofNat cs.length)), (.ref t)])) _
    refine XS.iloadN X7.here hx rfl (hb hby d34_39) rfl ?_
    refine XS.i2b X7.here hx rfl (hb hby d34_40) rfl ?_
    show Steps p.tables e below (T7.setTop (mkF m 41 #[.val (.ref a), .val (.int ch)] [(.int (ch.toInt8.toInt32)), (.int (Int32.ofNat cs.length)), (.ref t)])) _
    refine st8 _ ?_
    show Steps p.tables e below (T8.setTop (mkF m 42 #[.val (.ref a), .val (.int ch)] [])) _
    refine XS.goto X8.here hx rfl (pc0 := 42) (pc' := 75) rfl (hb hby d34_42) (by decide) (by decide) ?_
    refine XS.aloadN X8.here hx rfl (hb hby d34_75) rfl rfl ?_
    show Steps p.tables e below (T8.setTop (mkF m 76 #[.val (.ref a), .val (.int ch)] [(.ref a)])) _
    jvm_step X8.here [X8.here.top, hx, (hb hby d34_76), X8.method', Bd.returns, Value.isRef, FieldType.isReference]
    first | (intro acts; rw [hr _ acts rfl rfl rfl]) | rw [hr _ _ rfl rfl rfl]
    exact Steps.refl _
  · show own_QA Z (some (.ref a)) a t (cs ++ [ch]) h0 n0 _ T8.heap _
    rw [e8]
    exact ⟨rfl, N8, (((Keep.refl h0 [a, t]).wr W7 (Or.inl (tk 0 rfl))).wr W8 (Or.inl (tk 1 rfl))), t, k, g_t, Or.inl rfl, f10, f11, (by rw [own_snoc]; exact f13), f14, Or.inl ⟨f12, V8, own_l1_app hl hc0 hc1⟩⟩
set_option maxRecDepth 65536 in
set_option maxHeartbeats 40000000 in
theorem rmAC_i (l : Launch) (Z : State) (a0 : Array Value) (hw : ∀ d ∈ tables_1, d.before a0 Z = true) (ws : List Jvm.Cond) (G1 : Int32) (G3 : Value) (G4 : Value) (a : Addr) (t : Addr) (k : ClassId) (cs : List Int32) (ch : Int32) (h0 : Heap) (n0 : Nat) (Z0 : n0 ≤ h0.size) (EN : own_env Z G1 G3 G4) (X00 : Old Z n0 h0) (E_a : Exa Z h0 a "java/lang/StringBuilder") (F_value_a : Fld Z h0 a "java/lang/AbstractStringBuilder" "value" "[B" (.ref t)) (F_coder_a : Fld Z h0 a "java/lang/AbstractStringBuilder" "coder" "B" (.int 0)) (F_count_a : Fld Z h0 a "java/lang/AbstractStringBuilder" "count" "I" (.int (Int32.ofNat cs.length))) (F_maybeLatin1_a : Fld Z h0 a "java/lang/AbstractStringBuilder" "maybeLatin1" "Z" (.int 0)) (V_t : Arv Z h0 t k .byte (Int32.ofNat 16) (own_lat cs) (.int 0)) (hl : own_l1 cs) (hlen : cs.length ≤ 15) (g_a : n0 ≤ a) (g_t : n0 ≤ t) (hc1 : (255 : Int32) < ch) :
    MetFree l (⟨"java/lang/AbstractStringBuilder", "append", "(C)Ljava/lang/AbstractStringBuilder;"⟩ : MethodName) (head1 (Jvm.Cond.code (⟨"java/lang/AbstractStringBuilder", "append", "(C)Ljava/lang/AbstractStringBuilder;"⟩ : MethodName) jdk_68_method_31_code 2 (some (.object "java/lang/AbstractStringBuilder")) :: ws) ({ frames := 6, cells := 1, slots := 32, locals := 89 } : Room)) (fun a_ U_ => a_ = #[(.ref a), (.int ch)] ∧ Z.Warmed39 U_.vm ∧ U_.heap = h0) (fun _ _ _ _ _ => True) (fun _ U_ o_ U1_ => ∃ v_ L_, o_ = .returned v_ ∧ own_QA Z (some (.ref a)) a t (cs ++ [ch]) h0 n0 v_ U1_.heap L_ ∧ FrameEnd U_ o_ U1_ L_ ({ frames := 6, cells := 1, slots := 32, locals := 89 } : Room).cells ({ frames := 6, cells := 1, slots := 32, locals := 89 } : Room).slots) := by
  refine MetFree.of_bodySF (plainFor_of_name pn_34) hisR ?_
  intro p e s m args below meth c s₁ Bd hml0 hP hK
  obtain ⟨rfl, hZ, hh⟩ := hP
  have hx := Bd.exec
  have hby := Bd.bytes
  have hml : c.maxLocals = 2 := hml0
  have hown : s.vm.findClass "java/lang/AbstractStringBuilder" = some m.cls := findClass_of_methodNamed Bd.named
  have hnm := (name_of_methodNamed Bd.named Bd.method).1
  have X0 : Stand p l e ({ frames := 6, cells := 1, slots := 32, locals := 89 } : Room) s m #[(.ref a), (.int ch)] below meth c s₁ [] 0 0 := Stand.of_body Bd
  have e0 : s₁.heap = h0 := by rw [← hh, Bd.state]; rfl
  have N0 := Fr.nil n0
  have pre0 : ∀ tt, Steps p.tables e below (s₁.setTop (mkF m 0 #[.val (.ref a), .val (.int ch)] [])) tt → Steps p.tables e below (s₁.setTop (entryFrame m #[(.ref a), (.int ch)] 2)) tt := fun tt kk => castTop (ef_34_rr m a ch) kk
  have EN0 := EN
  obtain ⟨O2, P5, O4, rG3, O5, rG4, O6, O7, O8⟩ := EN
  obtain ⟨T1, X1, e1, st1⟩ := getF X0 hx hZ hown (host := "") (Or.inl (hw _ (tk 61 rfl))) Via.refl e0 F_count_a (g := (mkF m 2 #[.val (.ref a), .val (.int ch)] [(.ref a), (.ref a)])) rfl rfl (hb hby d34_2)
  obtain ⟨cq2, q2, q2'⟩ := Exa.cell E_a
  obtain ⟨_, _, ⟨T2, L2, k2, n2⟩, -, X2, ⟨Lc2, hQ2, l2, y2, z2⟩, st2⟩ := X1.privateBack hx (y := (⟨"java/lang/AbstractStringBuilder", "ensureCapacityInternal", "(I)V"⟩ : MethodName)) hown (mvT hZ (hw _ (tk 63 rfl))) (mvT hZ (hw _ (tk 64 rfl))) (own_priv (y := (⟨"java/lang/AbstractStringBuilder", "ensureCapacityInternal", "(I)V"⟩ : MethodName)) (by decide) (mvT hZ (hw _ (tk 66 rfl))) (mvP hZ (hw _ (tk 65 rfl)))) (Cond.privateMethod_at (mvP hZ (hw _ (tk 65 rfl)) (args := #[]))) (mvT hZ (hw _ (tk 67 rfl))) (by decide) (backOf (W := 0) (rmEC0 l Z a0 hw [] a (Int32.ofNat (cs.length + 1)) t k (own_lat cs) h0 n0 Z0 E_a F_value_a F_coder_a V_t (own_cap (by omega))) hZ (hw _ (tk 67 rfl)) (hw _ (tk 28 rfl)) (by decide) (by decide)) (g := (mkF m 7 #[.val (.ref a), .val (.int ch)] [(.int (Int32.ofNat (cs.length + 1))), (.ref a)])) rfl (by rw [hml]; rfl) (Steps.refl _) (a := a) (by rw [e1]; exact q2) q2' (argsL := [(.int (Int32.ofNat (cs.length + 1)))]) (rest := []) (lenOf pd__I_V rfl) rfl (by show 2 * 0 + _ ≤ _; exact Nat.le_of_eq rfl) (hb hby d34_7) (fun _ _ => ⟨rfl, e1, (by decide : 0 + 0 ≤ _), (by decide : 0 + 0 ≤ _)⟩)
  dsimp only [Pt.U, Pt.locs, Pt.cells, Pt.slots] at X2 l2 y2 z2 st2 hQ2
  subst l2 y2 z2
  obtain ⟨rfl, Nq2, eq2⟩ := hQ2
  have N2 := Fr.app N0 Nq2
  obtain ⟨cq3, kq3, q3a, q3b, q3c⟩ := isOf hZ eq2 E_a
  obtain ⟨_, _, ⟨T3, L3, k3, n3⟩, -, X3, ⟨Lc3, hQ3, l3, y3, z3⟩, st3⟩ := X2.virtualBack hx (y := (⟨"java/lang/AbstractStringBuilder", "isLatin1", "()Z"⟩ : MethodName)) (z := (⟨"java/lang/AbstractStringBuilder", "isLatin1", "()Z"⟩ : MethodName)) hown (mvT hZ (hw _ (tk 73 rfl))) (mvT hZ (hw _ (tk 74 rfl))) (notFace_of_selects (args := #[]) (mvT hZ (hw _ (tk 76 rfl)))) (mvT hZ (hw _ (tk 76 rfl))) (mvT hZ (hw _ (tk 75 rfl))) (by decide) (backOf (W := 0) (rmIL0 l Z a0 hw [] G1 G3 G4 a h0 n0 Z0 EN0 X00 E_a F_coder_a) hZ (hw _ (tk 77 rfl)) (hw _ (tk 28 rfl)) (by decide) (by decide)) q3a q3c (g := (mkF m 11 #[.val (.ref a), .val (.int ch)] [(.ref a)])) rfl (by rw [hml]; rfl) (Steps.refl _) (argsL := []) (rest := []) (lenOf pd___Z rfl) rfl (by show 2 * 0 + _ ≤ _; exact Nat.le_of_eq rfl) (hb hby d34_11) (fun _ _ => ⟨rfl, eq2, (by decide : 0 + 0 ≤ _), (by decide : 0 + 0 ≤ _)⟩)
  dsimp only [Pt.U, Pt.locs, Pt.cells, Pt.slots] at X3 l3 y3 z3 st3 hQ3
  subst l3 y3 z3
  obtain ⟨rfl, Nq3, eq3⟩ := hQ3
  have N3 := Fr.app N2 Nq3
  obtain ⟨_, _, ⟨T4, L4, k4, n4⟩, -, X4, ⟨Lc4, hQ4, l4, y4, z4⟩, st4⟩ := Jvm.LawKit.callS X3 hx (y := (⟨"java/lang/StringLatin1", "canEncode", "(C)Z"⟩ : MethodName)) hown (mvT hZ (hw _ (tk 78 rfl))) (mvT hZ (hw _ (tk 79 rfl))) (mvT hZ (hw _ (tk 80 rfl))) (mvT hZ (hw _ (tk 81 rfl))) (by decide) (backOf (W := 0) (rmCE0 l Z a0 hw [] ch h0 n0 Z0 hc1) hZ (hw _ (tk 81 rfl)) (hw _ (tk 80 rfl)) (by decide) (by decide)) (g := (mkF m 18 #[.val (.ref a), .val (.int ch)] [(.int ch)])) rfl (by rw [hml]; rfl) (argsL := [(.int ch)]) (rest := []) (lenOf pd__C_Z rfl) rfl (by show 2 * 0 + _ ≤ _; exact Nat.le_of_eq rfl) (hb hby d34_18) (fun _ _ => ⟨rfl, eq3, (by decide : 0 + 0 ≤ _), (by decide : 0 + 0 ≤ _)⟩)
  dsimp only [Pt.U, Pt.locs, Pt.cells, Pt.slots] at X4 l4 y4 z4 st4 hQ4
  subst l4 y4 z4
  obtain ⟨rfl, Nq4, eq4⟩ := hQ4
  have N4 := Fr.app N3 Nq4
  obtain ⟨cq5, kq5, q5a, q5b, q5c⟩ := isOf hZ eq4 E_a
  obtain ⟨_, _, ⟨T5, L5, k5, n5⟩, -, X5, ⟨Lc5, hQ5, l5, y5, z5⟩, st5⟩ := X4.virtualBack hx (y := (⟨"java/lang/AbstractStringBuilder", "isLatin1", "()Z"⟩ : MethodName)) (z := (⟨"java/lang/AbstractStringBuilder", "isLatin1", "()Z"⟩ : MethodName)) hown (mvT hZ (hw _ (tk 73 rfl))) (mvT hZ (hw _ (tk 74 rfl))) (notFace_of_selects (args := #[]) (mvT hZ (hw _ (tk 76 rfl)))) (mvT hZ (hw _ (tk 76 rfl))) (mvT hZ (hw _ (tk 75 rfl))) (by decide) (backOf (W := 0) (rmIL0 l Z a0 hw [] G1 G3 G4 a h0 n0 Z0 EN0 X00 E_a F_coder_a) hZ (hw _ (tk 77 rfl)) (hw _ (tk 28 rfl)) (by decide) (by decide)) q5a q5c (g := (mkF m 46 #[.val (.ref a), .val (.int ch)] [(.ref a)])) rfl (by rw [hml]; rfl) (Steps.refl _) (argsL := []) (rest := []) (lenOf pd___Z rfl) rfl (by show 2 * 0 + _ ≤ _; exact Nat.le_of_eq rfl) (hb hby d34_46) (fun _ _ => ⟨rfl, eq4, (by decide : 0 + 0 ≤ _), (by decide : 0 + 0 ≤ _)⟩)
  dsimp only [Pt.U, Pt.locs, Pt.cells, Pt.slots] at X5 l5 y5 z5 st5 hQ5
  subst l5 y5 z5
  obtain ⟨rfl, Nq5, eq5⟩ := hQ5
  have N5 := Fr.app N4 Nq5
  obtain ⟨cq6, q6, q6'⟩ := Exa.cell E_a
  obtain ⟨_, _, ⟨T6, L6, k6, n6⟩, -, X6, ⟨Lc6, hQ6, l6, y6, z6⟩, st6⟩ := X5.privateBack hx (y := (⟨"java/lang/AbstractStringBuilder", "inflate", "()V"⟩ : MethodName)) hown (mvT hZ (hw _ (tk 183 rfl))) (mvT hZ (hw _ (tk 184 rfl))) (own_priv (y := (⟨"java/lang/AbstractStringBuilder", "inflate", "()V"⟩ : MethodName)) (by decide) (mvT hZ (hw _ (tk 186 rfl))) (mvP hZ (hw _ (tk 185 rfl)))) (Cond.privateMethod_at (mvP hZ (hw _ (tk 185 rfl)) (args := #[]))) (mvT hZ (hw _ (tk 187 rfl))) (by decide) (backOf (W := 0) (rmINF l Z a0 hw [] G1 G3 G4 a t k cs h0 n0 Z0 EN0 X00 E_a F_value_a F_coder_a F_count_a F_maybeLatin1_a V_t hl hlen g_a g_t) hZ (hw _ (tk 187 rfl)) (hw _ (tk 28 rfl)) (by decide) (by decide)) (g := (mkF m 53 #[.val (.ref a), .val (.int ch)] [(.ref a)])) rfl (by rw [hml]; rfl) (Steps.refl _) (a := a) (by rw [eq5]; exact q6) q6' (argsL := []) (rest := []) (lenOf pd___V rfl) rfl (by show 2 * 0 + _ ≤ _; exact Nat.le_of_eq rfl) (hb hby d34_53) (fun _ _ => ⟨rfl, eq5, (by decide : 0 + 1 ≤ _), (by decide : 0 + 32 ≤ _)⟩)
  dsimp only [Pt.U, Pt.locs, Pt.cells, Pt.slots] at X6 l6 y6 z6 st6 hQ6
  subst l6 y6 z6
  obtain ⟨t6, k6q, rfl, Nq6, gt6, sq6, Kq6, E6q, Fv6q, Fc6q, Fn6q, Fm6q, V6q⟩ := hQ6
  have N6 := Fr.app N5 Nq6
  have szt6 : h0.size ≤ t6 := Nat.le_trans (Nat.le_refl _) sq6
  obtain ⟨T7, X7, e7, st7⟩ := getF X6 hx hZ hown (host := "") (Or.inl (hw _ (tk 34 rfl))) Via.refl rfl Fv6q (g := (mkF m 57 #[.val (.ref a), .val (.int ch)] [(.ref a)])) rfl rfl (hb hby d34_57)
  obtain ⟨T8, X8, e8, st8⟩ := getF X7 hx hZ hown (host := "") (Or.inl (hw _ (tk 61 rfl))) Via.refl e7 Fn6q (g := (mkF m 62 #[.val (.ref a), .val (.int ch)] [(.ref a), (.ref a), (.ref t6)])) rfl rfl (hb hby d34_62)
  obtain ⟨T9, h9, X9, e9, W9, st9⟩ := putF X8 hx hZ hown (host := "") (Or.inl (hw _ (tk 61 rfl))) Via.refl e8 Fn6q E6q (Or.inl (hw _ (tk 62 rfl))) (hw _ (tk 19 rfl)) (ty := .int) (by decide) rfl rfl (g := (mkF m 68 #[.val (.ref a), .val (.int ch)] [(.int (Int32.ofNat (cs.length + 1))), (.ref a), (.int (Int32.ofNat cs.length)), (.ref t6)])) rfl rfl (hb hby d34_68)
  have Fw9 := Fn6q.same W9
  have N9 := Fr.snoc X9 N6 g_a
  have f11 := ((X00.keep Kq6 (allS g_a all0)).wr W9 g_a)
  have f12 := (V6q.other W9 (Ne.symm (Nat.ne_of_lt (Nat.lt_of_lt_of_le E_a.lt sq6))))
  obtain ⟨_, _, ⟨T10, L10, k10, n10⟩, -, X10, ⟨Lc10, hQ10, l10, y10, z10⟩, st10⟩ := Jvm.LawKit.callS X9 hx (y := (⟨"java/lang/StringUTF16", "putCharSB", "([BII)V"⟩ : MethodName)) hown (mvT hZ (hw _ (tk 214 rfl))) (mvT hZ (hw _ (tk 215 rfl))) (mvT hZ (hw _ (tk 190 rfl))) (mvT hZ (hw _ (tk 216 rfl))) (by decide) (backOf (W := 0) (rmPSB l Z a0 hw [] G1 G3 G4 t6 k6q cs cs.length ch h9 n0 (Nat.le_trans Z0 (Nat.le_trans Kq6.1 (Keep.of_wr W9).1)) EN0 f11 f12 rfl (by omega) gt6) hZ (hw _ (tk 216 rfl)) (hw _ (tk 190 rfl)) (by decide) (by decide)) (g := (mkF m 72 #[.val (.ref a), .val (.int ch)] [(.int ch), (.int (Int32.ofNat cs.length)), (.ref t6)])) rfl (by rw [hml]; rfl) (argsL := [(.ref t6), (.int (Int32.ofNat cs.length)), (.int ch)]) (rest := []) (lenOf pd___BII_V rfl) rfl (by show 2 * 0 + _ ≤ _; exact Nat.le_of_eq rfl) (hb hby d34_72) (fun _ _ => ⟨rfl, e9, (by decide : 1 + 0 ≤ _), (by decide : 32 + 0 ≤ _)⟩)
  dsimp only [Pt.U, Pt.locs, Pt.cells, Pt.slots] at X10 l10 y10 z10 st10 hQ10
  subst l10 y10 z10
  obtain ⟨rfl, Nq10, Kq10, Vq10⟩ := hQ10
  have N10 := Fr.app N9 Nq10
  have f13 := ((E6q.wr W9).keep Kq10)
  have f14 := ((Fv6q.other W9 (Or.inr (slot_ne (Or.inl (hw _ (tk 35 rfl))) (Or.inl (hw _ (tk 62 rfl))) (by decide) (t := (.array .byte)) (t' := .int) (by decide) (by decide)))).keep Kq10 (ninS (Nat.ne_of_lt (Nat.lt_of_lt_of_le E_a.lt sq6)) nin0))
  have f15 := ((Fc6q.other W9 (Or.inr (slot_ne (Or.inl (hw _ (tk 37 rfl))) (Or.inl (hw _ (tk 62 rfl))) (by decide) (t := .byte) (t' := .int) (by decide) (by decide)))).keep Kq10 (ninS (Nat.ne_of_lt (Nat.lt_of_lt_of_le E_a.lt sq6)) nin0))
  have f16 := (Fw9.keep Kq10 (ninS (Nat.ne_of_lt (Nat.lt_of_lt_of_le E_a.lt sq6)) nin0))
  have f17 := ((Fm6q.other W9 (Or.inr (slot_ne (Or.inl (hw _ (tk 241 rfl))) (Or.inl (hw _ (tk 62 rfl))) (by decide) (t := .boolean) (t' := .int) (by decide) (by decide)))).keep Kq10 (ninS (Nat.ne_of_lt (Nat.lt_of_lt_of_le E_a.lt sq6)) nin0))
  obtain ⟨fs, hr, hrun, hended, hW, hsame⟩ := X10.leave (v := some (.ref a)) (fun h => by rw [Bd.returns] at h; cases h)
  refine ⟨_, _, pre0 _ ?_, hrun, hended, _, _, rfl, ?_, ⟨_, rfl⟩, hW, hsame.mono (by decide) (by decide)⟩
  · show Steps p.tables e below (s₁.setTop (mkF m 0 #[.val (.ref a), .val (.int ch)] [])) _
    refine XS.aloadN X0.here hx rfl (hb hby d34_0) rfl rfl ?_
    refine XS.aloadN X0.here hx rfl (hb hby d34_1) rfl rfl ?_
    show Steps p.tables e below (s₁.setTop (mkF m 2 #[.val (.ref a), .val (.int ch)] [(.ref a), (.ref a)])) _
    refine st1 _ ?_
    show Steps p.tables e below (T1.setTop (mkF m 5 #[.val (.ref a), .val (.int ch)] [(.int (Int32.ofNat cs.length)), (.ref a)])) _
    refine XS.iconst X1.here hx rfl (hb hby d34_5) ?_
    refine XS.iadd X1.here hx rfl (hb hby d34_6) rfl ?_
    show Steps p.tables e below (T1.setTop (mkF m 7 #[.val (.ref a), .val (.int ch)] [(.int ((Int32.ofNat cs.length) + (1 : Int32))), (.ref a)])) _
    rw [(own_succ cs.length)]
    show Steps p.tables e below (T1.setTop (mkF m 7 #[.val (.ref a), .val (.int ch)] [(.int (Int32.ofNat (cs.length + 1))), (.ref a)])) _
    refine st2.trans ?_
    show Steps p.tables e below (T2.setTop (mkF m 10 #[.val (.ref a), .val (.int ch)] [])) _
    refine XS.aloadN X2.here hx rfl (hb hby d34_10) rfl rfl ?_
    show Steps p.tables e below (T2.setTop (mkF m 11 #[.val (.ref a), .val (.int ch)] [(.ref a)])) _
    refine st3.trans ?_
    show Steps p.tables e below (T3.setTop (mkF m 14 #[.val (.ref a), .val (.int ch)] [(.int 1)])) _
    refine XS.ifNo X3.here hx rfl (hb hby d34_14) rfl ((if0 _ _).trans (feq (by decide : ¬ ((1 : Int32) = (0 : Int32)))).1) ?_
    refine XS.iloadN X3.here hx rfl (hb hby d34_17) rfl ?_
    show Steps p.tables e below (T3.setTop (mkF m 18 #[.val (.ref a), .val (.int ch)] [(.int ch)])) _
    refine st4 _ ?_
    show Steps p.tables e below (T4.setTop (mkF m 21 #[.val (.ref a), .val (.int ch)] [(.int 0)])) _
    refine XS.ifYes X4.here hx rfl (pc0 := 21) (pc' := 45) rfl (hb hby d34_21) rfl ((if0 _ _).trans (teq (by decide : (0 : Int32) = (0 : Int32))).1) (by decide) (by decide) ?_
    refine XS.aloadN X4.here hx rfl (hb hby d34_45) rfl rfl ?_
    show Steps p.tables e below (T4.setTop (mkF m 46 #[.val (.ref a), .val (.int ch)] [(.ref a)])) _
    refine st5.trans ?_
    show Steps p.tables e below (T5.setTop (mkF m 49 #[.val (.ref a), .val (.int ch)] [(.int 1)])) _
    refine XS.ifNo X5.here hx rfl (hb hby d34_49) rfl ((if0 _ _).trans (feq (by decide : ¬ ((1 : Int32) = (0 : Int32)))).1) ?_
    refine XS.aloadN X5.here hx rfl (hb hby d34_52) rfl rfl ?_
    show Steps p.tables e below (T5.setTop (mkF m 53 #[.val (.ref a), .val (.int ch)] [(.ref a)])) _
    refine st6.trans ?_
    show Steps p.tables e below (T6.setTop (mkF m 56 #[.val (.ref a), .val (.int ch)] [])) _
    refine XS.aloadN X6.here hx rfl (hb hby d34_56) rfl rfl ?_
    show Steps p.tables e below (T6.setTop (mkF m 57 #[.val (.ref a), .val (.int ch)] [(.ref a)])) _
    refine st7 _ ?_
    show Steps p.tables e below (T7.setTop (mkF m 60 #[.val (.ref a), .val (.int ch)] [(.ref t6)])) _
    refine XS.aloadN X7.here hx rfl (hb hby d34_60) rfl rfl ?_
    refine XS.dup X7.here hx rfl (hb hby d34_61) rfl rfl ?_
    show Steps p.tables e below (T7.setTop (mkF m 62 #[.val (.ref a), .val (.int ch)] [(.ref a), (.ref a), (.ref t6)])) _
    refine st8 _ ?_
    show Steps p.tables e below (T8.setTop (mkF m 65 #[.val (.ref a), .val (.int ch)] [(.int (Int32.ofNat cs.length)), (.ref a), (.ref t6)])) _
    refine XS.dupX1 X8.here hx rfl (hb hby d34_65) rfl rfl rfl ?_
    refine XS.iconst X8.here hx rfl (hb hby d34_66) ?_
    refine XS.iadd X8.here hx rfl (hb hby d34_67) rfl ?_
    show Steps p.tables e below (T8.setTop (mkF m 68 #[.val (.ref a), .val (.int ch)] [(.int ((Int32.ofNat cs.length) + (1 : Int32))), (.ref a), (.int (Int32.ofNat cs.length)), (.ref t6)])) _
    rw [(own_succ cs.length)]
    show Steps p.tables e below (T8.setTop (mkF m 68 #[.val (.ref a), .val (.int ch)] [(.int (Int32.ofNat (cs.length + 1))), (.ref a), (.int (Int32.ofNat cs.length)), (.ref t6)])) _
    refine st9 _ ?_
    show Steps p.tables e below (T9.setTop (mkF m 71 #[.val (.ref a), .val (.int ch)] [(.int (Int32.ofNat cs.length)), (.ref t6)])) _
    refine XS.iloadN X9.here hx rfl (hb hby d34_71) rfl ?_
    show Steps p.tables e below (T9.setTop (mkF m 72 #[.val (.ref a), .val (.int ch)] [(.int ch), (.int (Int32.ofNat cs.length)), (.ref t6)])) _
    refine st10 _ ?_
    show Steps p.tables e below (T10.setTop (mkF m 75 #[.val (.ref a), .val (.int ch)] [])) _
    refine XS.aloadN X10.here hx rfl (hb hby d34_75) rfl rfl ?_
    show Steps p.tables e below (T10.setTop (mkF m 76 #[.val (.ref a), .val (.int ch)] [(.ref a)])) _
    jvm_step X10.here [X10.here.top, hx, (hb hby d34_76), X10.method', Bd.returns, Value.isRef, FieldType.isReference]
    first | (intro acts; rw [hr _ acts rfl rfl rfl]) | rw [hr _ _ rfl rfl rfl]
    exact Steps.refl _
  · show own_QA Z (some (.ref a)) a t (cs ++ [ch]) h0 n0 _ T10.heap _
    exact ⟨rfl, N10, ((((Keep.refl h0 [a, t]).trans Kq6 (allS (P := fun zz => zz ∈ [a, t] ∨ h0.size ≤ zz) (Or.inl (tk 0 rfl)) all0)).wr W9 (Or.inl (tk 0 rfl))).trans Kq10 (allS (P := fun zz => zz ∈ [a, t] ∨ h0.size ≤ zz) (Or.inr szt6) all0)), t6, k6q, gt6, Or.inr szt6, f13, f14, (by rw [own_snoc]; exact f16), f17, Or.inr ⟨f15, Vq10⟩⟩
set_option maxRecDepth 65536 in
set_option maxHeartbeats 40000000 in
theorem rmAC_w (l : Launch) (Z : State) (a0 : Array Value) (hw : ∀ d ∈ tables_1, d.before a0 Z = true) (ws : List Jvm.Cond) (G1 : Int32) (G3 : Value) (G4 : Value) (a : Addr) (t : Addr) (k : ClassId) (cs : List Int32) (ch : Int32) (h0 : Heap) (n0 : Nat) (Z0 : n0 ≤ h0.size) (EN : own_env Z G1 G3 G4) (X00 : Old Z n0 h0) (E_a : Exa Z h0 a "java/lang/StringBuilder") (F_value_a : Fld Z h0 a "java/lang/AbstractStringBuilder" "value" "[B" (.ref t)) (F_coder_a : Fld Z h0 a "java/lang/AbstractStringBuilder" "coder" "B" (.int 1)) (F_count_a : Fld Z h0 a "java/lang/AbstractStringBuilder" "count" "I" (.int (Int32.ofNat cs.length))) (F_maybeLatin1_a : Fld Z h0 a "java/lang/AbstractStringBuilder" "maybeLatin1" "Z" (.int 0)) (V_t : Arv Z h0 t k .byte (Int32.ofNat (2 * 16)) (own_wide cs) (.int 0)) (hlen : cs.length ≤ 15) (g_a : n0 ≤ a) (g_t : n0 ≤ t) :
    MetFree l (⟨"java/lang/AbstractStringBuilder", "append", "(C)Ljava/lang/AbstractStringBuilder;"⟩ : MethodName) (head1 (Jvm.Cond.code (⟨"java/lang/AbstractStringBuilder", "append", "(C)Ljava/lang/AbstractStringBuilder;"⟩ : MethodName) jdk_68_method_31_code 2 (some (.object "java/lang/AbstractStringBuilder")) :: ws) ({ frames := 6, cells := 1, slots := 32, locals := 89 } : Room)) (fun a_ U_ => a_ = #[(.ref a), (.int ch)] ∧ Z.Warmed39 U_.vm ∧ U_.heap = h0) (fun _ _ _ _ _ => True) (fun _ U_ o_ U1_ => ∃ v_ L_, o_ = .returned v_ ∧ own_QA Z (some (.ref a)) a t (cs ++ [ch]) h0 n0 v_ U1_.heap L_ ∧ FrameEnd U_ o_ U1_ L_ ({ frames := 6, cells := 1, slots := 32, locals := 89 } : Room).cells ({ frames := 6, cells := 1, slots := 32, locals := 89 } : Room).slots) := by
  refine MetFree.of_bodySF (plainFor_of_name pn_34) hisR ?_
  intro p e s m args below meth c s₁ Bd hml0 hP hK
  obtain ⟨rfl, hZ, hh⟩ := hP
  have hx := Bd.exec
  have hby := Bd.bytes
  have hml : c.maxLocals = 2 := hml0
  have hown : s.vm.findClass "java/lang/AbstractStringBuilder" = some m.cls := findClass_of_methodNamed Bd.named
  have hnm := (name_of_methodNamed Bd.named Bd.method).1
  have X0 : Stand p l e ({ frames := 6, cells := 1, slots := 32, locals := 89 } : Room) s m #[(.ref a), (.int ch)] below meth c s₁ [] 0 0 := Stand.of_body Bd
  have e0 : s₁.heap = h0 := by rw [← hh, Bd.state]; rfl
  have N0 := Fr.nil n0
  have pre0 : ∀ tt, Steps p.tables e below (s₁.setTop (mkF m 0 #[.val (.ref a), .val (.int ch)] [])) tt → Steps p.tables e below (s₁.setTop (entryFrame m #[(.ref a), (.int ch)] 2)) tt := fun tt kk => castTop (ef_34_rr m a ch) kk
  have EN0 := EN
  obtain ⟨O2, P5, O4, rG3, O5, rG4, O6, O7, O8⟩ := EN
  obtain ⟨T1, X1, e1, st1⟩ := getF X0 hx hZ hown (host := "") (Or.inl (hw _ (tk 61 rfl))) Via.refl e0 F_count_a (g := (mkF m 2 #[.val (.ref a), .val (.int ch)] [(.ref a), (.ref a)])) rfl rfl (hb hby d34_2)
  obtain ⟨cq2, q2, q2'⟩ := Exa.cell E_a
  obtain ⟨_, _, ⟨T2, L2, k2, n2⟩, -, X2, ⟨Lc2, hQ2, l2, y2, z2⟩, st2⟩ := X1.privateBack hx (y := (⟨"java/lang/AbstractStringBuilder", "ensureCapacityInternal", "(I)V"⟩ : MethodName)) hown (mvT hZ (hw _ (tk 63 rfl))) (mvT hZ (hw _ (tk 64 rfl))) (own_priv (y := (⟨"java/lang/AbstractStringBuilder", "ensureCapacityInternal", "(I)V"⟩ : MethodName)) (by decide) (mvT hZ (hw _ (tk 66 rfl))) (mvP hZ (hw _ (tk 65 rfl)))) (Cond.privateMethod_at (mvP hZ (hw _ (tk 65 rfl)) (args := #[]))) (mvT hZ (hw _ (tk 67 rfl))) (by decide) (backOf (W := 0) (rmEC1 l Z a0 hw [] a (Int32.ofNat (cs.length + 1)) t k (own_wide cs) h0 n0 Z0 E_a F_value_a F_coder_a V_t (own_cap (by omega))) hZ (hw _ (tk 67 rfl)) (hw _ (tk 28 rfl)) (by decide) (by decide)) (g := (mkF m 7 #[.val (.ref a), .val (.int ch)] [(.int (Int32.ofNat (cs.length + 1))), (.ref a)])) rfl (by rw [hml]; rfl) (Steps.refl _) (a := a) (by rw [e1]; exact q2) q2' (argsL := [(.int (Int32.ofNat (cs.length + 1)))]) (rest := []) (lenOf pd__I_V rfl) rfl (by show 2 * 0 + _ ≤ _; exact Nat.le_of_eq rfl) (hb hby d34_7) (fun _ _ => ⟨rfl, e1, (by decide : 0 + 0 ≤ _), (by decide : 0 + 0 ≤ _)⟩)
  dsimp only [Pt.U, Pt.locs, Pt.cells, Pt.slots] at X2 l2 y2 z2 st2 hQ2
  subst l2 y2 z2
  obtain ⟨rfl, Nq2, eq2⟩ := hQ2
  have N2 := Fr.app N0 Nq2
  obtain ⟨cq3, kq3, q3a, q3b, q3c⟩ := isOf hZ eq2 E_a
  obtain ⟨_, _, ⟨T3, L3, k3, n3⟩, -, X3, ⟨Lc3, hQ3, l3, y3, z3⟩, st3⟩ := X2.virtualBack hx (y := (⟨"java/lang/AbstractStringBuilder", "isLatin1", "()Z"⟩ : MethodName)) (z := (⟨"java/lang/AbstractStringBuilder", "isLatin1", "()Z"⟩ : MethodName)) hown (mvT hZ (hw _ (tk 73 rfl))) (mvT hZ (hw _ (tk 74 rfl))) (notFace_of_selects (args := #[]) (mvT hZ (hw _ (tk 76 rfl)))) (mvT hZ (hw _ (tk 76 rfl))) (mvT hZ (hw _ (tk 75 rfl))) (by decide) (backOf (W := 0) (rmIL1 l Z a0 hw [] G1 G3 G4 a h0 n0 Z0 EN0 X00 E_a F_coder_a) hZ (hw _ (tk 77 rfl)) (hw _ (tk 28 rfl)) (by decide) (by decide)) q3a q3c (g := (mkF m 11 #[.val (.ref a), .val (.int ch)] [(.ref a)])) rfl (by rw [hml]; rfl) (Steps.refl _) (argsL := []) (rest := []) (lenOf pd___Z rfl) rfl (by show 2 * 0 + _ ≤ _; exact Nat.le_of_eq rfl) (hb hby d34_11) (fun _ _ => ⟨rfl, eq2, (by decide : 0 + 0 ≤ _), (by decide : 0 + 0 ≤ _)⟩)
  dsimp only [Pt.U, Pt.locs, Pt.cells, Pt.slots] at X3 l3 y3 z3 st3 hQ3
  subst l3 y3 z3
  obtain ⟨rfl, Nq3, eq3⟩ := hQ3
  have N3 := Fr.app N2 Nq3
  obtain ⟨cq4, kq4, q4a, q4b, q4c⟩ := isOf hZ eq3 E_a
  obtain ⟨_, _, ⟨T4, L4, k4, n4⟩, -, X4, ⟨Lc4, hQ4, l4, y4, z4⟩, st4⟩ := X3.virtualBack hx (y := (⟨"java/lang/AbstractStringBuilder", "isLatin1", "()Z"⟩ : MethodName)) (z := (⟨"java/lang/AbstractStringBuilder", "isLatin1", "()Z"⟩ : MethodName)) hown (mvT hZ (hw _ (tk 73 rfl))) (mvT hZ (hw _ (tk 74 rfl))) (notFace_of_selects (args := #[]) (mvT hZ (hw _ (tk 76 rfl)))) (mvT hZ (hw _ (tk 76 rfl))) (mvT hZ (hw _ (tk 75 rfl))) (by decide) (backOf (W := 0) (rmIL1 l Z a0 hw [] G1 G3 G4 a h0 n0 Z0 EN0 X00 E_a F_coder_a) hZ (hw _ (tk 77 rfl)) (hw _ (tk 28 rfl)) (by decide) (by decide)) q4a q4c (g := (mkF m 46 #[.val (.ref a), .val (.int ch)] [(.ref a)])) rfl (by rw [hml]; rfl) (Steps.refl _) (argsL := []) (rest := []) (lenOf pd___Z rfl) rfl (by show 2 * 0 + _ ≤ _; exact Nat.le_of_eq rfl) (hb hby d34_46) (fun _ _ => ⟨rfl, eq3, (by decide : 0 + 0 ≤ _), (by decide : 0 + 0 ≤ _)⟩)
  dsimp only [Pt.U, Pt.locs, Pt.cells, Pt.slots] at X4 l4 y4 z4 st4 hQ4
  subst l4 y4 z4
  obtain ⟨rfl, Nq4, eq4⟩ := hQ4
  have N4 := Fr.app N3 Nq4
  obtain ⟨T5, X5, e5, st5⟩ := getF X4 hx hZ hown (host := "") (Or.inl (hw _ (tk 34 rfl))) Via.refl eq4 F_value_a (g := (mkF m 57 #[.val (.ref a), .val (.int ch)] [(.ref a)])) rfl rfl (hb hby d34_57)
  obtain ⟨T6, X6, e6, st6⟩ := getF X5 hx hZ hown (host := "") (Or.inl (hw _ (tk 61 rfl))) Via.refl e5 F_count_a (g := (mkF m 62 #[.val (.ref a), .val (.int ch)] [(.ref a), (.ref a), (.ref t)])) rfl rfl (hb hby d34_62)
  obtain ⟨T7, h7, X7, e7, W7, st7⟩ := putF X6 hx hZ hown (host := "") (Or.inl (hw _ (tk 61 rfl))) Via.refl e6 F_count_a E_a (Or.inl (hw _ (tk 62 rfl))) (hw _ (tk 19 rfl)) (ty := .int) (by decide) rfl rfl (g := (mkF m 68 #[.val (.ref a), .val (.int ch)] [(.int (Int32.ofNat (cs.length + 1))), (.ref a), (.int (Int32.ofNat cs.length)), (.ref t)])) rfl rfl (hb hby d34_68)
  have Fw7 := F_count_a.same W7
  have N7 := Fr.snoc X7 N4 g_a
  have f9 := (X00.wr W7 g_a)
  have f10 := (V_t.other W7 (Ne.symm (Exa.neArv E_a V_t (hw _ (tk 19 rfl)))))
  obtain ⟨_, _, ⟨T8, L8, k8, n8⟩, -, X8, ⟨Lc8, hQ8, l8, y8, z8⟩, st8⟩ := Jvm.LawKit.callS X7 hx (y := (⟨"java/lang/StringUTF16", "putCharSB", "([BII)V"⟩ : MethodName)) hown (mvT hZ (hw _ (tk 214 rfl))) (mvT hZ (hw _ (tk 215 rfl))) (mvT hZ (hw _ (tk 190 rfl))) (mvT hZ (hw _ (tk 216 rfl))) (by decide) (backOf (W := 0) (rmPSB l Z a0 hw [] G1 G3 G4 t k cs cs.length ch h7 n0 (Nat.le_trans Z0 (Keep.of_wr W7).1) EN0 f9 f10 rfl (by omega) g_t) hZ (hw _ (tk 216 rfl)) (hw _ (tk 190 rfl)) (by decide) (by decide)) (g := (mkF m 72 #[.val (.ref a), .val (.int ch)] [(.int ch), (.int (Int32.ofNat cs.length)), (.ref t)])) rfl (by rw [hml]; rfl) (argsL := [(.ref t), (.int (Int32.ofNat cs.length)), (.int ch)]) (rest := []) (lenOf pd___BII_V rfl) rfl (by show 2 * 0 + _ ≤ _; exact Nat.le_of_eq rfl) (hb hby d34_72) (fun _ _ => ⟨rfl, e7, (by decide : 0 + 0 ≤ _), (by decide : 0 + 0 ≤ _)⟩)
  dsimp only [Pt.U, Pt.locs, Pt.cells, Pt.slots] at X8 l8 y8 z8 st8 hQ8
  subst l8 y8 z8
  obtain ⟨rfl, Nq8, Kq8, Vq8⟩ := hQ8
  have N8 := Fr.app N7 Nq8
  have f11 := ((E_a.wr W7).keep Kq8)
  have f12 := ((F_value_a.other W7 (Or.inr (slot_ne (Or.inl (hw _ (tk 35 rfl))) (Or.inl (hw _ (tk 62 rfl))) (by decide) (t := (.array .byte)) (t' := .int) (by decide) (by decide)))).keep Kq8 (ninS (Exa.neArv E_a V_t (hw _ (tk 19 rfl))) nin0))
  have f13 := ((F_coder_a.other W7 (Or.inr (slot_ne (Or.inl (hw _ (tk 37 rfl))) (Or.inl (hw _ (tk 62 rfl))) (by decide) (t := .byte) (t' := .int) (by decide) (by decide)))).keep Kq8 (ninS (Exa.neArv E_a V_t (hw _ (tk 19 rfl))) nin0))
  have f14 := (Fw7.keep Kq8 (ninS (Exa.neArv E_a V_t (hw _ (tk 19 rfl))) nin0))
  have f15 := ((F_maybeLatin1_a.other W7 (Or.inr (slot_ne (Or.inl (hw _ (tk 241 rfl))) (Or.inl (hw _ (tk 62 rfl))) (by decide) (t := .boolean) (t' := .int) (by decide) (by decide)))).keep Kq8 (ninS (Exa.neArv E_a V_t (hw _ (tk 19 rfl))) nin0))
  obtain ⟨fs, hr, hrun, hended, hW, hsame⟩ := X8.leave (v := some (.ref a)) (fun h => by rw [Bd.returns] at h; cases h)
  refine ⟨_, _, pre0 _ ?_, hrun, hended, _, _, rfl, ?_, ⟨_, rfl⟩, hW, hsame.mono (by decide) (by decide)⟩
  · show Steps p.tables e below (s₁.setTop (mkF m 0 #[.val (.ref a), .val (.int ch)] [])) _
    refine XS.aloadN X0.here hx rfl (hb hby d34_0) rfl rfl ?_
    refine XS.aloadN X0.here hx rfl (hb hby d34_1) rfl rfl ?_
    show Steps p.tables e below (s₁.setTop (mkF m 2 #[.val (.ref a), .val (.int ch)] [(.ref a), (.ref a)])) _
    refine st1 _ ?_
    show Steps p.tables e below (T1.setTop (mkF m 5 #[.val (.ref a), .val (.int ch)] [(.int (Int32.ofNat cs.length)), (.ref a)])) _
    refine XS.iconst X1.here hx rfl (hb hby d34_5) ?_
    refine XS.iadd X1.here hx rfl (hb hby d34_6) rfl ?_
    show Steps p.tables e below (T1.setTop (mkF m 7 #[.val (.ref a), .val (.int ch)] [(.int ((Int32.ofNat cs.length) + (1 : Int32))), (.ref a)])) _
    rw [(own_succ cs.length)]
    show Steps p.tables e below (T1.setTop (mkF m 7 #[.val (.ref a), .val (.int ch)] [(.int (Int32.ofNat (cs.length + 1))), (.ref a)])) _
    refine st2.trans ?_
    show Steps p.tables e below (T2.setTop (mkF m 10 #[.val (.ref a), .val (.int ch)] [])) _
    refine XS.aloadN X2.here hx rfl (hb hby d34_10) rfl rfl ?_
    show Steps p.tables e below (T2.setTop (mkF m 11 #[.val (.ref a), .val (.int ch)] [(.ref a)])) _
    refine st3.trans ?_
    show Steps p.tables e below (T3.setTop (mkF m 14 #[.val (.ref a), .val (.int ch)] [(.int 0)])) _
    refine XS.ifYes X3.here hx rfl (pc0 := 14) (pc' := 45) rfl (hb hby d34_14) rfl ((if0 _ _).trans (teq (by decide : (0 : Int32) = (0 : Int32))).1) (by decide) (by decide) ?_
    refine XS.aloadN X3.here hx rfl (hb hby d34_45) rfl rfl ?_
    show Steps p.tables e below (T3.setTop (mkF m 46 #[.val (.ref a), .val (.int ch)] [(.ref a)])) _
    refine st4.trans ?_
    show Steps p.tables e below (T4.setTop (mkF m 49 #[.val (.ref a), .val (.int ch)] [(.int 0)])) _
    refine XS.ifYes X4.here hx rfl (pc0 := 49) (pc' := 56) rfl (hb hby d34_49) rfl ((if0 _ _).trans (teq (by decide : (0 : Int32) = (0 : Int32))).1) (by decide) (by decide) ?_
    refine XS.aloadN X4.here hx rfl (hb hby d34_56) rfl rfl ?_
    show Steps p.tables e below (T4.setTop (mkF m 57 #[.val (.ref a), .val (.int ch)] [(.ref a)])) _
    refine st5 _ ?_
    show Steps p.tables e below (T5.setTop (mkF m 60 #[.val (.ref a), .val (.int ch)] [(.ref t)])) _
    refine XS.aloadN X5.here hx rfl (hb hby d34_60) rfl rfl ?_
    refine XS.dup X5.here hx rfl (hb hby d34_61) rfl rfl ?_
    show Steps p.tables e below (T5.setTop (mkF m 62 #[.val (.ref a), .val (.int ch)] [(.ref a), (.ref a), (.ref t)])) _
    refine st6 _ ?_
    show Steps p.tables e below (T6.setTop (mkF m 65 #[.val (.ref a), .val (.int ch)] [(.int (Int32.ofNat cs.length)), (.ref a), (.ref t)])) _
    refine XS.dupX1 X6.here hx rfl (hb hby d34_65) rfl rfl rfl ?_
    refine XS.iconst X6.here hx rfl (hb hby d34_66) ?_
    refine XS.iadd X6.here hx rfl (hb hby d34_67) rfl ?_
    show Steps p.tables e below (T6.setTop (mkF m 68 #[.val (.ref a), .val (.int ch)] [(.int ((Int32.ofNat cs.length) + (1 : Int32))), (.ref a), (.int (Int32.ofNat cs.length)), (.ref t)])) _
    rw [(own_succ cs.length)]
    show Steps p.tables e below (T6.setTop (mkF m 68 #[.val (.ref a), .val (.int ch)] [(.int (Int32.ofNat (cs.length + 1))), (.ref a), (.int (Int32.ofNat cs.length)), (.ref t)])) _
    refine st7 _ ?_
    show Steps p.tables e below (T7.setTop (mkF m 71 #[.val (.ref a), .val (.int ch)] [(.int (Int32.ofNat cs.length)), (.ref t)])) _
    refine XS.iloadN X7.here hx rfl (hb hby d34_71) rfl ?_
    show Steps p.tables e below (T7.setTop (mkF m 72 #[.val (.ref a), .val (.int ch)] [(.int ch), (.int (Int32.ofNat cs.length)), (.ref t)])) _
    refine st8 _ ?_
    show Steps p.tables e below (T8.setTop (mkF m 75 #[.val (.ref a), .val (.int ch)] [])) _
    refine XS.aloadN X8.here hx rfl (hb hby d34_75) rfl rfl ?_
    show Steps p.tables e below (T8.setTop (mkF m 76 #[.val (.ref a), .val (.int ch)] [(.ref a)])) _
    jvm_step X8.here [X8.here.top, hx, (hb hby d34_76), X8.method', Bd.returns, Value.isRef, FieldType.isReference]
    first | (intro acts; rw [hr _ acts rfl rfl rfl]) | rw [hr _ _ rfl rfl rfl]
    exact Steps.refl _
  · show own_QA Z (some (.ref a)) a t (cs ++ [ch]) h0 n0 _ T8.heap _
    exact ⟨rfl, N8, (((Keep.refl h0 [a, t]).wr W7 (Or.inl (tk 0 rfl))).trans Kq8 (allS (P := fun zz => zz ∈ [a, t] ∨ h0.size ≤ zz) (Or.inl (tk 1 rfl)) all0)), t, k, g_t, Or.inl rfl, f11, f12, (by rw [own_snoc]; exact f14), f15, Or.inr ⟨f13, Vq8⟩⟩
theorem rmAC (l : Launch) (Z : State) (a0 : Array Value) (hw : ∀ d ∈ tables_1, d.before a0 Z = true) (ws : List Jvm.Cond) (G1 : Int32) (G3 G4 : Value) (a t : Addr) (k : ClassId) (cs : List Int32) (ch : Int32) (h0 : Heap) (n0 : Nat) (Z0 : n0 ≤ h0.size) (EN : own_env Z G1 G3 G4) (X00 : Old Z n0 h0) (B : own_bd Z h0 a t k cs) (hlen : cs.length ≤ 15) (g_a : n0 ≤ a) (g_t : n0 ≤ t) (hch : own_ch ch) :
    MetFree l (⟨"java/lang/AbstractStringBuilder", "append", "(C)Ljava/lang/AbstractStringBuilder;"⟩ : MethodName) (head1 (Jvm.Cond.code (⟨"java/lang/AbstractStringBuilder", "append", "(C)Ljava/lang/AbstractStringBuilder;"⟩ : MethodName) jdk_68_method_31_code 2 (some (.object "java/lang/AbstractStringBuilder")) :: ws) ({ frames := 6, cells := 1, slots := 32, locals := 89 } : Room)) (fun a_ U_ => a_ = #[(.ref a), (.int ch)] ∧ Z.Warmed39 U_.vm ∧ U_.heap = h0) (fun _ _ _ _ _ => True) (fun _ U_ o_ U1_ => ∃ v_ L_, o_ = .returned v_ ∧ own_QA Z (some (.ref a)) a t (cs ++ [ch]) h0 n0 v_ U1_.heap L_ ∧ FrameEnd U_ o_ U1_ L_ ({ frames := 6, cells := 1, slots := 32, locals := 89 } : Room).cells ({ frames := 6, cells := 1, slots := 32, locals := 89 } : Room).slots) := by
  obtain ⟨B1, B2, B3, B4, ⟨B5, B6, B7⟩ | ⟨B5, B6⟩⟩ := B
  · by_cases q : (255 : Int32) < ch
    · exact rmAC_i l Z a0 hw ws G1 G3 G4 a t k cs ch h0 n0 Z0 EN X00 B1 B2 B5 B3 B4 B6 B7 hlen g_a g_t q
    · exact rmAC_l l Z a0 hw ws G1 G3 G4 a t k cs ch h0 n0 Z0 EN X00 B1 B2 B5 B3 B4 B6 B7 hlen g_a g_t hch.1 q
  · exact rmAC_w l Z a0 hw ws G1 G3 G4 a t k cs ch h0 n0 Z0 EN X00 B1 B2 B5 B3 B4 B6 hlen g_a g_t
theorem d33_0 : decode jdk_67_method_14_code 0 = .ok (.aload_n 0, 1) := by decide +kernel
theorem d33_1 : decode jdk_67_method_14_code 1 = .ok (.iload_n 1, 1) := by decide +kernel
theorem pd__C_Ljava_lang_AbstractStringBuilder_ : parseMethodDescriptor "(C)Ljava/lang/AbstractStringBuilder;" = some ⟨[.char], some (.object "java/lang/AbstractStringBuilder")⟩ := by decide +kernel
theorem d33_2 : decode jdk_67_method_14_code 2 = .ok (.invokespecial 50, 3) := by decide +kernel
theorem d33_5 : decode jdk_67_method_14_code 5 = .ok (.pop, 1) := by decide +kernel
theorem d33_6 : decode jdk_67_method_14_code 6 = .ok (.aload_n 0, 1) := by decide +kernel
theorem d33_7 : decode jdk_67_method_14_code 7 = .ok (.areturn, 1) := by decide +kernel
theorem pn_33 : plainName "java/lang/StringBuilder" = true := by first | (simp [plainName, overriddenIn]; done) | decide +kernel
theorem ef_33_rr (m : MethodId) (x0 : Addr) (x1 : Int32) : entryFrame m #[(.ref x0), (.int x1)] 2 = mkF m 0 #[.val (.ref x0), .val (.int x1)] [] := by first | (simp [entryFrame, mkF, argsToLocals, Value.category]; done) | rfl
set_option maxRecDepth 65536 in
set_option maxHeartbeats 40000000 in
theorem rmSAC (l : Launch) (Z : State) (a0 : Array Value) (hw : ∀ d ∈ tables_1, d.before a0 Z = true) (ws : List Jvm.Cond) (G1 : Int32) (G3 : Value) (G4 : Value) (a : Addr) (t : Addr) (k : ClassId) (cs : List Int32) (ch : Int32) (h0 : Heap) (n0 : Nat) (Z0 : n0 ≤ h0.size) (EN : own_env Z G1 G3 G4) (X00 : Old Z n0 h0) (B : own_bd Z h0 a t k cs) (hlen : cs.length ≤ 15) (g_a : n0 ≤ a) (g_t : n0 ≤ t) (hch : own_ch ch) :
    MetFree l (⟨"java/lang/StringBuilder", "append", "(C)Ljava/lang/StringBuilder;"⟩ : MethodName) (head1 (Jvm.Cond.code (⟨"java/lang/StringBuilder", "append", "(C)Ljava/lang/StringBuilder;"⟩ : MethodName) jdk_67_method_14_code 2 (some (.object "java/lang/StringBuilder")) :: ws) ({ frames := 7, cells := 1, slots := 32, locals := 102 } : Room)) (fun a_ U_ => a_ = #[(.ref a), (.int ch)] ∧ Z.Warmed39 U_.vm ∧ U_.heap = h0) (fun _ _ _ _ _ => True) (fun _ U_ o_ U1_ => ∃ v_ L_, o_ = .returned v_ ∧ own_QA Z (some (.ref a)) a t (cs ++ [ch]) h0 n0 v_ U1_.heap L_ ∧ FrameEnd U_ o_ U1_ L_ ({ frames := 7, cells := 1, slots := 32, locals := 102 } : Room).cells ({ frames := 7, cells := 1, slots := 32, locals := 102 } : Room).slots) := by
  refine MetFree.of_bodySF (plainFor_of_name pn_33) hisR ?_
  intro p e s m args below meth c s₁ Bd hml0 hP hK
  obtain ⟨rfl, hZ, hh⟩ := hP
  have hx := Bd.exec
  have hby := Bd.bytes
  have hml : c.maxLocals = 2 := hml0
  have hown : s.vm.findClass "java/lang/StringBuilder" = some m.cls := findClass_of_methodNamed Bd.named
  have hnm := (name_of_methodNamed Bd.named Bd.method).1
  have X0 : Stand p l e ({ frames := 7, cells := 1, slots := 32, locals := 102 } : Room) s m #[(.ref a), (.int ch)] below meth c s₁ [] 0 0 := Stand.of_body Bd
  have e0 : s₁.heap = h0 := by rw [← hh, Bd.state]; rfl
  have N0 := Fr.nil n0
  have pre0 : ∀ tt, Steps p.tables e below (s₁.setTop (mkF m 0 #[.val (.ref a), .val (.int ch)] [])) tt → Steps p.tables e below (s₁.setTop (entryFrame m #[(.ref a), (.int ch)] 2)) tt := fun tt kk => castTop (ef_33_rr m a ch) kk
  have EN0 := EN
  obtain ⟨O2, P5, O4, rG3, O5, rG4, O6, O7, O8⟩ := EN
  obtain ⟨_, _, ⟨T1, L1, k1, n1⟩, -, X1, ⟨Lc1, hQ1, l1, y1, z1⟩, st1⟩ := superBack X0 hx hZ (y := (⟨"java/lang/AbstractStringBuilder", "append", "(C)Ljava/lang/AbstractStringBuilder;"⟩ : MethodName)) hown (hw _ (tk 179 rfl)) (own_same (y := (⟨"java/lang/AbstractStringBuilder", "append", "(C)Ljava/lang/AbstractStringBuilder;"⟩ : MethodName)) (by decide) (hw _ (tk 181 rfl)) (hw _ (tk 66 rfl)) rfl) (hw _ (tk 180 rfl)) (hw _ (tk 52 rfl)) (by decide) (backOf (W := 0) (rmAC l Z a0 hw [] G1 G3 G4 a t k cs ch h0 n0 Z0 EN0 X00 B hlen g_a g_t hch) hZ (hw _ (tk 182 rfl)) (hw _ (tk 28 rfl)) (by decide) (by decide)) e0 (Ins.self B.1) (g := (mkF m 2 #[.val (.ref a), .val (.int ch)] [(.int ch), (.ref a)])) rfl (by rw [hml]; rfl) (hw _ (tk 182 rfl)) (argsL := [(.int ch)]) (rest := []) (lenOf pd__C_Ljava_lang_AbstractStringBuilder_ rfl) rfl (by show 2 * 0 + _ ≤ _; exact Nat.le_of_eq rfl) (hb hby d33_2) (fun _ _ => ⟨rfl, e0, (by decide : 0 + 1 ≤ _), (by decide : 0 + 32 ≤ _)⟩)
  dsimp only [Pt.U, Pt.locs, Pt.cells, Pt.slots] at X1 l1 y1 z1 st1 hQ1
  subst l1 y1 z1
  obtain ⟨rfl, Nq1, Kq1, t1, k1q, gt1, or1, B1⟩ := hQ1
  have N1 := Fr.app N0 Nq1
  have ltB1 : t1 < T1.heap.size := by obtain ⟨-, -, -, -, ⟨-, q, -⟩ | ⟨-, q⟩⟩ := B1 <;> exact q.lt
  obtain ⟨fs, hr, hrun, hended, hW, hsame⟩ := X1.leave (v := some (.ref a)) (fun h => by rw [Bd.returns] at h; cases h)
  refine ⟨_, _, pre0 _ ?_, hrun, hended, _, _, rfl, ?_, ⟨_, rfl⟩, hW, hsame.mono (by decide) (by decide)⟩
  · show Steps p.tables e below (s₁.setTop (mkF m 0 #[.val (.ref a), .val (.int ch)] [])) _
    refine XS.aloadN X0.here hx rfl (hb hby d33_0) rfl rfl ?_
    refine XS.iloadN X0.here hx rfl (hb hby d33_1) rfl ?_
    show Steps p.tables e below (s₁.setTop (mkF m 2 #[.val (.ref a), .val (.int ch)] [(.int ch), (.ref a)])) _
    refine st1.trans ?_
    show Steps p.tables e below (T1.setTop (mkF m 5 #[.val (.ref a), .val (.int ch)] [(.ref a)])) _
    refine XS.pop X1.here hx rfl (hb hby d33_5) rfl rfl ?_
    refine XS.aloadN X1.here hx rfl (hb hby d33_6) rfl rfl ?_
    show Steps p.tables e below (T1.setTop (mkF m 7 #[.val (.ref a), .val (.int ch)] [(.ref a)])) _
    jvm_step X1.here [X1.here.top, hx, (hb hby d33_7), X1.method', Bd.returns, Value.isRef, FieldType.isReference]
    first | (intro acts; rw [hr _ acts rfl rfl rfl]) | rw [hr _ _ rfl rfl rfl]
    exact Steps.refl _
  · show own_QA Z (some (.ref a)) a t (cs ++ [ch]) h0 n0 _ T1.heap _
    exact ⟨rfl, N1, ((Keep.refl h0 [a, t]).trans Kq1 (allS (P := fun zz => zz ∈ [a, t] ∨ h0.size ≤ zz) (Or.inl (tk 0 rfl)) (allS (P := fun zz => zz ∈ [a, t] ∨ h0.size ≤ zz) (Or.inl (tk 1 rfl)) all0))), t1, k1q, gt1, or1, B1⟩
theorem own_split (as : List Int32) (o q n : Nat) (h : q ≤ n) : (as.drop o).take q ++ (as.drop (o + q)).take (n - q) = (as.drop o).take n := by
  rw [← List.drop_drop, ← List.take_add, show q + (n - q) = n by omega]
theorem own_tl (cs as : List Int32) (o n : Nat) (h : o + n ≤ as.length) : (cs ++ (as.drop o).take n).length = cs.length + n := by
  rw [List.length_append, List.length_take, List.length_drop]; omega
theorem own_l1_tk {cs as : List Int32} {o n : Nat} (h : own_l1 cs) (hc : ∀ c ∈ as, own_ch c) (hq : ∀ u < n, ¬ (255 : Int32) < as.getD (o + u) 0) : own_l1 (cs ++ (as.drop o).take n) := fun c hm => by
  rcases List.mem_append.mp hm with q | q
  · exact h c q
  · obtain ⟨u, hu, e⟩ := List.getElem_of_mem q
    rw [List.length_take, List.length_drop] at hu
    have e2 : as.getD (o + u) 0 = c := by
      rw [← e]; simp [List.getD_eq_getElem?_getD, show o + u < as.length by omega]
    refine ⟨(hc c (List.mem_of_mem_drop (List.mem_of_mem_take q))).1, ?_⟩
    rw [← e2]; exact hq u (by omega)
theorem own_atch {as : List Int32} (hc : ∀ c ∈ as, own_ch c) {i : Nat} (hi : i < as.length) : own_ch (as.getD i 0) := by
  have e : as.getD i 0 = as[i] := by simp [List.getD_eq_getElem?_getD, hi]
  rw [e]; exact hc _ (List.getElem_mem _)
theorem own_os8 {a ar t : Addr} {x2 x3 x4 x6 x7 v : Int32} {s8 : Slot} (h : One s8) : storeLocals #[.val (.ref a), .val (.ref ar), .val (.int x2), .val (.int x3), .val (.int x4), .val (.ref t), .val (.int x6), .val (.int x7), s8] 8 (.int v) = some #[.val (.ref a), .val (.ref ar), .val (.int x2), .val (.int x3), .val (.int x4), .val (.ref t), .val (.int x6), .val (.int x7), .val (.int v)] := by
  rcases h with rfl | ⟨w, rfl, hw⟩
  · rfl
  · cases w <;> first | rfl | (simp [Value.category] at hw)
theorem d11_0 : decode jdk_68_method_74_code 0 = .ok (.aload_n 0, 1) := by decide +kernel
theorem d11_1 : decode jdk_68_method_74_code 1 = .ok (.getfield 79, 3) := by decide +kernel
theorem d11_4 : decode jdk_68_method_74_code 4 = .ok (.istore 4, 2) := by decide +kernel
theorem d11_6 : decode jdk_68_method_74_code 6 = .ok (.aload_n 0, 1) := by decide +kernel
theorem d11_7 : decode jdk_68_method_74_code 7 = .ok (.invokevirtual 83, 3) := by decide +kernel
theorem d11_10 : decode jdk_68_method_74_code 10 = .ok (.ifCond .eq 97, 3) := by decide +kernel
theorem d11_13 : decode jdk_68_method_74_code 13 = .ok (.aload_n 0, 1) := by decide +kernel
theorem d11_14 : decode jdk_68_method_74_code 14 = .ok (.getfield 15, 3) := by decide +kernel
theorem d11_17 : decode jdk_68_method_74_code 17 = .ok (.astore 5, 2) := by decide +kernel
theorem d11_19 : decode jdk_68_method_74_code 19 = .ok (.iload_n 2, 1) := by decide +kernel
theorem d11_20 : decode jdk_68_method_74_code 20 = .ok (.istore 6, 2) := by decide +kernel
theorem d11_22 : decode jdk_68_method_74_code 22 = .ok (.iload 4, 2) := by decide +kernel
theorem d11_24 : decode jdk_68_method_74_code 24 = .ok (.istore 7, 2) := by decide +kernel
theorem d11_26 : decode jdk_68_method_74_code 26 = .ok (.iload 6, 2) := by decide +kernel
theorem d11_28 : decode jdk_68_method_74_code 28 = .ok (.iload_n 3, 1) := by decide +kernel
theorem d11_29 : decode jdk_68_method_74_code 29 = .ok (.if_icmp .ge 75, 3) := by decide +kernel
theorem d11_104 : decode jdk_68_method_74_code 104 = .ok (.goto 15, 3) := by decide +kernel
theorem d11_119 : decode jdk_68_method_74_code 119 = .ok (.aload_n 0, 1) := by decide +kernel
theorem d11_120 : decode jdk_68_method_74_code 120 = .ok (.iload 4, 2) := by decide +kernel
theorem d11_122 : decode jdk_68_method_74_code 122 = .ok (.iload_n 3, 1) := by decide +kernel
theorem d11_123 : decode jdk_68_method_74_code 123 = .ok (.iadd, 1) := by decide +kernel
theorem d11_124 : decode jdk_68_method_74_code 124 = .ok (.iload_n 2, 1) := by decide +kernel
theorem d11_125 : decode jdk_68_method_74_code 125 = .ok (.isub, 1) := by decide +kernel
theorem d11_126 : decode jdk_68_method_74_code 126 = .ok (.putfield 79, 3) := by decide +kernel
theorem d11_129 : decode jdk_68_method_74_code 129 = .ok (.return_, 1) := by decide +kernel
theorem d11_32 : decode jdk_68_method_74_code 32 = .ok (.aload_n 1, 1) := by decide +kernel
theorem d11_33 : decode jdk_68_method_74_code 33 = .ok (.iload 6, 2) := by decide +kernel
theorem d11_35 : decode jdk_68_method_74_code 35 = .ok (.caload, 1) := by decide +kernel
theorem d11_36 : decode jdk_68_method_74_code 36 = .ok (.istore 8, 2) := by decide +kernel
theorem d11_38 : decode jdk_68_method_74_code 38 = .ok (.iload 8, 2) := by decide +kernel
theorem d11_40 : decode jdk_68_method_74_code 40 = .ok (.invokestatic 191, 3) := by decide +kernel
theorem d11_43 : decode jdk_68_method_74_code 43 = .ok (.ifCond .eq 17, 3) := by decide +kernel
theorem d11_60 : decode jdk_68_method_74_code 60 = .ok (.aload_n 0, 1) := by decide +kernel
theorem d11_61 : decode jdk_68_method_74_code 61 = .ok (.iload 7, 2) := by decide +kernel
theorem d11_63 : decode jdk_68_method_74_code 63 = .ok (.dup, 1) := by decide +kernel
theorem d11_64 : decode jdk_68_method_74_code 64 = .ok (.istore 4, 2) := by decide +kernel
theorem d11_66 : decode jdk_68_method_74_code 66 = .ok (.putfield 79, 3) := by decide +kernel
theorem d11_69 : decode jdk_68_method_74_code 69 = .ok (.aload_n 0, 1) := by decide +kernel
theorem d11_70 : decode jdk_68_method_74_code 70 = .ok (.invokevirtual 195, 3) := by decide +kernel
theorem d11_73 : decode jdk_68_method_74_code 73 = .ok (.aload_n 0, 1) := by decide +kernel
theorem d11_74 : decode jdk_68_method_74_code 74 = .ok (.getfield 15, 3) := by decide +kernel
theorem d11_77 : decode jdk_68_method_74_code 77 = .ok (.iload 7, 2) := by decide +kernel
theorem d11_79 : decode jdk_68_method_74_code 79 = .ok (.aload_n 1, 1) := by decide +kernel
theorem d11_80 : decode jdk_68_method_74_code 80 = .ok (.iload 6, 2) := by decide +kernel
theorem d11_82 : decode jdk_68_method_74_code 82 = .ok (.iload_n 3, 1) := by decide +kernel
theorem d11_83 : decode jdk_68_method_74_code 83 = .ok (.invokestatic 386, 3) := by decide +kernel
theorem d11_86 : decode jdk_68_method_74_code 86 = .ok (.aload_n 0, 1) := by decide +kernel
theorem d11_87 : decode jdk_68_method_74_code 87 = .ok (.iload 4, 2) := by decide +kernel
theorem d11_89 : decode jdk_68_method_74_code 89 = .ok (.iload_n 3, 1) := by decide +kernel
theorem d11_90 : decode jdk_68_method_74_code 90 = .ok (.iadd, 1) := by decide +kernel
theorem d11_91 : decode jdk_68_method_74_code 91 = .ok (.iload 6, 2) := by decide +kernel
theorem d11_93 : decode jdk_68_method_74_code 93 = .ok (.isub, 1) := by decide +kernel
theorem d11_94 : decode jdk_68_method_74_code 94 = .ok (.putfield 79, 3) := by decide +kernel
theorem d11_97 : decode jdk_68_method_74_code 97 = .ok (.return_, 1) := by decide +kernel
theorem d11_107 : decode jdk_68_method_74_code 107 = .ok (.aload_n 0, 1) := by decide +kernel
theorem d11_108 : decode jdk_68_method_74_code 108 = .ok (.getfield 15, 3) := by decide +kernel
theorem d11_111 : decode jdk_68_method_74_code 111 = .ok (.iload 4, 2) := by decide +kernel
theorem d11_113 : decode jdk_68_method_74_code 113 = .ok (.aload_n 1, 1) := by decide +kernel
theorem d11_114 : decode jdk_68_method_74_code 114 = .ok (.iload_n 2, 1) := by decide +kernel
theorem d11_115 : decode jdk_68_method_74_code 115 = .ok (.iload_n 3, 1) := by decide +kernel
theorem d11_116 : decode jdk_68_method_74_code 116 = .ok (.invokestatic 386, 3) := by decide +kernel
theorem d11_46 : decode jdk_68_method_74_code 46 = .ok (.aload 5, 2) := by decide +kernel
theorem d11_48 : decode jdk_68_method_74_code 48 = .ok (.iload 7, 2) := by decide +kernel
theorem d11_50 : decode jdk_68_method_74_code 50 = .ok (.iinc 7 1, 3) := by decide +kernel
theorem d11_53 : decode jdk_68_method_74_code 53 = .ok (.iload 8, 2) := by decide +kernel
theorem d11_55 : decode jdk_68_method_74_code 55 = .ok (.i2b, 1) := by decide +kernel
theorem d11_56 : decode jdk_68_method_74_code 56 = .ok (.bastore, 1) := by decide +kernel
theorem d11_57 : decode jdk_68_method_74_code 57 = .ok (.goto 41, 3) := by decide +kernel
theorem d11_98 : decode jdk_68_method_74_code 98 = .ok (.iinc 6 1, 3) := by decide +kernel
theorem d11_101 : decode jdk_68_method_74_code 101 = .ok (.goto (-75), 3) := by decide +kernel
set_option maxRecDepth 65536 in
set_option maxHeartbeats 40000000 in
theorem tnAP {p : Program} {l : Launch} {e : Env} {s : State} {m : MethodId} {args : Array Value} {below : List Frame} {meth : Method} {c : Code} {s₁ : State} {L0 : List Loc} {Z : State} {a0 : Array Value} (a : Addr) (ar : Addr) (ka : ClassId) (as : List Int32) (o : Nat) (ee : Nat) (c0 : Nat) (t : Addr) (k : ClassId) (ds : List Int32) (i : Nat) (j : Nat) (s8 : Slot) (h0 : Heap) (n0 : Nat) (X0 : Stand p l e ({ frames := 6, cells := 1, slots := 32, locals := 89 } : Room) s m args below meth c s₁ L0 0 0) (hx : p.tables.exec = Jvm.exec) (hZ : Z.Warmed39 s.vm) (hw : ∀ d ∈ tables_1, d.before a0 Z = true) (hby : c.code = jdk_68_method_74_code) (hml : c.maxLocals = 9) (hown : s.vm.findClass "java/lang/AbstractStringBuilder" = some m.cls) (e0 : s₁.heap = h0) (N0 : Fr n0 L0) (Z0 : n0 ≤ h0.size) (V_t : Arv Z h0 t k .byte (Int32.ofNat 16) (own_lat ds) (.int 0)) (g_t : n0 ≤ t) (V_ar : Arv Z h0 ar ka .char (Int32.ofNat as.length) (as.map Value.int) (.int 0)) (hta : ar ≠ t) (hds : ds.length = j) (hj : j < 16) (hi : i < ee) (he : ee ≤ as.length) (ha : as.length < 2 ^ 30) (h8 : One s8) (hq : ¬ ((255 : Int32) < (as.getD i 0))) :
    ∃ (T' : State) (h' : Heap) (L' : List Loc) , Stand p l e ({ frames := 6, cells := 1, slots := 32, locals := 89 } : Room) s m args below meth c T' L' 0 0 ∧ T'.heap = h' ∧ Fr n0 L' ∧ n0 ≤ h'.size ∧ Keep h0 h' [t] ∧ Arv Z h' t k .byte (Int32.ofNat 16) (own_lat (ds ++ [as.getD i 0])) (.int 0) ∧ Arv Z h' ar ka .char (Int32.ofNat as.length) (as.map Value.int) (.int 0) ∧ 
      ∀ target, Steps p.tables e below (T'.setTop (mkF m 26 #[.val (.ref a), .val (.ref ar), .val (.int (Int32.ofNat o)), .val (.int (Int32.ofNat ee)), .val (.int (Int32.ofNat c0)), .val (.ref t), .val (.int (Int32.ofNat (i + 1))), .val (.int (Int32.ofNat (j + 1))), .val (.int (as.getD i 0))] [])) target → Steps p.tables e below (s₁.setTop (mkF m 26 #[.val (.ref a), .val (.ref ar), .val (.int (Int32.ofNat o)), .val (.int (Int32.ofNat ee)), .val (.int (Int32.ofNat c0)), .val (.ref t), .val (.int (Int32.ofNat i)), .val (.int (Int32.ofNat j)), s8] [])) target := by
  obtain ⟨c1, Ar1, -, S1, M1, H1, -⟩ := id V_ar
  have hin1 := inb_of (j := (Int32.ofNat i)) S1 (own_in (by omega) (by omega))
  obtain ⟨_, _, ⟨T2, L2, k2, n2⟩, -, X2, ⟨Lc2, hQ2, l2, y2, z2⟩, st2⟩ := Jvm.LawKit.callS X0 hx (y := (⟨"java/lang/StringLatin1", "canEncode", "(C)Z"⟩ : MethodName)) hown (mvT hZ (hw _ (tk 78 rfl))) (mvT hZ (hw _ (tk 79 rfl))) (mvT hZ (hw _ (tk 80 rfl))) (mvT hZ (hw _ (tk 81 rfl))) (by decide) (backOf (W := 0) (rmCE1 l Z a0 hw [] (as.getD i 0) h0 n0 Z0 hq) hZ (hw _ (tk 81 rfl)) (hw _ (tk 80 rfl)) (by decide) (by decide)) (g := (mkF m 40 #[.val (.ref a), .val (.ref ar), .val (.int (Int32.ofNat o)), .val (.int (Int32.ofNat ee)), .val (.int (Int32.ofNat c0)), .val (.ref t), .val (.int (Int32.ofNat i)), .val (.int (Int32.ofNat j)), .val (.int (as.getD i 0))] [(.int (as.getD i 0))])) rfl (by rw [hml]; rfl) (argsL := [(.int (as.getD i 0))]) (rest := []) (lenOf pd__C_Z rfl) rfl (by show 2 * 0 + _ ≤ _; exact Nat.le_of_eq rfl) (hb hby d11_40) (fun _ _ => ⟨rfl, e0, (by decide : 0 + 0 ≤ _), (by decide : 0 + 0 ≤ _)⟩)
  dsimp only [Pt.U, Pt.locs, Pt.cells, Pt.slots] at X2 l2 y2 z2 st2 hQ2
  subst l2 y2 z2
  obtain ⟨rfl, Nq2, eq2⟩ := hQ2
  have N2 := Fr.app N0 Nq2
  obtain ⟨c3, Ar3, q3, S3, M3, H3, Gz3⟩ := id (V_t.pad (pad_rep (own_lat ds) (.int 0) 1))
  have hin3 := inb_of (j := (Int32.ofNat j)) S3 (own_in (by omega) (by decide))
  obtain ⟨T3, h3, X3, e3, W3, st3⟩ := stB X2 hx hZ eq2 Ar3 (j := (Int32.ofNat j)) hin3 (g := (mkF m 56 #[.val (.ref a), .val (.ref ar), .val (.int (Int32.ofNat o)), .val (.int (Int32.ofNat ee)), .val (.int (Int32.ofNat c0)), .val (.ref t), .val (.int (Int32.ofNat i)), .val (.int ((Int32.ofNat j) + (1 : Int32))), .val (.int (as.getD i 0))] [(.int ((as.getD i 0).toInt8.toInt32)), (.int (Int32.ofNat j)), (.ref t)])) rfl rfl (hb hby d11_56)
  have V3 : Arv Z h3 t k .byte (Int32.ofNat 16) (own_lat (ds ++ [as.getD i 0])) (.int 0) := (by rw [← own_set_lat ds (as.getD i 0) (.int 0) j hds]; exact Arv.set Ar3 q3 S3 M3 H3 Gz3 (fits_nar_byte _) W3 j (own_clamp (by omega)) (by rw [List.length_append, own_lat_len, hds]; simp))
  have N3 := Fr.snoc X3 N2 g_t
  have f4 := (V_ar.other W3 hta)
  refine ⟨T3, h3, _, X3, e3, N3, (Nat.le_trans Z0 (Keep.of_wr W3).1), ((Keep.refl h0 [t]).wr W3 (Or.inl (tk 0 rfl))), V3, f4, fun target kt => ?_⟩
  show Steps p.tables e below (s₁.setTop (mkF m 26 #[.val (.ref a), .val (.ref ar), .val (.int (Int32.ofNat o)), .val (.int (Int32.ofNat ee)), .val (.int (Int32.ofNat c0)), .val (.ref t), .val (.int (Int32.ofNat i)), .val (.int (Int32.ofNat j)), s8] [])) _
  refine XS.iload X0.here hx rfl (hb hby d11_26) rfl ?_
  refine XS.iloadN X0.here hx rfl (hb hby d11_28) rfl ?_
  refine XS.icmpNo X0.here hx rfl (hb hby d11_29) rfl (tlt ((own_lt (by omega) (by omega)).mpr hi)).2.1 ?_
  refine XS.aloadN X0.here hx rfl (hb hby d11_32) rfl rfl ?_
  refine XS.iload X0.here hx rfl (hb hby d11_33) rfl ?_
  show Steps p.tables e below (s₁.setTop (mkF m 35 #[.val (.ref a), .val (.ref ar), .val (.int (Int32.ofNat o)), .val (.int (Int32.ofNat ee)), .val (.int (Int32.ofNat c0)), .val (.ref t), .val (.int (Int32.ofNat i)), .val (.int (Int32.ofNat j)), s8] [(.int (Int32.ofNat i)), (.ref ar)])) _
  refine X0.caload hx (j := (Int32.ofNat i)) (v := (.int (as.getD i 0))) (by rw [e0]; exact Ar1.1) (State.isArrayOf_alike hZ.alike Ar1.2.1) Ar1.2.2 hin1 (H1.at hin1 (own_ca as i (by omega))) (g := (mkF m 35 #[.val (.ref a), .val (.ref ar), .val (.int (Int32.ofNat o)), .val (.int (Int32.ofNat ee)), .val (.int (Int32.ofNat c0)), .val (.ref t), .val (.int (Int32.ofNat i)), .val (.int (Int32.ofNat j)), s8] [(.int (Int32.ofNat i)), (.ref ar)])) rfl rfl (hb hby d11_35) _ ?_
  show Steps p.tables e below (s₁.setTop (mkF m 36 #[.val (.ref a), .val (.ref ar), .val (.int (Int32.ofNat o)), .val (.int (Int32.ofNat ee)), .val (.int (Int32.ofNat c0)), .val (.ref t), .val (.int (Int32.ofNat i)), .val (.int (Int32.ofNat j)), s8] [(.int (as.getD i 0))])) _
  refine XS.istore X0.here hx rfl (hb hby d11_36) rfl (l' := #[.val (.ref a), .val (.ref ar), .val (.int (Int32.ofNat o)), .val (.int (Int32.ofNat ee)), .val (.int (Int32.ofNat c0)), .val (.ref t), .val (.int (Int32.ofNat i)), .val (.int (Int32.ofNat j)), .val (.int (as.getD i 0))]) (own_os8 h8) ?_
  refine XS.iload X0.here hx rfl (hb hby d11_38) rfl ?_
  show Steps p.tables e below (s₁.setTop (mkF m 40 #[.val (.ref a), .val (.ref ar), .val (.int (Int32.ofNat o)), .val (.int (Int32.ofNat ee)), .val (.int (Int32.ofNat c0)), .val (.ref t), .val (.int (Int32.ofNat i)), .val (.int (Int32.ofNat j)), .val (.int (as.getD i 0))] [(.int (as.getD i 0))])) _
  refine st2 _ ?_
  show Steps p.tables e below (T2.setTop (mkF m 43 #[.val (.ref a), .val (.ref ar), .val (.int (Int32.ofNat o)), .val (.int (Int32.ofNat ee)), .val (.int (Int32.ofNat c0)), .val (.ref t), .val (.int (Int32.ofNat i)), .val (.int (Int32.ofNat j)), .val (.int (as.getD i 0))] [(.int 1)])) _
  refine XS.ifNo X2.here hx rfl (hb hby d11_43) rfl ((if0 _ _).trans (feq (by decide : ¬ ((1 : Int32) = (0 : Int32)))).1) ?_
  refine XS.aload X2.here hx rfl (hb hby d11_46) rfl rfl ?_
  refine XS.iload X2.here hx rfl (hb hby d11_48) rfl ?_
  refine XS.iinc X2.here hx rfl (hb hby d11_50) rfl (l' := #[.val (.ref a), .val (.ref ar), .val (.int (Int32.ofNat o)), .val (.int (Int32.ofNat ee)), .val (.int (Int32.ofNat c0)), .val (.ref t), .val (.int (Int32.ofNat i)), .val (.int ((Int32.ofNat j) + (1 : Int32))), .val (.int (as.getD i 0))]) rfl ?_
  refine XS.iload X2.here hx rfl (hb hby d11_53) rfl ?_
  refine XS.i2b X2.here hx rfl (hb hby d11_55) rfl ?_
  show Steps p.tables e below (T2.setTop (mkF m 56 #[.val (.ref a), .val (.ref ar), .val (.int (Int32.ofNat o)), .val (.int (Int32.ofNat ee)), .val (.int (Int32.ofNat c0)), .val (.ref t), .val (.int (Int32.ofNat i)), .val (.int ((Int32.ofNat j) + (1 : Int32))), .val (.int (as.getD i 0))] [(.int ((as.getD i 0).toInt8.toInt32)), (.int (Int32.ofNat j)), (.ref t)])) _
  refine st3 _ ?_
  show Steps p.tables e below (T3.setTop (mkF m 57 #[.val (.ref a), .val (.ref ar), .val (.int (Int32.ofNat o)), .val (.int (Int32.ofNat ee)), .val (.int (Int32.ofNat c0)), .val (.ref t), .val (.int (Int32.ofNat i)), .val (.int ((Int32.ofNat j) + (1 : Int32))), .val (.int (as.getD i 0))] [])) _
  refine XS.goto X3.here hx rfl (pc0 := 57) (pc' := 98) rfl (hb hby d11_57) (by decide) (by decide) ?_
  refine XS.iinc X3.here hx rfl (hb hby d11_98) rfl (l' := #[.val (.ref a), .val (.ref ar), .val (.int (Int32.ofNat o)), .val (.int (Int32.ofNat ee)), .val (.int (Int32.ofNat c0)), .val (.ref t), .val (.int ((Int32.ofNat i) + (1 : Int32))), .val (.int ((Int32.ofNat j) + (1 : Int32))), .val (.int (as.getD i 0))]) rfl ?_
  refine XS.goto X3.here hx rfl (pc0 := 101) (pc' := 26) rfl (hb hby d11_101) (by decide) (by decide) ?_
  show Steps p.tables e below (T3.setTop (mkF m 26 #[.val (.ref a), .val (.ref ar), .val (.int (Int32.ofNat o)), .val (.int (Int32.ofNat ee)), .val (.int (Int32.ofNat c0)), .val (.ref t), .val (.int ((Int32.ofNat i) + (1 : Int32))), .val (.int ((Int32.ofNat j) + (1 : Int32))), .val (.int (as.getD i 0))] [])) _
  rw [(own_succ j)]
  show Steps p.tables e below (T3.setTop (mkF m 26 #[.val (.ref a), .val (.ref ar), .val (.int (Int32.ofNat o)), .val (.int (Int32.ofNat ee)), .val (.int (Int32.ofNat c0)), .val (.ref t), .val (.int ((Int32.ofNat i) + (1 : Int32))), .val (.int (Int32.ofNat (j + 1))), .val (.int (as.getD i 0))] [])) _
  rw [(own_succ i)]
  show Steps p.tables e below (T3.setTop (mkF m 26 #[.val (.ref a), .val (.ref ar), .val (.int (Int32.ofNat o)), .val (.int (Int32.ofNat ee)), .val (.int (Int32.ofNat c0)), .val (.ref t), .val (.int (Int32.ofNat (i + 1))), .val (.int (Int32.ofNat (j + 1))), .val (.int (as.getD i 0))] [])) _
  exact kt
theorem lpAP {p : Program} {l : Launch} {e : Env} {s : State} {m : MethodId} {args : Array Value} {below : List Frame} {meth : Method} {c : Code} {Z : State} {a0 : Array Value} (a ar : Addr) (ka : ClassId) (as : List Int32) (o ee c0 : Nat) (t : Addr) (k : ClassId) (n0 : Nat) (hx : p.tables.exec = Jvm.exec) (hZ : Z.Warmed39 s.vm) (hw : ∀ d ∈ tables_1, d.before a0 Z = true) (hby : c.code = jdk_68_method_74_code) (hml : c.maxLocals = 9) (hown : s.vm.findClass "java/lang/AbstractStringBuilder" = some m.cls) (g_t : n0 ≤ t) (hta : ar ≠ t) (he : ee ≤ as.length) (ha : as.length < 2 ^ 30) :
    ∀ (r : Nat) (s₁ : State) (L0 : List Loc) (h0 : Heap) (ds : List Int32) (i j : Nat) (s8 : Slot) (X0 : Stand p l e ({ frames := 6, cells := 1, slots := 32, locals := 89 } : Room) s m args below meth c s₁ L0 0 0) (e0 : s₁.heap = h0) (N0 : Fr n0 L0) (Z0 : n0 ≤ h0.size) (V_t : Arv Z h0 t k .byte (Int32.ofNat 16) (own_lat ds) (.int 0)) (hds : ds.length = j) (hj : j + r ≤ 15) (V_ar : Arv Z h0 ar ka .char (Int32.ofNat as.length) (as.map Value.int) (.int 0)) (hi : i + r ≤ ee) (h8 : One s8) (hq : ∀ u < r, ¬ (255 : Int32) < as.getD (i + u) 0),
    ∃ (T' : State) (h' : Heap) (L' : List Loc) (s8' : Slot), Stand p l e ({ frames := 6, cells := 1, slots := 32, locals := 89 } : Room) s m args below meth c T' L' 0 0 ∧ T'.heap = h' ∧ Fr n0 L' ∧ n0 ≤ h'.size ∧ One s8' ∧ Keep h0 h' [t] ∧ Arv Z h' t k .byte (Int32.ofNat 16) (own_lat (ds ++ (as.drop i).take r)) (.int 0) ∧ Arv Z h' ar ka .char (Int32.ofNat as.length) (as.map Value.int) (.int 0) ∧
      ∀ target, Steps p.tables e below (T'.setTop (mkF m 26 #[.val (.ref a), .val (.ref ar), .val (.int (Int32.ofNat o)), .val (.int (Int32.ofNat ee)), .val (.int (Int32.ofNat c0)), .val (.ref t), .val (.int (Int32.ofNat (i + r))), .val (.int (Int32.ofNat (j + r))), s8'] [])) target → Steps p.tables e below (s₁.setTop (mkF m 26 #[.val (.ref a), .val (.ref ar), .val (.int (Int32.ofNat o)), .val (.int (Int32.ofNat ee)), .val (.int (Int32.ofNat c0)), .val (.ref t), .val (.int (Int32.ofNat i)), .val (.int (Int32.ofNat j)), s8] [])) target := by
  intro r
  induction r with
  | zero =>
    intro s₁ L0 h0 ds i j s8 X0 e0 N0 Z0 V_t hds hj V_ar hi h8 hq
    exact ⟨s₁, h0, L0, s8, X0, e0, N0, Z0, h8, Keep.refl _ _, by rw [List.take_zero, List.append_nil]; exact V_t, V_ar, fun _ kt => kt⟩
  | succ r ih =>
    intro s₁ L0 h0 ds i j s8 X0 e0 N0 Z0 V_t hds hj V_ar hi h8 hq
    obtain ⟨T1, h1, L1, X1, f1, N1, Z1, K1, V1, A1, st1⟩ := tnAP a ar ka as o ee c0 t k ds i j s8 h0 n0 X0 hx hZ hw hby hml hown e0 N0 Z0 V_t g_t V_ar hta hds (by omega) (by omega) he ha h8 (hq 0 (by omega))
    obtain ⟨T2, h2, L2, s2, X2, f2, N2, Z2, h82, K2, V2, A2, st2⟩ := ih T1 L1 h1 (ds ++ [as.getD i 0]) (i + 1) (j + 1) (.val (.int (as.getD i 0))) X1 f1 N1 Z1 V1 (by rw [List.length_append, hds]; rfl) (by omega) A1 (by omega) (One.val rfl) (fun u hu => by rw [show i + 1 + u = i + (u + 1) by omega]; exact hq (u + 1) (by omega))
    refine ⟨T2, h2, L2, s2, X2, f2, N2, Z2, h82, K1.trans K2 (fun x hx => Or.inl hx), ?_, A2, fun target kt => st1 _ (st2 _ ?_)⟩
    · rw [own_take as i r (by omega), ← List.singleton_append, ← List.append_assoc]; exact V2
    · rw [show i + 1 + r = i + (r + 1) by omega, show j + 1 + r = j + (r + 1) by omega]; exact kt
theorem pn_11 : plainName "java/lang/AbstractStringBuilder" = true := by first | (simp [plainName, overriddenIn]; done) | decide +kernel
theorem ef_11_rrrr (m : MethodId) (x0 : Addr) (x1 : Addr) (x2 : Int32) (x3 : Int32) : entryFrame m #[(.ref x0), (.ref x1), (.int x2), (.int x3)] 9 = mkF m 0 #[.val (.ref x0), .val (.ref x1), .val (.int x2), .val (.int x3), .unset, .unset, .unset, .unset, .unset] [] := by first | (simp [entryFrame, mkF, argsToLocals, Value.category]; done) | rfl
set_option maxRecDepth 65536 in
set_option maxHeartbeats 40000000 in
theorem rmAP_l (l : Launch) (Z : State) (a0 : Array Value) (hw : ∀ d ∈ tables_1, d.before a0 Z = true) (ws : List Jvm.Cond) (G1 : Int32) (G3 : Value) (G4 : Value) (a : Addr) (t : Addr) (k : ClassId) (cs : List Int32) (ar : Addr) (ka : ClassId) (as : List Int32) (o : Nat) (ee : Nat) (n : Nat) (h0 : Heap) (n0 : Nat) (Z0 : n0 ≤ h0.size) (EN : own_env Z G1 G3 G4) (X00 : Old Z n0 h0) (E_a : Exa Z h0 a "java/lang/StringBuilder") (F_value_a : Fld Z h0 a "java/lang/AbstractStringBuilder" "value" "[B" (.ref t)) (F_coder_a : Fld Z h0 a "java/lang/AbstractStringBuilder" "coder" "B" (.int 0)) (F_count_a : Fld Z h0 a "java/lang/AbstractStringBuilder" "count" "I" (.int (Int32.ofNat cs.length))) (F_maybeLatin1_a : Fld Z h0 a "java/lang/AbstractStringBuilder" "maybeLatin1" "Z" (.int 0)) (V_t : Arv Z h0 t k .byte (Int32.ofNat 16) (own_lat cs) (.int 0)) (hl : own_l1 cs) (hlen : cs.length ≤ 15) (g_a : n0 ≤ a) (g_t : n0 ≤ t) (V_ar : Arv Z h0 ar ka .char (Int32.ofNat as.length) (as.map Value.int) (.int 0)) (hta : ar ≠ t) (haa : ar ≠ a) (hln : cs.length + n ≤ 15) (ho : o + n = ee) (he : ee ≤ as.length) (ha : as.length < 2 ^ 30) (hch : ∀ c ∈ as, own_ch c) (hq : ∀ u < n, ¬ (255 : Int32) < as.getD (o + u) 0) :
    MetFree l (⟨"java/lang/AbstractStringBuilder", "appendChars", "([CII)V"⟩ : MethodName) (head1 (Jvm.Cond.code (⟨"java/lang/AbstractStringBuilder", "appendChars", "([CII)V"⟩ : MethodName) jdk_68_method_74_code 9 none :: ws) ({ frames := 6, cells := 1, slots := 32, locals := 89 } : Room)) (fun a_ U_ => a_ = #[(.ref a), (.ref ar), (.int (Int32.ofNat o)), (.int (Int32.ofNat ee))] ∧ Z.Warmed39 U_.vm ∧ U_.heap = h0) (fun _ _ _ _ _ => True) (fun _ U_ o_ U1_ => ∃ v_ L_, o_ = .returned v_ ∧ own_QA Z none a t (cs ++ (as.drop o).take n) h0 n0 v_ U1_.heap L_ ∧ FrameEnd U_ o_ U1_ L_ ({ frames := 6, cells := 1, slots := 32, locals := 89 } : Room).cells ({ frames := 6, cells := 1, slots := 32, locals := 89 } : Room).slots) := by
  refine MetFree.of_bodySF (plainFor_of_name pn_11) hisR ?_
  intro p e s m args below meth c s₁ Bd hml0 hP hK
  obtain ⟨rfl, hZ, hh⟩ := hP
  have hx := Bd.exec
  have hby := Bd.bytes
  have hml : c.maxLocals = 9 := hml0
  have hown : s.vm.findClass "java/lang/AbstractStringBuilder" = some m.cls := findClass_of_methodNamed Bd.named
  have hnm := (name_of_methodNamed Bd.named Bd.method).1
  have X0 : Stand p l e ({ frames := 6, cells := 1, slots := 32, locals := 89 } : Room) s m #[(.ref a), (.ref ar), (.int (Int32.ofNat o)), (.int (Int32.ofNat ee))] below meth c s₁ [] 0 0 := Stand.of_body Bd
  have e0 : s₁.heap = h0 := by rw [← hh, Bd.state]; rfl
  have N0 := Fr.nil n0
  have pre0 : ∀ tt, Steps p.tables e below (s₁.setTop (mkF m 0 #[.val (.ref a), .val (.ref ar), .val (.int (Int32.ofNat o)), .val (.int (Int32.ofNat ee)), .unset, .unset, .unset, .unset, .unset] [])) tt → Steps p.tables e below (s₁.setTop (entryFrame m #[(.ref a), (.ref ar), (.int (Int32.ofNat o)), (.int (Int32.ofNat ee))] 9)) tt := fun tt kk => castTop (ef_11_rrrr m a ar (Int32.ofNat o) (Int32.ofNat ee)) kk
  have EN0 := EN
  obtain ⟨O2, P5, O4, rG3, O5, rG4, O6, O7, O8⟩ := EN
  obtain ⟨T1, X1, e1, st1⟩ := getF X0 hx hZ hown (host := "") (Or.inl (hw _ (tk 61 rfl))) Via.refl e0 F_count_a (g := (mkF m 1 #[.val (.ref a), .val (.ref ar), .val (.int (Int32.ofNat o)), .val (.int (Int32.ofNat ee)), .unset, .unset, .unset, .unset, .unset] [(.ref a)])) rfl rfl (hb hby d11_1)
  obtain ⟨cq2, kq2, q2a, q2b, q2c⟩ := isOf hZ e1 E_a
  obtain ⟨_, _, ⟨T2, L2, k2, n2⟩, -, X2, ⟨Lc2, hQ2, l2, y2, z2⟩, st2⟩ := X1.virtualBack hx (y := (⟨"java/lang/AbstractStringBuilder", "isLatin1", "()Z"⟩ : MethodName)) (z := (⟨"java/lang/AbstractStringBuilder", "isLatin1", "()Z"⟩ : MethodName)) hown (mvT hZ (hw _ (tk 73 rfl))) (mvT hZ (hw _ (tk 74 rfl))) (notFace_of_selects (args := #[]) (mvT hZ (hw _ (tk 76 rfl)))) (mvT hZ (hw _ (tk 76 rfl))) (mvT hZ (hw _ (tk 75 rfl))) (by decide) (backOf (W := 0) (rmIL0 l Z a0 hw [] G1 G3 G4 a h0 n0 Z0 EN0 X00 E_a F_coder_a) hZ (hw _ (tk 77 rfl)) (hw _ (tk 28 rfl)) (by decide) (by decide)) q2a q2c (g := (mkF m 7 #[.val (.ref a), .val (.ref ar), .val (.int (Int32.ofNat o)), .val (.int (Int32.ofNat ee)), .val (.int (Int32.ofNat cs.length)), .unset, .unset, .unset, .unset] [(.ref a)])) rfl (by rw [hml]; rfl) (Steps.refl _) (argsL := []) (rest := []) (lenOf pd___Z rfl) rfl (by show 2 * 0 + _ ≤ _; exact Nat.le_of_eq rfl) (hb hby d11_7) (fun _ _ => ⟨rfl, e1, (by decide : 0 + 0 ≤ _), (by decide : 0 + 0 ≤ _)⟩)
  dsimp only [Pt.U, Pt.locs, Pt.cells, Pt.slots] at X2 l2 y2 z2 st2 hQ2
  subst l2 y2 z2
  obtain ⟨rfl, Nq2, eq2⟩ := hQ2
  have N2 := Fr.app N0 Nq2
  obtain ⟨T3, X3, e3, st3⟩ := getF X2 hx hZ hown (host := "") (Or.inl (hw _ (tk 34 rfl))) Via.refl eq2 F_value_a (g := (mkF m 14 #[.val (.ref a), .val (.ref ar), .val (.int (Int32.ofNat o)), .val (.int (Int32.ofNat ee)), .val (.int (Int32.ofNat cs.length)), .unset, .unset, .unset, .unset] [(.ref a)])) rfl rfl (hb hby d11_14)
  obtain ⟨T4, h4, L4, s8, X4, e4, N4, Z4, h8, K4, V4, A4, st4⟩ := lpAP a ar ka as o ee cs.length t k n0 hx hZ hw hby hml hown g_t hta he ha n T3 _ h0 cs o cs.length .unset X3 e3 N2 Z0 V_t rfl (by omega) V_ar (by omega) One.u hq
  have f6 := (E_a.keep K4)
  have f7 := (F_count_a.keep K4 (ninS (Exa.neArv E_a V_t (hw _ (tk 19 rfl))) nin0))
  obtain ⟨T5, h5, X5, e5, W5, st5⟩ := putF X4 hx hZ hown (host := "") (Or.inl (hw _ (tk 61 rfl))) Via.refl e4 f7 f6 (Or.inl (hw _ (tk 62 rfl))) (hw _ (tk 19 rfl)) (ty := .int) (by decide) rfl rfl (g := (mkF m 126 #[.val (.ref a), .val (.ref ar), .val (.int (Int32.ofNat o)), .val (.int (Int32.ofNat ee)), .val (.int (Int32.ofNat cs.length)), .val (.ref t), .val (.int (Int32.ofNat ee)), .val (.int (Int32.ofNat (cs.length + n))), s8] [(.int (Int32.ofNat (cs.length + n))), (.ref a)])) rfl rfl (hb hby d11_126)
  have Fw5 := f7.same W5
  have N5 := Fr.snoc X5 N4 g_a
  have f8 := (f6.wr W5)
  have f9 := ((F_value_a.keep K4 (ninS (Exa.neArv E_a V_t (hw _ (tk 19 rfl))) nin0)).other W5 (Or.inr (slot_ne (Or.inl (hw _ (tk 35 rfl))) (Or.inl (hw _ (tk 62 rfl))) (by decide) (t := (.array .byte)) (t' := .int) (by decide) (by decide))))
  have f10 := ((F_coder_a.keep K4 (ninS (Exa.neArv E_a V_t (hw _ (tk 19 rfl))) nin0)).other W5 (Or.inr (slot_ne (Or.inl (hw _ (tk 37 rfl))) (Or.inl (hw _ (tk 62 rfl))) (by decide) (t := .byte) (t' := .int) (by decide) (by decide))))
  have f11 := ((F_maybeLatin1_a.keep K4 (ninS (Exa.neArv E_a V_t (hw _ (tk 19 rfl))) nin0)).other W5 (Or.inr (slot_ne (Or.inl (hw _ (tk 241 rfl))) (Or.inl (hw _ (tk 62 rfl))) (by decide) (t := .boolean) (t' := .int) (by decide) (by decide))))
  have f12 := (V4.other W5 (Ne.symm (Exa.neArv E_a V_t (hw _ (tk 19 rfl)))))
  obtain ⟨fs, hr, hrun, hended, hW, hsame⟩ := X5.leave (v := none) (fun _ => rfl)
  refine ⟨_, _, pre0 _ ?_, hrun, hended, _, _, rfl, ?_, ⟨_, rfl⟩, hW, hsame.mono (by decide) (by decide)⟩
  · show Steps p.tables e below (s₁.setTop (mkF m 0 #[.val (.ref a), .val (.ref ar), .val (.int (Int32.ofNat o)), .val (.int (Int32.ofNat ee)), .unset, .unset, .unset, .unset, .unset] [])) _
    refine XS.aloadN X0.here hx rfl (hb hby d11_0) rfl rfl ?_
    show Steps p.tables e below (s₁.setTop (mkF m 1 #[.val (.ref a), .val (.ref ar), .val (.int (Int32.ofNat o)), .val (.int (Int32.ofNat ee)), .unset, .unset, .unset, .unset, .unset] [(.ref a)])) _
    refine st1 _ ?_
    show Steps p.tables e below (T1.setTop (mkF m 4 #[.val (.ref a), .val (.ref ar), .val (.int (Int32.ofNat o)), .val (.int (Int32.ofNat ee)), .unset, .unset, .unset, .unset, .unset] [(.int (Int32.ofNat cs.length))])) _
    refine XS.istore X1.here hx rfl (hb hby d11_4) rfl (l' := #[.val (.ref a), .val (.ref ar), .val (.int (Int32.ofNat o)), .val (.int (Int32.ofNat ee)), .val (.int (Int32.ofNat cs.length)), .unset, .unset, .unset, .unset]) rfl ?_
    refine XS.aloadN X1.here hx rfl (hb hby d11_6) rfl rfl ?_
    show Steps p.tables e below (T1.setTop (mkF m 7 #[.val (.ref a), .val (.ref ar), .val (.int (Int32.ofNat o)), .val (.int (Int32.ofNat ee)), .val (.int (Int32.ofNat cs.length)), .unset, .unset, .unset, .unset] [(.ref a)])) _
    refine st2.trans ?_
    show Steps p.tables e below (T2.setTop (mkF m 10 #[.val (.ref a), .val (.ref ar), .val (.int (Int32.ofNat o)), .val (.int (Int32.ofNat ee)), .val (.int (Int32.ofNat cs.length)), .unset, .unset, .unset, .unset] [(.int 1)])) _
    refine XS.ifNo X2.here hx rfl (hb hby d11_10) rfl ((if0 _ _).trans (feq (by decide : ¬ ((1 : Int32) = (0 : Int32)))).1) ?_
    refine XS.aloadN X2.here hx rfl (hb hby d11_13) rfl rfl ?_
    show Steps p.tables e below (T2.setTop (mkF m 14 #[.val (.ref a), .val (.ref ar), .val (.int (Int32.ofNat o)), .val (.int (Int32.ofNat ee)), .val (.int (Int32.ofNat cs.length)), .unset, .unset, .unset, .unset] [(.ref a)])) _
    refine st3 _ ?_
    show Steps p.tables e below (T3.setTop (mkF m 17 #[.val (.ref a), .val (.ref ar), .val (.int (Int32.ofNat o)), .val (.int (Int32.ofNat ee)), .val (.int (Int32.ofNat cs.length)), .unset, .unset, .unset, .unset] [(.ref t)])) _
    refine XS.astore X3.here hx rfl (hb hby d11_17) rfl rfl (l' := #[.val (.ref a), .val (.ref ar), .val (.int (Int32.ofNat o)), .val (.int (Int32.ofNat ee)), .val (.int (Int32.ofNat cs.length)), .val (.ref t), .unset, .unset, .unset]) rfl ?_
    refine XS.iloadN X3.here hx rfl (hb hby d11_19) rfl ?_
    refine XS.istore X3.here hx rfl (hb hby d11_20) rfl (l' := #[.val (.ref a), .val (.ref ar), .val (.int (Int32.ofNat o)), .val (.int (Int32.ofNat ee)), .val (.int (Int32.ofNat cs.length)), .val (.ref t), .val (.int (Int32.ofNat o)), .unset, .unset]) rfl ?_
    refine XS.iload X3.here hx rfl (hb hby d11_22) rfl ?_
    refine XS.istore X3.here hx rfl (hb hby d11_24) rfl (l' := #[.val (.ref a), .val (.ref ar), .val (.int (Int32.ofNat o)), .val (.int (Int32.ofNat ee)), .val (.int (Int32.ofNat cs.length)), .val (.ref t), .val (.int (Int32.ofNat o)), .val (.int (Int32.ofNat cs.length)), .unset]) rfl ?_
    show Steps p.tables e below (T3.setTop (mkF m 26 #[.val (.ref a), .val (.ref ar), .val (.int (Int32.ofNat o)), .val (.int (Int32.ofNat ee)), .val (.int (Int32.ofNat cs.length)), .val (.ref t), .val (.int (Int32.ofNat o)), .val (.int (Int32.ofNat cs.length)), .unset] [])) _
    refine st4 _ ?_
    show Steps p.tables e below (T4.setTop (mkF m 26 #[.val (.ref a), .val (.ref ar), .val (.int (Int32.ofNat o)), .val (.int (Int32.ofNat ee)), .val (.int (Int32.ofNat cs.length)), .val (.ref t), .val (.int (Int32.ofNat (o + n))), .val (.int (Int32.ofNat (cs.length + n))), s8] [])) _
    rw [show o + n = ee from ho]
    show Steps p.tables e below (T4.setTop (mkF m 26 #[.val (.ref a), .val (.ref ar), .val (.int (Int32.ofNat o)), .val (.int (Int32.ofNat ee)), .val (.int (Int32.ofNat cs.length)), .val (.ref t), .val (.int (Int32.ofNat ee)), .val (.int (Int32.ofNat (cs.length + n))), s8] [])) _
    refine XS.iload X4.here hx rfl (hb hby d11_26) rfl ?_
    refine XS.iloadN X4.here hx rfl (hb hby d11_28) rfl ?_
    refine XS.icmpYes X4.here hx rfl (pc0 := 29) (pc' := 104) rfl (hb hby d11_29) rfl (flt (Int32.lt_irrefl : ¬ ((Int32.ofNat ee) < (Int32.ofNat ee)))).2.1 (by decide) (by decide) ?_
    refine XS.goto X4.here hx rfl (pc0 := 104) (pc' := 119) rfl (hb hby d11_104) (by decide) (by decide) ?_
    refine XS.aloadN X4.here hx rfl (hb hby d11_119) rfl rfl ?_
    refine XS.iload X4.here hx rfl (hb hby d11_120) rfl ?_
    refine XS.iloadN X4.here hx rfl (hb hby d11_122) rfl ?_
    refine XS.iadd X4.here hx rfl (hb hby d11_123) rfl ?_
    refine XS.iloadN X4.here hx rfl (hb hby d11_124) rfl ?_
    refine XS.isub X4.here hx rfl (hb hby d11_125) rfl ?_
    show Steps p.tables e below (T4.setTop (mkF m 126 #[.val (.ref a), .val (.ref ar), .val (.int (Int32.ofNat o)), .val (.int (Int32.ofNat ee)), .val (.int (Int32.ofNat cs.length)), .val (.ref t), .val (.int (Int32.ofNat ee)), .val (.int (Int32.ofNat (cs.length + n))), s8] [(.int (((Int32.ofNat cs.length) + (Int32.ofNat ee)) - (Int32.ofNat o))), (.ref a)])) _
    rw [(own_jeo (j := cs.length) (o := o) (n := n) ho (by omega))]
    show Steps p.tables e below (T4.setTop (mkF m 126 #[.val (.ref a), .val (.ref ar), .val (.int (Int32.ofNat o)), .val (.int (Int32.ofNat ee)), .val (.int (Int32.ofNat cs.length)), .val (.ref t), .val (.int (Int32.ofNat ee)), .val (.int (Int32.ofNat (cs.length + n))), s8] [(.int (Int32.ofNat (cs.length + n))), (.ref a)])) _
    refine st5 _ ?_
    show Steps p.tables e below (T5.setTop (mkF m 129 #[.val (.ref a), .val (.ref ar), .val (.int (Int32.ofNat o)), .val (.int (Int32.ofNat ee)), .val (.int (Int32.ofNat cs.length)), .val (.ref t), .val (.int (Int32.ofNat ee)), .val (.int (Int32.ofNat (cs.length + n))), s8] [])) _
    exact X5.returnOut hx Bd.returns (hb hby d11_129) hr
  · show own_QA Z none a t (cs ++ (as.drop o).take n) h0 n0 _ T5.heap _
    rw [e5]
    exact ⟨rfl, N5, (((Keep.refl h0 [a, t]).trans K4 (allS (P := fun zz => zz ∈ [a, t] ∨ h0.size ≤ zz) (Or.inl (tk 1 rfl)) all0)).wr W5 (Or.inl (tk 0 rfl))), t, k, g_t, Or.inl rfl, f8, f9, (by rw [own_tl cs as o n (by omega)]; exact Fw5), f11, Or.inl ⟨f10, f12, own_l1_tk hl hch hq⟩⟩
set_option maxRecDepth 65536 in
set_option maxHeartbeats 40000000 in
theorem rmAP_i (l : Launch) (Z : State) (a0 : Array Value) (hw : ∀ d ∈ tables_1, d.before a0 Z = true) (ws : List Jvm.Cond) (G1 : Int32) (G3 : Value) (G4 : Value) (a : Addr) (t : Addr) (k : ClassId) (cs : List Int32) (ar : Addr) (ka : ClassId) (as : List Int32) (o : Nat) (ee : Nat) (n : Nat) (q : Nat) (h0 : Heap) (n0 : Nat) (Z0 : n0 ≤ h0.size) (EN : own_env Z G1 G3 G4) (X00 : Old Z n0 h0) (E_a : Exa Z h0 a "java/lang/StringBuilder") (F_value_a : Fld Z h0 a "java/lang/AbstractStringBuilder" "value" "[B" (.ref t)) (F_coder_a : Fld Z h0 a "java/lang/AbstractStringBuilder" "coder" "B" (.int 0)) (F_count_a : Fld Z h0 a "java/lang/AbstractStringBuilder" "count" "I" (.int (Int32.ofNat cs.length))) (F_maybeLatin1_a : Fld Z h0 a "java/lang/AbstractStringBuilder" "maybeLatin1" "Z" (.int 0)) (V_t : Arv Z h0 t k .byte (Int32.ofNat 16) (own_lat cs) (.int 0)) (hl : own_l1 cs) (hlen : cs.length ≤ 15) (g_a : n0 ≤ a) (g_t : n0 ≤ t) (V_ar : Arv Z h0 ar ka .char (Int32.ofNat as.length) (as.map Value.int) (.int 0)) (hta : ar ≠ t) (haa : ar ≠ a) (hln : cs.length + n ≤ 15) (ho : o + n = ee) (he : ee ≤ as.length) (ha : as.length < 2 ^ 30) (hch : ∀ c ∈ as, own_ch c) (hqn : q < n) (hq : ∀ u < q, ¬ (255 : Int32) < as.getD (o + u) 0) (hbig : (255 : Int32) < as.getD (o + q) 0) :
    MetFree l (⟨"java/lang/AbstractStringBuilder", "appendChars", "([CII)V"⟩ : MethodName) (head1 (Jvm.Cond.code (⟨"java/lang/AbstractStringBuilder", "appendChars", "([CII)V"⟩ : MethodName) jdk_68_method_74_code 9 none :: ws) ({ frames := 6, cells := 1, slots := 32, locals := 89 } : Room)) (fun a_ U_ => a_ = #[(.ref a), (.ref ar), (.int (Int32.ofNat o)), (.int (Int32.ofNat ee))] ∧ Z.Warmed39 U_.vm ∧ U_.heap = h0) (fun _ _ _ _ _ => True) (fun _ U_ o_ U1_ => ∃ v_ L_, o_ = .returned v_ ∧ own_QA Z none a t (cs ++ (as.drop o).take n) h0 n0 v_ U1_.heap L_ ∧ FrameEnd U_ o_ U1_ L_ ({ frames := 6, cells := 1, slots := 32, locals := 89 } : Room).cells ({ frames := 6, cells := 1, slots := 32, locals := 89 } : Room).slots) := by
  refine MetFree.of_bodySF (plainFor_of_name pn_11) hisR ?_
  intro p e s m args below meth c s₁ Bd hml0 hP hK
  obtain ⟨rfl, hZ, hh⟩ := hP
  have hx := Bd.exec
  have hby := Bd.bytes
  have hml : c.maxLocals = 9 := hml0
  have hown : s.vm.findClass "java/lang/AbstractStringBuilder" = some m.cls := findClass_of_methodNamed Bd.named
  have hnm := (name_of_methodNamed Bd.named Bd.method).1
  have X0 : Stand p l e ({ frames := 6, cells := 1, slots := 32, locals := 89 } : Room) s m #[(.ref a), (.ref ar), (.int (Int32.ofNat o)), (.int (Int32.ofNat ee))] below meth c s₁ [] 0 0 := Stand.of_body Bd
  have e0 : s₁.heap = h0 := by rw [← hh, Bd.state]; rfl
  have N0 := Fr.nil n0
  have pre0 : ∀ tt, Steps p.tables e below (s₁.setTop (mkF m 0 #[.val (.ref a), .val (.ref ar), .val (.int (Int32.ofNat o)), .val (.int (Int32.ofNat ee)), .unset, .unset, .unset, .unset, .unset] [])) tt → Steps p.tables e below (s₁.setTop (entryFrame m #[(.ref a), (.ref ar), (.int (Int32.ofNat o)), (.int (Int32.ofNat ee))] 9)) tt := fun tt kk => castTop (ef_11_rrrr m a ar (Int32.ofNat o) (Int32.ofNat ee)) kk
  have EN0 := EN
  obtain ⟨O2, P5, O4, rG3, O5, rG4, O6, O7, O8⟩ := EN
  obtain ⟨T1, X1, e1, st1⟩ := getF X0 hx hZ hown (host := "") (Or.inl (hw _ (tk 61 rfl))) Via.refl e0 F_count_a (g := (mkF m 1 #[.val (.ref a), .val (.ref ar), .val (.int (Int32.ofNat o)), .val (.int (Int32.ofNat ee)), .unset, .unset, .unset, .unset, .unset] [(.ref a)])) rfl rfl (hb hby d11_1)
  obtain ⟨cq2, kq2, q2a, q2b, q2c⟩ := isOf hZ e1 E_a
  obtain ⟨_, _, ⟨T2, L2, k2, n2⟩, -, X2, ⟨Lc2, hQ2, l2, y2, z2⟩, st2⟩ := X1.virtualBack hx (y := (⟨"java/lang/AbstractStringBuilder", "isLatin1", "()Z"⟩ : MethodName)) (z := (⟨"java/lang/AbstractStringBuilder", "isLatin1", "()Z"⟩ : MethodName)) hown (mvT hZ (hw _ (tk 73 rfl))) (mvT hZ (hw _ (tk 74 rfl))) (notFace_of_selects (args := #[]) (mvT hZ (hw _ (tk 76 rfl)))) (mvT hZ (hw _ (tk 76 rfl))) (mvT hZ (hw _ (tk 75 rfl))) (by decide) (backOf (W := 0) (rmIL0 l Z a0 hw [] G1 G3 G4 a h0 n0 Z0 EN0 X00 E_a F_coder_a) hZ (hw _ (tk 77 rfl)) (hw _ (tk 28 rfl)) (by decide) (by decide)) q2a q2c (g := (mkF m 7 #[.val (.ref a), .val (.ref ar), .val (.int (Int32.ofNat o)), .val (.int (Int32.ofNat ee)), .val (.int (Int32.ofNat cs.length)), .unset, .unset, .unset, .unset] [(.ref a)])) rfl (by rw [hml]; rfl) (Steps.refl _) (argsL := []) (rest := []) (lenOf pd___Z rfl) rfl (by show 2 * 0 + _ ≤ _; exact Nat.le_of_eq rfl) (hb hby d11_7) (fun _ _ => ⟨rfl, e1, (by decide : 0 + 0 ≤ _), (by decide : 0 + 0 ≤ _)⟩)
  dsimp only [Pt.U, Pt.locs, Pt.cells, Pt.slots] at X2 l2 y2 z2 st2 hQ2
  subst l2 y2 z2
  obtain ⟨rfl, Nq2, eq2⟩ := hQ2
  have N2 := Fr.app N0 Nq2
  obtain ⟨T3, X3, e3, st3⟩ := getF X2 hx hZ hown (host := "") (Or.inl (hw _ (tk 34 rfl))) Via.refl eq2 F_value_a (g := (mkF m 14 #[.val (.ref a), .val (.ref ar), .val (.int (Int32.ofNat o)), .val (.int (Int32.ofNat ee)), .val (.int (Int32.ofNat cs.length)), .unset, .unset, .unset, .unset] [(.ref a)])) rfl rfl (hb hby d11_14)
  obtain ⟨T4, h4, L4, s8, X4, e4, N4, Z4, h8, K4, V4, A4, st4⟩ := lpAP a ar ka as o ee cs.length t k n0 hx hZ hw hby hml hown g_t hta he ha q T3 _ h0 cs o cs.length .unset X3 e3 N2 Z0 V_t rfl (by omega) V_ar (by omega) One.u hq
  have hdl : (cs ++ (as.drop o).take q).length = cs.length + q := own_tl cs as o q (by omega)
  obtain ⟨c5, Ar5, -, S5, M5, H5, -⟩ := id A4
  have hin5 := inb_of (j := (Int32.ofNat (o + q))) S5 (own_in (by omega) (by omega))
  obtain ⟨_, _, ⟨T6, L6, k6, n6⟩, -, X6, ⟨Lc6, hQ6, l6, y6, z6⟩, st6⟩ := Jvm.LawKit.callS X4 hx (y := (⟨"java/lang/StringLatin1", "canEncode", "(C)Z"⟩ : MethodName)) hown (mvT hZ (hw _ (tk 78 rfl))) (mvT hZ (hw _ (tk 79 rfl))) (mvT hZ (hw _ (tk 80 rfl))) (mvT hZ (hw _ (tk 81 rfl))) (by decide) (backOf (W := 0) (rmCE0 l Z a0 hw [] (as.getD (o + q) 0) h4 n0 (Nat.le_trans Z0 K4.1) hbig) hZ (hw _ (tk 81 rfl)) (hw _ (tk 80 rfl)) (by decide) (by decide)) (g := (mkF m 40 #[.val (.ref a), .val (.ref ar), .val (.int (Int32.ofNat o)), .val (.int (Int32.ofNat ee)), .val (.int (Int32.ofNat cs.length)), .val (.ref t), .val (.int (Int32.ofNat (o + q))), .val (.int (Int32.ofNat (cs.length + q))), .val (.int (as.getD (o + q) 0))] [(.int (as.getD (o + q) 0))])) rfl (by rw [hml]; rfl) (argsL := [(.int (as.getD (o + q) 0))]) (rest := []) (lenOf pd__C_Z rfl) rfl (by show 2 * 0 + _ ≤ _; exact Nat.le_of_eq rfl) (hb hby d11_40) (fun _ _ => ⟨rfl, e4, (by decide : 0 + 0 ≤ _), (by decide : 0 + 0 ≤ _)⟩)
  dsimp only [Pt.U, Pt.locs, Pt.cells, Pt.slots] at X6 l6 y6 z6 st6 hQ6
  subst l6 y6 z6
  obtain ⟨rfl, Nq6, eq6⟩ := hQ6
  have N6 := Fr.app N4 Nq6
  have f8 := (E_a.keep K4)
  have f9 := (F_count_a.keep K4 (ninS (Exa.neArv E_a V_t (hw _ (tk 19 rfl))) nin0))
  obtain ⟨T7, h7, X7, e7, W7, st7⟩ := putF X6 hx hZ hown (host := "") (Or.inl (hw _ (tk 61 rfl))) Via.refl eq6 f9 f8 (Or.inl (hw _ (tk 62 rfl))) (hw _ (tk 19 rfl)) (ty := .int) (by decide) rfl rfl (g := (mkF m 66 #[.val (.ref a), .val (.ref ar), .val (.int (Int32.ofNat o)), .val (.int (Int32.ofNat ee)), .val (.int (Int32.ofNat (cs.length + q))), .val (.ref t), .val (.int (Int32.ofNat (o + q))), .val (.int (Int32.ofNat (cs.length + q))), .val (.int (as.getD (o + q) 0))] [(.int (Int32.ofNat (cs.length + q))), (.ref a)])) rfl rfl (hb hby d11_66)
  have Fw7 := f9.same W7
  have N7 := Fr.snoc X7 N6 g_a
  have Fc10 : Fld Z h7 a "java/lang/AbstractStringBuilder" "count" "I" (.int (Int32.ofNat (cs ++ (as.drop o).take q).length)) := by rw [hdl]; exact Fw7
  have f12 := (f8.wr W7)
  have f13 := ((F_value_a.keep K4 (ninS (Exa.neArv E_a V_t (hw _ (tk 19 rfl))) nin0)).other W7 (Or.inr (slot_ne (Or.inl (hw _ (tk 35 rfl))) (Or.inl (hw _ (tk 62 rfl))) (by decide) (t := (.array .byte)) (t' := .int) (by decide) (by decide))))
  have f14 := ((F_coder_a.keep K4 (ninS (Exa.neArv E_a V_t (hw _ (tk 19 rfl))) nin0)).other W7 (Or.inr (slot_ne (Or.inl (hw _ (tk 37 rfl))) (Or.inl (hw _ (tk 62 rfl))) (by decide) (t := .byte) (t' := .int) (by decide) (by decide))))
  have f15 := ((F_maybeLatin1_a.keep K4 (ninS (Exa.neArv E_a V_t (hw _ (tk 19 rfl))) nin0)).other W7 (Or.inr (slot_ne (Or.inl (hw _ (tk 241 rfl))) (Or.inl (hw _ (tk 62 rfl))) (by decide) (t := .boolean) (t' := .int) (by decide) (by decide))))
  have f16 := (V4.other W7 (Ne.symm (Exa.neArv E_a V_t (hw _ (tk 19 rfl)))))
  have f17 := ((X00.keep K4 (allS g_t all0)).wr W7 g_a)
  obtain ⟨cq11, q11, q11'⟩ := Exa.cell f12
  obtain ⟨_, _, ⟨T11, L11, k11, n11⟩, -, X11, ⟨Lc11, hQ11, l11, y11, z11⟩, st11⟩ := X7.privateBack hx (y := (⟨"java/lang/AbstractStringBuilder", "inflate", "()V"⟩ : MethodName)) hown (mvT hZ (hw _ (tk 183 rfl))) (mvT hZ (hw _ (tk 184 rfl))) (own_priv (y := (⟨"java/lang/AbstractStringBuilder", "inflate", "()V"⟩ : MethodName)) (by decide) (mvT hZ (hw _ (tk 186 rfl))) (mvP hZ (hw _ (tk 185 rfl)))) (Cond.privateMethod_at (mvP hZ (hw _ (tk 185 rfl)) (args := #[]))) (mvT hZ (hw _ (tk 187 rfl))) (by decide) (backOf (W := 0) (rmINF l Z a0 hw [] G1 G3 G4 a t k (cs ++ (as.drop o).take q) h7 n0 (Nat.le_trans Z0 (Nat.le_trans K4.1 (Keep.of_wr W7).1)) EN0 f17 f12 f13 f14 Fc10 f15 f16 (own_l1_tk hl hch hq) (by rw [hdl]; omega) g_a g_t) hZ (hw _ (tk 187 rfl)) (hw _ (tk 28 rfl)) (by decide) (by decide)) (g := (mkF m 70 #[.val (.ref a), .val (.ref ar), .val (.int (Int32.ofNat o)), .val (.int (Int32.ofNat ee)), .val (.int (Int32.ofNat (cs.length + q))), .val (.ref t), .val (.int (Int32.ofNat (o + q))), .val (.int (Int32.ofNat (cs.length + q))), .val (.int (as.getD (o + q) 0))] [(.ref a)])) rfl (by rw [hml]; rfl) (Steps.refl _) (a := a) (by rw [e7]; exact q11) q11' (argsL := []) (rest := []) (lenOf pd___V rfl) rfl (by show 2 * 0 + _ ≤ _; exact Nat.le_of_eq rfl) (hb hby d11_70) (fun _ _ => ⟨rfl, e7, (by decide : 0 + 1 ≤ _), (by decide : 0 + 32 ≤ _)⟩)
  dsimp only [Pt.U, Pt.locs, Pt.cells, Pt.slots] at X11 l11 y11 z11 st11 hQ11
  subst l11 y11 z11
  obtain ⟨t11, k11q, rfl, Nq11, gt11, sq11, Kq11, E11q, Fv11q, Fc11q, Fn11q, Fm11q, V11q⟩ := hQ11
  have N11 := Fr.app N7 Nq11
  have szt11 : h0.size ≤ t11 := Nat.le_trans (Nat.le_trans K4.1 (Keep.of_wr W7).1) sq11
  obtain ⟨T18, X18, e18, st18⟩ := getF X11 hx hZ hown (host := "") (Or.inl (hw _ (tk 34 rfl))) Via.refl rfl Fv11q (g := (mkF m 74 #[.val (.ref a), .val (.ref ar), .val (.int (Int32.ofNat o)), .val (.int (Int32.ofNat ee)), .val (.int (Int32.ofNat (cs.length + q))), .val (.ref t), .val (.int (Int32.ofNat (o + q))), .val (.int (Int32.ofNat (cs.length + q))), .val (.int (as.getD (o + q) 0))] [(.ref a)])) rfl rfl (hb hby d11_74)
  have f20 := (f17.keep Kq11 (allS g_a all0))
  have f21 := ((A4.other W7 haa).keep Kq11 (ninS haa nin0))
  obtain ⟨_, _, ⟨T19, L19, k19, n19⟩, -, X19, ⟨Lc19, hQ19, l19, y19, z19⟩, st19⟩ := Jvm.LawKit.callS X18 hx (y := (⟨"java/lang/StringUTF16", "putCharsSB", "([BI[CII)V"⟩ : MethodName)) hown (mvT hZ (hw _ (tk 227 rfl))) (mvT hZ (hw _ (tk 228 rfl))) (mvT hZ (hw _ (tk 190 rfl))) (mvT hZ (hw _ (tk 229 rfl))) (by decide) (backOf (W := 0) (rmPCB l Z a0 hw [] G1 G3 G4 t11 k11q (cs ++ (as.drop o).take q) (cs.length + q) ar ka as (o + q) ee (n - q) T11.heap n0 (Nat.le_trans Z0 (Nat.le_trans (Nat.le_trans K4.1 (Keep.of_wr W7).1) Kq11.1)) EN0 f20 V11q hdl (by omega) gt11 f21 (Nat.ne_of_lt (Nat.lt_of_lt_of_le (Nat.lt_of_lt_of_le V_ar.lt (Nat.le_trans K4.1 (Keep.of_wr W7).1)) sq11)) (by omega) he ha) hZ (hw _ (tk 229 rfl)) (hw _ (tk 190 rfl)) (by decide) (by decide)) (g := (mkF m 83 #[.val (.ref a), .val (.ref ar), .val (.int (Int32.ofNat o)), .val (.int (Int32.ofNat ee)), .val (.int (Int32.ofNat (cs.length + q))), .val (.ref t), .val (.int (Int32.ofNat (o + q))), .val (.int (Int32.ofNat (cs.length + q))), .val (.int (as.getD (o + q) 0))] [(.int (Int32.ofNat ee)), (.int (Int32.ofNat (o + q))), (.ref ar), (.int (Int32.ofNat (cs.length + q))), (.ref t11)])) rfl (by rw [hml]; rfl) (argsL := [(.ref t11), (.int (Int32.ofNat (cs.length + q))), (.ref ar), (.int (Int32.ofNat (o + q))), (.int (Int32.ofNat ee))]) (rest := []) (lenOf pd___BI_CII_V rfl) rfl (by show 2 * 0 + _ ≤ _; exact Nat.le_of_eq rfl) (hb hby d11_83) (fun _ _ => ⟨rfl, e18, (by decide : 1 + 0 ≤ _), (by decide : 32 + 0 ≤ _)⟩)
  dsimp only [Pt.U, Pt.locs, Pt.cells, Pt.slots] at X19 l19 y19 z19 st19 hQ19
  subst l19 y19 z19
  obtain ⟨rfl, Nq19, Kq19, Vq19⟩ := hQ19
  have N19 := Fr.app N11 Nq19
  have f23 := (E11q.keep Kq19)
  have f24 := (Fn11q.keep Kq19 (ninS (Nat.ne_of_lt (Nat.lt_of_lt_of_le (Nat.lt_of_lt_of_le E_a.lt (Nat.le_trans K4.1 (Keep.of_wr W7).1)) sq11)) nin0))
  obtain ⟨T22, h22, X22, e22, W22, st22⟩ := putF X19 hx hZ hown (host := "") (Or.inl (hw _ (tk 61 rfl))) Via.refl rfl f24 f23 (Or.inl (hw _ (tk 62 rfl))) (hw _ (tk 19 rfl)) (ty := .int) (by decide) rfl rfl (g := (mkF m 94 #[.val (.ref a), .val (.ref ar), .val (.int (Int32.ofNat o)), .val (.int (Int32.ofNat ee)), .val (.int (Int32.ofNat (cs.length + q))), .val (.ref t), .val (.int (Int32.ofNat (o + q))), .val (.int (Int32.ofNat (cs.length + q))), .val (.int (as.getD (o + q) 0))] [(.int (Int32.ofNat ((cs.length + q) + (n - q)))), (.ref a)])) rfl rfl (hb hby d11_94)
  have Fw22 := f24.same W22
  have N22 := Fr.snoc X22 N19 g_a
  have f25 := (f23.wr W22)
  have f26 := ((Fv11q.keep Kq19 (ninS (Nat.ne_of_lt (Nat.lt_of_lt_of_le (Nat.lt_of_lt_of_le E_a.lt (Nat.le_trans K4.1 (Keep.of_wr W7).1)) sq11)) nin0)).other W22 (Or.inr (slot_ne (Or.inl (hw _ (tk 35 rfl))) (Or.inl (hw _ (tk 62 rfl))) (by decide) (t := (.array .byte)) (t' := .int) (by decide) (by decide))))
  have f27 := ((Fc11q.keep Kq19 (ninS (Nat.ne_of_lt (Nat.lt_of_lt_of_le (Nat.lt_of_lt_of_le E_a.lt (Nat.le_trans K4.1 (Keep.of_wr W7).1)) sq11)) nin0)).other W22 (Or.inr (slot_ne (Or.inl (hw _ (tk 37 rfl))) (Or.inl (hw _ (tk 62 rfl))) (by decide) (t := .byte) (t' := .int) (by decide) (by decide))))
  have f28 := ((Fm11q.keep Kq19 (ninS (Nat.ne_of_lt (Nat.lt_of_lt_of_le (Nat.lt_of_lt_of_le E_a.lt (Nat.le_trans K4.1 (Keep.of_wr W7).1)) sq11)) nin0)).other W22 (Or.inr (slot_ne (Or.inl (hw _ (tk 241 rfl))) (Or.inl (hw _ (tk 62 rfl))) (by decide) (t := .boolean) (t' := .int) (by decide) (by decide))))
  have f29 := (Vq19.other W22 (Ne.symm (Nat.ne_of_lt (Nat.lt_of_lt_of_le (Nat.lt_of_lt_of_le E_a.lt (Nat.le_trans K4.1 (Keep.of_wr W7).1)) sq11))))
  obtain ⟨fs, hr, hrun, hended, hW, hsame⟩ := X22.leave (v := none) (fun _ => rfl)
  refine ⟨_, _, pre0 _ ?_, hrun, hended, _, _, rfl, ?_, ⟨_, rfl⟩, hW, hsame.mono (by decide) (by decide)⟩
  · show Steps p.tables e below (s₁.setTop (mkF m 0 #[.val (.ref a), .val (.ref ar), .val (.int (Int32.ofNat o)), .val (.int (Int32.ofNat ee)), .unset, .unset, .unset, .unset, .unset] [])) _
    refine XS.aloadN X0.here hx rfl (hb hby d11_0) rfl rfl ?_
    show Steps p.tables e below (s₁.setTop (mkF m 1 #[.val (.ref a), .val (.ref ar), .val (.int (Int32.ofNat o)), .val (.int (Int32.ofNat ee)), .unset, .unset, .unset, .unset, .unset] [(.ref a)])) _
    refine st1 _ ?_
    show Steps p.tables e below (T1.setTop (mkF m 4 #[.val (.ref a), .val (.ref ar), .val (.int (Int32.ofNat o)), .val (.int (Int32.ofNat ee)), .unset, .unset, .unset, .unset, .unset] [(.int (Int32.ofNat cs.length))])) _
    refine XS.istore X1.here hx rfl (hb hby d11_4) rfl (l' := #[.val (.ref a), .val (.ref ar), .val (.int (Int32.ofNat o)), .val (.int (Int32.ofNat ee)), .val (.int (Int32.ofNat cs.length)), .unset, .unset, .unset, .unset]) rfl ?_
    refine XS.aloadN X1.here hx rfl (hb hby d11_6) rfl rfl ?_
    show Steps p.tables e below (T1.setTop (mkF m 7 #[.val (.ref a), .val (.ref ar), .val (.int (Int32.ofNat o)), .val (.int (Int32.ofNat ee)), .val (.int (Int32.ofNat cs.length)), .unset, .unset, .unset, .unset] [(.ref a)])) _
    refine st2.trans ?_
    show Steps p.tables e below (T2.setTop (mkF m 10 #[.val (.ref a), .val (.ref ar), .val (.int (Int32.ofNat o)), .val (.int (Int32.ofNat ee)), .val (.int (Int32.ofNat cs.length)), .unset, .unset, .unset, .unset] [(.int 1)])) _
    refine XS.ifNo X2.here hx rfl (hb hby d11_10) rfl ((if0 _ _).trans (feq (by decide : ¬ ((1 : Int32) = (0 : Int32)))).1) ?_
    refine XS.aloadN X2.here hx rfl (hb hby d11_13) rfl rfl ?_
    show Steps p.tables e below (T2.setTop (mkF m 14 #[.val (.ref a), .val (.ref ar), .val (.int (Int32.ofNat o)), .val (.int (Int32.ofNat ee)), .val (.int (Int32.ofNat cs.length)), .unset, .unset, .unset, .unset] [(.ref a)])) _
    refine st3 _ ?_
    show Steps p.tables e below (T3.setTop (mkF m 17 #[.val (.ref a), .val (.ref ar), .val (.int (Int32.ofNat o)), .val (.int (Int32.ofNat ee)), .val (.int (Int32.ofNat cs.length)), .unset, .unset, .unset, .unset] [(.ref t)])) _
    refine XS.astore X3.here hx rfl (hb hby d11_17) rfl rfl (l' := #[.val (.ref a), .val (.ref ar), .val (.int (Int32.ofNat o)), .val (.int (Int32.ofNat ee)), .val (.int (Int32.ofNat cs.length)), .val (.ref t), .unset, .unset, .unset]) rfl ?_
    refine XS.iloadN X3.here hx rfl (hb hby d11_19) rfl ?_
    refine XS.istore X3.here hx rfl (hb hby d11_20) rfl (l' := #[.val (.ref a), .val (.ref ar), .val (.int (Int32.ofNat o)), .val (.int (Int32.ofNat ee)), .val (.int (Int32.ofNat cs.length)), .val (.ref t), .val (.int (Int32.ofNat o)), .unset, .unset]) rfl ?_
    refine XS.iload X3.here hx rfl (hb hby d11_22) rfl ?_
    refine XS.istore X3.here hx rfl (hb hby d11_24) rfl (l' := #[.val (.ref a), .val (.ref ar), .val (.int (Int32.ofNat o)), .val (.int (Int32.ofNat ee)), .val (.int (Int32.ofNat cs.length)), .val (.ref t), .val (.int (Int32.ofNat o)), .val (.int (Int32.ofNat cs.length)), .unset]) rfl ?_
    show Steps p.tables e below (T3.setTop (mkF m 26 #[.val (.ref a), .val (.ref ar), .val (.int (Int32.ofNat o)), .val (.int (Int32.ofNat ee)), .val (.int (Int32.ofNat cs.length)), .val (.ref t), .val (.int (Int32.ofNat o)), .val (.int (Int32.ofNat cs.length)), .unset] [])) _
    refine st4 _ ?_
    show Steps p.tables e below (T4.setTop (mkF m 26 #[.val (.ref a), .val (.ref ar), .val (.int (Int32.ofNat o)), .val (.int (Int32.ofNat ee)), .val (.int (Int32.ofNat cs.length)), .val (.ref t), .val (.int (Int32.ofNat (o + q))), .val (.int (Int32.ofNat (cs.length + q))), s8] [])) _
    refine XS.iload X4.here hx rfl (hb hby d11_26) rfl ?_
    refine XS.iloadN X4.here hx rfl (hb hby d11_28) rfl ?_
    refine XS.icmpNo X4.here hx rfl (hb hby d11_29) rfl (tlt ((own_lt (by omega) (by omega)).mpr (by omega))).2.1 ?_
    refine XS.aloadN X4.here hx rfl (hb hby d11_32) rfl rfl ?_
    refine XS.iload X4.here hx rfl (hb hby d11_33) rfl ?_
    show Steps p.tables e below (T4.setTop (mkF m 35 #[.val (.ref a), .val (.ref ar), .val (.int (Int32.ofNat o)), .val (.int (Int32.ofNat ee)), .val (.int (Int32.ofNat cs.length)), .val (.ref t), .val (.int (Int32.ofNat (o + q))), .val (.int (Int32.ofNat (cs.length + q))), s8] [(.int (Int32.ofNat (o + q))), (.ref ar)])) _
    refine X4.caload hx (j := (Int32.ofNat (o + q))) (v := (.int (as.getD (o + q) 0))) (by rw [e4]; exact Ar5.1) (State.isArrayOf_alike hZ.alike Ar5.2.1) Ar5.2.2 hin5 (H5.at hin5 (own_ca as (o + q) (by omega))) (g := (mkF m 35 #[.val (.ref a), .val (.ref ar), .val (.int (Int32.ofNat o)), .val (.int (Int32.ofNat ee)), .val (.int (Int32.ofNat cs.length)), .val (.ref t), .val (.int (Int32.ofNat (o + q))), .val (.int (Int32.ofNat (cs.length + q))), s8] [(.int (Int32.ofNat (o + q))), (.ref ar)])) rfl rfl (hb hby d11_35) _ ?_
    show Steps p.tables e below (T4.setTop (mkF m 36 #[.val (.ref a), .val (.ref ar), .val (.int (Int32.ofNat o)), .val (.int (Int32.ofNat ee)), .val (.int (Int32.ofNat cs.length)), .val (.ref t), .val (.int (Int32.ofNat (o + q))), .val (.int (Int32.ofNat (cs.length + q))), s8] [(.int (as.getD (o + q) 0))])) _
    refine XS.istore X4.here hx rfl (hb hby d11_36) rfl (l' := #[.val (.ref a), .val (.ref ar), .val (.int (Int32.ofNat o)), .val (.int (Int32.ofNat ee)), .val (.int (Int32.ofNat cs.length)), .val (.ref t), .val (.int (Int32.ofNat (o + q))), .val (.int (Int32.ofNat (cs.length + q))), .val (.int (as.getD (o + q) 0))]) (own_os8 h8) ?_
    refine XS.iload X4.here hx rfl (hb hby d11_38) rfl ?_
    show Steps p.tables e below (T4.setTop (mkF m 40 #[.val (.ref a), .val (.ref ar), .val (.int (Int32.ofNat o)), .val (.int (Int32.ofNat ee)), .val (.int (Int32.ofNat cs.length)), .val (.ref t), .val (.int (Int32.ofNat (o + q))), .val (.int (Int32.ofNat (cs.length + q))), .val (.int (as.getD (o + q) 0))] [(.int (as.getD (o + q) 0))])) _
    refine st6 _ ?_
    show Steps p.tables e below (T6.setTop (mkF m 43 #[.val (.ref a), .val (.ref ar), .val (.int (Int32.ofNat o)), .val (.int (Int32.ofNat ee)), .val (.int (Int32.ofNat cs.length)), .val (.ref t), .val (.int (Int32.ofNat (o + q))), .val (.int (Int32.ofNat (cs.length + q))), .val (.int (as.getD (o + q) 0))] [(.int 0)])) _
    refine XS.ifYes X6.here hx rfl (pc0 := 43) (pc' := 60) rfl (hb hby d11_43) rfl ((if0 _ _).trans (teq (by decide : (0 : Int32) = (0 : Int32))).1) (by decide) (by decide) ?_
    refine XS.aloadN X6.here hx rfl (hb hby d11_60) rfl rfl ?_
    refine XS.iload X6.here hx rfl (hb hby d11_61) rfl ?_
    refine XS.dup X6.here hx rfl (hb hby d11_63) rfl rfl ?_
    refine XS.istore X6.here hx rfl (hb hby d11_64) rfl (l' := #[.val (.ref a), .val (.ref ar), .val (.int (Int32.ofNat o)), .val (.int (Int32.ofNat ee)), .val (.int (Int32.ofNat (cs.length + q))), .val (.ref t), .val (.int (Int32.ofNat (o + q))), .val (.int (Int32.ofNat (cs.length + q))), .val (.int (as.getD (o + q) 0))]) rfl ?_
    show Steps p.tables e below (T6.setTop (mkF m 66 #[.val (.ref a), .val (.ref ar), .val (.int (Int32.ofNat o)), .val (.int (Int32.ofNat ee)), .val (.int (Int32.ofNat (cs.length + q))), .val (.ref t), .val (.int (Int32.ofNat (o + q))), .val (.int (Int32.ofNat (cs.length + q))), .val (.int (as.getD (o + q) 0))] [(.int (Int32.ofNat (cs.length + q))), (.ref a)])) _
    refine st7 _ ?_
    show Steps p.tables e below (T7.setTop (mkF m 69 #[.val (.ref a), .val (.ref ar), .val (.int (Int32.ofNat o)), .val (.int (Int32.ofNat ee)), .val (.int (Int32.ofNat (cs.length + q))), .val (.ref t), .val (.int (Int32.ofNat (o + q))), .val (.int (Int32.ofNat (cs.length + q))), .val (.int (as.getD (o + q) 0))] [])) _
    refine XS.aloadN X7.here hx rfl (hb hby d11_69) rfl rfl ?_
    show Steps p.tables e below (T7.setTop (mkF m 70 #[.val (.ref a), .val (.ref ar), .val (.int (Int32.ofNat o)), .val (.int (Int32.ofNat ee)), .val (.int (Int32.ofNat (cs.length + q))), .val (.ref t), .val (.int (Int32.ofNat (o + q))), .val (.int (Int32.ofNat (cs.length + q))), .val (.int (as.getD (o + q) 0))] [(.ref a)])) _
    refine st11.trans ?_
    show Steps p.tables e below (T11.setTop (mkF m 73 #[.val (.ref a), .val (.ref ar), .val (.int (Int32.ofNat o)), .val (.int (Int32.ofNat ee)), .val (.int (Int32.ofNat (cs.length + q))), .val (.ref t), .val (.int (Int32.ofNat (o + q))), .val (.int (Int32.ofNat (cs.length + q))), .val (.int (as.getD (o + q) 0))] [])) _
    refine XS.aloadN X11.here hx rfl (hb hby d11_73) rfl rfl ?_
    show Steps p.tables e below (T11.setTop (mkF m 74 #[.val (.ref a), .val (.ref ar), .val (.int (Int32.ofNat o)), .val (.int (Int32.ofNat ee)), .val (.int (Int32.ofNat (cs.length + q))), .val (.ref t), .val (.int (Int32.ofNat (o + q))), .val (.int (Int32.ofNat (cs.length + q))), .val (.int (as.getD (o + q) 0))] [(.ref a)])) _
    refine st18 _ ?_
    show Steps p.tables e below (T18.setTop (mkF m 77 #[.val (.ref a), .val (.ref ar), .val (.int (Int32.ofNat o)), .val (.int (Int32.ofNat ee)), .val (.int (Int32.ofNat (cs.length + q))), .val (.ref t), .val (.int (Int32.ofNat (o + q))), .val (.int (Int32.ofNat (cs.length + q))), .val (.int (as.getD (o + q) 0))] [(.ref t11)])) _
    refine XS.iload X18.here hx rfl (hb hby d11_77) rfl ?_
    refine XS.aloadN X18.here hx rfl (hb hby d11_79) rfl rfl ?_
    refine XS.iload X18.here hx rfl (hb hby d11_80) rfl ?_
    refine XS.iloadN X18.here hx rfl (hb hby d11_82) rfl ?_
    show Steps p.tables e below (T18.setTop (mkF m 83 #[.val (.ref a), .val (.ref ar), .val (.int (Int32.ofNat o)), .val (.int (Int32.ofNat ee)), .val (.int (Int32.ofNat (cs.length + q))), .val (.ref t), .val (.int (Int32.ofNat (o + q))), .val (.int (Int32.ofNat (cs.length + q))), .val (.int (as.getD (o + q) 0))] [(.int (Int32.ofNat ee)), (.int (Int32.ofNat (o + q))), (.ref ar), (.int (Int32.ofNat (cs.length + q))), (.ref t11)])) _
    refine st19 _ ?_
    show Steps p.tables e below (T19.setTop (mkF m 86 #[.val (.ref a), .val (.ref ar), .val (.int (Int32.ofNat o)), .val (.int (Int32.ofNat ee)), .val (.int (Int32.ofNat (cs.length + q))), .val (.ref t), .val (.int (Int32.ofNat (o + q))), .val (.int (Int32.ofNat (cs.length + q))), .val (.int (as.getD (o + q) 0))] [])) _
    refine XS.aloadN X19.here hx rfl (hb hby d11_86) rfl rfl ?_
    refine XS.iload X19.here hx rfl (hb hby d11_87) rfl ?_
    refine XS.iloadN X19.here hx rfl (hb hby d11_89) rfl ?_
    refine XS.iadd X19.here hx rfl (hb hby d11_90) rfl ?_
    refine XS.iload X19.here hx rfl (hb hby d11_91) rfl ?_
    refine XS.isub X19.here hx rfl (hb hby d11_93) rfl ?_
    show Steps p.tables e below (T19.setTop (mkF m 94 #[.val (.ref a), .val (.ref ar), .val (.int (Int32.ofNat o)), .val (.int (Int32.ofNat ee)), .val (.int (Int32.ofNat (cs.length + q))), .val (.ref t), .val (.int (Int32.ofNat (o + q))), .val (.int (Int32.ofNat (cs.length + q))), .val (.int (as.getD (o + q) 0))] [(.int (((Int32.ofNat (cs.length + q)) + (Int32.ofNat ee)) - (Int32.ofNat (o + q)))), (.ref a)])) _
    rw [(own_jeo (j := (cs.length + q)) (o := (o + q)) (n := (n - q)) (by omega) (by omega))]
    show Steps p.tables e below (T19.setTop (mkF m 94 #[.val (.ref a), .val (.ref ar), .val (.int (Int32.ofNat o)), .val (.int (Int32.ofNat ee)), .val (.int (Int32.ofNat (cs.length + q))), .val (.ref t), .val (.int (Int32.ofNat (o + q))), .val (.int (Int32.ofNat (cs.length + q))), .val (.int (as.getD (o + q) 0))] [(.int (Int32.ofNat ((cs.length + q) + (n - q)))), (.ref a)])) _
    refine st22 _ ?_
    show Steps p.tables e below (T22.setTop (mkF m 97 #[.val (.ref a), .val (.ref ar), .val (.int (Int32.ofNat o)), .val (.int (Int32.ofNat ee)), .val (.int (Int32.ofNat (cs.length + q))), .val (.ref t), .val (.int (Int32.ofNat (o + q))), .val (.int (Int32.ofNat (cs.length + q))), .val (.int (as.getD (o + q) 0))] [])) _
    exact X22.returnOut hx Bd.returns (hb hby d11_97) hr
  · show own_QA Z none a t (cs ++ (as.drop o).take n) h0 n0 _ T22.heap _
    rw [e22]
    exact ⟨rfl, N22, ((((((Keep.refl h0 [a, t]).trans K4 (allS (P := fun zz => zz ∈ [a, t] ∨ h0.size ≤ zz) (Or.inl (tk 1 rfl)) all0)).wr W7 (Or.inl (tk 0 rfl))).trans Kq11 (allS (P := fun zz => zz ∈ [a, t] ∨ h0.size ≤ zz) (Or.inl (tk 0 rfl)) all0)).trans Kq19 (allS (P := fun zz => zz ∈ [a, t] ∨ h0.size ≤ zz) (Or.inr szt11) all0)).wr W22 (Or.inl (tk 0 rfl))), t11, k11q, gt11, Or.inr szt11, f25, f26, (by rw [own_tl cs as o n (by omega), show cs.length + n = (cs.length + q) + (n - q) by omega]; exact Fw22), f28, Or.inr ⟨f27, (by rw [← own_split as o q n (by omega), ← List.append_assoc]; exact f29)⟩⟩
set_option maxRecDepth 65536 in
set_option maxHeartbeats 40000000 in
theorem rmAP_w (l : Launch) (Z : State) (a0 : Array Value) (hw : ∀ d ∈ tables_1, d.before a0 Z = true) (ws : List Jvm.Cond) (G1 : Int32) (G3 : Value) (G4 : Value) (a : Addr) (t : Addr) (k : ClassId) (cs : List Int32) (ar : Addr) (ka : ClassId) (as : List Int32) (o : Nat) (ee : Nat) (n : Nat) (h0 : Heap) (n0 : Nat) (Z0 : n0 ≤ h0.size) (EN : own_env Z G1 G3 G4) (X00 : Old Z n0 h0) (E_a : Exa Z h0 a "java/lang/StringBuilder") (F_value_a : Fld Z h0 a "java/lang/AbstractStringBuilder" "value" "[B" (.ref t)) (F_coder_a : Fld Z h0 a "java/lang/AbstractStringBuilder" "coder" "B" (.int 1)) (F_count_a : Fld Z h0 a "java/lang/AbstractStringBuilder" "count" "I" (.int (Int32.ofNat cs.length))) (F_maybeLatin1_a : Fld Z h0 a "java/lang/AbstractStringBuilder" "maybeLatin1" "Z" (.int 0)) (V_t : Arv Z h0 t k .byte (Int32.ofNat (2 * 16)) (own_wide cs) (.int 0)) (hlen : cs.length ≤ 15) (g_a : n0 ≤ a) (g_t : n0 ≤ t) (V_ar : Arv Z h0 ar ka .char (Int32.ofNat as.length) (as.map Value.int) (.int 0)) (hta : ar ≠ t) (haa : ar ≠ a) (hln : cs.length + n ≤ 15) (ho : o + n = ee) (he : ee ≤ as.length) (ha : as.length < 2 ^ 30) (hch : ∀ c ∈ as, own_ch c) :
    MetFree l (⟨"java/lang/AbstractStringBuilder", "appendChars", "([CII)V"⟩ : MethodName) (head1 (Jvm.Cond.code (⟨"java/lang/AbstractStringBuilder", "appendChars", "([CII)V"⟩ : MethodName) jdk_68_method_74_code 9 none :: ws) ({ frames := 6, cells := 1, slots := 32, locals := 89 } : Room)) (fun a_ U_ => a_ = #[(.ref a), (.ref ar), (.int (Int32.ofNat o)), (.int (Int32.ofNat ee))] ∧ Z.Warmed39 U_.vm ∧ U_.heap = h0) (fun _ _ _ _ _ => True) (fun _ U_ o_ U1_ => ∃ v_ L_, o_ = .returned v_ ∧ own_QA Z none a t (cs ++ (as.drop o).take n) h0 n0 v_ U1_.heap L_ ∧ FrameEnd U_ o_ U1_ L_ ({ frames := 6, cells := 1, slots := 32, locals := 89 } : Room).cells ({ frames := 6, cells := 1, slots := 32, locals := 89 } : Room).slots) := by
  refine MetFree.of_bodySF (plainFor_of_name pn_11) hisR ?_
  intro p e s m args below meth c s₁ Bd hml0 hP hK
  obtain ⟨rfl, hZ, hh⟩ := hP
  have hx := Bd.exec
  have hby := Bd.bytes
  have hml : c.maxLocals = 9 := hml0
  have hown : s.vm.findClass "java/lang/AbstractStringBuilder" = some m.cls := findClass_of_methodNamed Bd.named
  have hnm := (name_of_methodNamed Bd.named Bd.method).1
  have X0 : Stand p l e ({ frames := 6, cells := 1, slots := 32, locals := 89 } : Room) s m #[(.ref a), (.ref ar), (.int (Int32.ofNat o)), (.int (Int32.ofNat ee))] below meth c s₁ [] 0 0 := Stand.of_body Bd
  have e0 : s₁.heap = h0 := by rw [← hh, Bd.state]; rfl
  have N0 := Fr.nil n0
  have pre0 : ∀ tt, Steps p.tables e below (s₁.setTop (mkF m 0 #[.val (.ref a), .val (.ref ar), .val (.int (Int32.ofNat o)), .val (.int (Int32.ofNat ee)), .unset, .unset, .unset, .unset, .unset] [])) tt → Steps p.tables e below (s₁.setTop (entryFrame m #[(.ref a), (.ref ar), (.int (Int32.ofNat o)), (.int (Int32.ofNat ee))] 9)) tt := fun tt kk => castTop (ef_11_rrrr m a ar (Int32.ofNat o) (Int32.ofNat ee)) kk
  have EN0 := EN
  obtain ⟨O2, P5, O4, rG3, O5, rG4, O6, O7, O8⟩ := EN
  obtain ⟨T1, X1, e1, st1⟩ := getF X0 hx hZ hown (host := "") (Or.inl (hw _ (tk 61 rfl))) Via.refl e0 F_count_a (g := (mkF m 1 #[.val (.ref a), .val (.ref ar), .val (.int (Int32.ofNat o)), .val (.int (Int32.ofNat ee)), .unset, .unset, .unset, .unset, .unset] [(.ref a)])) rfl rfl (hb hby d11_1)
  obtain ⟨cq2, kq2, q2a, q2b, q2c⟩ := isOf hZ e1 E_a
  obtain ⟨_, _, ⟨T2, L2, k2, n2⟩, -, X2, ⟨Lc2, hQ2, l2, y2, z2⟩, st2⟩ := X1.virtualBack hx (y := (⟨"java/lang/AbstractStringBuilder", "isLatin1", "()Z"⟩ : MethodName)) (z := (⟨"java/lang/AbstractStringBuilder", "isLatin1", "()Z"⟩ : MethodName)) hown (mvT hZ (hw _ (tk 73 rfl))) (mvT hZ (hw _ (tk 74 rfl))) (notFace_of_selects (args := #[]) (mvT hZ (hw _ (tk 76 rfl)))) (mvT hZ (hw _ (tk 76 rfl))) (mvT hZ (hw _ (tk 75 rfl))) (by decide) (backOf (W := 0) (rmIL1 l Z a0 hw [] G1 G3 G4 a h0 n0 Z0 EN0 X00 E_a F_coder_a) hZ (hw _ (tk 77 rfl)) (hw _ (tk 28 rfl)) (by decide) (by decide)) q2a q2c (g := (mkF m 7 #[.val (.ref a), .val (.ref ar), .val (.int (Int32.ofNat o)), .val (.int (Int32.ofNat ee)), .val (.int (Int32.ofNat cs.length)), .unset, .unset, .unset, .unset] [(.ref a)])) rfl (by rw [hml]; rfl) (Steps.refl _) (argsL := []) (rest := []) (lenOf pd___Z rfl) rfl (by show 2 * 0 + _ ≤ _; exact Nat.le_of_eq rfl) (hb hby d11_7) (fun _ _ => ⟨rfl, e1, (by decide : 0 + 0 ≤ _), (by decide : 0 + 0 ≤ _)⟩)
  dsimp only [Pt.U, Pt.locs, Pt.cells, Pt.slots] at X2 l2 y2 z2 st2 hQ2
  subst l2 y2 z2
  obtain ⟨rfl, Nq2, eq2⟩ := hQ2
  have N2 := Fr.app N0 Nq2
  obtain ⟨T3, X3, e3, st3⟩ := getF X2 hx hZ hown (host := "") (Or.inl (hw _ (tk 34 rfl))) Via.refl eq2 F_value_a (g := (mkF m 108 #[.val (.ref a), .val (.ref ar), .val (.int (Int32.ofNat o)), .val (.int (Int32.ofNat ee)), .val (.int (Int32.ofNat cs.length)), .unset, .unset, .unset, .unset] [(.ref a)])) rfl rfl (hb hby d11_108)
  obtain ⟨_, _, ⟨T4, L4, k4, n4⟩, -, X4, ⟨Lc4, hQ4, l4, y4, z4⟩, st4⟩ := Jvm.LawKit.callS X3 hx (y := (⟨"java/lang/StringUTF16", "putCharsSB", "([BI[CII)V"⟩ : MethodName)) hown (mvT hZ (hw _ (tk 227 rfl))) (mvT hZ (hw _ (tk 228 rfl))) (mvT hZ (hw _ (tk 190 rfl))) (mvT hZ (hw _ (tk 229 rfl))) (by decide) (backOf (W := 0) (rmPCB l Z a0 hw [] G1 G3 G4 t k cs cs.length ar ka as o ee n h0 n0 Z0 EN0 X00 V_t rfl (by omega) g_t V_ar hta ho he ha) hZ (hw _ (tk 229 rfl)) (hw _ (tk 190 rfl)) (by decide) (by decide)) (g := (mkF m 116 #[.val (.ref a), .val (.ref ar), .val (.int (Int32.ofNat o)), .val (.int (Int32.ofNat ee)), .val (.int (Int32.ofNat cs.length)), .unset, .unset, .unset, .unset] [(.int (Int32.ofNat ee)), (.int (Int32.ofNat o)), (.ref ar), (.int (Int32.ofNat cs.length)), (.ref t)])) rfl (by rw [hml]; rfl) (argsL := [(.ref t), (.int (Int32.ofNat cs.length)), (.ref ar), (.int (Int32.ofNat o)), (.int (Int32.ofNat ee))]) (rest := []) (lenOf pd___BI_CII_V rfl) rfl (by show 2 * 0 + _ ≤ _; exact Nat.le_of_eq rfl) (hb hby d11_116) (fun _ _ => ⟨rfl, e3, (by decide : 0 + 0 ≤ _), (by decide : 0 + 0 ≤ _)⟩)
  dsimp only [Pt.U, Pt.locs, Pt.cells, Pt.slots] at X4 l4 y4 z4 st4 hQ4
  subst l4 y4 z4
  obtain ⟨rfl, Nq4, Kq4, Vq4⟩ := hQ4
  have N4 := Fr.app N2 Nq4
  have f6 := (E_a.keep Kq4)
  have f7 := (F_count_a.keep Kq4 (ninS (Exa.neArv E_a V_t (hw _ (tk 19 rfl))) nin0))
  obtain ⟨T5, h5, X5, e5, W5, st5⟩ := putF X4 hx hZ hown (host := "") (Or.inl (hw _ (tk 61 rfl))) Via.refl rfl f7 f6 (Or.inl (hw _ (tk 62 rfl))) (hw _ (tk 19 rfl)) (ty := .int) (by decide) rfl rfl (g := (mkF m 126 #[.val (.ref a), .val (.ref ar), .val (.int (Int32.ofNat o)), .val (.int (Int32.ofNat ee)), .val (.int (Int32.ofNat cs.length)), .unset, .unset, .unset, .unset] [(.int (Int32.ofNat (cs.length + n))), (.ref a)])) rfl rfl (hb hby d11_126)
  have Fw5 := f7.same W5
  have N5 := Fr.snoc X5 N4 g_a
  have f8 := (f6.wr W5)
  have f9 := ((F_value_a.keep Kq4 (ninS (Exa.neArv E_a V_t (hw _ (tk 19 rfl))) nin0)).other W5 (Or.inr (slot_ne (Or.inl (hw _ (tk 35 rfl))) (Or.inl (hw _ (tk 62 rfl))) (by decide) (t := (.array .byte)) (t' := .int) (by decide) (by decide))))
  have f10 := ((F_coder_a.keep Kq4 (ninS (Exa.neArv E_a V_t (hw _ (tk 19 rfl))) nin0)).other W5 (Or.inr (slot_ne (Or.inl (hw _ (tk 37 rfl))) (Or.inl (hw _ (tk 62 rfl))) (by decide) (t := .byte) (t' := .int) (by decide) (by decide))))
  have f11 := ((F_maybeLatin1_a.keep Kq4 (ninS (Exa.neArv E_a V_t (hw _ (tk 19 rfl))) nin0)).other W5 (Or.inr (slot_ne (Or.inl (hw _ (tk 241 rfl))) (Or.inl (hw _ (tk 62 rfl))) (by decide) (t := .boolean) (t' := .int) (by decide) (by decide))))
  have f12 := (Vq4.other W5 (Ne.symm (Exa.neArv E_a V_t (hw _ (tk 19 rfl)))))
  obtain ⟨fs, hr, hrun, hended, hW, hsame⟩ := X5.leave (v := none) (fun _ => rfl)
  refine ⟨_, _, pre0 _ ?_, hrun, hended, _, _, rfl, ?_, ⟨_, rfl⟩, hW, hsame.mono (by decide) (by decide)⟩
  · show Steps p.tables e below (s₁.setTop (mkF m 0 #[.val (.ref a), .val (.ref ar), .val (.int (Int32.ofNat o)), .val (.int (Int32.ofNat ee)), .unset, .unset, .unset, .unset, .unset] [])) _
    refine XS.aloadN X0.here hx rfl (hb hby d11_0) rfl rfl ?_
    show Steps p.tables e below (s₁.setTop (mkF m 1 #[.val (.ref a), .val (.ref ar), .val (.int (Int32.ofNat o)), .val (.int (Int32.ofNat ee)), .unset, .unset, .unset, .unset, .unset] [(.ref a)])) _
    refine st1 _ ?_
    show Steps p.tables e below (T1.setTop (mkF m 4 #[.val (.ref a), .val (.ref ar), .val (.int (Int32.ofNat o)), .val (.int (Int32.ofNat ee)), .unset, .unset, .unset, .unset, .unset] [(.int (Int32.ofNat cs.length))])) _
    refine XS.istore X1.here hx rfl (hb hby d11_4) rfl (l' := #[.val (.ref a), .val (.ref ar), .val (.int (Int32.ofNat o)), .val (.int (Int32.ofNat ee)), .val (.int (Int32.ofNat cs.length)), .unset, .unset, .unset, .unset]) rfl ?_
    refine XS.aloadN X1.here hx rfl (hb hby d11_6) rfl rfl ?_
    show Steps p.tables e below (T1.setTop (mkF m 7 #[.val (.ref a), .val (.ref ar), .val (.int (Int32.ofNat o)), .val (.int (Int32.ofNat ee)), .val (.int (Int32.ofNat cs.length)), .unset, .unset, .unset, .unset] [(.ref a)])) _
    refine st2.trans ?_
    show Steps p.tables e below (T2.setTop (mkF m 10 #[.val (.ref a), .val (.ref ar), .val (.int (Int32.ofNat o)), .val (.int (Int32.ofNat ee)), .val (.int (Int32.ofNat cs.length)), .unset, .unset, .unset, .unset] [(.int 0)])) _
    refine XS.ifYes X2.here hx rfl (pc0 := 10) (pc' := 107) rfl (hb hby d11_10) rfl ((if0 _ _).trans (teq (by decide : (0 : Int32) = (0 : Int32))).1) (by decide) (by decide) ?_
    refine XS.aloadN X2.here hx rfl (hb hby d11_107) rfl rfl ?_
    show Steps p.tables e below (T2.setTop (mkF m 108 #[.val (.ref a), .val (.ref ar), .val (.int (Int32.ofNat o)), .val (.int (Int32.ofNat ee)), .val (.int (Int32.ofNat cs.length)), .unset, .unset, .unset, .unset] [(.ref a)])) _
    refine st3 _ ?_
    show Steps p.tables e below (T3.setTop (mkF m 111 #[.val (.ref a), .val (.ref ar), .val (.int (Int32.ofNat o)), .val (.int (Int32.ofNat ee)), .val (.int (Int32.ofNat cs.length)), .unset, .unset, .unset, .unset] [(.ref t)])) _
    refine XS.iload X3.here hx rfl (hb hby d11_111) rfl ?_
    refine XS.aloadN X3.here hx rfl (hb hby d11_113) rfl rfl ?_
    refine XS.iloadN X3.here hx rfl (hb hby d11_114) rfl ?_
    refine XS.iloadN X3.here hx rfl (hb hby d11_115) rfl ?_
    show Steps p.tables e below (T3.setTop (mkF m 116 #[.val (.ref a), .val (.ref ar), .val (.int (Int32.ofNat o)), .val (.int (Int32.ofNat ee)), .val (.int (Int32.ofNat cs.length)), .unset, .unset, .unset, .unset] [(.int (Int32.ofNat ee)), (.int (Int32.ofNat o)), (.ref ar), (.int (Int32.ofNat cs.length)), (.ref t)])) _
    refine st4 _ ?_
    show Steps p.tables e below (T4.setTop (mkF m 119 #[.val (.ref a), .val (.ref ar), .val (.int (Int32.ofNat o)), .val (.int (Int32.ofNat ee)), .val (.int (Int32.ofNat cs.length)), .unset, .unset, .unset, .unset] [])) _
    refine XS.aloadN X4.here hx rfl (hb hby d11_119) rfl rfl ?_
    refine XS.iload X4.here hx rfl (hb hby d11_120) rfl ?_
    refine XS.iloadN X4.here hx rfl (hb hby d11_122) rfl ?_
    refine XS.iadd X4.here hx rfl (hb hby d11_123) rfl ?_
    refine XS.iloadN X4.here hx rfl (hb hby d11_124) rfl ?_
    refine XS.isub X4.here hx rfl (hb hby d11_125) rfl ?_
    show Steps p.tables e below (T4.setTop (mkF m 126 #[.val (.ref a), .val (.ref ar), .val (.int (Int32.ofNat o)), .val (.int (Int32.ofNat ee)), .val (.int (Int32.ofNat cs.length)), .unset, .unset, .unset, .unset] [(.int (((Int32.ofNat cs.length) + (Int32.ofNat ee)) - (Int32.ofNat o))), (.ref a)])) _
    rw [(own_jeo (j := cs.length) (o := o) (n := n) ho (by omega))]
    show Steps p.tables e below (T4.setTop (mkF m 126 #[.val (.ref a), .val (.ref ar), .val (.int (Int32.ofNat o)), .val (.int (Int32.ofNat ee)), .val (.int (Int32.ofNat cs.length)), .unset, .unset, .unset, .unset] [(.int (Int32.ofNat (cs.length + n))), (.ref a)])) _
    refine st5 _ ?_
    show Steps p.tables e below (T5.setTop (mkF m 129 #[.val (.ref a), .val (.ref ar), .val (.int (Int32.ofNat o)), .val (.int (Int32.ofNat ee)), .val (.int (Int32.ofNat cs.length)), .unset, .unset, .unset, .unset] [])) _
    exact X5.returnOut hx Bd.returns (hb hby d11_129) hr
  · show own_QA Z none a t (cs ++ (as.drop o).take n) h0 n0 _ T5.heap _
    rw [e5]
    exact ⟨rfl, N5, (((Keep.refl h0 [a, t]).trans Kq4 (allS (P := fun zz => zz ∈ [a, t] ∨ h0.size ≤ zz) (Or.inl (tk 1 rfl)) all0)).wr W5 (Or.inl (tk 0 rfl))), t, k, g_t, Or.inl rfl, f8, f9, (by rw [own_tl cs as o n (by omega)]; exact Fw5), f11, Or.inr ⟨f10, f12⟩⟩
theorem own_find (as : List Int32) (o : Nat) : ∀ n : Nat, (∀ u < n, ¬ (255 : Int32) < as.getD (o + u) 0) ∨ ∃ q, q < n ∧ (∀ u < q, ¬ (255 : Int32) < as.getD (o + u) 0) ∧ (255 : Int32) < as.getD (o + q) 0
  | 0 => Or.inl fun u hu => absurd hu (Nat.not_lt_zero u)
  | n + 1 => by
    rcases own_find as o n with h | ⟨q, h1, h2, h3⟩
    · by_cases g : (255 : Int32) < as.getD (o + n) 0
      · exact Or.inr ⟨n, Nat.lt_succ_self n, h, g⟩
      · refine Or.inl fun u hu => ?_
        rcases Nat.lt_succ_iff_lt_or_eq.mp hu with w | rfl
        · exact h u w
        · exact g
    · exact Or.inr ⟨q, by omega, h2, h3⟩
theorem rmAP (l : Launch) (Z : State) (a0 : Array Value) (hw : ∀ d ∈ tables_1, d.before a0 Z = true) (ws : List Jvm.Cond) (G1 : Int32) (G3 G4 : Value) (a t : Addr) (k : ClassId) (cs : List Int32) (ar : Addr) (ka : ClassId) (as : List Int32) (o ee n : Nat) (h0 : Heap) (n0 : Nat) (Z0 : n0 ≤ h0.size) (EN : own_env Z G1 G3 G4) (X00 : Old Z n0 h0) (B : own_bd Z h0 a t k cs) (g_a : n0 ≤ a) (g_t : n0 ≤ t) (V_ar : Arv Z h0 ar ka .char (Int32.ofNat as.length) (as.map Value.int) (.int 0)) (hta : ar ≠ t) (haa : ar ≠ a) (hln : cs.length + n ≤ 15) (ho : o + n = ee) (he : ee ≤ as.length) (ha : as.length < 2 ^ 30) (hch : ∀ c ∈ as, own_ch c) :
    MetFree l (⟨"java/lang/AbstractStringBuilder", "appendChars", "([CII)V"⟩ : MethodName) (head1 (Jvm.Cond.code (⟨"java/lang/AbstractStringBuilder", "appendChars", "([CII)V"⟩ : MethodName) jdk_68_method_74_code 9 none :: ws) ({ frames := 6, cells := 1, slots := 32, locals := 89 } : Room)) (fun a_ U_ => a_ = #[(.ref a), (.ref ar), (.int (Int32.ofNat o)), (.int (Int32.ofNat ee))] ∧ Z.Warmed39 U_.vm ∧ U_.heap = h0) (fun _ _ _ _ _ => True) (fun _ U_ o_ U1_ => ∃ v_ L_, o_ = .returned v_ ∧ own_QA Z none a t (cs ++ (as.drop o).take n) h0 n0 v_ U1_.heap L_ ∧ FrameEnd U_ o_ U1_ L_ ({ frames := 6, cells := 1, slots := 32, locals := 89 } : Room).cells ({ frames := 6, cells := 1, slots := 32, locals := 89 } : Room).slots) := by
  obtain ⟨B1, B2, B3, B4, ⟨B5, B6, B7⟩ | ⟨B5, B6⟩⟩ := B
  · rcases own_find as o n with q | ⟨q, q1, q2, q3⟩
    · exact rmAP_l l Z a0 hw ws G1 G3 G4 a t k cs ar ka as o ee n h0 n0 Z0 EN X00 B1 B2 B5 B3 B4 B6 B7 (by omega) g_a g_t V_ar hta haa hln ho he ha hch q
    · exact rmAP_i l Z a0 hw ws G1 G3 G4 a t k cs ar ka as o ee n q h0 n0 Z0 EN X00 B1 B2 B5 B3 B4 B6 B7 (by omega) g_a g_t V_ar hta haa hln ho he ha hch q1 q2 q3
  · exact rmAP_w l Z a0 hw ws G1 G3 G4 a t k cs ar ka as o ee n h0 n0 Z0 EN X00 B1 B2 B5 B3 B4 B6 (by omega) g_a g_t V_ar hta haa hln ho he ha hch
theorem own_oe {o n ee : Nat} (h : o + n = ee) : (Int32.ofNat o) + (Int32.ofNat n) = Int32.ofNat ee := by rw [own_add, h]
theorem rmEC (l : Launch) (Z : State) (a0 : Array Value) (hw : ∀ d ∈ tables_1, d.before a0 Z = true) (ws : List Jvm.Cond) (a : Addr) (p1 : Int32) (t : Addr) (k : ClassId) (cs : List Int32) (h0 : Heap) (n0 : Nat) (Z0 : n0 ≤ h0.size) (B : own_bd Z h0 a t k cs) (hcap : ¬ ((0 : Int32) < (p1 - (Int32.ofNat 16)))) :
    MetFree l (⟨"java/lang/AbstractStringBuilder", "ensureCapacityInternal", "(I)V"⟩ : MethodName) (head1 (Jvm.Cond.code (⟨"java/lang/AbstractStringBuilder", "ensureCapacityInternal", "(I)V"⟩ : MethodName) jdk_68_method_9_code 3 none :: ws) ({ frames := 0, cells := 0, slots := 0, locals := 0 } : Room)) (fun a_ U_ => a_ = #[(.ref a), (.int p1)] ∧ Z.Warmed39 U_.vm ∧ U_.heap = h0) (fun _ _ _ _ _ => True) (fun _ U_ o_ U1_ => ∃ v_ L_, o_ = .returned v_ ∧ own_Q Z none h0 n0 v_ U1_.heap L_ ∧ FrameEnd U_ o_ U1_ L_ ({ frames := 0, cells := 0, slots := 0, locals := 0 } : Room).cells ({ frames := 0, cells := 0, slots := 0, locals := 0 } : Room).slots) := by
  obtain ⟨B1, B2, B3, B4, ⟨B5, B6, B7⟩ | ⟨B5, B6⟩⟩ := B
  · exact rmEC0 l Z a0 hw ws a p1 t k _ h0 n0 Z0 B1 B2 B5 B6 hcap
  · exact rmEC1 l Z a0 hw ws a p1 t k _ h0 n0 Z0 B1 B2 B5 B6 hcap
theorem d8_0 : decode jdk_68_method_29_code 0 = .ok (.iload_n 2, 1) := by decide +kernel
theorem d8_1 : decode jdk_68_method_29_code 1 = .ok (.iload_n 3, 1) := by decide +kernel
theorem d8_2 : decode jdk_68_method_29_code 2 = .ok (.iadd, 1) := by decide +kernel
theorem d8_3 : decode jdk_68_method_29_code 3 = .ok (.istore 4, 2) := by decide +kernel
theorem d8_5 : decode jdk_68_method_29_code 5 = .ok (.iload_n 2, 1) := by decide +kernel
theorem d8_6 : decode jdk_68_method_29_code 6 = .ok (.iload 4, 2) := by decide +kernel
theorem d8_8 : decode jdk_68_method_29_code 8 = .ok (.aload_n 1, 1) := by decide +kernel
theorem d8_9 : decode jdk_68_method_29_code 9 = .ok (.arraylength, 1) := by decide +kernel
theorem d8_10 : decode jdk_68_method_29_code 10 = .ok (.getstatic 183, 3) := by decide +kernel
theorem d8_13 : decode jdk_68_method_29_code 13 = .ok (.invokestatic 161, 3) := by decide +kernel
theorem d8_16 : decode jdk_68_method_29_code 16 = .ok (.pop, 1) := by decide +kernel
theorem d8_17 : decode jdk_68_method_29_code 17 = .ok (.aload_n 0, 1) := by decide +kernel
theorem d8_18 : decode jdk_68_method_29_code 18 = .ok (.aload_n 0, 1) := by decide +kernel
theorem d8_19 : decode jdk_68_method_29_code 19 = .ok (.getfield 79, 3) := by decide +kernel
theorem d8_22 : decode jdk_68_method_29_code 22 = .ok (.iload_n 3, 1) := by decide +kernel
theorem d8_23 : decode jdk_68_method_29_code 23 = .ok (.iadd, 1) := by decide +kernel
theorem d8_24 : decode jdk_68_method_29_code 24 = .ok (.invokevirtual 100, 3) := by decide +kernel
theorem d8_27 : decode jdk_68_method_29_code 27 = .ok (.aload_n 0, 1) := by decide +kernel
theorem d8_28 : decode jdk_68_method_29_code 28 = .ok (.aload_n 1, 1) := by decide +kernel
theorem d8_29 : decode jdk_68_method_29_code 29 = .ok (.iload_n 2, 1) := by decide +kernel
theorem d8_30 : decode jdk_68_method_29_code 30 = .ok (.iload 4, 2) := by decide +kernel
theorem pd___CII_V : parseMethodDescriptor "([CII)V" = some ⟨[(.array .char), .int, .int], none⟩ := by decide +kernel
theorem d8_32 : decode jdk_68_method_29_code 32 = .ok (.invokevirtual 239, 3) := by decide +kernel
theorem d8_35 : decode jdk_68_method_29_code 35 = .ok (.aload_n 0, 1) := by decide +kernel
theorem d8_36 : decode jdk_68_method_29_code 36 = .ok (.areturn, 1) := by decide +kernel
theorem pn_8 : plainName "java/lang/AbstractStringBuilder" = true := by first | (simp [plainName, overriddenIn]; done) | decide +kernel
theorem ef_8_rrrr (m : MethodId) (x0 : Addr) (x1 : Addr) (x2 : Int32) (x3 : Int32) : entryFrame m #[(.ref x0), (.ref x1), (.int x2), (.int x3)] 5 = mkF m 0 #[.val (.ref x0), .val (.ref x1), .val (.int x2), .val (.int x3), .unset] [] := by first | (simp [entryFrame, mkF, argsToLocals, Value.category]; done) | rfl
set_option maxRecDepth 65536 in
set_option maxHeartbeats 40000000 in
theorem rmAA (l : Launch) (Z : State) (a0 : Array Value) (hw : ∀ d ∈ tables_1, d.before a0 Z = true) (ws : List Jvm.Cond) (G1 : Int32) (G3 : Value) (G4 : Value) (a : Addr) (t : Addr) (k : ClassId) (cs : List Int32) (ar : Addr) (ka : ClassId) (as : List Int32) (o : Nat) (ee : Nat) (n : Nat) (h0 : Heap) (n0 : Nat) (Z0 : n0 ≤ h0.size) (EN : own_env Z G1 G3 G4) (X00 : Old Z n0 h0) (B : own_bd Z h0 a t k cs) (g_a : n0 ≤ a) (g_t : n0 ≤ t) (V_ar : Arv Z h0 ar ka .char (Int32.ofNat as.length) (as.map Value.int) (.int 0)) (hta : ar ≠ t) (haa : ar ≠ a) (hln : cs.length + n ≤ 15) (ho : o + n = ee) (he : ee ≤ as.length) (ha : as.length < 2 ^ 30) (hch : ∀ c ∈ as, own_ch c) :
    MetFree l (⟨"java/lang/AbstractStringBuilder", "append", "([CII)Ljava/lang/AbstractStringBuilder;"⟩ : MethodName) (head1 (Jvm.Cond.code (⟨"java/lang/AbstractStringBuilder", "append", "([CII)Ljava/lang/AbstractStringBuilder;"⟩ : MethodName) jdk_68_method_29_code 5 (some (.object "java/lang/AbstractStringBuilder")) :: ws) ({ frames := 7, cells := 1, slots := 32, locals := 109 } : Room)) (fun a_ U_ => a_ = #[(.ref a), (.ref ar), (.int (Int32.ofNat o)), (.int (Int32.ofNat n))] ∧ Z.Warmed39 U_.vm ∧ U_.heap = h0) (fun _ _ _ _ _ => True) (fun _ U_ o_ U1_ => ∃ v_ L_, o_ = .returned v_ ∧ own_QA Z (some (.ref a)) a t (cs ++ (as.drop o).take n) h0 n0 v_ U1_.heap L_ ∧ FrameEnd U_ o_ U1_ L_ ({ frames := 7, cells := 1, slots := 32, locals := 109 } : Room).cells ({ frames := 7, cells := 1, slots := 32, locals := 109 } : Room).slots) := by
  refine MetFree.of_bodySF (plainFor_of_name pn_8) hisR ?_
  intro p e s m args below meth c s₁ Bd hml0 hP hK
  obtain ⟨rfl, hZ, hh⟩ := hP
  have hx := Bd.exec
  have hby := Bd.bytes
  have hml : c.maxLocals = 5 := hml0
  have hown : s.vm.findClass "java/lang/AbstractStringBuilder" = some m.cls := findClass_of_methodNamed Bd.named
  have hnm := (name_of_methodNamed Bd.named Bd.method).1
  have X0 : Stand p l e ({ frames := 7, cells := 1, slots := 32, locals := 109 } : Room) s m #[(.ref a), (.ref ar), (.int (Int32.ofNat o)), (.int (Int32.ofNat n))] below meth c s₁ [] 0 0 := Stand.of_body Bd
  have e0 : s₁.heap = h0 := by rw [← hh, Bd.state]; rfl
  have N0 := Fr.nil n0
  have pre0 : ∀ tt, Steps p.tables e below (s₁.setTop (mkF m 0 #[.val (.ref a), .val (.ref ar), .val (.int (Int32.ofNat o)), .val (.int (Int32.ofNat n)), .unset] [])) tt → Steps p.tables e below (s₁.setTop (entryFrame m #[(.ref a), (.ref ar), (.int (Int32.ofNat o)), (.int (Int32.ofNat n))] 5)) tt := fun tt kk => castTop (ef_8_rrrr m a ar (Int32.ofNat o) (Int32.ofNat n)) kk
  have EN0 := EN
  obtain ⟨O2, P5, O4, rG3, O5, rG4, O6, O7, O8⟩ := EN
  obtain ⟨c1, Ar1, -, S1, M1, -, -⟩ := id V_ar
  obtain ⟨T2, X2, e2, st2⟩ := getS2 X0 hx hZ hown (host := "") (Or.inl (hw _ (tk 55 rfl))) Via.refl e0 (Sta.ext X00.2 O5) (g := (mkF m 10 #[.val (.ref a), .val (.ref ar), .val (.int (Int32.ofNat o)), .val (.int (Int32.ofNat n)), .val (.int (Int32.ofNat ee))] [(.int (Int32.ofNat as.length)), (.int (Int32.ofNat ee)), (.int (Int32.ofNat o))])) rfl (hb hby d8_10)
  obtain ⟨_, _, ⟨T3, L3, k3, n3⟩, -, X3, ⟨Lc3, hQ3, l3, y3, z3⟩, st3⟩ := Jvm.LawKit.callS X2 hx (y := (⟨"jdk/internal/util/Preconditions", "checkFromToIndex", "(IIILjava/util/function/BiFunction;)I"⟩ : MethodName)) hown (mvT hZ (hw _ (tk 58 rfl))) (mvT hZ (hw _ (tk 59 rfl))) (mvT hZ (hw _ (tk 56 rfl))) (mvT hZ (hw _ (tk 60 rfl))) (by decide) (backOf (W := 0) (rmPFT l Z a0 hw [] (Int32.ofNat o) (Int32.ofNat ee) (Int32.ofNat as.length) G4 h0 n0 Z0 rG4 (own_n0 (by omega)) (own_nlt (by omega) (by omega)) (own_nlt (by omega) (by omega))) hZ (hw _ (tk 60 rfl)) (hw _ (tk 56 rfl)) (by decide) (by decide)) (g := (mkF m 13 #[.val (.ref a), .val (.ref ar), .val (.int (Int32.ofNat o)), .val (.int (Int32.ofNat n)), .val (.int (Int32.ofNat ee))] [G4, (.int (Int32.ofNat as.length)), (.int (Int32.ofNat ee)), (.int (Int32.ofNat o))])) rfl (by rw [hml]; rfl) (argsL := [(.int (Int32.ofNat o)), (.int (Int32.ofNat ee)), (.int (Int32.ofNat as.length)), G4]) (rest := []) (lenOf pd__IIILjava_util_function_BiFunction__I rfl) rfl (by show 2 * 0 + _ ≤ _; exact Nat.le_of_eq rfl) (hb hby d8_13) (fun _ _ => ⟨rfl, e2, (by decide : 0 + 0 ≤ _), (by decide : 0 + 0 ≤ _)⟩)
  dsimp only [Pt.U, Pt.locs, Pt.cells, Pt.slots] at X3 l3 y3 z3 st3 hQ3
  subst l3 y3 z3
  obtain ⟨rfl, Nq3, eq3⟩ := hQ3
  have N3 := Fr.app N0 Nq3
  obtain ⟨T4, X4, e4, st4⟩ := getF X3 hx hZ hown (host := "") (Or.inl (hw _ (tk 61 rfl))) Via.refl eq3 B.2.2.1 (g := (mkF m 19 #[.val (.ref a), .val (.ref ar), .val (.int (Int32.ofNat o)), .val (.int (Int32.ofNat n)), .val (.int (Int32.ofNat ee))] [(.ref a), (.ref a)])) rfl rfl (hb hby d8_19)
  obtain ⟨cq5, q5, q5'⟩ := Exa.cell B.1
  obtain ⟨_, _, ⟨T5, L5, k5, n5⟩, -, X5, ⟨Lc5, hQ5, l5, y5, z5⟩, st5⟩ := X4.privateBack hx (y := (⟨"java/lang/AbstractStringBuilder", "ensureCapacityInternal", "(I)V"⟩ : MethodName)) hown (mvT hZ (hw _ (tk 63 rfl))) (mvT hZ (hw _ (tk 64 rfl))) (own_priv (y := (⟨"java/lang/AbstractStringBuilder", "ensureCapacityInternal", "(I)V"⟩ : MethodName)) (by decide) (mvT hZ (hw _ (tk 66 rfl))) (mvP hZ (hw _ (tk 65 rfl)))) (Cond.privateMethod_at (mvP hZ (hw _ (tk 65 rfl)) (args := #[]))) (mvT hZ (hw _ (tk 67 rfl))) (by decide) (backOf (W := 0) (rmEC l Z a0 hw [] a (Int32.ofNat (cs.length + n)) t k cs h0 n0 Z0 B (own_cap (by omega))) hZ (hw _ (tk 67 rfl)) (hw _ (tk 28 rfl)) (by decide) (by decide)) (g := (mkF m 24 #[.val (.ref a), .val (.ref ar), .val (.int (Int32.ofNat o)), .val (.int (Int32.ofNat n)), .val (.int (Int32.ofNat ee))] [(.int (Int32.ofNat (cs.length + n))), (.ref a)])) rfl (by rw [hml]; rfl) (Steps.refl _) (a := a) (by rw [e4]; exact q5) q5' (argsL := [(.int (Int32.ofNat (cs.length + n)))]) (rest := []) (lenOf pd__I_V rfl) rfl (by show 2 * 0 + _ ≤ _; exact Nat.le_of_eq rfl) (hb hby d8_24) (fun _ _ => ⟨rfl, e4, (by decide : 0 + 0 ≤ _), (by decide : 0 + 0 ≤ _)⟩)
  dsimp only [Pt.U, Pt.locs, Pt.cells, Pt.slots] at X5 l5 y5 z5 st5 hQ5
  subst l5 y5 z5
  obtain ⟨rfl, Nq5, eq5⟩ := hQ5
  have N5 := Fr.app N3 Nq5
  obtain ⟨cq6, q6, q6'⟩ := Exa.cell B.1
  obtain ⟨_, _, ⟨T6, L6, k6, n6⟩, -, X6, ⟨Lc6, hQ6, l6, y6, z6⟩, st6⟩ := X5.privateBack hx (y := (⟨"java/lang/AbstractStringBuilder", "appendChars", "([CII)V"⟩ : MethodName)) hown (mvT hZ (hw _ (tk 68 rfl))) (mvT hZ (hw _ (tk 69 rfl))) (own_priv (y := (⟨"java/lang/AbstractStringBuilder", "appendChars", "([CII)V"⟩ : MethodName)) (by decide) (mvT hZ (hw _ (tk 71 rfl))) (mvP hZ (hw _ (tk 70 rfl)))) (Cond.privateMethod_at (mvP hZ (hw _ (tk 70 rfl)) (args := #[]))) (mvT hZ (hw _ (tk 72 rfl))) (by decide) (backOf (W := 0) (rmAP l Z a0 hw [] G1 G3 G4 a t k cs ar ka as o ee n h0 n0 Z0 EN0 X00 B g_a g_t V_ar hta haa hln ho he ha hch) hZ (hw _ (tk 72 rfl)) (hw _ (tk 28 rfl)) (by decide) (by decide)) (g := (mkF m 32 #[.val (.ref a), .val (.ref ar), .val (.int (Int32.ofNat o)), .val (.int (Int32.ofNat n)), .val (.int (Int32.ofNat ee))] [(.int (Int32.ofNat ee)), (.int (Int32.ofNat o)), (.ref ar), (.ref a)])) rfl (by rw [hml]; rfl) (Steps.refl _) (a := a) (by rw [eq5]; exact q6) q6' (argsL := [(.ref ar), (.int (Int32.ofNat o)), (.int (Int32.ofNat ee))]) (rest := []) (lenOf pd___CII_V rfl) rfl (by show 2 * 0 + _ ≤ _; exact Nat.le_of_eq rfl) (hb hby d8_32) (fun _ _ => ⟨rfl, eq5, (by decide : 0 + 1 ≤ _), (by decide : 0 + 32 ≤ _)⟩)
  dsimp only [Pt.U, Pt.locs, Pt.cells, Pt.slots] at X6 l6 y6 z6 st6 hQ6
  subst l6 y6 z6
  obtain ⟨rfl, Nq6, Kq6, t6, k6q, gt6, or6, B6⟩ := hQ6
  have N6 := Fr.app N5 Nq6
  have ltB6 : t6 < T6.heap.size := by obtain ⟨-, -, -, -, ⟨-, q, -⟩ | ⟨-, q⟩⟩ := B6 <;> exact q.lt
  obtain ⟨fs, hr, hrun, hended, hW, hsame⟩ := X6.leave (v := some (.ref a)) (fun h => by rw [Bd.returns] at h; cases h)
  refine ⟨_, _, pre0 _ ?_, hrun, hended, _, _, rfl, ?_, ⟨_, rfl⟩, hW, hsame.mono (by decide) (by decide)⟩
  · show Steps p.tables e below (s₁.setTop (mkF m 0 #[.val (.ref a), .val (.ref ar), .val (.int (Int32.ofNat o)), .val (.int (Int32.ofNat n)), .unset] [])) _
    refine XS.iloadN X0.here hx rfl (hb hby d8_0) rfl ?_
    refine XS.iloadN X0.here hx rfl (hb hby d8_1) rfl ?_
    refine XS.iadd X0.here hx rfl (hb hby d8_2) rfl ?_
    show Steps p.tables e below (s₁.setTop (mkF m 3 #[.val (.ref a), .val (.ref ar), .val (.int (Int32.ofNat o)), .val (.int (Int32.ofNat n)), .unset] [(.int ((Int32.ofNat o) + (Int32.ofNat n)))])) _
    rw [(own_oe ho)]
    show Steps p.tables e below (s₁.setTop (mkF m 3 #[.val (.ref a), .val (.ref ar), .val (.int (Int32.ofNat o)), .val (.int (Int32.ofNat n)), .unset] [(.int (Int32.ofNat ee))])) _
    refine XS.istore X0.here hx rfl (hb hby d8_3) rfl (l' := #[.val (.ref a), .val (.ref ar), .val (.int (Int32.ofNat o)), .val (.int (Int32.ofNat n)), .val (.int (Int32.ofNat ee))]) rfl ?_
    refine XS.iloadN X0.here hx rfl (hb hby d8_5) rfl ?_
    refine XS.iload X0.here hx rfl (hb hby d8_6) rfl ?_
    refine XS.aloadN X0.here hx rfl (hb hby d8_8) rfl rfl ?_
    show Steps p.tables e below (s₁.setTop (mkF m 9 #[.val (.ref a), .val (.ref ar), .val (.int (Int32.ofNat o)), .val (.int (Int32.ofNat n)), .val (.int (Int32.ofNat ee))] [(.ref ar), (.int (Int32.ofNat ee)), (.int (Int32.ofNat o))])) _
    refine X0.arraylength hx (by rw [e0]; exact Ar1.1) (State.isArrayOf_alike hZ.alike Ar1.2.1) (g := (mkF m 9 #[.val (.ref a), .val (.ref ar), .val (.int (Int32.ofNat o)), .val (.int (Int32.ofNat n)), .val (.int (Int32.ofNat ee))] [(.ref ar), (.int (Int32.ofNat ee)), (.int (Int32.ofNat o))])) rfl rfl (hb hby d8_9) _ ?_
    rw [len_of S1 M1]
    show Steps p.tables e below (s₁.setTop (mkF m 10 #[.val (.ref a), .val (.ref ar), .val (.int (Int32.ofNat o)), .val (.int (Int32.ofNat n)), .val (.int (Int32.ofNat ee))] [(.int (Int32.ofNat as.length)), (.int (Int32.ofNat ee)), (.int (Int32.ofNat o))])) _
    refine st2 _ ?_
    show Steps p.tables e below (T2.setTop (mkF m 13 #[.val (.ref a), .val (.ref ar), .val (.int (Int32.ofNat o)), .val (.int (Int32.ofNat n)), .val (.int (Int32.ofNat ee))] [G4, (.int (Int32.ofNat as.length)), (.int (Int32.ofNat ee)), (.int (Int32.ofNat o))])) _
    refine st3 _ ?_
    show Steps p.tables e below (T3.setTop (mkF m 16 #[.val (.ref a), .val (.ref ar), .val (.int (Int32.ofNat o)), .val (.int (Int32.ofNat n)), .val (.int (Int32.ofNat ee))] [(.int (Int32.ofNat o))])) _
    refine XS.pop X3.here hx rfl (hb hby d8_16) rfl rfl ?_
    refine XS.aloadN X3.here hx rfl (hb hby d8_17) rfl rfl ?_
    refine XS.aloadN X3.here hx rfl (hb hby d8_18) rfl rfl ?_
    show Steps p.tables e below (T3.setTop (mkF m 19 #[.val (.ref a), .val (.ref ar), .val (.int (Int32.ofNat o)), .val (.int (Int32.ofNat n)), .val (.int (Int32.ofNat ee))] [(.ref a), (.ref a)])) _
    refine st4 _ ?_
    show Steps p.tables e below (T4.setTop (mkF m 22 #[.val (.ref a), .val (.ref ar), .val (.int (Int32.ofNat o)), .val (.int (Int32.ofNat n)), .val (.int (Int32.ofNat ee))] [(.int (Int32.ofNat cs.length)), (.ref a)])) _
    refine XS.iloadN X4.here hx rfl (hb hby d8_22) rfl ?_
    refine XS.iadd X4.here hx rfl (hb hby d8_23) rfl ?_
    show Steps p.tables e below (T4.setTop (mkF m 24 #[.val (.ref a), .val (.ref ar), .val (.int (Int32.ofNat o)), .val (.int (Int32.ofNat n)), .val (.int (Int32.ofNat ee))] [(.int ((Int32.ofNat cs.length) + (Int32.ofNat n))), (.ref a)])) _
    rw [(own_add (i := cs.length) (j := n))]
    show Steps p.tables e below (T4.setTop (mkF m 24 #[.val (.ref a), .val (.ref ar), .val (.int (Int32.ofNat o)), .val (.int (Int32.ofNat n)), .val (.int (Int32.ofNat ee))] [(.int (Int32.ofNat (cs.length + n))), (.ref a)])) _
    refine st5.trans ?_
    show Steps p.tables e below (T5.setTop (mkF m 27 #[.val (.ref a), .val (.ref ar), .val (.int (Int32.ofNat o)), .val (.int (Int32.ofNat n)), .val (.int (Int32.ofNat ee))] [])) _
    refine XS.aloadN X5.here hx rfl (hb hby d8_27) rfl rfl ?_
    refine XS.aloadN X5.here hx rfl (hb hby d8_28) rfl rfl ?_
    refine XS.iloadN X5.here hx rfl (hb hby d8_29) rfl ?_
    refine XS.iload X5.here hx rfl (hb hby d8_30) rfl ?_
    show Steps p.tables e below (T5.setTop (mkF m 32 #[.val (.ref a), .val (.ref ar), .val (.int (Int32.ofNat o)), .val (.int (Int32.ofNat n)), .val (.int (Int32.ofNat ee))] [(.int (Int32.ofNat ee)), (.int (Int32.ofNat o)), (.ref ar), (.ref a)])) _
    refine st6.trans ?_
    show Steps p.tables e below (T6.setTop (mkF m 35 #[.val (.ref a), .val (.ref ar), .val (.int (Int32.ofNat o)), .val (.int (Int32.ofNat n)), .val (.int (Int32.ofNat ee))] [])) _
    refine XS.aloadN X6.here hx rfl (hb hby d8_35) rfl rfl ?_
    show Steps p.tables e below (T6.setTop (mkF m 36 #[.val (.ref a), .val (.ref ar), .val (.int (Int32.ofNat o)), .val (.int (Int32.ofNat n)), .val (.int (Int32.ofNat ee))] [(.ref a)])) _
    jvm_step X6.here [X6.here.top, hx, (hb hby d8_36), X6.method', Bd.returns, Value.isRef, FieldType.isReference]
    first | (intro acts; rw [hr _ acts rfl rfl rfl]) | rw [hr _ _ rfl rfl rfl]
    exact Steps.refl _
  · show own_QA Z (some (.ref a)) a t (cs ++ (as.drop o).take n) h0 n0 _ T6.heap _
    exact ⟨rfl, N6, ((Keep.refl h0 [a, t]).trans Kq6 (allS (P := fun zz => zz ∈ [a, t] ∨ h0.size ≤ zz) (Or.inl (tk 0 rfl)) (allS (P := fun zz => zz ∈ [a, t] ∨ h0.size ≤ zz) (Or.inl (tk 1 rfl)) all0))), t6, k6q, gt6, or6, B6⟩
theorem d7_0 : decode jdk_67_method_12_code 0 = .ok (.aload_n 0, 1) := by decide +kernel
theorem d7_1 : decode jdk_67_method_12_code 1 = .ok (.aload_n 1, 1) := by decide +kernel
theorem d7_2 : decode jdk_67_method_12_code 2 = .ok (.iload_n 2, 1) := by decide +kernel
theorem d7_3 : decode jdk_67_method_12_code 3 = .ok (.iload_n 3, 1) := by decide +kernel
theorem pd___CII_Ljava_lang_AbstractStringBuilder_ : parseMethodDescriptor "([CII)Ljava/lang/AbstractStringBuilder;" = some ⟨[(.array .char), .int, .int], some (.object "java/lang/AbstractStringBuilder")⟩ := by decide +kernel
theorem d7_4 : decode jdk_67_method_12_code 4 = .ok (.invokespecial 44, 3) := by decide +kernel
theorem d7_7 : decode jdk_67_method_12_code 7 = .ok (.pop, 1) := by decide +kernel
theorem d7_8 : decode jdk_67_method_12_code 8 = .ok (.aload_n 0, 1) := by decide +kernel
theorem d7_9 : decode jdk_67_method_12_code 9 = .ok (.areturn, 1) := by decide +kernel
theorem pn_7 : plainName "java/lang/StringBuilder" = true := by first | (simp [plainName, overriddenIn]; done) | decide +kernel
theorem ef_7_rrrr (m : MethodId) (x0 : Addr) (x1 : Addr) (x2 : Int32) (x3 : Int32) : entryFrame m #[(.ref x0), (.ref x1), (.int x2), (.int x3)] 4 = mkF m 0 #[.val (.ref x0), .val (.ref x1), .val (.int x2), .val (.int x3)] [] := by first | (simp [entryFrame, mkF, argsToLocals, Value.category]; done) | rfl
set_option maxRecDepth 65536 in
set_option maxHeartbeats 40000000 in
theorem rmSA (l : Launch) (Z : State) (a0 : Array Value) (hw : ∀ d ∈ tables_1, d.before a0 Z = true) (ws : List Jvm.Cond) (G1 : Int32) (G3 : Value) (G4 : Value) (a : Addr) (t : Addr) (k : ClassId) (cs : List Int32) (ar : Addr) (ka : ClassId) (as : List Int32) (o : Nat) (ee : Nat) (n : Nat) (h0 : Heap) (n0 : Nat) (Z0 : n0 ≤ h0.size) (EN : own_env Z G1 G3 G4) (X00 : Old Z n0 h0) (B : own_bd Z h0 a t k cs) (g_a : n0 ≤ a) (g_t : n0 ≤ t) (V_ar : Arv Z h0 ar ka .char (Int32.ofNat as.length) (as.map Value.int) (.int 0)) (hta : ar ≠ t) (haa : ar ≠ a) (hln : cs.length + n ≤ 15) (ho : o + n = ee) (he : ee ≤ as.length) (ha : as.length < 2 ^ 30) (hch : ∀ c ∈ as, own_ch c) :
    MetFree l (⟨"java/lang/StringBuilder", "append", "([CII)Ljava/lang/StringBuilder;"⟩ : MethodName) (head1 (Jvm.Cond.code (⟨"java/lang/StringBuilder", "append", "([CII)Ljava/lang/StringBuilder;"⟩ : MethodName) jdk_67_method_12_code 4 (some (.object "java/lang/StringBuilder")) :: ws) ({ frames := 8, cells := 1, slots := 32, locals := 125 } : Room)) (fun a_ U_ => a_ = #[(.ref a), (.ref ar), (.int (Int32.ofNat o)), (.int (Int32.ofNat n))] ∧ Z.Warmed39 U_.vm ∧ U_.heap = h0) (fun _ _ _ _ _ => True) (fun _ U_ o_ U1_ => ∃ v_ L_, o_ = .returned v_ ∧ own_QA Z (some (.ref a)) a t (cs ++ (as.drop o).take n) h0 n0 v_ U1_.heap L_ ∧ FrameEnd U_ o_ U1_ L_ ({ frames := 8, cells := 1, slots := 32, locals := 125 } : Room).cells ({ frames := 8, cells := 1, slots := 32, locals := 125 } : Room).slots) := by
  refine MetFree.of_bodySF (plainFor_of_name pn_7) hisR ?_
  intro p e s m args below meth c s₁ Bd hml0 hP hK
  obtain ⟨rfl, hZ, hh⟩ := hP
  have hx := Bd.exec
  have hby := Bd.bytes
  have hml : c.maxLocals = 4 := hml0
  have hown : s.vm.findClass "java/lang/StringBuilder" = some m.cls := findClass_of_methodNamed Bd.named
  have hnm := (name_of_methodNamed Bd.named Bd.method).1
  have X0 : Stand p l e ({ frames := 8, cells := 1, slots := 32, locals := 125 } : Room) s m #[(.ref a), (.ref ar), (.int (Int32.ofNat o)), (.int (Int32.ofNat n))] below meth c s₁ [] 0 0 := Stand.of_body Bd
  have e0 : s₁.heap = h0 := by rw [← hh, Bd.state]; rfl
  have N0 := Fr.nil n0
  have pre0 : ∀ tt, Steps p.tables e below (s₁.setTop (mkF m 0 #[.val (.ref a), .val (.ref ar), .val (.int (Int32.ofNat o)), .val (.int (Int32.ofNat n))] [])) tt → Steps p.tables e below (s₁.setTop (entryFrame m #[(.ref a), (.ref ar), (.int (Int32.ofNat o)), (.int (Int32.ofNat n))] 4)) tt := fun tt kk => castTop (ef_7_rrrr m a ar (Int32.ofNat o) (Int32.ofNat n)) kk
  have EN0 := EN
  obtain ⟨O2, P5, O4, rG3, O5, rG4, O6, O7, O8⟩ := EN
  obtain ⟨_, _, ⟨T1, L1, k1, n1⟩, -, X1, ⟨Lc1, hQ1, l1, y1, z1⟩, st1⟩ := superBack X0 hx hZ (y := (⟨"java/lang/AbstractStringBuilder", "append", "([CII)Ljava/lang/AbstractStringBuilder;"⟩ : MethodName)) hown (hw _ (tk 50 rfl)) (own_same (y := (⟨"java/lang/AbstractStringBuilder", "append", "([CII)Ljava/lang/AbstractStringBuilder;"⟩ : MethodName)) (by decide) (hw _ (tk 53 rfl)) (hw _ (tk 66 rfl)) rfl) (hw _ (tk 51 rfl)) (hw _ (tk 52 rfl)) (by decide) (backOf (W := 0) (rmAA l Z a0 hw [] G1 G3 G4 a t k cs ar ka as o ee n h0 n0 Z0 EN0 X00 B g_a g_t V_ar hta haa hln ho he ha hch) hZ (hw _ (tk 54 rfl)) (hw _ (tk 28 rfl)) (by decide) (by decide)) e0 (Ins.self B.1) (g := (mkF m 4 #[.val (.ref a), .val (.ref ar), .val (.int (Int32.ofNat o)), .val (.int (Int32.ofNat n))] [(.int (Int32.ofNat n)), (.int (Int32.ofNat o)), (.ref ar), (.ref a)])) rfl (by rw [hml]; rfl) (hw _ (tk 54 rfl)) (argsL := [(.ref ar), (.int (Int32.ofNat o)), (.int (Int32.ofNat n))]) (rest := []) (lenOf pd___CII_Ljava_lang_AbstractStringBuilder_ rfl) rfl (by show 2 * 0 + _ ≤ _; exact Nat.le_of_eq rfl) (hb hby d7_4) (fun _ _ => ⟨rfl, e0, (by decide : 0 + 1 ≤ _), (by decide : 0 + 32 ≤ _)⟩)
  dsimp only [Pt.U, Pt.locs, Pt.cells, Pt.slots] at X1 l1 y1 z1 st1 hQ1
  subst l1 y1 z1
  obtain ⟨rfl, Nq1, Kq1, t1, k1q, gt1, or1, B1⟩ := hQ1
  have N1 := Fr.app N0 Nq1
  have ltB1 : t1 < T1.heap.size := by obtain ⟨-, -, -, -, ⟨-, q, -⟩ | ⟨-, q⟩⟩ := B1 <;> exact q.lt
  obtain ⟨fs, hr, hrun, hended, hW, hsame⟩ := X1.leave (v := some (.ref a)) (fun h => by rw [Bd.returns] at h; cases h)
  refine ⟨_, _, pre0 _ ?_, hrun, hended, _, _, rfl, ?_, ⟨_, rfl⟩, hW, hsame.mono (by decide) (by decide)⟩
  · show Steps p.tables e below (s₁.setTop (mkF m 0 #[.val (.ref a), .val (.ref ar), .val (.int (Int32.ofNat o)), .val (.int (Int32.ofNat n))] [])) _
    refine XS.aloadN X0.here hx rfl (hb hby d7_0) rfl rfl ?_
    refine XS.aloadN X0.here hx rfl (hb hby d7_1) rfl rfl ?_
    refine XS.iloadN X0.here hx rfl (hb hby d7_2) rfl ?_
    refine XS.iloadN X0.here hx rfl (hb hby d7_3) rfl ?_
    show Steps p.tables e below (s₁.setTop (mkF m 4 #[.val (.ref a), .val (.ref ar), .val (.int (Int32.ofNat o)), .val (.int (Int32.ofNat n))] [(.int (Int32.ofNat n)), (.int (Int32.ofNat o)), (.ref ar), (.ref a)])) _
    refine st1.trans ?_
    show Steps p.tables e below (T1.setTop (mkF m 7 #[.val (.ref a), .val (.ref ar), .val (.int (Int32.ofNat o)), .val (.int (Int32.ofNat n))] [(.ref a)])) _
    refine XS.pop X1.here hx rfl (hb hby d7_7) rfl rfl ?_
    refine XS.aloadN X1.here hx rfl (hb hby d7_8) rfl rfl ?_
    show Steps p.tables e below (T1.setTop (mkF m 9 #[.val (.ref a), .val (.ref ar), .val (.int (Int32.ofNat o)), .val (.int (Int32.ofNat n))] [(.ref a)])) _
    jvm_step X1.here [X1.here.top, hx, (hb hby d7_9), X1.method', Bd.returns, Value.isRef, FieldType.isReference]
    first | (intro acts; rw [hr _ acts rfl rfl rfl]) | rw [hr _ _ rfl rfl rfl]
    exact Steps.refl _
  · show own_QA Z (some (.ref a)) a t (cs ++ (as.drop o).take n) h0 n0 _ T1.heap _
    exact ⟨rfl, N1, ((Keep.refl h0 [a, t]).trans Kq1 (allS (P := fun zz => zz ∈ [a, t] ∨ h0.size ≤ zz) (Or.inl (tk 0 rfl)) (allS (P := fun zz => zz ∈ [a, t] ∨ h0.size ≤ zz) (Or.inl (tk 1 rfl)) all0))), t1, k1q, gt1, or1, B1⟩
theorem d6_0 : decode prog_16_method_4_code 0 = .ok (.aload_n 0, 1) := by decide +kernel
theorem d6_1 : decode prog_16_method_4_code 1 = .ok (.getfield 10, 3) := by decide +kernel
theorem d6_4 : decode prog_16_method_4_code 4 = .ok (.aload_n 1, 1) := by decide +kernel
theorem d6_5 : decode prog_16_method_4_code 5 = .ok (.iload_n 2, 1) := by decide +kernel
theorem d6_6 : decode prog_16_method_4_code 6 = .ok (.iload_n 3, 1) := by decide +kernel
theorem pd___CII_Ljava_lang_StringBuilder_ : parseMethodDescriptor "([CII)Ljava/lang/StringBuilder;" = some ⟨[(.array .char), .int, .int], some (.object "java/lang/StringBuilder")⟩ := by decide +kernel
theorem d6_7 : decode prog_16_method_4_code 7 = .ok (.invokevirtual 40, 3) := by decide +kernel
theorem d6_10 : decode prog_16_method_4_code 10 = .ok (.pop, 1) := by decide +kernel
theorem d6_11 : decode prog_16_method_4_code 11 = .ok (.return_, 1) := by decide +kernel
theorem pn_6 : plainName "com/example/hebelwerk/hebelwerk/core/Text" = true := by first | (simp [plainName, overriddenIn]; done) | decide +kernel
theorem ef_6_rrrr (m : MethodId) (x0 : Addr) (x1 : Addr) (x2 : Int32) (x3 : Int32) : entryFrame m #[(.ref x0), (.ref x1), (.int x2), (.int x3)] 4 = mkF m 0 #[.val (.ref x0), .val (.ref x1), .val (.int x2), .val (.int x3)] [] := by first | (simp [entryFrame, mkF, argsToLocals, Value.category]; done) | rfl
set_option maxRecDepth 65536 in
set_option maxHeartbeats 40000000 in
theorem rmTW (l : Launch) (Z : State) (a0 : Array Value) (hw : ∀ d ∈ tables_1, d.before a0 Z = true) (ws : List Jvm.Cond) (G1 : Int32) (G3 : Value) (G4 : Value) (tx : Addr) (a : Addr) (t : Addr) (k : ClassId) (cs : List Int32) (ar : Addr) (ka : ClassId) (as : List Int32) (o : Nat) (ee : Nat) (n : Nat) (h0 : Heap) (n0 : Nat) (Z0 : n0 ≤ h0.size) (EN : own_env Z G1 G3 G4) (X00 : Old Z n0 h0) (B : own_bd Z h0 a t k cs) (g_a : n0 ≤ a) (g_t : n0 ≤ t) (V_ar : Arv Z h0 ar ka .char (Int32.ofNat as.length) (as.map Value.int) (.int 0)) (hta : ar ≠ t) (haa : ar ≠ a) (hln : cs.length + n ≤ 15) (ho : o + n = ee) (he : ee ≤ as.length) (ha : as.length < 2 ^ 30) (hch : ∀ c ∈ as, own_ch c) (E_tx : Exa Z h0 tx "com/example/hebelwerk/hebelwerk/core/Text") (F_text_tx : Fld Z h0 tx "com/example/hebelwerk/hebelwerk/core/Text" "text" "Ljava/lang/StringBuilder;" (.ref a)) :
    MetFree l (⟨"com/example/hebelwerk/hebelwerk/core/Text", "write", "([CII)V"⟩ : MethodName) (head1 (Jvm.Cond.code (⟨"com/example/hebelwerk/hebelwerk/core/Text", "write", "([CII)V"⟩ : MethodName) prog_16_method_4_code 4 none :: ws) ({ frames := 9, cells := 1, slots := 32, locals := 140 } : Room)) (fun a_ U_ => a_ = #[(.ref tx), (.ref ar), (.int (Int32.ofNat o)), (.int (Int32.ofNat n))] ∧ Z.Warmed39 U_.vm ∧ U_.heap = h0) (fun _ _ _ _ _ => True) (fun _ U_ o_ U1_ => ∃ v_ L_, o_ = .returned v_ ∧ own_QA Z none a t (cs ++ (as.drop o).take n) h0 n0 v_ U1_.heap L_ ∧ FrameEnd U_ o_ U1_ L_ ({ frames := 9, cells := 1, slots := 32, locals := 140 } : Room).cells ({ frames := 9, cells := 1, slots := 32, locals := 140 } : Room).slots) := by
  refine MetFree.of_bodySF (plainFor_of_name pn_6) hisR ?_
  intro p e s m args below meth c s₁ Bd hml0 hP hK
  obtain ⟨rfl, hZ, hh⟩ := hP
  have hx := Bd.exec
  have hby := Bd.bytes
  have hml : c.maxLocals = 4 := hml0
  have hown : s.vm.findClass "com/example/hebelwerk/hebelwerk/core/Text" = some m.cls := findClass_of_methodNamed Bd.named
  have hnm := (name_of_methodNamed Bd.named Bd.method).1
  have X0 : Stand p l e ({ frames := 9, cells := 1, slots := 32, locals := 140 } : Room) s m #[(.ref tx), (.ref ar), (.int (Int32.ofNat o)), (.int (Int32.ofNat n))] below meth c s₁ [] 0 0 := Stand.of_body Bd
  have e0 : s₁.heap = h0 := by rw [← hh, Bd.state]; rfl
  have N0 := Fr.nil n0
  have pre0 : ∀ tt, Steps p.tables e below (s₁.setTop (mkF m 0 #[.val (.ref tx), .val (.ref ar), .val (.int (Int32.ofNat o)), .val (.int (Int32.ofNat n))] [])) tt → Steps p.tables e below (s₁.setTop (entryFrame m #[(.ref tx), (.ref ar), (.int (Int32.ofNat o)), (.int (Int32.ofNat n))] 4)) tt := fun tt kk => castTop (ef_6_rrrr m tx ar (Int32.ofNat o) (Int32.ofNat n)) kk
  have EN0 := EN
  obtain ⟨O2, P5, O4, rG3, O5, rG4, O6, O7, O8⟩ := EN
  obtain ⟨T1, X1, e1, st1⟩ := getF X0 hx hZ hown (host := "") (Or.inl (hw _ (tk 38 rfl))) Via.refl e0 F_text_tx (g := (mkF m 1 #[.val (.ref tx), .val (.ref ar), .val (.int (Int32.ofNat o)), .val (.int (Int32.ofNat n))] [(.ref tx)])) rfl rfl (hb hby d6_1)
  obtain ⟨cq2, kq2, q2a, q2b, q2c⟩ := isOf hZ e1 B.1
  obtain ⟨_, _, ⟨T2, L2, k2, n2⟩, -, X2, ⟨Lc2, hQ2, l2, y2, z2⟩, st2⟩ := X1.virtualBack hx (y := (⟨"java/lang/StringBuilder", "append", "([CII)Ljava/lang/StringBuilder;"⟩ : MethodName)) (z := (⟨"java/lang/StringBuilder", "append", "([CII)Ljava/lang/StringBuilder;"⟩ : MethodName)) hown (mvT hZ (hw _ (tk 45 rfl))) (mvT hZ (hw _ (tk 46 rfl))) (notFace_of_selects (args := #[]) (mvT hZ (hw _ (tk 48 rfl)))) (mvT hZ (hw _ (tk 48 rfl))) (mvT hZ (hw _ (tk 47 rfl))) (by decide) (backOf (W := 0) (rmSA l Z a0 hw [] G1 G3 G4 a t k cs ar ka as o ee n h0 n0 Z0 EN0 X00 B g_a g_t V_ar hta haa hln ho he ha hch) hZ (hw _ (tk 49 rfl)) (hw _ (tk 20 rfl)) (by decide) (by decide)) q2a q2c (g := (mkF m 7 #[.val (.ref tx), .val (.ref ar), .val (.int (Int32.ofNat o)), .val (.int (Int32.ofNat n))] [(.int (Int32.ofNat n)), (.int (Int32.ofNat o)), (.ref ar), (.ref a)])) rfl (by rw [hml]; rfl) (Steps.refl _) (argsL := [(.ref ar), (.int (Int32.ofNat o)), (.int (Int32.ofNat n))]) (rest := []) (lenOf pd___CII_Ljava_lang_StringBuilder_ rfl) rfl (by show 2 * 0 + _ ≤ _; exact Nat.le_of_eq rfl) (hb hby d6_7) (fun _ _ => ⟨rfl, e1, (by decide : 0 + 1 ≤ _), (by decide : 0 + 32 ≤ _)⟩)
  dsimp only [Pt.U, Pt.locs, Pt.cells, Pt.slots] at X2 l2 y2 z2 st2 hQ2
  subst l2 y2 z2
  obtain ⟨rfl, Nq2, Kq2, t2, k2q, gt2, or2, B2⟩ := hQ2
  have N2 := Fr.app N0 Nq2
  have ltB2 : t2 < T2.heap.size := by obtain ⟨-, -, -, -, ⟨-, q, -⟩ | ⟨-, q⟩⟩ := B2 <;> exact q.lt
  obtain ⟨fs, hr, hrun, hended, hW, hsame⟩ := X2.leave (v := none) (fun _ => rfl)
  refine ⟨_, _, pre0 _ ?_, hrun, hended, _, _, rfl, ?_, ⟨_, rfl⟩, hW, hsame.mono (by decide) (by decide)⟩
  · show Steps p.tables e below (s₁.setTop (mkF m 0 #[.val (.ref tx), .val (.ref ar), .val (.int (Int32.ofNat o)), .val (.int (Int32.ofNat n))] [])) _
    refine XS.aloadN X0.here hx rfl (hb hby d6_0) rfl rfl ?_
    show Steps p.tables e below (s₁.setTop (mkF m 1 #[.val (.ref tx), .val (.ref ar), .val (.int (Int32.ofNat o)), .val (.int (Int32.ofNat n))] [(.ref tx)])) _
    refine st1 _ ?_
    show Steps p.tables e below (T1.setTop (mkF m 4 #[.val (.ref tx), .val (.ref ar), .val (.int (Int32.ofNat o)), .val (.int (Int32.ofNat n))] [(.ref a)])) _
    refine XS.aloadN X1.here hx rfl (hb hby d6_4) rfl rfl ?_
    refine XS.iloadN X1.here hx rfl (hb hby d6_5) rfl ?_
    refine XS.iloadN X1.here hx rfl (hb hby d6_6) rfl ?_
    show Steps p.tables e below (T1.setTop (mkF m 7 #[.val (.ref tx), .val (.ref ar), .val (.int (Int32.ofNat o)), .val (.int (Int32.ofNat n))] [(.int (Int32.ofNat n)), (.int (Int32.ofNat o)), (.ref ar), (.ref a)])) _
    refine st2.trans ?_
    show Steps p.tables e below (T2.setTop (mkF m 10 #[.val (.ref tx), .val (.ref ar), .val (.int (Int32.ofNat o)), .val (.int (Int32.ofNat n))] [(.ref a)])) _
    refine XS.pop X2.here hx rfl (hb hby d6_10) rfl rfl ?_
    show Steps p.tables e below (T2.setTop (mkF m 11 #[.val (.ref tx), .val (.ref ar), .val (.int (Int32.ofNat o)), .val (.int (Int32.ofNat n))] [])) _
    exact X2.returnOut hx Bd.returns (hb hby d6_11) hr
  · show own_QA Z none a t (cs ++ (as.drop o).take n) h0 n0 _ T2.heap _
    exact ⟨rfl, N2, ((Keep.refl h0 [a, t]).trans Kq2 (allS (P := fun zz => zz ∈ [a, t] ∨ h0.size ≤ zz) (Or.inl (tk 0 rfl)) (allS (P := fun zz => zz ∈ [a, t] ∨ h0.size ≤ zz) (Or.inl (tk 1 rfl)) all0))), t2, k2q, gt2, or2, B2⟩
theorem d32_0 : decode prog_16_method_3_code 0 = .ok (.aload_n 0, 1) := by decide +kernel
theorem d32_1 : decode prog_16_method_3_code 1 = .ok (.getfield 10, 3) := by decide +kernel
theorem d32_4 : decode prog_16_method_3_code 4 = .ok (.iload_n 1, 1) := by decide +kernel
theorem d32_5 : decode prog_16_method_3_code 5 = .ok (.i2c, 1) := by decide +kernel
theorem pd__C_Ljava_lang_StringBuilder_ : parseMethodDescriptor "(C)Ljava/lang/StringBuilder;" = some ⟨[.char], some (.object "java/lang/StringBuilder")⟩ := by decide +kernel
theorem d32_6 : decode prog_16_method_3_code 6 = .ok (.invokevirtual 36, 3) := by decide +kernel
theorem d32_9 : decode prog_16_method_3_code 9 = .ok (.pop, 1) := by decide +kernel
theorem d32_10 : decode prog_16_method_3_code 10 = .ok (.return_, 1) := by decide +kernel
theorem pn_32 : plainName "com/example/hebelwerk/hebelwerk/core/Text" = true := by first | (simp [plainName, overriddenIn]; done) | decide +kernel
theorem ef_32_rr (m : MethodId) (x0 : Addr) (x1 : Int32) : entryFrame m #[(.ref x0), (.int x1)] 2 = mkF m 0 #[.val (.ref x0), .val (.int x1)] [] := by first | (simp [entryFrame, mkF, argsToLocals, Value.category]; done) | rfl
set_option maxRecDepth 65536 in
set_option maxHeartbeats 40000000 in
theorem rmTI (l : Launch) (Z : State) (a0 : Array Value) (hw : ∀ d ∈ tables_1, d.before a0 Z = true) (ws : List Jvm.Cond) (G1 : Int32) (G3 : Value) (G4 : Value) (tx : Addr) (p1 : Int32) (a : Addr) (t : Addr) (k : ClassId) (cs : List Int32) (h0 : Heap) (n0 : Nat) (Z0 : n0 ≤ h0.size) (EN : own_env Z G1 G3 G4) (X00 : Old Z n0 h0) (B : own_bd Z h0 a t k cs) (g_a : n0 ≤ a) (g_t : n0 ≤ t) (hlen : cs.length ≤ 15) (E_tx : Exa Z h0 tx "com/example/hebelwerk/hebelwerk/core/Text") (F_text_tx : Fld Z h0 tx "com/example/hebelwerk/hebelwerk/core/Text" "text" "Ljava/lang/StringBuilder;" (.ref a)) :
    MetFree l (⟨"com/example/hebelwerk/hebelwerk/core/Text", "write", "(I)V"⟩ : MethodName) (head1 (Jvm.Cond.code (⟨"com/example/hebelwerk/hebelwerk/core/Text", "write", "(I)V"⟩ : MethodName) prog_16_method_3_code 2 none :: ws) ({ frames := 8, cells := 1, slots := 32, locals := 115 } : Room)) (fun a_ U_ => a_ = #[(.ref tx), (.int p1)] ∧ Z.Warmed39 U_.vm ∧ U_.heap = h0) (fun _ _ _ _ _ => True) (fun _ U_ o_ U1_ => ∃ v_ L_, o_ = .returned v_ ∧ own_QA Z none a t (cs ++ [(p1.toUInt32.toUInt16.toUInt32.toInt32)]) h0 n0 v_ U1_.heap L_ ∧ FrameEnd U_ o_ U1_ L_ ({ frames := 8, cells := 1, slots := 32, locals := 115 } : Room).cells ({ frames := 8, cells := 1, slots := 32, locals := 115 } : Room).slots) := by
  refine MetFree.of_bodySF (plainFor_of_name pn_32) hisR ?_
  intro p e s m args below meth c s₁ Bd hml0 hP hK
  obtain ⟨rfl, hZ, hh⟩ := hP
  have hx := Bd.exec
  have hby := Bd.bytes
  have hml : c.maxLocals = 2 := hml0
  have hown : s.vm.findClass "com/example/hebelwerk/hebelwerk/core/Text" = some m.cls := findClass_of_methodNamed Bd.named
  have hnm := (name_of_methodNamed Bd.named Bd.method).1
  have X0 : Stand p l e ({ frames := 8, cells := 1, slots := 32, locals := 115 } : Room) s m #[(.ref tx), (.int p1)] below meth c s₁ [] 0 0 := Stand.of_body Bd
  have e0 : s₁.heap = h0 := by rw [← hh, Bd.state]; rfl
  have N0 := Fr.nil n0
  have pre0 : ∀ tt, Steps p.tables e below (s₁.setTop (mkF m 0 #[.val (.ref tx), .val (.int p1)] [])) tt → Steps p.tables e below (s₁.setTop (entryFrame m #[(.ref tx), (.int p1)] 2)) tt := fun tt kk => castTop (ef_32_rr m tx p1) kk
  have EN0 := EN
  obtain ⟨O2, P5, O4, rG3, O5, rG4, O6, O7, O8⟩ := EN
  obtain ⟨T1, X1, e1, st1⟩ := getF X0 hx hZ hown (host := "") (Or.inl (hw _ (tk 38 rfl))) Via.refl e0 F_text_tx (g := (mkF m 1 #[.val (.ref tx), .val (.int p1)] [(.ref tx)])) rfl rfl (hb hby d32_1)
  obtain ⟨cq2, kq2, q2a, q2b, q2c⟩ := isOf hZ e1 B.1
  obtain ⟨_, _, ⟨T2, L2, k2, n2⟩, -, X2, ⟨Lc2, hQ2, l2, y2, z2⟩, st2⟩ := X1.virtualBack hx (y := (⟨"java/lang/StringBuilder", "append", "(C)Ljava/lang/StringBuilder;"⟩ : MethodName)) (z := (⟨"java/lang/StringBuilder", "append", "(C)Ljava/lang/StringBuilder;"⟩ : MethodName)) hown (mvT hZ (hw _ (tk 174 rfl))) (mvT hZ (hw _ (tk 175 rfl))) (notFace_of_selects (args := #[]) (mvT hZ (hw _ (tk 177 rfl)))) (mvT hZ (hw _ (tk 177 rfl))) (mvT hZ (hw _ (tk 176 rfl))) (by decide) (backOf (W := 0) (rmSAC l Z a0 hw [] G1 G3 G4 a t k cs (p1.toUInt32.toUInt16.toUInt32.toInt32) h0 n0 Z0 EN0 X00 B hlen g_a g_t (own_narch p1)) hZ (hw _ (tk 178 rfl)) (hw _ (tk 20 rfl)) (by decide) (by decide)) q2a q2c (g := (mkF m 6 #[.val (.ref tx), .val (.int p1)] [(.int (p1.toUInt32.toUInt16.toUInt32.toInt32)), (.ref a)])) rfl (by rw [hml]; rfl) (Steps.refl _) (argsL := [(.int (p1.toUInt32.toUInt16.toUInt32.toInt32))]) (rest := []) (lenOf pd__C_Ljava_lang_StringBuilder_ rfl) rfl (by show 2 * 0 + _ ≤ _; exact Nat.le_of_eq rfl) (hb hby d32_6) (fun _ _ => ⟨rfl, e1, (by decide : 0 + 1 ≤ _), (by decide : 0 + 32 ≤ _)⟩)
  dsimp only [Pt.U, Pt.locs, Pt.cells, Pt.slots] at X2 l2 y2 z2 st2 hQ2
  subst l2 y2 z2
  obtain ⟨rfl, Nq2, Kq2, t2, k2q, gt2, or2, B2⟩ := hQ2
  have N2 := Fr.app N0 Nq2
  have ltB2 : t2 < T2.heap.size := by obtain ⟨-, -, -, -, ⟨-, q, -⟩ | ⟨-, q⟩⟩ := B2 <;> exact q.lt
  obtain ⟨fs, hr, hrun, hended, hW, hsame⟩ := X2.leave (v := none) (fun _ => rfl)
  refine ⟨_, _, pre0 _ ?_, hrun, hended, _, _, rfl, ?_, ⟨_, rfl⟩, hW, hsame.mono (by decide) (by decide)⟩
  · show Steps p.tables e below (s₁.setTop (mkF m 0 #[.val (.ref tx), .val (.int p1)] [])) _
    refine XS.aloadN X0.here hx rfl (hb hby d32_0) rfl rfl ?_
    show Steps p.tables e below (s₁.setTop (mkF m 1 #[.val (.ref tx), .val (.int p1)] [(.ref tx)])) _
    refine st1 _ ?_
    show Steps p.tables e below (T1.setTop (mkF m 4 #[.val (.ref tx), .val (.int p1)] [(.ref a)])) _
    refine XS.iloadN X1.here hx rfl (hb hby d32_4) rfl ?_
    refine XS.i2c X1.here hx rfl (hb hby d32_5) rfl ?_
    show Steps p.tables e below (T1.setTop (mkF m 6 #[.val (.ref tx), .val (.int p1)] [(.int (p1.toUInt32.toUInt16.toUInt32.toInt32)), (.ref a)])) _
    refine st2.trans ?_
    show Steps p.tables e below (T2.setTop (mkF m 9 #[.val (.ref tx), .val (.int p1)] [(.ref a)])) _
    refine XS.pop X2.here hx rfl (hb hby d32_9) rfl rfl ?_
    show Steps p.tables e below (T2.setTop (mkF m 10 #[.val (.ref tx), .val (.int p1)] [])) _
    exact X2.returnOut hx Bd.returns (hb hby d32_10) hr
  · show own_QA Z none a t (cs ++ [(p1.toUInt32.toUInt16.toUInt32.toInt32)]) h0 n0 _ T2.heap _
    exact ⟨rfl, N2, ((Keep.refl h0 [a, t]).trans Kq2 (allS (P := fun zz => zz ∈ [a, t] ∨ h0.size ≤ zz) (Or.inl (tk 0 rfl)) (allS (P := fun zz => zz ∈ [a, t] ∨ h0.size ≤ zz) (Or.inl (tk 1 rfl)) all0))), t2, k2q, gt2, or2, B2⟩
def own_QC (Z : State) (a : Addr) (h0 : Heap) (n0 : Nat) (v : Option Value) (h : Heap) (L : List Loc) : Prop := ∃ (t : Addr) (k : ClassId), v = none ∧ Fr n0 L ∧ n0 ≤ t ∧ h0.size ≤ t ∧ Keep h0 h [a] ∧ Exa Z h a "java/lang/StringBuilder" ∧ Fld Z h a "java/lang/AbstractStringBuilder" "value" "[B" (.ref t) ∧ Fld Z h a "java/lang/AbstractStringBuilder" "coder" "B" (.int 0) ∧ Fld Z h a "java/lang/AbstractStringBuilder" "count" "I" (.int 0) ∧ Fld Z h a "java/lang/AbstractStringBuilder" "maybeLatin1" "Z" (.int 0) ∧ Arv Z h t k .byte (Int32.ofNat 16) (own_lat []) (.int 0)
theorem d5_0 : decode jdk_68_method_2_code 0 = .ok (.aload_n 0, 1) := by decide +kernel
theorem d5_1 : decode jdk_68_method_2_code 1 = .ok (.invokespecial 3, 3) := by decide +kernel
theorem d5_4 : decode jdk_68_method_2_code 4 = .ok (.getstatic 18, 3) := by decide +kernel
theorem d5_7 : decode jdk_68_method_2_code 7 = .ok (.ifCond .eq 18, 3) := by decide +kernel
theorem d5_10 : decode jdk_68_method_2_code 10 = .ok (.aload_n 0, 1) := by decide +kernel
theorem d5_11 : decode jdk_68_method_2_code 11 = .ok (.iload_n 1, 1) := by decide +kernel
theorem d5_12 : decode jdk_68_method_2_code 12 = .ok (.newarray .byte, 2) := by decide +kernel
theorem d5_14 : decode jdk_68_method_2_code 14 = .ok (.putfield 15, 3) := by decide +kernel
theorem d5_17 : decode jdk_68_method_2_code 17 = .ok (.aload_n 0, 1) := by decide +kernel
theorem d5_18 : decode jdk_68_method_2_code 18 = .ok (.iconst 0, 1) := by decide +kernel
theorem d5_19 : decode jdk_68_method_2_code 19 = .ok (.putfield 22, 3) := by decide +kernel
theorem d5_22 : decode jdk_68_method_2_code 22 = .ok (.goto 16, 3) := by decide +kernel
theorem d5_38 : decode jdk_68_method_2_code 38 = .ok (.return_, 1) := by decide +kernel
theorem pn_5 : plainName "java/lang/AbstractStringBuilder" = true := by first | (simp [plainName, overriddenIn]; done) | decide +kernel
theorem ef_5_rr (m : MethodId) (x0 : Addr) (x1 : Int32) : entryFrame m #[(.ref x0), (.int x1)] 2 = mkF m 0 #[.val (.ref x0), .val (.int x1)] [] := by first | (simp [entryFrame, mkF, argsToLocals, Value.category]; done) | rfl
set_option maxRecDepth 65536 in
set_option maxHeartbeats 40000000 in
theorem rmASI (l : Launch) (Z : State) (a0 : Array Value) (hw : ∀ d ∈ tables_1, d.before a0 Z = true) (ws : List Jvm.Cond) (G1 : Int32) (G3 : Value) (G4 : Value) (a : Addr) (h0 : Heap) (n0 : Nat) (Z0 : n0 ≤ h0.size) (EN : own_env Z G1 G3 G4) (X00 : Old Z n0 h0) (E_a : Exa Z h0 a "java/lang/StringBuilder") (F_value_a : Fld Z h0 a "java/lang/AbstractStringBuilder" "value" "[B" .null) (F_coder_a : Fld Z h0 a "java/lang/AbstractStringBuilder" "coder" "B" (.int 0)) (F_count_a : Fld Z h0 a "java/lang/AbstractStringBuilder" "count" "I" (.int 0)) (F_maybeLatin1_a : Fld Z h0 a "java/lang/AbstractStringBuilder" "maybeLatin1" "Z" (.int 0)) (g_a : n0 ≤ a) :
    MetFree l (⟨"java/lang/AbstractStringBuilder", "<init>", "(I)V"⟩ : MethodName) (head1 (Jvm.Cond.code (⟨"java/lang/AbstractStringBuilder", "<init>", "(I)V"⟩ : MethodName) jdk_68_method_2_code 2 none :: ws) ({ frames := 1, cells := 1, slots := 16, locals := 12 } : Room)) (fun a_ U_ => a_ = #[(.ref a), (.int 16)] ∧ Z.Warmed39 U_.vm ∧ U_.heap = h0) (fun _ _ _ _ _ => True) (fun _ U_ o_ U1_ => ∃ v_ L_, o_ = .returned v_ ∧ own_QC Z a h0 n0 v_ U1_.heap L_ ∧ FrameEnd U_ o_ U1_ L_ ({ frames := 1, cells := 1, slots := 16, locals := 12 } : Room).cells ({ frames := 1, cells := 1, slots := 16, locals := 12 } : Room).slots) := by
  refine MetFree.of_bodySF (plainFor_of_name pn_5) hisR ?_
  intro p e s m args below meth c s₁ Bd hml0 hP hK
  obtain ⟨rfl, hZ, hh⟩ := hP
  have hx := Bd.exec
  have hby := Bd.bytes
  have hml : c.maxLocals = 2 := hml0
  have hown : s.vm.findClass "java/lang/AbstractStringBuilder" = some m.cls := findClass_of_methodNamed Bd.named
  have hnm := (name_of_methodNamed Bd.named Bd.method).1
  have X0 : Stand p l e ({ frames := 1, cells := 1, slots := 16, locals := 12 } : Room) s m #[(.ref a), (.int 16)] below meth c s₁ [] 0 0 := Stand.of_body Bd
  have e0 : s₁.heap = h0 := by rw [← hh, Bd.state]; rfl
  have N0 := Fr.nil n0
  have pre0 : ∀ tt, Steps p.tables e below (s₁.setTop (mkF m 0 #[.val (.ref a), .val (.int 16)] [])) tt → Steps p.tables e below (s₁.setTop (entryFrame m #[(.ref a), (.int 16)] 2)) tt := fun tt kk => castTop (ef_5_rr m a (16 : Int32)) kk
  have EN0 := EN
  obtain ⟨O2, P5, O4, rG3, O5, rG4, O6, O7, O8⟩ := EN
  obtain ⟨T1, X1, e1, st1⟩ := initO X0 hx hZ hown (hw _ (tk 30 rfl)) (hw _ (tk 14 rfl)) (hw _ (tk 15 rfl)) e0 (g := (mkF m 1 #[.val (.ref a), .val (.int 16)] [(.ref a)])) rfl (by rw [hml]; rfl) rfl (hb hby d5_1) (by decide) (W := 0) (by show 2 * 0 + _ ≤ _; exact Nat.le_of_eq rfl) (by decide)
  obtain ⟨T2, X2, e2, st2⟩ := getS2 X1 hx hZ hown (host := "") (Or.inl (hw _ (tk 31 rfl))) Via.refl e1 (Sta.ext X00.2 O2) (g := (mkF m 4 #[.val (.ref a), .val (.int 16)] [])) rfl (hb hby d5_4)
  obtain ⟨T3, h3, k3, X3, e3, E3, A3, st3⟩ := newP X2 hx hZ (hw _ (tk 33 rfl)) e2 (g := (mkF m 12 #[.val (.ref a), .val (.int 16)] [(.int 16), (.ref a)])) rfl (hb hby d5_12) rfl (by decide) (cap := 16) (by decide) (by decide) (by decide) (by decide)
  obtain ⟨b3, g3⟩ : ∃ z, z = h0.size := ⟨_, rfl⟩
  rw [← g3] at A3 st3
  have g_b3 : n0 ≤ b3 := Nat.le_trans Z0 (Nat.le_of_eq g3.symm)
  have sz_b3 : h0.size ≤ b3 := Nat.le_trans (Nat.le_refl _) (Nat.le_of_eq g3.symm)
  have V3 : Arv Z h3 b3 k3 .byte (Int32.ofNat 16) (own_lat []) (.int 0) := Arv.new A3 (by decide)
  have f5 := (E_a.ext E3)
  have f6 := (F_value_a.ext E3)
  obtain ⟨T4, h4, X4, e4, W4, st4⟩ := putF X3 hx hZ hown (host := "") (Or.inl (hw _ (tk 34 rfl))) Via.refl e3 f6 f5 (Or.inl (hw _ (tk 35 rfl))) (hw _ (tk 19 rfl)) (ty := (.array .byte)) (by decide) rfl rfl (g := (mkF m 14 #[.val (.ref a), .val (.int 16)] [(.ref b3), (.ref a)])) rfl rfl (hb hby d5_14)
  have Fw4 := f6.same W4
  have N4 := Fr.snoc X4 N0 g_a
  have f8 := (f5.wr W4)
  have f9 := ((F_coder_a.ext E3).other W4 (Or.inr (slot_ne (Or.inl (hw _ (tk 37 rfl))) (Or.inl (hw _ (tk 35 rfl))) (by decide) (t := .byte) (t' := (.array .byte)) (by decide) (by decide))))
  obtain ⟨T7, h7, X7, e7, W7, st7⟩ := putFN X4 hx hZ hown (hw _ (tk 36 rfl)) Via.refl e4 f9 f8 (Or.inl (hw _ (tk 37 rfl))) (hw _ (tk 19 rfl)) (ty := .byte) (v' := (.int 0)) (by decide) rfl (by decide) (g := (mkF m 19 #[.val (.ref a), .val (.int 16)] [(.int 0), (.ref a)])) rfl rfl (hb hby d5_19)
  have Fw7 := f9.same W7
  have N7 := Fr.snoc X7 N4 g_a
  have f10 := (f8.wr W7)
  have f11 := (Fw4.other W7 (Or.inr (slot_ne (Or.inl (hw _ (tk 35 rfl))) (Or.inl (hw _ (tk 37 rfl))) (by decide) (t := (.array .byte)) (t' := .byte) (by decide) (by decide))))
  have f12 := (((F_count_a.ext E3).other W4 (Or.inr (slot_ne (Or.inl (hw _ (tk 62 rfl))) (Or.inl (hw _ (tk 35 rfl))) (by decide) (t := .int) (t' := (.array .byte)) (by decide) (by decide)))).other W7 (Or.inr (slot_ne (Or.inl (hw _ (tk 62 rfl))) (Or.inl (hw _ (tk 37 rfl))) (by decide) (t := .int) (t' := .byte) (by decide) (by decide))))
  have f13 := (((F_maybeLatin1_a.ext E3).other W4 (Or.inr (slot_ne (Or.inl (hw _ (tk 241 rfl))) (Or.inl (hw _ (tk 35 rfl))) (by decide) (t := .boolean) (t' := (.array .byte)) (by decide) (by decide)))).other W7 (Or.inr (slot_ne (Or.inl (hw _ (tk 241 rfl))) (Or.inl (hw _ (tk 37 rfl))) (by decide) (t := .boolean) (t' := .byte) (by decide) (by decide))))
  have f14 := ((V3.other W4 (Ne.symm (Nat.ne_of_lt (Nat.lt_of_lt_of_le E_a.lt (Nat.le_of_eq g3.symm))))).other W7 (Ne.symm (Nat.ne_of_lt (Nat.lt_of_lt_of_le E_a.lt (Nat.le_of_eq g3.symm)))))
  obtain ⟨fs, hr, hrun, hended, hW, hsame⟩ := X7.leave (v := none) (fun _ => rfl)
  refine ⟨_, _, pre0 _ ?_, hrun, hended, _, _, rfl, ?_, ⟨_, rfl⟩, hW, hsame.mono (by decide) (by decide)⟩
  · show Steps p.tables e below (s₁.setTop (mkF m 0 #[.val (.ref a), .val (.int 16)] [])) _
    refine XS.aloadN X0.here hx rfl (hb hby d5_0) rfl rfl ?_
    show Steps p.tables e below (s₁.setTop (mkF m 1 #[.val (.ref a), .val (.int 16)] [(.ref a)])) _
    refine st1 _ ?_
    show Steps p.tables e below (T1.setTop (mkF m 4 #[.val (.ref a), .val (.int 16)] [])) _
    refine st2 _ ?_
    show Steps p.tables e below (T2.setTop (mkF m 7 #[.val (.ref a), .val (.int 16)] [(.int G1)])) _
    refine XS.ifNo X2.here hx rfl (hb hby d5_7) rfl ((if0 _ _).trans (feq P5).1) ?_
    refine XS.aloadN X2.here hx rfl (hb hby d5_10) rfl rfl ?_
    refine XS.iloadN X2.here hx rfl (hb hby d5_11) rfl ?_
    show Steps p.tables e below (T2.setTop (mkF m 12 #[.val (.ref a), .val (.int 16)] [(.int 16), (.ref a)])) _
    refine st3 _ ?_
    show Steps p.tables e below (T3.setTop (mkF m 14 #[.val (.ref a), .val (.int 16)] [(.ref b3), (.ref a)])) _
    refine st4 _ ?_
    show Steps p.tables e below (T4.setTop (mkF m 17 #[.val (.ref a), .val (.int 16)] [])) _
    refine XS.aloadN X4.here hx rfl (hb hby d5_17) rfl rfl ?_
    refine XS.iconst X4.here hx rfl (hb hby d5_18) ?_
    show Steps p.tables e below (T4.setTop (mkF m 19 #[.val (.ref a), .val (.int 16)] [(.int 0), (.ref a)])) _
    refine st7 _ ?_
    show Steps p.tables e below (T7.setTop (mkF m 22 #[.val (.ref a), .val (.int 16)] [])) _
    refine XS.goto X7.here hx rfl (pc0 := 22) (pc' := 38) rfl (hb hby d5_22) (by decide) (by decide) ?_
    show Steps p.tables e below (T7.setTop (mkF m 38 #[.val (.ref a), .val (.int 16)] [])) _
    exact X7.returnOut hx Bd.returns (hb hby d5_38) hr
  · show own_QC Z a h0 n0 _ T7.heap _
    rw [e7]
    exact ⟨b3, k3, rfl, N7, g_b3, sz_b3, ((((Keep.refl h0 [a]).ext E3).wr W4 (Or.inl (tk 0 rfl))).wr W7 (Or.inl (tk 0 rfl))), f10, f11, Fw7, f12, f13, f14⟩
theorem d4_0 : decode jdk_67_method_1_code 0 = .ok (.aload_n 0, 1) := by decide +kernel
theorem d4_1 : decode jdk_67_method_1_code 1 = .ok (.bipush 16, 2) := by decide +kernel
theorem d4_3 : decode jdk_67_method_1_code 3 = .ok (.invokespecial 1, 3) := by decide +kernel
theorem d4_6 : decode jdk_67_method_1_code 6 = .ok (.return_, 1) := by decide +kernel
theorem pn_4 : plainName "java/lang/StringBuilder" = true := by first | (simp [plainName, overriddenIn]; done) | decide +kernel
theorem ef_4_r (m : MethodId) (x0 : Addr) : entryFrame m #[(.ref x0)] 1 = mkF m 0 #[.val (.ref x0)] [] := by first | (simp [entryFrame, mkF, argsToLocals, Value.category]; done) | rfl
set_option maxRecDepth 65536 in
set_option maxHeartbeats 40000000 in
theorem rmSBI (l : Launch) (Z : State) (a0 : Array Value) (hw : ∀ d ∈ tables_1, d.before a0 Z = true) (ws : List Jvm.Cond) (G1 : Int32) (G3 : Value) (G4 : Value) (a : Addr) (h0 : Heap) (n0 : Nat) (Z0 : n0 ≤ h0.size) (EN : own_env Z G1 G3 G4) (X00 : Old Z n0 h0) (E_a : Exa Z h0 a "java/lang/StringBuilder") (F_value_a : Fld Z h0 a "java/lang/AbstractStringBuilder" "value" "[B" .null) (F_coder_a : Fld Z h0 a "java/lang/AbstractStringBuilder" "coder" "B" (.int 0)) (F_count_a : Fld Z h0 a "java/lang/AbstractStringBuilder" "count" "I" (.int 0)) (F_maybeLatin1_a : Fld Z h0 a "java/lang/AbstractStringBuilder" "maybeLatin1" "Z" (.int 0)) (g_a : n0 ≤ a) :
    MetFree l (⟨"java/lang/StringBuilder", "<init>", "()V"⟩ : MethodName) (head1 (Jvm.Cond.code (⟨"java/lang/StringBuilder", "<init>", "()V"⟩ : MethodName) jdk_67_method_1_code 1 none :: ws) ({ frames := 2, cells := 1, slots := 16, locals := 25 } : Room)) (fun a_ U_ => a_ = #[(.ref a)] ∧ Z.Warmed39 U_.vm ∧ U_.heap = h0) (fun _ _ _ _ _ => True) (fun _ U_ o_ U1_ => ∃ v_ L_, o_ = .returned v_ ∧ own_QC Z a h0 n0 v_ U1_.heap L_ ∧ FrameEnd U_ o_ U1_ L_ ({ frames := 2, cells := 1, slots := 16, locals := 25 } : Room).cells ({ frames := 2, cells := 1, slots := 16, locals := 25 } : Room).slots) := by
  refine MetFree.of_bodySF (plainFor_of_name pn_4) hisR ?_
  intro p e s m args below meth c s₁ Bd hml0 hP hK
  obtain ⟨rfl, hZ, hh⟩ := hP
  have hx := Bd.exec
  have hby := Bd.bytes
  have hml : c.maxLocals = 1 := hml0
  have hown : s.vm.findClass "java/lang/StringBuilder" = some m.cls := findClass_of_methodNamed Bd.named
  have hnm := (name_of_methodNamed Bd.named Bd.method).1
  have X0 : Stand p l e ({ frames := 2, cells := 1, slots := 16, locals := 25 } : Room) s m #[(.ref a)] below meth c s₁ [] 0 0 := Stand.of_body Bd
  have e0 : s₁.heap = h0 := by rw [← hh, Bd.state]; rfl
  have N0 := Fr.nil n0
  have pre0 : ∀ tt, Steps p.tables e below (s₁.setTop (mkF m 0 #[.val (.ref a)] [])) tt → Steps p.tables e below (s₁.setTop (entryFrame m #[(.ref a)] 1)) tt := fun tt kk => castTop (ef_4_r m a) kk
  have EN0 := EN
  obtain ⟨O2, P5, O4, rG3, O5, rG4, O6, O7, O8⟩ := EN
  obtain ⟨_, _, ⟨T1, L1, k1, n1⟩, -, X1, ⟨Lc1, hQ1, l1, y1, z1⟩, st1⟩ := X0.specialBack hx (y := (⟨"java/lang/AbstractStringBuilder", "<init>", "(I)V"⟩ : MethodName)) rfl hown (mvT hZ (hw _ (tk 24 rfl))) (mvT hZ (hw _ (tk 25 rfl))) (mvT hZ (hw _ (tk 29 rfl))) (by decide) (backOf (W := 0) (rmASI l Z a0 hw [] G1 G3 G4 a h0 n0 Z0 EN0 X00 E_a F_value_a F_coder_a F_count_a F_maybeLatin1_a g_a) hZ (hw _ (tk 29 rfl)) (hw _ (tk 28 rfl)) (by decide) (by decide)) (g := (mkF m 3 #[.val (.ref a)] [(.int 16), (.ref a)])) rfl (by rw [hml]; rfl) (Steps.refl _) (a := a) (argsL := [(.int 16)]) (rest := []) (lenOf pd__I_V rfl) rfl (by show 2 * 0 + _ ≤ _; exact Nat.le_of_eq rfl) (hb hby d4_3) (fun _ _ => ⟨rfl, e0, (by decide : 0 + 1 ≤ _), (by decide : 0 + 16 ≤ _)⟩)
  dsimp only [Pt.U, Pt.locs, Pt.cells, Pt.slots] at X1 l1 y1 z1 st1 hQ1
  subst l1 y1 z1
  obtain ⟨t1, k1q, rfl, Nq1, gt1, sq1, Kq1, E1q, Fv1q, Fc1q, Fn1q, Fm1q, V1q⟩ := hQ1
  have N1 := Fr.app N0 Nq1
  have szt1 : h0.size ≤ t1 := Nat.le_trans (Nat.le_refl _) sq1
  obtain ⟨fs, hr, hrun, hended, hW, hsame⟩ := X1.leave (v := none) (fun _ => rfl)
  refine ⟨_, _, pre0 _ ?_, hrun, hended, _, _, rfl, ?_, ⟨_, rfl⟩, hW, hsame.mono (by decide) (by decide)⟩
  · show Steps p.tables e below (s₁.setTop (mkF m 0 #[.val (.ref a)] [])) _
    refine XS.aloadN X0.here hx rfl (hb hby d4_0) rfl rfl ?_
    refine XS.bipush X0.here hx rfl (hb hby d4_1) ?_
    show Steps p.tables e below (s₁.setTop (mkF m 3 #[.val (.ref a)] [(.int 16), (.ref a)])) _
    refine st1.trans ?_
    show Steps p.tables e below (T1.setTop (mkF m 6 #[.val (.ref a)] [])) _
    exact X1.returnOut hx Bd.returns (hb hby d4_6) hr
  · show own_QC Z a h0 n0 _ T1.heap _
    exact ⟨t1, k1q, rfl, N1, gt1, szt1, ((Keep.refl h0 [a]).trans Kq1 (allS (P := fun zz => zz ∈ [a] ∨ h0.size ≤ zz) (Or.inl (tk 0 rfl)) all0)), E1q, Fv1q, Fc1q, Fn1q, Fm1q, V1q⟩
def own_QWr (Z : State) (tx : Addr) (h0 : Heap) (n0 : Nat) (v : Option Value) (h : Heap) (L : List Loc) : Prop := v = none ∧ Fr n0 L ∧ Keep h0 h [tx] ∧ Exa Z h tx "com/example/hebelwerk/hebelwerk/core/Text" ∧ Fld Z h tx "com/example/hebelwerk/hebelwerk/core/Text" "text" "Ljava/lang/StringBuilder;" .null
theorem d2_0 : decode jdk_2052_method_2_code 0 = .ok (.aload_n 0, 1) := by decide +kernel
theorem d2_1 : decode jdk_2052_method_2_code 1 = .ok (.invokespecial 7, 3) := by decide +kernel
theorem d2_4 : decode jdk_2052_method_2_code 4 = .ok (.aload_n 0, 1) := by decide +kernel
theorem d2_5 : decode jdk_2052_method_2_code 5 = .ok (.aload_n 0, 1) := by decide +kernel
theorem d2_6 : decode jdk_2052_method_2_code 6 = .ok (.putfield 10, 3) := by decide +kernel
theorem d2_9 : decode jdk_2052_method_2_code 9 = .ok (.return_, 1) := by decide +kernel
theorem pn_2 : plainName "java/io/Writer" = true := by first | (simp [plainName, overriddenIn]; done) | decide +kernel
theorem ef_2_r (m : MethodId) (x0 : Addr) : entryFrame m #[(.ref x0)] 1 = mkF m 0 #[.val (.ref x0)] [] := by first | (simp [entryFrame, mkF, argsToLocals, Value.category]; done) | rfl
set_option maxRecDepth 65536 in
set_option maxHeartbeats 40000000 in
theorem rmWRI (l : Launch) (Z : State) (a0 : Array Value) (hw : ∀ d ∈ tables_1, d.before a0 Z = true) (ws : List Jvm.Cond) (tx : Addr) (h0 : Heap) (n0 : Nat) (Z0 : n0 ≤ h0.size) (E_tx : Exa Z h0 tx "com/example/hebelwerk/hebelwerk/core/Text") (F_lock_tx : Fld Z h0 tx "java/io/Writer" "lock" "Ljava/lang/Object;" .null) (F_text_tx : Fld Z h0 tx "com/example/hebelwerk/hebelwerk/core/Text" "text" "Ljava/lang/StringBuilder;" .null) (g_tx : n0 ≤ tx) :
    MetFree l (⟨"java/io/Writer", "<init>", "()V"⟩ : MethodName) (head1 (Jvm.Cond.code (⟨"java/io/Writer", "<init>", "()V"⟩ : MethodName) jdk_2052_method_2_code 1 none :: ws) ({ frames := 1, cells := 0, slots := 0, locals := 12 } : Room)) (fun a_ U_ => a_ = #[(.ref tx)] ∧ Z.Warmed39 U_.vm ∧ U_.heap = h0) (fun _ _ _ _ _ => True) (fun _ U_ o_ U1_ => ∃ v_ L_, o_ = .returned v_ ∧ own_QWr Z tx h0 n0 v_ U1_.heap L_ ∧ FrameEnd U_ o_ U1_ L_ ({ frames := 1, cells := 0, slots := 0, locals := 12 } : Room).cells ({ frames := 1, cells := 0, slots := 0, locals := 12 } : Room).slots) := by
  refine MetFree.of_bodySF (plainFor_of_name pn_2) hisR ?_
  intro p e s m args below meth c s₁ Bd hml0 hP hK
  obtain ⟨rfl, hZ, hh⟩ := hP
  have hx := Bd.exec
  have hby := Bd.bytes
  have hml : c.maxLocals = 1 := hml0
  have hown : s.vm.findClass "java/io/Writer" = some m.cls := findClass_of_methodNamed Bd.named
  have hnm := (name_of_methodNamed Bd.named Bd.method).1
  have X0 : Stand p l e ({ frames := 1, cells := 0, slots := 0, locals := 12 } : Room) s m #[(.ref tx)] below meth c s₁ [] 0 0 := Stand.of_body Bd
  have e0 : s₁.heap = h0 := by rw [← hh, Bd.state]; rfl
  have N0 := Fr.nil n0
  have pre0 : ∀ tt, Steps p.tables e below (s₁.setTop (mkF m 0 #[.val (.ref tx)] [])) tt → Steps p.tables e below (s₁.setTop (entryFrame m #[(.ref tx)] 1)) tt := fun tt kk => castTop (ef_2_r m tx) kk
  obtain ⟨T1, X1, e1, st1⟩ := initO X0 hx hZ hown (hw _ (tk 13 rfl)) (hw _ (tk 14 rfl)) (hw _ (tk 15 rfl)) e0 (g := (mkF m 1 #[.val (.ref tx)] [(.ref tx)])) rfl (by rw [hml]; rfl) rfl (hb hby d2_1) (by decide) (W := 0) (by show 2 * 0 + _ ≤ _; exact Nat.le_of_eq rfl) (by decide)
  obtain ⟨T2, h2, X2, e2, W2, st2⟩ := putF X1 hx hZ hown (host := "") (Or.inl (hw _ (tk 16 rfl))) Via.refl e1 F_lock_tx E_tx (Or.inl (hw _ (tk 17 rfl))) (hw _ (tk 3 rfl)) (ty := (.object "java/lang/Object")) (by decide) rfl rfl (g := (mkF m 6 #[.val (.ref tx)] [(.ref tx), (.ref tx)])) rfl rfl (hb hby d2_6)
  have Fw2 := F_lock_tx.same W2
  have N2 := Fr.snoc X2 N0 g_tx
  have f3 := (E_tx.wr W2)
  have f4 := (F_text_tx.other W2 (Or.inr (slot_ne (Or.inr (hw _ (tk 39 rfl))) (Or.inl (hw _ (tk 17 rfl))) (by decide) (t := (.object "java/lang/StringBuilder")) (t' := (.object "java/lang/Object")) (by decide) (by decide))))
  obtain ⟨fs, hr, hrun, hended, hW, hsame⟩ := X2.leave (v := none) (fun _ => rfl)
  refine ⟨_, _, pre0 _ ?_, hrun, hended, _, _, rfl, ?_, ⟨_, rfl⟩, hW, hsame.mono (by decide) (by decide)⟩
  · show Steps p.tables e below (s₁.setTop (mkF m 0 #[.val (.ref tx)] [])) _
    refine XS.aloadN X0.here hx rfl (hb hby d2_0) rfl rfl ?_
    show Steps p.tables e below (s₁.setTop (mkF m 1 #[.val (.ref tx)] [(.ref tx)])) _
    refine st1 _ ?_
    show Steps p.tables e below (T1.setTop (mkF m 4 #[.val (.ref tx)] [])) _
    refine XS.aloadN X1.here hx rfl (hb hby d2_4) rfl rfl ?_
    refine XS.aloadN X1.here hx rfl (hb hby d2_5) rfl rfl ?_
    show Steps p.tables e below (T1.setTop (mkF m 6 #[.val (.ref tx)] [(.ref tx), (.ref tx)])) _
    refine st2 _ ?_
    show Steps p.tables e below (T2.setTop (mkF m 9 #[.val (.ref tx)] [])) _
    exact X2.returnOut hx Bd.returns (hb hby d2_9) hr
  · show own_QWr Z tx h0 n0 _ T2.heap _
    rw [e2]
    exact ⟨rfl, N2, ((Keep.refl h0 [tx]).wr W2 (Or.inl (tk 0 rfl))), f3, f4⟩
def own_QT (Z : State) (tx : Addr) (h0 : Heap) (n0 : Nat) (v : Option Value) (h : Heap) (L : List Loc) : Prop := ∃ (a t : Addr) (k : ClassId), v = none ∧ Fr n0 L ∧ n0 ≤ a ∧ n0 ≤ t ∧ h0.size ≤ a ∧ h0.size ≤ t ∧ Keep h0 h [tx] ∧ Exa Z h tx "com/example/hebelwerk/hebelwerk/core/Text" ∧ Fld Z h tx "com/example/hebelwerk/hebelwerk/core/Text" "text" "Ljava/lang/StringBuilder;" (.ref a) ∧ own_bd Z h a t k []
theorem d1_0 : decode prog_16_method_1_code 0 = .ok (.aload_n 0, 1) := by decide +kernel
theorem d1_1 : decode prog_16_method_1_code 1 = .ok (.invokespecial 1, 3) := by decide +kernel
theorem d1_4 : decode prog_16_method_1_code 4 = .ok (.aload_n 0, 1) := by decide +kernel
theorem d1_5 : decode prog_16_method_1_code 5 = .ok (.new 7, 3) := by decide +kernel
theorem d1_8 : decode prog_16_method_1_code 8 = .ok (.dup, 1) := by decide +kernel
theorem d1_9 : decode prog_16_method_1_code 9 = .ok (.invokespecial 9, 3) := by decide +kernel
theorem d1_12 : decode prog_16_method_1_code 12 = .ok (.putfield 10, 3) := by decide +kernel
theorem d1_15 : decode prog_16_method_1_code 15 = .ok (.return_, 1) := by decide +kernel
theorem pn_1 : plainName "com/example/hebelwerk/hebelwerk/core/Text" = true := by first | (simp [plainName, overriddenIn]; done) | decide +kernel
theorem ef_1_r (m : MethodId) (x0 : Addr) : entryFrame m #[(.ref x0)] 1 = mkF m 0 #[.val (.ref x0)] [] := by first | (simp [entryFrame, mkF, argsToLocals, Value.category]; done) | rfl
set_option maxRecDepth 65536 in
set_option maxHeartbeats 40000000 in
theorem rmTXI (l : Launch) (Z : State) (a0 : Array Value) (hw : ∀ d ∈ tables_1, d.before a0 Z = true) (ws : List Jvm.Cond) (G1 : Int32) (G3 : Value) (G4 : Value) (tx : Addr) (h0 : Heap) (n0 : Nat) (Z0 : n0 ≤ h0.size) (EN : own_env Z G1 G3 G4) (X00 : Old Z n0 h0) (E_tx : Exa Z h0 tx "com/example/hebelwerk/hebelwerk/core/Text") (F_lock_tx : Fld Z h0 tx "java/io/Writer" "lock" "Ljava/lang/Object;" .null) (F_text_tx : Fld Z h0 tx "com/example/hebelwerk/hebelwerk/core/Text" "text" "Ljava/lang/StringBuilder;" .null) (g_tx : n0 ≤ tx) :
    MetFree l (⟨"com/example/hebelwerk/hebelwerk/core/Text", "<init>", "()V"⟩ : MethodName) (head1 (Jvm.Cond.code (⟨"com/example/hebelwerk/hebelwerk/core/Text", "<init>", "()V"⟩ : MethodName) prog_16_method_1_code 1 none :: ws) ({ frames := 3, cells := 2, slots := 20, locals := 39 } : Room)) (fun a_ U_ => a_ = #[(.ref tx)] ∧ Z.Warmed39 U_.vm ∧ U_.heap = h0) (fun _ _ _ _ _ => True) (fun _ U_ o_ U1_ => ∃ v_ L_, o_ = .returned v_ ∧ own_QT Z tx h0 n0 v_ U1_.heap L_ ∧ FrameEnd U_ o_ U1_ L_ ({ frames := 3, cells := 2, slots := 20, locals := 39 } : Room).cells ({ frames := 3, cells := 2, slots := 20, locals := 39 } : Room).slots) := by
  refine MetFree.of_bodySF (plainFor_of_name pn_1) hisR ?_
  intro p e s m args below meth c s₁ Bd hml0 hP hK
  obtain ⟨rfl, hZ, hh⟩ := hP
  have hx := Bd.exec
  have hby := Bd.bytes
  have hml : c.maxLocals = 1 := hml0
  have hown : s.vm.findClass "com/example/hebelwerk/hebelwerk/core/Text" = some m.cls := findClass_of_methodNamed Bd.named
  have hnm := (name_of_methodNamed Bd.named Bd.method).1
  have X0 : Stand p l e ({ frames := 3, cells := 2, slots := 20, locals := 39 } : Room) s m #[(.ref tx)] below meth c s₁ [] 0 0 := Stand.of_body Bd
  have e0 : s₁.heap = h0 := by rw [← hh, Bd.state]; rfl
  have N0 := Fr.nil n0
  have pre0 : ∀ tt, Steps p.tables e below (s₁.setTop (mkF m 0 #[.val (.ref tx)] [])) tt → Steps p.tables e below (s₁.setTop (entryFrame m #[(.ref tx)] 1)) tt := fun tt kk => castTop (ef_1_r m tx) kk
  have EN0 := EN
  obtain ⟨O2, P5, O4, rG3, O5, rG4, O6, O7, O8⟩ := EN
  obtain ⟨_, _, ⟨T1, L1, k1, n1⟩, -, X1, ⟨Lc1, hQ1, l1, y1, z1⟩, st1⟩ := X0.specialBack hx (y := (⟨"java/io/Writer", "<init>", "()V"⟩ : MethodName)) rfl hown (mvT hZ (hw _ (tk 8 rfl))) (mvT hZ (hw _ (tk 9 rfl))) (mvT hZ (hw _ (tk 12 rfl))) (by decide) (backOf (W := 0) (rmWRI l Z a0 hw [] tx h0 n0 Z0 E_tx F_lock_tx F_text_tx g_tx) hZ (hw _ (tk 12 rfl)) (hw _ (tk 11 rfl)) (by decide) (by decide)) (g := (mkF m 1 #[.val (.ref tx)] [(.ref tx)])) rfl (by rw [hml]; rfl) (Steps.refl _) (a := tx) (argsL := []) (rest := []) (lenOf pd___V rfl) rfl (by show 2 * 0 + _ ≤ _; exact Nat.le_of_eq rfl) (hb hby d1_1) (fun _ _ => ⟨rfl, e0, (by decide : 0 + 0 ≤ _), (by decide : 0 + 0 ≤ _)⟩)
  dsimp only [Pt.U, Pt.locs, Pt.cells, Pt.slots] at X1 l1 y1 z1 st1 hQ1
  subst l1 y1 z1
  obtain ⟨rfl, Nq1, Kq1, E1q, F1q⟩ := hQ1
  have N1 := Fr.app N0 Nq1
  obtain ⟨T2, h2, X2, e2, E2, A2, D2, -, st2⟩ := newO X1 hx hZ hown (hw _ (tk 18 rfl)) (hw _ (tk 19 rfl)) (hw _ (tk 20 rfl)) rfl (g := (mkF m 5 #[.val (.ref tx)] [(.ref tx)])) rfl (hb hby d1_5) (by decide) (by decide)
  obtain ⟨b2, g2⟩ : ∃ z, z = T1.heap.size := ⟨_, rfl⟩
  rw [← g2] at A2 D2 st2
  have g_b2 : n0 ≤ b2 := Nat.le_trans (Nat.le_trans Z0 Kq1.1) (Nat.le_of_eq g2.symm)
  have sz_b2 : h0.size ≤ b2 := Nat.le_trans Kq1.1 (Nat.le_of_eq g2.symm)
  have F2_value : Fld Z h2 b2 "java/lang/AbstractStringBuilder" "value" "[B" .null := D2 (Or.inl (hw _ (tk 35 rfl))) (ty := (.array .byte)) (by decide)
  have F2_coder : Fld Z h2 b2 "java/lang/AbstractStringBuilder" "coder" "B" (.int 0) := D2 (Or.inl (hw _ (tk 37 rfl))) (ty := .byte) (by decide)
  have F2_count : Fld Z h2 b2 "java/lang/AbstractStringBuilder" "count" "I" (.int 0) := D2 (Or.inl (hw _ (tk 62 rfl))) (ty := .int) (by decide)
  have F2_maybeLatin1 : Fld Z h2 b2 "java/lang/AbstractStringBuilder" "maybeLatin1" "Z" (.int 0) := D2 (Or.inl (hw _ (tk 241 rfl))) (ty := .boolean) (by decide)
  have f4 := ((X00.keep Kq1 (allS g_tx all0)).ext E2)
  obtain ⟨_, _, ⟨T3, L3, k3, n3⟩, -, X3, ⟨Lc3, hQ3, l3, y3, z3⟩, st3⟩ := X2.specialBack hx (y := (⟨"java/lang/StringBuilder", "<init>", "()V"⟩ : MethodName)) rfl hown (mvT hZ (hw _ (tk 21 rfl))) (mvT hZ (hw _ (tk 22 rfl))) (mvT hZ (hw _ (tk 23 rfl))) (by decide) (backOf (W := 2) (rmSBI l Z a0 hw [] G1 G3 G4 b2 h2 n0 (Nat.le_trans Z0 (Nat.le_trans Kq1.1 E2.1)) EN0 f4 A2 F2_value F2_coder F2_count F2_maybeLatin1 g_b2) hZ (hw _ (tk 23 rfl)) (hw _ (tk 20 rfl)) (by decide) (by decide)) (g := (mkF m 9 #[.val (.ref tx)] [(.ref b2), (.ref b2), (.ref tx)])) rfl (by rw [hml]; rfl) (Steps.refl _) (a := b2) (argsL := []) (rest := [(.ref b2), (.ref tx)]) (lenOf pd___V rfl) rfl (by show 2 * 0 + _ ≤ _; exact Nat.le_of_eq rfl) (hb hby d1_9) (fun _ _ => ⟨rfl, e2, (by decide : 1 + 1 ≤ _), (by decide : 4 + 16 ≤ _)⟩)
  dsimp only [Pt.U, Pt.locs, Pt.cells, Pt.slots] at X3 l3 y3 z3 st3 hQ3
  subst l3 y3 z3
  obtain ⟨t3, k3q, rfl, Nq3, gt3, sq3, Kq3, E3q, Fv3q, Fc3q, Fn3q, Fm3q, V3q⟩ := hQ3
  have N3 := Fr.app N1 Nq3
  have szt3 : h0.size ≤ t3 := Nat.le_trans (Nat.le_trans Kq1.1 E2.1) sq3
  have f6 := ((E1q.ext E2).keep Kq3)
  have f7 := ((F1q.ext E2).keep Kq3 (ninS (Nat.ne_of_lt (Nat.lt_of_lt_of_le (Nat.lt_of_lt_of_le E_tx.lt Kq1.1) (Nat.le_of_eq g2.symm))) nin0))
  obtain ⟨T5, h5, X5, e5, W5, st5⟩ := putF X3 hx hZ hown (host := "") (Or.inl (hw _ (tk 38 rfl))) Via.refl rfl f7 f6 (Or.inr ⟨(hw _ (tk 39 rfl)), rfl, hnm⟩) (hw _ (tk 3 rfl)) (ty := (.object "java/lang/StringBuilder")) (by decide) rfl rfl (g := (mkF m 12 #[.val (.ref tx)] [(.ref b2), (.ref tx)])) rfl rfl (hb hby d1_12)
  have Fw5 := f7.same W5
  have N5 := Fr.snoc X5 N3 g_tx
  have f8 := (E3q.wr W5)
  have f9 := (Fv3q.other W5 (Or.inl (Ne.symm (Nat.ne_of_lt (Nat.lt_of_lt_of_le (Nat.lt_of_lt_of_le E_tx.lt Kq1.1) (Nat.le_of_eq g2.symm))))))
  have f10 := (Fc3q.other W5 (Or.inl (Ne.symm (Nat.ne_of_lt (Nat.lt_of_lt_of_le (Nat.lt_of_lt_of_le E_tx.lt Kq1.1) (Nat.le_of_eq g2.symm))))))
  have f11 := (Fn3q.other W5 (Or.inl (Ne.symm (Nat.ne_of_lt (Nat.lt_of_lt_of_le (Nat.lt_of_lt_of_le E_tx.lt Kq1.1) (Nat.le_of_eq g2.symm))))))
  have f12 := (Fm3q.other W5 (Or.inl (Ne.symm (Nat.ne_of_lt (Nat.lt_of_lt_of_le (Nat.lt_of_lt_of_le E_tx.lt Kq1.1) (Nat.le_of_eq g2.symm))))))
  have f13 := (V3q.other W5 (Ne.symm (Nat.ne_of_lt (Nat.lt_of_lt_of_le (Nat.lt_of_lt_of_le E_tx.lt (Nat.le_trans Kq1.1 E2.1)) sq3))))
  have f14 := (f6.wr W5)
  obtain ⟨fs, hr, hrun, hended, hW, hsame⟩ := X5.leave (v := none) (fun _ => rfl)
  refine ⟨_, _, pre0 _ ?_, hrun, hended, _, _, rfl, ?_, ⟨_, rfl⟩, hW, hsame.mono (by decide) (by decide)⟩
  · show Steps p.tables e below (s₁.setTop (mkF m 0 #[.val (.ref tx)] [])) _
    refine XS.aloadN X0.here hx rfl (hb hby d1_0) rfl rfl ?_
    show Steps p.tables e below (s₁.setTop (mkF m 1 #[.val (.ref tx)] [(.ref tx)])) _
    refine st1.trans ?_
    show Steps p.tables e below (T1.setTop (mkF m 4 #[.val (.ref tx)] [])) _
    refine XS.aloadN X1.here hx rfl (hb hby d1_4) rfl rfl ?_
    show Steps p.tables e below (T1.setTop (mkF m 5 #[.val (.ref tx)] [(.ref tx)])) _
    refine st2 _ ?_
    show Steps p.tables e below (T2.setTop (mkF m 8 #[.val (.ref tx)] [(.ref b2), (.ref tx)])) _
    refine XS.dup X2.here hx rfl (hb hby d1_8) rfl rfl ?_
    show Steps p.tables e below (T2.setTop (mkF m 9 #[.val (.ref tx)] [(.ref b2), (.ref b2), (.ref tx)])) _
    refine st3.trans ?_
    show Steps p.tables e below (T3.setTop (mkF m 12 #[.val (.ref tx)] [(.ref b2), (.ref tx)])) _
    refine st5 _ ?_
    show Steps p.tables e below (T5.setTop (mkF m 15 #[.val (.ref tx)] [])) _
    exact X5.returnOut hx Bd.returns (hb hby d1_15) hr
  · show own_QT Z tx h0 n0 _ T5.heap _
    rw [e5]
    exact ⟨b2, t3, k3q, rfl, N5, g_b2, gt3, sz_b2, szt3, (((((Keep.refl h0 [tx]).trans Kq1 (allS (P := fun zz => zz ∈ [tx] ∨ h0.size ≤ zz) (Or.inl (tk 0 rfl)) all0)).ext E2).trans Kq3 (allS (P := fun zz => zz ∈ [tx] ∨ h0.size ≤ zz) (Or.inr sz_b2) all0)).wr W5 (Or.inl (tk 0 rfl))), f14, Fw5, f8, f9, f11, f12, Or.inl ⟨f10, f13, (fun _ q => nomatch q)⟩⟩
theorem own_nf {y z x : MethodName} {C : String} {a : Array Value} {s : State} (v : (Jvm.Cond.selects C x z).before a s = true) (e : z.cls = y.cls) : NotFace s y := fun r0 h0 => by
  have hc := findClass_of_methodNamed h0
  obtain ⟨c, r, m', g1, g2, g3, g4, mk, g5, g6⟩ := Cond.selects_spec v
  have gc := findClass_of_methodNamed g3
  rw [e] at gc
  have e2 := Option.some.inj (hc.symm.trans gc)
  rw [← e2] at g5
  exact ⟨mk, g5, g6⟩
theorem d18_0 : decode jdk_68_method_64_code 0 = .ok (.aload_n 0, 1) := by decide +kernel
theorem d18_1 : decode jdk_68_method_64_code 1 = .ok (.getfield 15, 3) := by decide +kernel
theorem d18_4 : decode jdk_68_method_64_code 4 = .ok (.areturn, 1) := by decide +kernel
theorem pn_18 : plainName "java/lang/AbstractStringBuilder" = true := by first | (simp [plainName, overriddenIn]; done) | decide +kernel
theorem ef_18_r (m : MethodId) (x0 : Addr) : entryFrame m #[(.ref x0)] 1 = mkF m 0 #[.val (.ref x0)] [] := by first | (simp [entryFrame, mkF, argsToLocals, Value.category]; done) | rfl
set_option maxRecDepth 65536 in
set_option maxHeartbeats 40000000 in
theorem rmGV (l : Launch) (Z : State) (a0 : Array Value) (hw : ∀ d ∈ tables_1, d.before a0 Z = true) (ws : List Jvm.Cond) (a : Addr) (t : Addr) (h0 : Heap) (n0 : Nat) (Z0 : n0 ≤ h0.size) (E_a : Exa Z h0 a "java/lang/StringBuilder") (F_value_a : Fld Z h0 a "java/lang/AbstractStringBuilder" "value" "[B" (.ref t)) :
    MetFree l (⟨"java/lang/AbstractStringBuilder", "getValue", "()[B"⟩ : MethodName) (head1 (Jvm.Cond.code (⟨"java/lang/AbstractStringBuilder", "getValue", "()[B"⟩ : MethodName) jdk_68_method_64_code 1 (some (.array .byte)) :: ws) ({ frames := 0, cells := 0, slots := 0, locals := 0 } : Room)) (fun a_ U_ => a_ = #[(.ref a)] ∧ Z.Warmed39 U_.vm ∧ U_.heap = h0) (fun _ _ _ _ _ => True) (fun _ U_ o_ U1_ => ∃ v_ L_, o_ = .returned v_ ∧ own_Q Z (some (.ref t)) h0 n0 v_ U1_.heap L_ ∧ FrameEnd U_ o_ U1_ L_ ({ frames := 0, cells := 0, slots := 0, locals := 0 } : Room).cells ({ frames := 0, cells := 0, slots := 0, locals := 0 } : Room).slots) := by
  refine MetFree.of_bodySF (plainFor_of_name pn_18) hisR ?_
  intro p e s m args below meth c s₁ Bd hml0 hP hK
  obtain ⟨rfl, hZ, hh⟩ := hP
  have hx := Bd.exec
  have hby := Bd.bytes
  have hml : c.maxLocals = 1 := hml0
  have hown : s.vm.findClass "java/lang/AbstractStringBuilder" = some m.cls := findClass_of_methodNamed Bd.named
  have hnm := (name_of_methodNamed Bd.named Bd.method).1
  have X0 : Stand p l e ({ frames := 0, cells := 0, slots := 0, locals := 0 } : Room) s m #[(.ref a)] below meth c s₁ [] 0 0 := Stand.of_body Bd
  have e0 : s₁.heap = h0 := by rw [← hh, Bd.state]; rfl
  have N0 := Fr.nil n0
  have pre0 : ∀ tt, Steps p.tables e below (s₁.setTop (mkF m 0 #[.val (.ref a)] [])) tt → Steps p.tables e below (s₁.setTop (entryFrame m #[(.ref a)] 1)) tt := fun tt kk => castTop (ef_18_r m a) kk
  obtain ⟨T1, X1, e1, st1⟩ := getF X0 hx hZ hown (host := "") (Or.inl (hw _ (tk 34 rfl))) Via.refl e0 F_value_a (g := (mkF m 1 #[.val (.ref a)] [(.ref a)])) rfl rfl (hb hby d18_1)
  obtain ⟨fs, hr, hrun, hended, hW, hsame⟩ := X1.leave (v := some (.ref t)) (fun h => by rw [Bd.returns] at h; cases h)
  refine ⟨_, _, pre0 _ ?_, hrun, hended, _, _, rfl, ?_, ⟨_, rfl⟩, hW, hsame.mono (by decide) (by decide)⟩
  · show Steps p.tables e below (s₁.setTop (mkF m 0 #[.val (.ref a)] [])) _
    refine XS.aloadN X0.here hx rfl (hb hby d18_0) rfl rfl ?_
    show Steps p.tables e below (s₁.setTop (mkF m 1 #[.val (.ref a)] [(.ref a)])) _
    refine st1 _ ?_
    show Steps p.tables e below (T1.setTop (mkF m 4 #[.val (.ref a)] [(.ref t)])) _
    jvm_step X1.here [X1.here.top, hx, (hb hby d18_4), X1.method', Bd.returns, Value.isRef, FieldType.isReference]
    first | (intro acts; rw [hr _ acts rfl rfl rfl]) | rw [hr _ _ rfl rfl rfl]
    exact Steps.refl _
  · show own_Q Z (some (.ref t)) h0 n0 _ T1.heap _
    rw [e1]
    exact ⟨rfl, N0, rfl⟩
theorem d20_0 : decode jdk_68_method_6_code 0 = .ok (.aload_n 0, 1) := by decide +kernel
theorem d20_1 : decode jdk_68_method_6_code 1 = .ok (.getfield 79, 3) := by decide +kernel
theorem d20_4 : decode jdk_68_method_6_code 4 = .ok (.ireturn, 1) := by decide +kernel
theorem pn_20 : plainName "java/lang/AbstractStringBuilder" = true := by first | (simp [plainName, overriddenIn]; done) | decide +kernel
theorem ef_20_r (m : MethodId) (x0 : Addr) : entryFrame m #[(.ref x0)] 1 = mkF m 0 #[.val (.ref x0)] [] := by first | (simp [entryFrame, mkF, argsToLocals, Value.category]; done) | rfl
set_option maxRecDepth 65536 in
set_option maxHeartbeats 40000000 in
theorem rmALN (l : Launch) (Z : State) (a0 : Array Value) (hw : ∀ d ∈ tables_1, d.before a0 Z = true) (ws : List Jvm.Cond) (a : Addr) (p9 : Int32) (h0 : Heap) (n0 : Nat) (Z0 : n0 ≤ h0.size) (E_a : Exa Z h0 a "java/lang/StringBuilder") (F_count_a : Fld Z h0 a "java/lang/AbstractStringBuilder" "count" "I" (.int p9)) :
    MetFree l (⟨"java/lang/AbstractStringBuilder", "length", "()I"⟩ : MethodName) (head1 (Jvm.Cond.code (⟨"java/lang/AbstractStringBuilder", "length", "()I"⟩ : MethodName) jdk_68_method_6_code 1 (some .int) :: ws) ({ frames := 0, cells := 0, slots := 0, locals := 0 } : Room)) (fun a_ U_ => a_ = #[(.ref a)] ∧ Z.Warmed39 U_.vm ∧ U_.heap = h0) (fun _ _ _ _ _ => True) (fun _ U_ o_ U1_ => ∃ v_ L_, o_ = .returned v_ ∧ own_Q Z (some (.int p9)) h0 n0 v_ U1_.heap L_ ∧ FrameEnd U_ o_ U1_ L_ ({ frames := 0, cells := 0, slots := 0, locals := 0 } : Room).cells ({ frames := 0, cells := 0, slots := 0, locals := 0 } : Room).slots) := by
  refine MetFree.of_bodySF (plainFor_of_name pn_20) hisR ?_
  intro p e s m args below meth c s₁ Bd hml0 hP hK
  obtain ⟨rfl, hZ, hh⟩ := hP
  have hx := Bd.exec
  have hby := Bd.bytes
  have hml : c.maxLocals = 1 := hml0
  have hown : s.vm.findClass "java/lang/AbstractStringBuilder" = some m.cls := findClass_of_methodNamed Bd.named
  have hnm := (name_of_methodNamed Bd.named Bd.method).1
  have X0 : Stand p l e ({ frames := 0, cells := 0, slots := 0, locals := 0 } : Room) s m #[(.ref a)] below meth c s₁ [] 0 0 := Stand.of_body Bd
  have e0 : s₁.heap = h0 := by rw [← hh, Bd.state]; rfl
  have N0 := Fr.nil n0
  have pre0 : ∀ tt, Steps p.tables e below (s₁.setTop (mkF m 0 #[.val (.ref a)] [])) tt → Steps p.tables e below (s₁.setTop (entryFrame m #[(.ref a)] 1)) tt := fun tt kk => castTop (ef_20_r m a) kk
  obtain ⟨T1, X1, e1, st1⟩ := getF X0 hx hZ hown (host := "") (Or.inl (hw _ (tk 61 rfl))) Via.refl e0 F_count_a (g := (mkF m 1 #[.val (.ref a)] [(.ref a)])) rfl rfl (hb hby d20_1)
  obtain ⟨fs, hr, hrun, hended, hW, hsame⟩ := X1.leave (v := some (.int p9)) (fun h => by rw [Bd.returns] at h; cases h)
  refine ⟨_, _, pre0 _ ?_, hrun, hended, _, _, rfl, ?_, ⟨_, rfl⟩, hW, hsame.mono (by decide) (by decide)⟩
  · show Steps p.tables e below (s₁.setTop (mkF m 0 #[.val (.ref a)] [])) _
    refine XS.aloadN X0.here hx rfl (hb hby d20_0) rfl rfl ?_
    show Steps p.tables e below (s₁.setTop (mkF m 1 #[.val (.ref a)] [(.ref a)])) _
    refine st1 _ ?_
    show Steps p.tables e below (T1.setTop (mkF m 4 #[.val (.ref a)] [(.int p9)])) _
    exact retI X1 hx Bd.returns (hb hby d20_4) hr
  · show own_Q Z (some (.int p9)) h0 n0 _ T1.heap _
    rw [e1]
    exact ⟨rfl, N0, rfl⟩
theorem d19_0 : decode jdk_67_method_93_code 0 = .ok (.aload_n 0, 1) := by decide +kernel
theorem pd___I : parseMethodDescriptor "()I" = some ⟨[], some .int⟩ := by decide +kernel
theorem d19_1 : decode jdk_67_method_93_code 1 = .ok (.invokespecial 343, 3) := by decide +kernel
theorem d19_4 : decode jdk_67_method_93_code 4 = .ok (.ireturn, 1) := by decide +kernel
theorem pn_19 : plainName "java/lang/StringBuilder" = true := by first | (simp [plainName, overriddenIn]; done) | decide +kernel
theorem ef_19_r (m : MethodId) (x0 : Addr) : entryFrame m #[(.ref x0)] 1 = mkF m 0 #[.val (.ref x0)] [] := by first | (simp [entryFrame, mkF, argsToLocals, Value.category]; done) | rfl
set_option maxRecDepth 65536 in
set_option maxHeartbeats 40000000 in
theorem rmSLN (l : Launch) (Z : State) (a0 : Array Value) (hw : ∀ d ∈ tables_1, d.before a0 Z = true) (ws : List Jvm.Cond) (a : Addr) (p9 : Int32) (h0 : Heap) (n0 : Nat) (Z0 : n0 ≤ h0.size) (E_a : Exa Z h0 a "java/lang/StringBuilder") (F_count_a : Fld Z h0 a "java/lang/AbstractStringBuilder" "count" "I" (.int p9)) :
    MetFree l (⟨"java/lang/StringBuilder", "length", "()I"⟩ : MethodName) (head1 (Jvm.Cond.code (⟨"java/lang/StringBuilder", "length", "()I"⟩ : MethodName) jdk_67_method_93_code 1 (some .int) :: ws) ({ frames := 1, cells := 0, slots := 0, locals := 12 } : Room)) (fun a_ U_ => a_ = #[(.ref a)] ∧ Z.Warmed39 U_.vm ∧ U_.heap = h0) (fun _ _ _ _ _ => True) (fun _ U_ o_ U1_ => ∃ v_ L_, o_ = .returned v_ ∧ own_Q Z (some (.int p9)) h0 n0 v_ U1_.heap L_ ∧ FrameEnd U_ o_ U1_ L_ ({ frames := 1, cells := 0, slots := 0, locals := 12 } : Room).cells ({ frames := 1, cells := 0, slots := 0, locals := 12 } : Room).slots) := by
  refine MetFree.of_bodySF (plainFor_of_name pn_19) hisR ?_
  intro p e s m args below meth c s₁ Bd hml0 hP hK
  obtain ⟨rfl, hZ, hh⟩ := hP
  have hx := Bd.exec
  have hby := Bd.bytes
  have hml : c.maxLocals = 1 := hml0
  have hown : s.vm.findClass "java/lang/StringBuilder" = some m.cls := findClass_of_methodNamed Bd.named
  have hnm := (name_of_methodNamed Bd.named Bd.method).1
  have X0 : Stand p l e ({ frames := 1, cells := 0, slots := 0, locals := 12 } : Room) s m #[(.ref a)] below meth c s₁ [] 0 0 := Stand.of_body Bd
  have e0 : s₁.heap = h0 := by rw [← hh, Bd.state]; rfl
  have N0 := Fr.nil n0
  have pre0 : ∀ tt, Steps p.tables e below (s₁.setTop (mkF m 0 #[.val (.ref a)] [])) tt → Steps p.tables e below (s₁.setTop (entryFrame m #[(.ref a)] 1)) tt := fun tt kk => castTop (ef_19_r m a) kk
  obtain ⟨_, _, ⟨T1, L1, k1, n1⟩, -, X1, ⟨Lc1, hQ1, l1, y1, z1⟩, st1⟩ := superBack X0 hx hZ (y := (⟨"java/lang/AbstractStringBuilder", "length", "()I"⟩ : MethodName)) hown (hw _ (tk 113 rfl)) (own_same (y := (⟨"java/lang/AbstractStringBuilder", "length", "()I"⟩ : MethodName)) (by decide) (hw _ (tk 108 rfl)) (hw _ (tk 66 rfl)) rfl) (hw _ (tk 109 rfl)) (hw _ (tk 52 rfl)) (by decide) (backOf (W := 0) (rmALN l Z a0 hw [] a p9 h0 n0 Z0 E_a F_count_a) hZ (hw _ (tk 114 rfl)) (hw _ (tk 28 rfl)) (by decide) (by decide)) e0 (Ins.self E_a) (g := (mkF m 1 #[.val (.ref a)] [(.ref a)])) rfl (by rw [hml]; rfl) (hw _ (tk 114 rfl)) (argsL := []) (rest := []) (lenOf pd___I rfl) rfl (by show 2 * 0 + _ ≤ _; exact Nat.le_of_eq rfl) (hb hby d19_1) (fun _ _ => ⟨rfl, e0, (by decide : 0 + 0 ≤ _), (by decide : 0 + 0 ≤ _)⟩)
  dsimp only [Pt.U, Pt.locs, Pt.cells, Pt.slots] at X1 l1 y1 z1 st1 hQ1
  subst l1 y1 z1
  obtain ⟨rfl, Nq1, eq1⟩ := hQ1
  have N1 := Fr.app N0 Nq1
  obtain ⟨fs, hr, hrun, hended, hW, hsame⟩ := X1.leave (v := some (.int p9)) (fun h => by rw [Bd.returns] at h; cases h)
  refine ⟨_, _, pre0 _ ?_, hrun, hended, _, _, rfl, ?_, ⟨_, rfl⟩, hW, hsame.mono (by decide) (by decide)⟩
  · show Steps p.tables e below (s₁.setTop (mkF m 0 #[.val (.ref a)] [])) _
    refine XS.aloadN X0.here hx rfl (hb hby d19_0) rfl rfl ?_
    show Steps p.tables e below (s₁.setTop (mkF m 1 #[.val (.ref a)] [(.ref a)])) _
    refine st1.trans ?_
    show Steps p.tables e below (T1.setTop (mkF m 4 #[.val (.ref a)] [(.int p9)])) _
    exact retI X1 hx Bd.returns (hb hby d19_4) hr
  · show own_Q Z (some (.int p9)) h0 n0 _ T1.heap _
    rw [eq1]
    exact ⟨rfl, N1, rfl⟩
theorem own_us (d : Value) : ∀ vs : List Value, (List.range vs.length).map (fun i => vs.getD i d) = vs := fun vs => by
  apply List.ext_getElem
  · simp
  · intro i h1 h2
    simp [List.getD_eq_getElem?_getD, h2]
theorem own_cpy (d : Value) (vs : List Value) (nn : Nat) (h : vs.length = nn) (hb : nn < 2 ^ 31) : (([] ++ List.replicate nn d).take (0 : Int32).toNatClampNeg ++ ((List.range (Int32.ofNat nn).toNatClampNeg).map fun i => vs.getD ((0 : Int32).toNatClampNeg + i) d) ++ ([] ++ List.replicate nn d).drop ((0 : Int32).toNatClampNeg + (Int32.ofNat nn).toNatClampNeg)) = vs := by
  have z : (0 : Int32).toNatClampNeg = 0 := rfl
  rw [own_clamp hb, z]
  simp only [List.take_zero, List.nil_append, Nat.zero_add]
  subst h
  rw [own_us, List.drop_of_length_le (by simp), List.append_nil]
theorem d24_0 : decode jdk_29_method_69_code 0 = .ok (.iload_n 0, 1) := by decide +kernel
theorem d24_1 : decode jdk_29_method_69_code 1 = .ok (.iload_n 1, 1) := by decide +kernel
theorem d24_2 : decode jdk_29_method_69_code 2 = .ok (.if_icmp .gt 7, 3) := by decide +kernel
theorem d24_9 : decode jdk_29_method_69_code 9 = .ok (.iload_n 1, 1) := by decide +kernel
theorem d24_10 : decode jdk_29_method_69_code 10 = .ok (.ireturn, 1) := by decide +kernel
theorem ef_24_rr (m : MethodId) (x0 : Int32) (x1 : Int32) : entryFrame m #[(.int x0), (.int x1)] 2 = mkF m 0 #[.val (.int x0), .val (.int x1)] [] := by first | (simp [entryFrame, mkF, argsToLocals, Value.category]; done) | rfl
set_option maxRecDepth 65536 in
set_option maxHeartbeats 40000000 in
theorem rmMIN (l : Launch) (Z : State) (a0 : Array Value) (hw : ∀ d ∈ tables_1, d.before a0 Z = true) (ws : List Jvm.Cond) (p1 : Int32) (p2 : Int32) (h0 : Heap) (n0 : Nat) (Z0 : n0 ≤ h0.size) (hc2 : p2 < p1) :
    MetFree l (⟨"java/lang/Math", "min", "(II)I"⟩ : MethodName) (head1 (Jvm.Cond.code (⟨"java/lang/Math", "min", "(II)I"⟩ : MethodName) jdk_29_method_69_code 2 (some .int) :: ws) ({ frames := 0, cells := 0, slots := 0, locals := 0 } : Room)) (fun a_ U_ => a_ = #[(.int p1), (.int p2)] ∧ Z.Warmed39 U_.vm ∧ U_.heap = h0) (fun _ _ _ _ _ => True) (fun _ U_ o_ U1_ => ∃ v_ L_, o_ = .returned v_ ∧ own_Q Z (some (.int p2)) h0 n0 v_ U1_.heap L_ ∧ FrameEnd U_ o_ U1_ L_ ({ frames := 0, cells := 0, slots := 0, locals := 0 } : Room).cells ({ frames := 0, cells := 0, slots := 0, locals := 0 } : Room).slots) := by
  refine MetFree.of_bodySF (Jvm.Free.JP.mathPlain rfl (by decide +kernel)) hisR ?_
  intro p e s m args below meth c s₁ Bd hml0 hP hK
  obtain ⟨rfl, hZ, hh⟩ := hP
  have hx := Bd.exec
  have hby := Bd.bytes
  have hml : c.maxLocals = 2 := hml0
  have hown : s.vm.findClass "java/lang/Math" = some m.cls := findClass_of_methodNamed Bd.named
  have hnm := (name_of_methodNamed Bd.named Bd.method).1
  have X0 : Stand p l e ({ frames := 0, cells := 0, slots := 0, locals := 0 } : Room) s m #[(.int p1), (.int p2)] below meth c s₁ [] 0 0 := Stand.of_body Bd
  have e0 : s₁.heap = h0 := by rw [← hh, Bd.state]; rfl
  have N0 := Fr.nil n0
  have pre0 : ∀ tt, Steps p.tables e below (s₁.setTop (mkF m 0 #[.val (.int p1), .val (.int p2)] [])) tt → Steps p.tables e below (s₁.setTop (entryFrame m #[(.int p1), (.int p2)] 2)) tt := fun tt kk => castTop (ef_24_rr m p1 p2) kk
  obtain ⟨fs, hr, hrun, hended, hW, hsame⟩ := X0.leave (v := some (.int p2)) (fun h => by rw [Bd.returns] at h; cases h)
  refine ⟨_, _, pre0 _ ?_, hrun, hended, _, _, rfl, ?_, ⟨_, rfl⟩, hW, hsame.mono (by decide) (by decide)⟩
  · show Steps p.tables e below (s₁.setTop (mkF m 0 #[.val (.int p1), .val (.int p2)] [])) _
    refine XS.iloadN X0.here hx rfl (hb hby d24_0) rfl ?_
    refine XS.iloadN X0.here hx rfl (hb hby d24_1) rfl ?_
    refine XS.icmpYes X0.here hx rfl (pc0 := 2) (pc' := 9) rfl (hb hby d24_2) rfl (tlt hc2).2.2.1 (by decide) (by decide) ?_
    refine XS.iloadN X0.here hx rfl (hb hby d24_9) rfl ?_
    show Steps p.tables e below (s₁.setTop (mkF m 10 #[.val (.int p1), .val (.int p2)] [(.int p2)])) _
    exact retI X0 hx Bd.returns (hb hby d24_10) hr
  · show own_Q Z (some (.int p2)) h0 n0 _ s₁.heap _
    rw [e0]
    exact ⟨rfl, N0, rfl⟩
theorem d23_0 : decode jdk_65_method_131_code 0 = .ok (.iload_n 1, 1) := by decide +kernel
theorem d23_1 : decode jdk_65_method_131_code 1 = .ok (.iload_n 0, 1) := by decide +kernel
theorem d23_2 : decode jdk_65_method_131_code 2 = .ok (.if_icmp .ge 35, 3) := by decide +kernel
theorem d23_37 : decode jdk_65_method_131_code 37 = .ok (.return_, 1) := by decide +kernel
theorem pn_23 : plainName "java/util/Arrays" = true := by first | (simp [plainName, overriddenIn]; done) | decide +kernel
theorem ef_23_rr (m : MethodId) (x0 : Int32) (x1 : Int32) : entryFrame m #[(.int x0), (.int x1)] 2 = mkF m 0 #[.val (.int x0), .val (.int x1)] [] := by first | (simp [entryFrame, mkF, argsToLocals, Value.category]; done) | rfl
set_option maxRecDepth 65536 in
set_option maxHeartbeats 40000000 in
theorem rmCKL (l : Launch) (Z : State) (a0 : Array Value) (hw : ∀ d ∈ tables_1, d.before a0 Z = true) (ws : List Jvm.Cond) (p1 : Int32) (p2 : Int32) (h0 : Heap) (n0 : Nat) (Z0 : n0 ≤ h0.size) (hc2 : ¬ (p2 < p1)) :
    MetFree l (⟨"java/util/Arrays", "checkLength", "(II)V"⟩ : MethodName) (head1 (Jvm.Cond.code (⟨"java/util/Arrays", "checkLength", "(II)V"⟩ : MethodName) jdk_65_method_131_code 2 none :: ws) ({ frames := 0, cells := 0, slots := 0, locals := 0 } : Room)) (fun a_ U_ => a_ = #[(.int p1), (.int p2)] ∧ Z.Warmed39 U_.vm ∧ U_.heap = h0) (fun _ _ _ _ _ => True) (fun _ U_ o_ U1_ => ∃ v_ L_, o_ = .returned v_ ∧ own_Q Z none h0 n0 v_ U1_.heap L_ ∧ FrameEnd U_ o_ U1_ L_ ({ frames := 0, cells := 0, slots := 0, locals := 0 } : Room).cells ({ frames := 0, cells := 0, slots := 0, locals := 0 } : Room).slots) := by
  refine MetFree.of_bodySF (plainFor_of_name pn_23) hisR ?_
  intro p e s m args below meth c s₁ Bd hml0 hP hK
  obtain ⟨rfl, hZ, hh⟩ := hP
  have hx := Bd.exec
  have hby := Bd.bytes
  have hml : c.maxLocals = 2 := hml0
  have hown : s.vm.findClass "java/util/Arrays" = some m.cls := findClass_of_methodNamed Bd.named
  have hnm := (name_of_methodNamed Bd.named Bd.method).1
  have X0 : Stand p l e ({ frames := 0, cells := 0, slots := 0, locals := 0 } : Room) s m #[(.int p1), (.int p2)] below meth c s₁ [] 0 0 := Stand.of_body Bd
  have e0 : s₁.heap = h0 := by rw [← hh, Bd.state]; rfl
  have N0 := Fr.nil n0
  have pre0 : ∀ tt, Steps p.tables e below (s₁.setTop (mkF m 0 #[.val (.int p1), .val (.int p2)] [])) tt → Steps p.tables e below (s₁.setTop (entryFrame m #[(.int p1), (.int p2)] 2)) tt := fun tt kk => castTop (ef_23_rr m p1 p2) kk
  obtain ⟨fs, hr, hrun, hended, hW, hsame⟩ := X0.leave (v := none) (fun _ => rfl)
  refine ⟨_, _, pre0 _ ?_, hrun, hended, _, _, rfl, ?_, ⟨_, rfl⟩, hW, hsame.mono (by decide) (by decide)⟩
  · show Steps p.tables e below (s₁.setTop (mkF m 0 #[.val (.int p1), .val (.int p2)] [])) _
    refine XS.iloadN X0.here hx rfl (hb hby d23_0) rfl ?_
    refine XS.iloadN X0.here hx rfl (hb hby d23_1) rfl ?_
    refine XS.icmpYes X0.here hx rfl (pc0 := 2) (pc' := 37) rfl (hb hby d23_2) rfl (flt hc2).2.1 (by decide) (by decide) ?_
    show Steps p.tables e below (s₁.setTop (mkF m 37 #[.val (.int p1), .val (.int p2)] [])) _
    exact X0.returnOut hx Bd.returns (hb hby d23_37) hr
  · show own_Q Z none h0 n0 _ s₁.heap _
    rw [e0]
    exact ⟨rfl, N0, rfl⟩
def own_QR (Z : State) (nn : Nat) (vs : List Value) (h0 : Heap) (n0 : Nat) (v : Option Value) (h : Heap) (L : List Loc) : Prop := ∃ (t : Addr) (k : ClassId), v = some (.ref t) ∧ Fr n0 L ∧ n0 ≤ t ∧ h0.size ≤ t ∧ Keep h0 h [] ∧ Arv Z h t k .byte (Int32.ofNat nn) vs (.int 0)
theorem d22_0 : decode jdk_65_method_133_code 0 = .ok (.iload_n 1, 1) := by decide +kernel
theorem d22_1 : decode jdk_65_method_133_code 1 = .ok (.iload_n 2, 1) := by decide +kernel
theorem d22_2 : decode jdk_65_method_133_code 2 = .ok (.invokestatic 343, 3) := by decide +kernel
theorem d22_5 : decode jdk_65_method_133_code 5 = .ok (.iload_n 2, 1) := by decide +kernel
theorem d22_6 : decode jdk_65_method_133_code 6 = .ok (.iload_n 1, 1) := by decide +kernel
theorem d22_7 : decode jdk_65_method_133_code 7 = .ok (.isub, 1) := by decide +kernel
theorem d22_8 : decode jdk_65_method_133_code 8 = .ok (.istore_n 3, 1) := by decide +kernel
theorem d22_9 : decode jdk_65_method_133_code 9 = .ok (.iload_n 3, 1) := by decide +kernel
theorem d22_10 : decode jdk_65_method_133_code 10 = .ok (.newarray .byte, 2) := by decide +kernel
theorem d22_12 : decode jdk_65_method_133_code 12 = .ok (.astore 4, 2) := by decide +kernel
theorem d22_14 : decode jdk_65_method_133_code 14 = .ok (.aload_n 0, 1) := by decide +kernel
theorem d22_15 : decode jdk_65_method_133_code 15 = .ok (.iload_n 1, 1) := by decide +kernel
theorem d22_16 : decode jdk_65_method_133_code 16 = .ok (.aload 4, 2) := by decide +kernel
theorem d22_18 : decode jdk_65_method_133_code 18 = .ok (.iconst 0, 1) := by decide +kernel
theorem d22_19 : decode jdk_65_method_133_code 19 = .ok (.aload_n 0, 1) := by decide +kernel
theorem d22_20 : decode jdk_65_method_133_code 20 = .ok (.arraylength, 1) := by decide +kernel
theorem d22_21 : decode jdk_65_method_133_code 21 = .ok (.iload_n 1, 1) := by decide +kernel
theorem d22_22 : decode jdk_65_method_133_code 22 = .ok (.isub, 1) := by decide +kernel
theorem d22_23 : decode jdk_65_method_133_code 23 = .ok (.iload_n 3, 1) := by decide +kernel
theorem pd__II_I : parseMethodDescriptor "(II)I" = some ⟨[.int, .int], some .int⟩ := by decide +kernel
theorem d22_24 : decode jdk_65_method_133_code 24 = .ok (.invokestatic 304, 3) := by decide +kernel
theorem d22_27 : decode jdk_65_method_133_code 27 = .ok (.invokestatic 150, 3) := by decide +kernel
theorem d22_30 : decode jdk_65_method_133_code 30 = .ok (.aload 4, 2) := by decide +kernel
theorem d22_32 : decode jdk_65_method_133_code 32 = .ok (.areturn, 1) := by decide +kernel
theorem pn_22 : plainName "java/util/Arrays" = true := by first | (simp [plainName, overriddenIn]; done) | decide +kernel
theorem ef_22_rrr (m : MethodId) (x0 : Addr) (x1 : Int32) (x2 : Int32) : entryFrame m #[(.ref x0), (.int x1), (.int x2)] 5 = mkF m 0 #[.val (.ref x0), .val (.int x1), .val (.int x2), .unset, .unset] [] := by first | (simp [entryFrame, mkF, argsToLocals, Value.category]; done) | rfl
set_option maxRecDepth 65536 in
set_option maxHeartbeats 40000000 in
theorem rmCRB (l : Launch) (Z : State) (a0 : Array Value) (hw : ∀ d ∈ tables_1, d.before a0 Z = true) (ws : List Jvm.Cond) (t : Addr) (k : ClassId) (M : Nat) (vs : List Value) (nn : Nat) (h0 : Heap) (n0 : Nat) (Z0 : n0 ≤ h0.size) (V_t : Arv Z h0 t k .byte (Int32.ofNat M) vs (.int 0)) (hv : vs.length = nn) (hM : nn < M) (hM2 : M ≤ 32) :
    MetFree l (⟨"java/util/Arrays", "copyOfRangeByte", "([BII)[B"⟩ : MethodName) (head1 (Jvm.Cond.code (⟨"java/util/Arrays", "copyOfRangeByte", "([BII)[B"⟩ : MethodName) jdk_65_method_133_code 5 (some (.array .byte)) :: ws) ({ frames := 1, cells := 1, slots := 32, locals := 18 } : Room)) (fun a_ U_ => a_ = #[(.ref t), (.int 0), (.int (Int32.ofNat nn))] ∧ Z.Warmed39 U_.vm ∧ U_.heap = h0) (fun _ _ _ _ _ => True) (fun _ U_ o_ U1_ => ∃ v_ L_, o_ = .returned v_ ∧ own_QR Z nn vs h0 n0 v_ U1_.heap L_ ∧ FrameEnd U_ o_ U1_ L_ ({ frames := 1, cells := 1, slots := 32, locals := 18 } : Room).cells ({ frames := 1, cells := 1, slots := 32, locals := 18 } : Room).slots) := by
  refine MetFree.of_bodySF (plainFor_of_name pn_22) hisR ?_
  intro p e s m args below meth c s₁ Bd hml0 hP hK
  obtain ⟨rfl, hZ, hh⟩ := hP
  have hx := Bd.exec
  have hby := Bd.bytes
  have hml : c.maxLocals = 5 := hml0
  have hown : s.vm.findClass "java/util/Arrays" = some m.cls := findClass_of_methodNamed Bd.named
  have hnm := (name_of_methodNamed Bd.named Bd.method).1
  have X0 : Stand p l e ({ frames := 1, cells := 1, slots := 32, locals := 18 } : Room) s m #[(.ref t), (.int 0), (.int (Int32.ofNat nn))] below meth c s₁ [] 0 0 := Stand.of_body Bd
  have e0 : s₁.heap = h0 := by rw [← hh, Bd.state]; rfl
  have N0 := Fr.nil n0
  have pre0 : ∀ tt, Steps p.tables e below (s₁.setTop (mkF m 0 #[.val (.ref t), .val (.int 0), .val (.int (Int32.ofNat nn)), .unset, .unset] [])) tt → Steps p.tables e below (s₁.setTop (entryFrame m #[(.ref t), (.int 0), (.int (Int32.ofNat nn))] 5)) tt := fun tt kk => castTop (ef_22_rrr m t (0 : Int32) (Int32.ofNat nn)) kk
  obtain ⟨_, _, ⟨T1, L1, k1, n1⟩, -, X1, ⟨Lc1, hQ1, l1, y1, z1⟩, st1⟩ := Jvm.LawKit.callS X0 hx (y := (⟨"java/util/Arrays", "checkLength", "(II)V"⟩ : MethodName)) hown (mvT hZ (hw _ (tk 125 rfl))) (mvT hZ (hw _ (tk 126 rfl))) (mvT hZ (hw _ (tk 120 rfl))) (mvT hZ (hw _ (tk 127 rfl))) (by decide) (backOf (W := 0) (rmCKL l Z a0 hw [] (0 : Int32) (Int32.ofNat nn) h0 n0 Z0 (own_n0 (by omega))) hZ (hw _ (tk 127 rfl)) (hw _ (tk 120 rfl)) (by decide) (by decide)) (g := (mkF m 2 #[.val (.ref t), .val (.int 0), .val (.int (Int32.ofNat nn)), .unset, .unset] [(.int (Int32.ofNat nn)), (.int 0)])) rfl (by rw [hml]; rfl) (argsL := [(.int 0), (.int (Int32.ofNat nn))]) (rest := []) (lenOf pd__II_V rfl) rfl (by show 2 * 0 + _ ≤ _; exact Nat.le_of_eq rfl) (hb hby d22_2) (fun _ _ => ⟨rfl, e0, (by decide : 0 + 0 ≤ _), (by decide : 0 + 0 ≤ _)⟩)
  dsimp only [Pt.U, Pt.locs, Pt.cells, Pt.slots] at X1 l1 y1 z1 st1 hQ1
  subst l1 y1 z1
  obtain ⟨rfl, Nq1, eq1⟩ := hQ1
  have N1 := Fr.app N0 Nq1
  obtain ⟨T2, h2, k2, X2, e2, E2, A2, st2⟩ := newP X1 hx hZ (hw _ (tk 33 rfl)) eq1 (g := (mkF m 10 #[.val (.ref t), .val (.int 0), .val (.int (Int32.ofNat nn)), .val (.int (Int32.ofNat nn)), .unset] [(.int (Int32.ofNat nn))])) rfl (hb hby d22_10) rfl (own_n0 (by omega)) (cap := 32) (by rw [own_clamp (by omega)]; omega) (by decide) (by decide) (by decide)
  obtain ⟨b2, g2⟩ : ∃ z, z = h0.size := ⟨_, rfl⟩
  rw [← g2] at A2 st2
  have g_b2 : n0 ≤ b2 := Nat.le_trans Z0 (Nat.le_of_eq g2.symm)
  have sz_b2 : h0.size ≤ b2 := Nat.le_trans (Nat.le_refl _) (Nat.le_of_eq g2.symm)
  have V2 : Arv Z h2 b2 k2 .byte (Int32.ofNat nn) [] (.int 0) := Arv.new A2 (own_n0 (by omega))
  have f4 := (V_t.ext E2)
  obtain ⟨c3, Ar3, -, S3, M3, -, -⟩ := id f4
  obtain ⟨_, _, ⟨T5, L5, k5, n5⟩, -, X5, ⟨Lc5, hQ5, l5, y5, z5⟩, st5⟩ := Jvm.LawKit.callS X2 hx (y := (⟨"java/lang/Math", "min", "(II)I"⟩ : MethodName)) hown (mvT hZ (hw _ (tk 128 rfl))) (mvT hZ (hw _ (tk 129 rfl))) (mvT hZ (hw _ (tk 130 rfl))) (mvT hZ (hw _ (tk 131 rfl))) (by decide) (backOf (W := 4) (rmMIN l Z a0 hw [] (Int32.ofNat M) (Int32.ofNat nn) h2 n0 (Nat.le_trans Z0 E2.1) ((own_lt (by omega) (by omega)).mpr hM)) hZ (hw _ (tk 131 rfl)) (hw _ (tk 130 rfl)) (by decide) (by decide)) (g := (mkF m 24 #[.val (.ref t), .val (.int 0), .val (.int (Int32.ofNat nn)), .val (.int (Int32.ofNat nn)), .val (.ref b2)] [(.int (Int32.ofNat nn)), (.int (Int32.ofNat M)), (.int 0), (.ref b2), (.int 0), (.ref t)])) rfl (by rw [hml]; rfl) (argsL := [(.int (Int32.ofNat M)), (.int (Int32.ofNat nn))]) (rest := [(.int 0), (.ref b2), (.int 0), (.ref t)]) (lenOf pd__II_I rfl) rfl (by show 2 * 0 + _ ≤ _; exact Nat.le_of_eq rfl) (hb hby d22_24) (fun _ _ => ⟨rfl, e2, (by decide : 1 + 0 ≤ _), (by decide : 32 + 0 ≤ _)⟩)
  dsimp only [Pt.U, Pt.locs, Pt.cells, Pt.slots] at X5 l5 y5 z5 st5 hQ5
  subst l5 y5 z5
  obtain ⟨rfl, Nq5, eq5⟩ := hQ5
  have N5 := Fr.app N1 Nq5
  obtain ⟨T6, h6, L6, X6, e6, N6, K6, V6, st6⟩ := cpA X5 hx hZ hown (hw _ (tk 132 rfl)) (hw _ (tk 135 rfl)) (hw _ (tk 133 rfl)) (hw _ (tk 134 rfl)) eq5 f4 (V2.pad (pad_rep [] (.int 0) nn)) (Or.inl ⟨rfl, rfl⟩) (by decide) (by decide) (own_n0 (by omega)) (by rw [own_clamp (by omega), own_clamp (by omega), show (0 : Int32).toNatClampNeg = 0 from rfl]; omega) (by rw [own_clamp (by omega), show (0 : Int32).toNatClampNeg = 0 from rfl]; omega) rfl (by rw [own_clamp (by omega), show (0 : Int32).toNatClampNeg = 0 from rfl]; simp) N5 g_b2 (g := (mkF m 27 #[.val (.ref t), .val (.int 0), .val (.int (Int32.ofNat nn)), .val (.int (Int32.ofNat nn)), .val (.ref b2)] [(.int (Int32.ofNat nn)), (.int 0), (.ref b2), (.int 0), (.ref t)])) rfl (by rw [hml]; rfl) rfl (hb hby d22_27) (by decide) (W := 0) (by show 2 * 0 + _ ≤ _; exact Nat.le_of_eq rfl) (by decide)
  rw [own_cpy (.int 0) vs nn hv (by omega)] at V6
  obtain ⟨fs, hr, hrun, hended, hW, hsame⟩ := X6.leave (v := some (.ref b2)) (fun h => by rw [Bd.returns] at h; cases h)
  refine ⟨_, _, pre0 _ ?_, hrun, hended, _, _, rfl, ?_, ⟨_, rfl⟩, hW, hsame.mono (by decide) (by decide)⟩
  · show Steps p.tables e below (s₁.setTop (mkF m 0 #[.val (.ref t), .val (.int 0), .val (.int (Int32.ofNat nn)), .unset, .unset] [])) _
    refine XS.iloadN X0.here hx rfl (hb hby d22_0) rfl ?_
    refine XS.iloadN X0.here hx rfl (hb hby d22_1) rfl ?_
    show Steps p.tables e below (s₁.setTop (mkF m 2 #[.val (.ref t), .val (.int 0), .val (.int (Int32.ofNat nn)), .unset, .unset] [(.int (Int32.ofNat nn)), (.int 0)])) _
    refine st1 _ ?_
    show Steps p.tables e below (T1.setTop (mkF m 5 #[.val (.ref t), .val (.int 0), .val (.int (Int32.ofNat nn)), .unset, .unset] [])) _
    refine XS.iloadN X1.here hx rfl (hb hby d22_5) rfl ?_
    refine XS.iloadN X1.here hx rfl (hb hby d22_6) rfl ?_
    refine XS.isub X1.here hx rfl (hb hby d22_7) rfl ?_
    show Steps p.tables e below (T1.setTop (mkF m 8 #[.val (.ref t), .val (.int 0), .val (.int (Int32.ofNat nn)), .unset, .unset] [(.int ((Int32.ofNat nn) - (0 : Int32)))])) _
    rw [(Int32.sub_zero (Int32.ofNat nn))]
    show Steps p.tables e below (T1.setTop (mkF m 8 #[.val (.ref t), .val (.int 0), .val (.int (Int32.ofNat nn)), .unset, .unset] [(.int (Int32.ofNat nn))])) _
    refine XS.istoreN X1.here hx rfl (hb hby d22_8) rfl (l' := #[.val (.ref t), .val (.int 0), .val (.int (Int32.ofNat nn)), .val (.int (Int32.ofNat nn)), .unset]) rfl ?_
    refine XS.iloadN X1.here hx rfl (hb hby d22_9) rfl ?_
    show Steps p.tables e below (T1.setTop (mkF m 10 #[.val (.ref t), .val (.int 0), .val (.int (Int32.ofNat nn)), .val (.int (Int32.ofNat nn)), .unset] [(.int (Int32.ofNat nn))])) _
    refine st2 _ ?_
    show Steps p.tables e below (T2.setTop (mkF m 12 #[.val (.ref t), .val (.int 0), .val (.int (Int32.ofNat nn)), .val (.int (Int32.ofNat nn)), .unset] [(.ref b2)])) _
    refine XS.astore X2.here hx rfl (hb hby d22_12) rfl rfl (l' := #[.val (.ref t), .val (.int 0), .val (.int (Int32.ofNat nn)), .val (.int (Int32.ofNat nn)), .val (.ref b2)]) rfl ?_
    refine XS.aloadN X2.here hx rfl (hb hby d22_14) rfl rfl ?_
    refine XS.iloadN X2.here hx rfl (hb hby d22_15) rfl ?_
    refine XS.aload X2.here hx rfl (hb hby d22_16) rfl rfl ?_
    refine XS.iconst X2.here hx rfl (hb hby d22_18) ?_
    refine XS.aloadN X2.here hx rfl (hb hby d22_19) rfl rfl ?_
    show Steps p.tables e below (T2.setTop (mkF m 20 #[.val (.ref t), .val (.int 0), .val (.int (Int32.ofNat nn)), .val (.int (Int32.ofNat nn)), .val (.ref b2)] [(.ref t), (.int 0), (.ref b2), (.int 0), (.ref t)])) _
    refine X2.arraylength hx (by rw [e2]; exact Ar3.1) (State.isArrayOf_alike hZ.alike Ar3.2.1) (g := (mkF m 20 #[.val (.ref t), .val (.int 0), .val (.int (Int32.ofNat nn)), .val (.int (Int32.ofNat nn)), .val (.ref b2)] [(.ref t), (.int 0), (.ref b2), (.int 0), (.ref t)])) rfl rfl (hb hby d22_20) _ ?_
    rw [len_of S3 M3]
    show Steps p.tables e below (T2.setTop (mkF m 21 #[.val (.ref t), .val (.int 0), .val (.int (Int32.ofNat nn)), .val (.int (Int32.ofNat nn)), .val (.ref b2)] [(.int (Int32.ofNat M)), (.int 0), (.ref b2), (.int 0), (.ref t)])) _
    refine XS.iloadN X2.here hx rfl (hb hby d22_21) rfl ?_
    refine XS.isub X2.here hx rfl (hb hby d22_22) rfl ?_
    show Steps p.tables e below (T2.setTop (mkF m 23 #[.val (.ref t), .val (.int 0), .val (.int (Int32.ofNat nn)), .val (.int (Int32.ofNat nn)), .val (.ref b2)] [(.int ((Int32.ofNat M) - (0 : Int32))), (.int 0), (.ref b2), (.int 0), (.ref t)])) _
    rw [(Int32.sub_zero (Int32.ofNat M))]
    show Steps p.tables e below (T2.setTop (mkF m 23 #[.val (.ref t), .val (.int 0), .val (.int (Int32.ofNat nn)), .val (.int (Int32.ofNat nn)), .val (.ref b2)] [(.int (Int32.ofNat M)), (.int 0), (.ref b2), (.int 0), (.ref t)])) _
    refine XS.iloadN X2.here hx rfl (hb hby d22_23) rfl ?_
    show Steps p.tables e below (T2.setTop (mkF m 24 #[.val (.ref t), .val (.int 0), .val (.int (Int32.ofNat nn)), .val (.int (Int32.ofNat nn)), .val (.ref b2)] [(.int (Int32.ofNat nn)), (.int (Int32.ofNat M)), (.int 0), (.ref b2), (.int 0), (.ref t)])) _
    refine st5 _ ?_
    show Steps p.tables e below (T5.setTop (mkF m 27 #[.val (.ref t), .val (.int 0), .val (.int (Int32.ofNat nn)), .val (.int (Int32.ofNat nn)), .val (.ref b2)] [(.int (Int32.ofNat nn)), (.int 0), (.ref b2), (.int 0), (.ref t)])) _
    refine st6 _ ?_
    show Steps p.tables e below (T6.setTop (mkF m 30 #[.val (.ref t), .val (.int 0), .val (.int (Int32.ofNat nn)), .val (.int (Int32.ofNat nn)), .val (.ref b2)] [])) _
    refine XS.aload X6.here hx rfl (hb hby d22_30) rfl rfl ?_
    show Steps p.tables e below (T6.setTop (mkF m 32 #[.val (.ref t), .val (.int 0), .val (.int (Int32.ofNat nn)), .val (.int (Int32.ofNat nn)), .val (.ref b2)] [(.ref b2)])) _
    jvm_step X6.here [X6.here.top, hx, (hb hby d22_32), X6.method', Bd.returns, Value.isRef, FieldType.isReference]
    first | (intro acts; rw [hr _ acts rfl rfl rfl]) | rw [hr _ _ rfl rfl rfl]
    exact Steps.refl _
  · show own_QR Z nn vs h0 n0 _ T6.heap _
    rw [e6]
    exact ⟨b2, k2, rfl, N6, g_b2, sz_b2, (((Keep.refl h0 []).ext E2).trans K6 (allS (P := fun zz => zz ∈ ([] : List Addr) ∨ h0.size ≤ zz) (Or.inr sz_b2) all0)), V6⟩
theorem d21_0 : decode jdk_65_method_132_code 0 = .ok (.iload_n 1, 1) := by decide +kernel
theorem d21_1 : decode jdk_65_method_132_code 1 = .ok (.ifCond .ne 9, 3) := by decide +kernel
theorem d21_4 : decode jdk_65_method_132_code 4 = .ok (.iload_n 2, 1) := by decide +kernel
theorem d21_5 : decode jdk_65_method_132_code 5 = .ok (.aload_n 0, 1) := by decide +kernel
theorem d21_6 : decode jdk_65_method_132_code 6 = .ok (.arraylength, 1) := by decide +kernel
theorem d21_7 : decode jdk_65_method_132_code 7 = .ok (.if_icmp .eq 10, 3) := by decide +kernel
theorem d21_10 : decode jdk_65_method_132_code 10 = .ok (.aload_n 0, 1) := by decide +kernel
theorem d21_11 : decode jdk_65_method_132_code 11 = .ok (.iload_n 1, 1) := by decide +kernel
theorem d21_12 : decode jdk_65_method_132_code 12 = .ok (.iload_n 2, 1) := by decide +kernel
theorem pd___BII__B : parseMethodDescriptor "([BII)[B" = some ⟨[(.array .byte), .int, .int], some (.array .byte)⟩ := by decide +kernel
theorem d21_13 : decode jdk_65_method_132_code 13 = .ok (.invokestatic 339, 3) := by decide +kernel
theorem d21_16 : decode jdk_65_method_132_code 16 = .ok (.areturn, 1) := by decide +kernel
theorem pn_21 : plainName "java/util/Arrays" = true := by first | (simp [plainName, overriddenIn]; done) | decide +kernel
theorem ef_21_rrr (m : MethodId) (x0 : Addr) (x1 : Int32) (x2 : Int32) : entryFrame m #[(.ref x0), (.int x1), (.int x2)] 3 = mkF m 0 #[.val (.ref x0), .val (.int x1), .val (.int x2)] [] := by first | (simp [entryFrame, mkF, argsToLocals, Value.category]; done) | rfl
set_option maxRecDepth 65536 in
set_option maxHeartbeats 40000000 in
theorem rmCR (l : Launch) (Z : State) (a0 : Array Value) (hw : ∀ d ∈ tables_1, d.before a0 Z = true) (ws : List Jvm.Cond) (t : Addr) (k : ClassId) (M : Nat) (vs : List Value) (nn : Nat) (h0 : Heap) (n0 : Nat) (Z0 : n0 ≤ h0.size) (V_t : Arv Z h0 t k .byte (Int32.ofNat M) vs (.int 0)) (hv : vs.length = nn) (hM : nn < M) (hM2 : M ≤ 32) :
    MetFree l (⟨"java/util/Arrays", "copyOfRange", "([BII)[B"⟩ : MethodName) (head1 (Jvm.Cond.code (⟨"java/util/Arrays", "copyOfRange", "([BII)[B"⟩ : MethodName) jdk_65_method_132_code 3 (some (.array .byte)) :: ws) ({ frames := 2, cells := 1, slots := 32, locals := 34 } : Room)) (fun a_ U_ => a_ = #[(.ref t), (.int 0), (.int (Int32.ofNat nn))] ∧ Z.Warmed39 U_.vm ∧ U_.heap = h0) (fun _ _ _ _ _ => True) (fun _ U_ o_ U1_ => ∃ v_ L_, o_ = .returned v_ ∧ own_QR Z nn vs h0 n0 v_ U1_.heap L_ ∧ FrameEnd U_ o_ U1_ L_ ({ frames := 2, cells := 1, slots := 32, locals := 34 } : Room).cells ({ frames := 2, cells := 1, slots := 32, locals := 34 } : Room).slots) := by
  refine MetFree.of_bodySF (plainFor_of_name pn_21) hisR ?_
  intro p e s m args below meth c s₁ Bd hml0 hP hK
  obtain ⟨rfl, hZ, hh⟩ := hP
  have hx := Bd.exec
  have hby := Bd.bytes
  have hml : c.maxLocals = 3 := hml0
  have hown : s.vm.findClass "java/util/Arrays" = some m.cls := findClass_of_methodNamed Bd.named
  have hnm := (name_of_methodNamed Bd.named Bd.method).1
  have X0 : Stand p l e ({ frames := 2, cells := 1, slots := 32, locals := 34 } : Room) s m #[(.ref t), (.int 0), (.int (Int32.ofNat nn))] below meth c s₁ [] 0 0 := Stand.of_body Bd
  have e0 : s₁.heap = h0 := by rw [← hh, Bd.state]; rfl
  have N0 := Fr.nil n0
  have pre0 : ∀ tt, Steps p.tables e below (s₁.setTop (mkF m 0 #[.val (.ref t), .val (.int 0), .val (.int (Int32.ofNat nn))] [])) tt → Steps p.tables e below (s₁.setTop (entryFrame m #[(.ref t), (.int 0), (.int (Int32.ofNat nn))] 3)) tt := fun tt kk => castTop (ef_21_rrr m t (0 : Int32) (Int32.ofNat nn)) kk
  obtain ⟨c1, Ar1, -, S1, M1, -, -⟩ := id V_t
  obtain ⟨_, _, ⟨T2, L2, k2, n2⟩, -, X2, ⟨Lc2, hQ2, l2, y2, z2⟩, st2⟩ := Jvm.LawKit.callS X0 hx (y := (⟨"java/util/Arrays", "copyOfRangeByte", "([BII)[B"⟩ : MethodName)) hown (mvT hZ (hw _ (tk 122 rfl))) (mvT hZ (hw _ (tk 123 rfl))) (mvT hZ (hw _ (tk 120 rfl))) (mvT hZ (hw _ (tk 124 rfl))) (by decide) (backOf (W := 0) (rmCRB l Z a0 hw [] t k M vs nn h0 n0 Z0 V_t hv hM hM2) hZ (hw _ (tk 124 rfl)) (hw _ (tk 120 rfl)) (by decide) (by decide)) (g := (mkF m 13 #[.val (.ref t), .val (.int 0), .val (.int (Int32.ofNat nn))] [(.int (Int32.ofNat nn)), (.int 0), (.ref t)])) rfl (by rw [hml]; rfl) (argsL := [(.ref t), (.int 0), (.int (Int32.ofNat nn))]) (rest := []) (lenOf pd___BII__B rfl) rfl (by show 2 * 0 + _ ≤ _; exact Nat.le_of_eq rfl) (hb hby d21_13) (fun _ _ => ⟨rfl, e0, (by decide : 0 + 1 ≤ _), (by decide : 0 + 32 ≤ _)⟩)
  dsimp only [Pt.U, Pt.locs, Pt.cells, Pt.slots] at X2 l2 y2 z2 st2 hQ2
  subst l2 y2 z2
  obtain ⟨t2, k2q, rfl, Nq2, gt2, sq2, Kq2, V2q⟩ := hQ2
  have N2 := Fr.app N0 Nq2
  have szt2 : h0.size ≤ t2 := Nat.le_trans (Nat.le_refl _) sq2
  obtain ⟨fs, hr, hrun, hended, hW, hsame⟩ := X2.leave (v := some (.ref t2)) (fun h => by rw [Bd.returns] at h; cases h)
  refine ⟨_, _, pre0 _ ?_, hrun, hended, _, _, rfl, ?_, ⟨_, rfl⟩, hW, hsame.mono (by decide) (by decide)⟩
  · show Steps p.tables e below (s₁.setTop (mkF m 0 #[.val (.ref t), .val (.int 0), .val (.int (Int32.ofNat nn))] [])) _
    refine XS.iloadN X0.here hx rfl (hb hby d21_0) rfl ?_
    refine XS.ifNo X0.here hx rfl (hb hby d21_1) rfl ((if0 _ _).trans (teq (by decide : (0 : Int32) = (0 : Int32))).2) ?_
    refine XS.iloadN X0.here hx rfl (hb hby d21_4) rfl ?_
    refine XS.aloadN X0.here hx rfl (hb hby d21_5) rfl rfl ?_
    show Steps p.tables e below (s₁.setTop (mkF m 6 #[.val (.ref t), .val (.int 0), .val (.int (Int32.ofNat nn))] [(.ref t), (.int (Int32.ofNat nn))])) _
    refine X0.arraylength hx (by rw [e0]; exact Ar1.1) (State.isArrayOf_alike hZ.alike Ar1.2.1) (g := (mkF m 6 #[.val (.ref t), .val (.int 0), .val (.int (Int32.ofNat nn))] [(.ref t), (.int (Int32.ofNat nn))])) rfl rfl (hb hby d21_6) _ ?_
    rw [len_of S1 M1]
    show Steps p.tables e below (s₁.setTop (mkF m 7 #[.val (.ref t), .val (.int 0), .val (.int (Int32.ofNat nn))] [(.int (Int32.ofNat M)), (.int (Int32.ofNat nn))])) _
    refine XS.icmpNo X0.here hx rfl (hb hby d21_7) rfl (feq (fun q => by have := (own_eq (by omega) (by omega)).mp q; omega)).1 ?_
    refine XS.aloadN X0.here hx rfl (hb hby d21_10) rfl rfl ?_
    refine XS.iloadN X0.here hx rfl (hb hby d21_11) rfl ?_
    refine XS.iloadN X0.here hx rfl (hb hby d21_12) rfl ?_
    show Steps p.tables e below (s₁.setTop (mkF m 13 #[.val (.ref t), .val (.int 0), .val (.int (Int32.ofNat nn))] [(.int (Int32.ofNat nn)), (.int 0), (.ref t)])) _
    refine st2 _ ?_
    show Steps p.tables e below (T2.setTop (mkF m 16 #[.val (.ref t), .val (.int 0), .val (.int (Int32.ofNat nn))] [(.ref t2)])) _
    jvm_step X2.here [X2.here.top, hx, (hb hby d21_16), X2.method', Bd.returns, Value.isRef, FieldType.isReference]
    first | (intro acts; rw [hr _ acts rfl rfl rfl]) | rw [hr _ _ rfl rfl rfl]
    exact Steps.refl _
  · show own_QR Z nn vs h0 n0 _ T2.heap _
    exact ⟨t2, k2q, rfl, N2, gt2, szt2, ((Keep.refl h0 []).trans Kq2 all0), V2q⟩
def own_st (Z : State) (h : Heap) (x : Addr) (cs : List Int32) : Prop := ∃ (t : Addr) (k : ClassId), Exa Z h x "java/lang/String" ∧ Fld Z h x "java/lang/String" "value" "[B" (.ref t) ∧ ((Fld Z h x "java/lang/String" "coder" "B" (.int 0) ∧ Arv Z h t k .byte (Int32.ofNat cs.length) (own_lat cs) (.int 0) ∧ own_l1 cs) ∨ (Fld Z h x "java/lang/String" "coder" "B" (.int 1) ∧ Arv Z h t k .byte (Int32.ofNat (2 * cs.length)) (own_wide cs) (.int 0)))
def own_QS (Z : State) (x : Addr) (cs : List Int32) (h0 : Heap) (n0 : Nat) (v : Option Value) (h : Heap) (L : List Loc) : Prop := v = none ∧ Fr n0 L ∧ Keep h0 h [x] ∧ own_st Z h x cs
def own_QZ (Z : State) (cs : List Int32) (h0 : Heap) (n0 : Nat) (v : Option Value) (h : Heap) (L : List Loc) : Prop := ∃ x : Addr, v = some (.ref x) ∧ Fr n0 L ∧ h0.size ≤ x ∧ Keep h0 h [] ∧ own_st Z h x cs
theorem d17_0 : decode jdk_42_method_150_code 0 = .ok (.aload_n 0, 1) := by decide +kernel
theorem d17_1 : decode jdk_42_method_150_code 1 = .ok (.invokespecial 1, 3) := by decide +kernel
theorem d17_4 : decode jdk_42_method_150_code 4 = .ok (.aload_n 1, 1) := by decide +kernel
theorem pd____B : parseMethodDescriptor "()[B" = some ⟨[], some (.array .byte)⟩ := by decide +kernel
theorem d17_5 : decode jdk_42_method_150_code 5 = .ok (.invokevirtual 552, 3) := by decide +kernel
theorem d17_8 : decode jdk_42_method_150_code 8 = .ok (.astore_n 3, 1) := by decide +kernel
theorem d17_9 : decode jdk_42_method_150_code 9 = .ok (.aload_n 1, 1) := by decide +kernel
theorem d17_10 : decode jdk_42_method_150_code 10 = .ok (.invokevirtual 549, 3) := by decide +kernel
theorem d17_13 : decode jdk_42_method_150_code 13 = .ok (.istore 4, 2) := by decide +kernel
theorem d17_15 : decode jdk_42_method_150_code 15 = .ok (.aload_n 1, 1) := by decide +kernel
theorem d17_16 : decode jdk_42_method_150_code 16 = .ok (.invokevirtual 1047, 3) := by decide +kernel
theorem d17_19 : decode jdk_42_method_150_code 19 = .ok (.ifCond .eq 22, 3) := by decide +kernel
theorem d17_22 : decode jdk_42_method_150_code 22 = .ok (.aload_n 0, 1) := by decide +kernel
theorem d17_23 : decode jdk_42_method_150_code 23 = .ok (.iconst 0, 1) := by decide +kernel
theorem d17_24 : decode jdk_42_method_150_code 24 = .ok (.putfield 15, 3) := by decide +kernel
theorem d17_27 : decode jdk_42_method_150_code 27 = .ok (.aload_n 0, 1) := by decide +kernel
theorem d17_28 : decode jdk_42_method_150_code 28 = .ok (.aload_n 3, 1) := by decide +kernel
theorem d17_29 : decode jdk_42_method_150_code 29 = .ok (.iconst 0, 1) := by decide +kernel
theorem d17_30 : decode jdk_42_method_150_code 30 = .ok (.iload 4, 2) := by decide +kernel
theorem d17_32 : decode jdk_42_method_150_code 32 = .ok (.invokestatic 54, 3) := by decide +kernel
theorem d17_35 : decode jdk_42_method_150_code 35 = .ok (.putfield 9, 3) := by decide +kernel
theorem d17_38 : decode jdk_42_method_150_code 38 = .ok (.goto 59, 3) := by decide +kernel
theorem d17_97 : decode jdk_42_method_150_code 97 = .ok (.return_, 1) := by decide +kernel
theorem d17_41 : decode jdk_42_method_150_code 41 = .ok (.getstatic 38, 3) := by decide +kernel
theorem d17_44 : decode jdk_42_method_150_code 44 = .ok (.ifCond .eq 35, 3) := by decide +kernel
theorem d17_47 : decode jdk_42_method_150_code 47 = .ok (.aload_n 1, 1) := by decide +kernel
theorem d17_48 : decode jdk_42_method_150_code 48 = .ok (.getfield 1048, 3) := by decide +kernel
theorem d17_51 : decode jdk_42_method_150_code 51 = .ok (.ifCond .eq 28, 3) := by decide +kernel
theorem d17_79 : decode jdk_42_method_150_code 79 = .ok (.aload_n 0, 1) := by decide +kernel
theorem d17_80 : decode jdk_42_method_150_code 80 = .ok (.iconst 1, 1) := by decide +kernel
theorem d17_81 : decode jdk_42_method_150_code 81 = .ok (.putfield 15, 3) := by decide +kernel
theorem d17_84 : decode jdk_42_method_150_code 84 = .ok (.aload_n 0, 1) := by decide +kernel
theorem d17_85 : decode jdk_42_method_150_code 85 = .ok (.aload_n 3, 1) := by decide +kernel
theorem d17_86 : decode jdk_42_method_150_code 86 = .ok (.iconst 0, 1) := by decide +kernel
theorem d17_87 : decode jdk_42_method_150_code 87 = .ok (.iload 4, 2) := by decide +kernel
theorem d17_89 : decode jdk_42_method_150_code 89 = .ok (.iconst 1, 1) := by decide +kernel
theorem d17_90 : decode jdk_42_method_150_code 90 = .ok (.ishl, 1) := by decide +kernel
theorem d17_91 : decode jdk_42_method_150_code 91 = .ok (.invokestatic 54, 3) := by decide +kernel
theorem d17_94 : decode jdk_42_method_150_code 94 = .ok (.putfield 9, 3) := by decide +kernel
theorem pn_17 : plainName "java/lang/String" = true := by first | (simp [plainName, overriddenIn]; done) | decide +kernel
theorem ef_17_rrn (m : MethodId) (x0 : Addr) (x1 : Addr) : entryFrame m #[(.ref x0), (.ref x1), .null] 5 = mkF m 0 #[.val (.ref x0), .val (.ref x1), .val .null, .unset, .unset] [] := by first | (simp [entryFrame, mkF, argsToLocals, Value.category]; done) | rfl
set_option maxRecDepth 65536 in
set_option maxHeartbeats 40000000 in
theorem rmSI_l (l : Launch) (Z : State) (a0 : Array Value) (hw : ∀ d ∈ tables_1, d.before a0 Z = true) (ws : List Jvm.Cond) (G1 : Int32) (G3 : Value) (G4 : Value) (x : Addr) (a : Addr) (t : Addr) (k : ClassId) (cs : List Int32) (h0 : Heap) (n0 : Nat) (Z0 : n0 ≤ h0.size) (EN : own_env Z G1 G3 G4) (X00 : Old Z n0 h0) (E_x : Exa Z h0 x "java/lang/String") (F_value_x : Fld Z h0 x "java/lang/String" "value" "[B" .null) (F_coder_x : Fld Z h0 x "java/lang/String" "coder" "B" (.int 0)) (g_x : n0 ≤ x) (hxa : x ≠ a) (hxt : x ≠ t) (E_a : Exa Z h0 a "java/lang/StringBuilder") (F_value_a : Fld Z h0 a "java/lang/AbstractStringBuilder" "value" "[B" (.ref t)) (F_coder_a : Fld Z h0 a "java/lang/AbstractStringBuilder" "coder" "B" (.int 0)) (F_count_a : Fld Z h0 a "java/lang/AbstractStringBuilder" "count" "I" (.int (Int32.ofNat cs.length))) (F_maybeLatin1_a : Fld Z h0 a "java/lang/AbstractStringBuilder" "maybeLatin1" "Z" (.int 0)) (V_t : Arv Z h0 t k .byte (Int32.ofNat 16) (own_lat cs) (.int 0)) (hl : own_l1 cs) (hlen : cs.length ≤ 15) (g_a : n0 ≤ a) (g_t : n0 ≤ t) :
    MetFree l (⟨"java/lang/String", "<init>", "(Ljava/lang/AbstractStringBuilder;Ljava/lang/Void;)V"⟩ : MethodName) (head1 (Jvm.Cond.code (⟨"java/lang/String", "<init>", "(Ljava/lang/AbstractStringBuilder;Ljava/lang/Void;)V"⟩ : MethodName) jdk_42_method_150_code 5 none :: ws) ({ frames := 3, cells := 1, slots := 32, locals := 49 } : Room)) (fun a_ U_ => a_ = #[(.ref x), (.ref a), .null] ∧ Z.Warmed39 U_.vm ∧ U_.heap = h0) (fun _ _ _ _ _ => True) (fun _ U_ o_ U1_ => ∃ v_ L_, o_ = .returned v_ ∧ own_QS Z x cs h0 n0 v_ U1_.heap L_ ∧ FrameEnd U_ o_ U1_ L_ ({ frames := 3, cells := 1, slots := 32, locals := 49 } : Room).cells ({ frames := 3, cells := 1, slots := 32, locals := 49 } : Room).slots) := by
  refine MetFree.of_bodySF (plainFor_of_name pn_17) hisR ?_
  intro p e s m args below meth c s₁ Bd hml0 hP hK
  obtain ⟨rfl, hZ, hh⟩ := hP
  have hx := Bd.exec
  have hby := Bd.bytes
  have hml : c.maxLocals = 5 := hml0
  have hown : s.vm.findClass "java/lang/String" = some m.cls := findClass_of_methodNamed Bd.named
  have hnm := (name_of_methodNamed Bd.named Bd.method).1
  have X0 : Stand p l e ({ frames := 3, cells := 1, slots := 32, locals := 49 } : Room) s m #[(.ref x), (.ref a), .null] below meth c s₁ [] 0 0 := Stand.of_body Bd
  have e0 : s₁.heap = h0 := by rw [← hh, Bd.state]; rfl
  have N0 := Fr.nil n0
  have pre0 : ∀ tt, Steps p.tables e below (s₁.setTop (mkF m 0 #[.val (.ref x), .val (.ref a), .val .null, .unset, .unset] [])) tt → Steps p.tables e below (s₁.setTop (entryFrame m #[(.ref x), (.ref a), .null] 5)) tt := fun tt kk => castTop (ef_17_rrn m x a) kk
  have EN0 := EN
  obtain ⟨O2, P5, O4, rG3, O5, rG4, O6, O7, O8⟩ := EN
  obtain ⟨T1, X1, e1, st1⟩ := initO X0 hx hZ hown (hw _ (tk 101 rfl)) (hw _ (tk 14 rfl)) (hw _ (tk 15 rfl)) e0 (g := (mkF m 1 #[.val (.ref x), .val (.ref a), .val .null, .unset, .unset] [(.ref x)])) rfl (by rw [hml]; rfl) rfl (hb hby d17_1) (by decide) (W := 0) (by show 2 * 0 + _ ≤ _; exact Nat.le_of_eq rfl) (by decide)
  obtain ⟨cq2, kq2, q2a, q2b, q2c⟩ := isOf hZ e1 E_a
  obtain ⟨_, _, ⟨T2, L2, k2, n2⟩, -, X2, ⟨Lc2, hQ2, l2, y2, z2⟩, st2⟩ := X1.virtualBack hx (y := (⟨"java/lang/AbstractStringBuilder", "getValue", "()[B"⟩ : MethodName)) (z := (⟨"java/lang/AbstractStringBuilder", "getValue", "()[B"⟩ : MethodName)) hown (mvT hZ (hw _ (tk 102 rfl))) (mvT hZ (hw _ (tk 103 rfl))) (notFace_of_selects (args := #[]) (mvT hZ (hw _ (tk 105 rfl)))) (mvT hZ (hw _ (tk 105 rfl))) (mvT hZ (hw _ (tk 104 rfl))) (by decide) (backOf (W := 0) (rmGV l Z a0 hw [] a t h0 n0 Z0 E_a F_value_a) hZ (hw _ (tk 106 rfl)) (hw _ (tk 28 rfl)) (by decide) (by decide)) q2a q2c (g := (mkF m 5 #[.val (.ref x), .val (.ref a), .val .null, .unset, .unset] [(.ref a)])) rfl (by rw [hml]; rfl) (Steps.refl _) (argsL := []) (rest := []) (lenOf pd____B rfl) rfl (by show 2 * 0 + _ ≤ _; exact Nat.le_of_eq rfl) (hb hby d17_5) (fun _ _ => ⟨rfl, e1, (by decide : 0 + 0 ≤ _), (by decide : 0 + 0 ≤ _)⟩)
  dsimp only [Pt.U, Pt.locs, Pt.cells, Pt.slots] at X2 l2 y2 z2 st2 hQ2
  subst l2 y2 z2
  obtain ⟨rfl, Nq2, eq2⟩ := hQ2
  have N2 := Fr.app N0 Nq2
  obtain ⟨cq3, kq3, q3a, q3b, q3c⟩ := isOf hZ eq2 E_a
  obtain ⟨_, _, ⟨T3, L3, k3, n3⟩, -, X3, ⟨Lc3, hQ3, l3, y3, z3⟩, st3⟩ := X2.virtualBack hx (y := (⟨"java/lang/AbstractStringBuilder", "length", "()I"⟩ : MethodName)) (z := (⟨"java/lang/StringBuilder", "length", "()I"⟩ : MethodName)) hown (mvT hZ (hw _ (tk 107 rfl))) (mvT hZ (hw _ (tk 108 rfl))) (own_nf (a := #[]) (y := (⟨"java/lang/AbstractStringBuilder", "length", "()I"⟩ : MethodName)) (mvT hZ (hw _ (tk 66 rfl))) rfl) (mvT hZ (hw _ (tk 110 rfl))) (mvT hZ (hw _ (tk 111 rfl))) (by decide) (backOf (W := 0) (rmSLN l Z a0 hw [] a (Int32.ofNat cs.length) h0 n0 Z0 E_a F_count_a) hZ (hw _ (tk 112 rfl)) (hw _ (tk 20 rfl)) (by decide) (by decide)) q3a q3c (g := (mkF m 10 #[.val (.ref x), .val (.ref a), .val .null, .val (.ref t), .unset] [(.ref a)])) rfl (by rw [hml]; rfl) (Steps.refl _) (argsL := []) (rest := []) (lenOf pd___I rfl) rfl (by show 2 * 0 + _ ≤ _; exact Nat.le_of_eq rfl) (hb hby d17_10) (fun _ _ => ⟨rfl, eq2, (by decide : 0 + 0 ≤ _), (by decide : 0 + 0 ≤ _)⟩)
  dsimp only [Pt.U, Pt.locs, Pt.cells, Pt.slots] at X3 l3 y3 z3 st3 hQ3
  subst l3 y3 z3
  obtain ⟨rfl, Nq3, eq3⟩ := hQ3
  have N3 := Fr.app N2 Nq3
  obtain ⟨cq4, kq4, q4a, q4b, q4c⟩ := isOf hZ eq3 E_a
  obtain ⟨_, _, ⟨T4, L4, k4, n4⟩, -, X4, ⟨Lc4, hQ4, l4, y4, z4⟩, st4⟩ := X3.virtualBack hx (y := (⟨"java/lang/AbstractStringBuilder", "isLatin1", "()Z"⟩ : MethodName)) (z := (⟨"java/lang/AbstractStringBuilder", "isLatin1", "()Z"⟩ : MethodName)) hown (mvT hZ (hw _ (tk 115 rfl))) (mvT hZ (hw _ (tk 74 rfl))) (notFace_of_selects (args := #[]) (mvT hZ (hw _ (tk 76 rfl)))) (mvT hZ (hw _ (tk 76 rfl))) (mvT hZ (hw _ (tk 75 rfl))) (by decide) (backOf (W := 0) (rmIL0 l Z a0 hw [] G1 G3 G4 a h0 n0 Z0 EN0 X00 E_a F_coder_a) hZ (hw _ (tk 77 rfl)) (hw _ (tk 28 rfl)) (by decide) (by decide)) q4a q4c (g := (mkF m 16 #[.val (.ref x), .val (.ref a), .val .null, .val (.ref t), .val (.int (Int32.ofNat cs.length))] [(.ref a)])) rfl (by rw [hml]; rfl) (Steps.refl _) (argsL := []) (rest := []) (lenOf pd___Z rfl) rfl (by show 2 * 0 + _ ≤ _; exact Nat.le_of_eq rfl) (hb hby d17_16) (fun _ _ => ⟨rfl, eq3, (by decide : 0 + 0 ≤ _), (by decide : 0 + 0 ≤ _)⟩)
  dsimp only [Pt.U, Pt.locs, Pt.cells, Pt.slots] at X4 l4 y4 z4 st4 hQ4
  subst l4 y4 z4
  obtain ⟨rfl, Nq4, eq4⟩ := hQ4
  have N4 := Fr.app N3 Nq4
  obtain ⟨T5, h5, X5, e5, W5, st5⟩ := putFN X4 hx hZ hown (hw _ (tk 116 rfl)) Via.refl eq4 F_coder_x E_x (Or.inr ⟨(hw _ (tk 117 rfl)), rfl, hnm⟩) (hw _ (tk 93 rfl)) (ty := .byte) (v' := (.int 0)) (by decide) rfl (by decide) (g := (mkF m 24 #[.val (.ref x), .val (.ref a), .val .null, .val (.ref t), .val (.int (Int32.ofNat cs.length))] [(.int 0), (.ref x)])) rfl rfl (hb hby d17_24)
  have Fw5 := F_coder_x.same W5
  have N5 := Fr.snoc X5 N4 g_x
  have f7 := (V_t.other W5 (Ne.symm hxt))
  obtain ⟨_, _, ⟨T6, L6, k6, n6⟩, -, X6, ⟨Lc6, hQ6, l6, y6, z6⟩, st6⟩ := Jvm.LawKit.callS X5 hx (y := (⟨"java/util/Arrays", "copyOfRange", "([BII)[B"⟩ : MethodName)) hown (mvT hZ (hw _ (tk 118 rfl))) (mvT hZ (hw _ (tk 119 rfl))) (mvT hZ (hw _ (tk 120 rfl))) (mvT hZ (hw _ (tk 121 rfl))) (by decide) (backOf (W := 1) (rmCR l Z a0 hw [] t k 16 (own_lat cs) cs.length h5 n0 (Nat.le_trans Z0 (Keep.of_wr W5).1) f7 (own_lat_len cs) (by omega) (by decide)) hZ (hw _ (tk 121 rfl)) (hw _ (tk 120 rfl)) (by decide) (by decide)) (g := (mkF m 32 #[.val (.ref x), .val (.ref a), .val .null, .val (.ref t), .val (.int (Int32.ofNat cs.length))] [(.int (Int32.ofNat cs.length)), (.int 0), (.ref t), (.ref x)])) rfl (by rw [hml]; rfl) (argsL := [(.ref t), (.int 0), (.int (Int32.ofNat cs.length))]) (rest := [(.ref x)]) (lenOf pd___BII__B rfl) rfl (by show 2 * 0 + _ ≤ _; exact Nat.le_of_eq rfl) (hb hby d17_32) (fun _ _ => ⟨rfl, e5, (by decide : 0 + 1 ≤ _), (by decide : 0 + 32 ≤ _)⟩)
  dsimp only [Pt.U, Pt.locs, Pt.cells, Pt.slots] at X6 l6 y6 z6 st6 hQ6
  subst l6 y6 z6
  obtain ⟨t6, k6q, rfl, Nq6, gt6, sq6, Kq6, V6q⟩ := hQ6
  have N6 := Fr.app N5 Nq6
  have szt6 : h0.size ≤ t6 := Nat.le_trans (Keep.of_wr W5).1 sq6
  have f9 := ((E_x.wr W5).keep Kq6)
  have f10 := ((F_value_x.other W5 (Or.inr (slot_ne (Or.inr (hw _ (tk 137 rfl))) (Or.inr (hw _ (tk 117 rfl))) (by decide) (t := (.array .byte)) (t' := .byte) (by decide) (by decide)))).keep Kq6 nin0)
  obtain ⟨T8, h8, X8, e8, W8, st8⟩ := putF X6 hx hZ hown (host := "") (Or.inl (hw _ (tk 136 rfl))) Via.refl rfl f10 f9 (Or.inr ⟨(hw _ (tk 137 rfl)), rfl, hnm⟩) (hw _ (tk 93 rfl)) (ty := (.array .byte)) (by decide) rfl rfl (g := (mkF m 35 #[.val (.ref x), .val (.ref a), .val .null, .val (.ref t), .val (.int (Int32.ofNat cs.length))] [(.ref t6), (.ref x)])) rfl rfl (hb hby d17_35)
  have Fw8 := f10.same W8
  have N8 := Fr.snoc X8 N6 g_x
  have f11 := (f9.wr W8)
  have f12 := ((Fw5.keep Kq6 nin0).other W8 (Or.inr (slot_ne (Or.inr (hw _ (tk 117 rfl))) (Or.inr (hw _ (tk 137 rfl))) (by decide) (t := .byte) (t' := (.array .byte)) (by decide) (by decide))))
  have f13 := (V6q.other W8 (Ne.symm (Nat.ne_of_lt (Nat.lt_of_lt_of_le (Nat.lt_of_lt_of_le E_x.lt (Keep.of_wr W5).1) sq6))))
  obtain ⟨fs, hr, hrun, hended, hW, hsame⟩ := X8.leave (v := none) (fun _ => rfl)
  refine ⟨_, _, pre0 _ ?_, hrun, hended, _, _, rfl, ?_, ⟨_, rfl⟩, hW, hsame.mono (by decide) (by decide)⟩
  · show Steps p.tables e below (s₁.setTop (mkF m 0 #[.val (.ref x), .val (.ref a), .val .null, .unset, .unset] [])) _
    refine XS.aloadN X0.here hx rfl (hb hby d17_0) rfl rfl ?_
    show Steps p.tables e below (s₁.setTop (mkF m 1 #[.val (.ref x), .val (.ref a), .val .null, .unset, .unset] [(.ref x)])) _
    refine st1 _ ?_
    show Steps p.tables e below (T1.setTop (mkF m 4 #[.val (.ref x), .val (.ref a), .val .null, .unset, .unset] [])) _
    refine XS.aloadN X1.here hx rfl (hb hby d17_4) rfl rfl ?_
    show Steps p.tables e below (T1.setTop (mkF m 5 #[.val (.ref x), .val (.ref a), .val .null, .unset, .unset] [(.ref a)])) _
    refine st2.trans ?_
    show Steps p.tables e below (T2.setTop (mkF m 8 #[.val (.ref x), .val (.ref a), .val .null, .unset, .unset] [(.ref t)])) _
    refine XS.astoreN X2.here hx rfl (hb hby d17_8) rfl rfl (l' := #[.val (.ref x), .val (.ref a), .val .null, .val (.ref t), .unset]) rfl ?_
    refine XS.aloadN X2.here hx rfl (hb hby d17_9) rfl rfl ?_
    show Steps p.tables e below (T2.setTop (mkF m 10 #[.val (.ref x), .val (.ref a), .val .null, .val (.ref t), .unset] [(.ref a)])) _
    refine st3.trans ?_
    show Steps p.tables e below (T3.setTop (mkF m 13 #[.val (.ref x), .val (.ref a), .val .null, .val (.ref t), .unset] [(.int (Int32.ofNat cs.length))])) _
    refine XS.istore X3.here hx rfl (hb hby d17_13) rfl (l' := #[.val (.ref x), .val (.ref a), .val .null, .val (.ref t), .val (.int (Int32.ofNat cs.length))]) rfl ?_
    refine XS.aloadN X3.here hx rfl (hb hby d17_15) rfl rfl ?_
    show Steps p.tables e below (T3.setTop (mkF m 16 #[.val (.ref x), .val (.ref a), .val .null, .val (.ref t), .val (.int (Int32.ofNat cs.length))] [(.ref a)])) _
    refine st4.trans ?_
    show Steps p.tables e below (T4.setTop (mkF m 19 #[.val (.ref x), .val (.ref a), .val .null, .val (.ref t), .val (.int (Int32.ofNat cs.length))] [(.int 1)])) _
    refine XS.ifNo X4.here hx rfl (hb hby d17_19) rfl ((if0 _ _).trans (feq (by decide : ¬ ((1 : Int32) = (0 : Int32)))).1) ?_
    refine XS.aloadN X4.here hx rfl (hb hby d17_22) rfl rfl ?_
    refine XS.iconst X4.here hx rfl (hb hby d17_23) ?_
    show Steps p.tables e below (T4.setTop (mkF m 24 #[.val (.ref x), .val (.ref a), .val .null, .val (.ref t), .val (.int (Int32.ofNat cs.length))] [(.int 0), (.ref x)])) _
    refine st5 _ ?_
    show Steps p.tables e below (T5.setTop (mkF m 27 #[.val (.ref x), .val (.ref a), .val .null, .val (.ref t), .val (.int (Int32.ofNat cs.length))] [])) _
    refine XS.aloadN X5.here hx rfl (hb hby d17_27) rfl rfl ?_
    refine XS.aloadN X5.here hx rfl (hb hby d17_28) rfl rfl ?_
    refine XS.iconst X5.here hx rfl (hb hby d17_29) ?_
    refine XS.iload X5.here hx rfl (hb hby d17_30) rfl ?_
    show Steps p.tables e below (T5.setTop (mkF m 32 #[.val (.ref x), .val (.ref a), .val .null, .val (.ref t), .val (.int (Int32.ofNat cs.length))] [(.int (Int32.ofNat cs.length)), (.int 0), (.ref t), (.ref x)])) _
    refine st6 _ ?_
    show Steps p.tables e below (T6.setTop (mkF m 35 #[.val (.ref x), .val (.ref a), .val .null, .val (.ref t), .val (.int (Int32.ofNat cs.length))] [(.ref t6), (.ref x)])) _
    refine st8 _ ?_
    show Steps p.tables e below (T8.setTop (mkF m 38 #[.val (.ref x), .val (.ref a), .val .null, .val (.ref t), .val (.int (Int32.ofNat cs.length))] [])) _
    refine XS.goto X8.here hx rfl (pc0 := 38) (pc' := 97) rfl (hb hby d17_38) (by decide) (by decide) ?_
    show Steps p.tables e below (T8.setTop (mkF m 97 #[.val (.ref x), .val (.ref a), .val .null, .val (.ref t), .val (.int (Int32.ofNat cs.length))] [])) _
    exact X8.returnOut hx Bd.returns (hb hby d17_97) hr
  · show own_QS Z x cs h0 n0 _ T8.heap _
    rw [e8]
    exact ⟨rfl, N8, ((((Keep.refl h0 [x]).wr W5 (Or.inl (tk 0 rfl))).trans Kq6 all0).wr W8 (Or.inl (tk 0 rfl))), t6, k6q, f11, Fw8, Or.inl ⟨f12, f13, hl⟩⟩
set_option maxRecDepth 65536 in
set_option maxHeartbeats 40000000 in
theorem rmSI_w (l : Launch) (Z : State) (a0 : Array Value) (hw : ∀ d ∈ tables_1, d.before a0 Z = true) (ws : List Jvm.Cond) (G1 : Int32) (G3 : Value) (G4 : Value) (x : Addr) (a : Addr) (t : Addr) (k : ClassId) (cs : List Int32) (h0 : Heap) (n0 : Nat) (Z0 : n0 ≤ h0.size) (EN : own_env Z G1 G3 G4) (X00 : Old Z n0 h0) (E_x : Exa Z h0 x "java/lang/String") (F_value_x : Fld Z h0 x "java/lang/String" "value" "[B" .null) (F_coder_x : Fld Z h0 x "java/lang/String" "coder" "B" (.int 0)) (g_x : n0 ≤ x) (hxa : x ≠ a) (hxt : x ≠ t) (E_a : Exa Z h0 a "java/lang/StringBuilder") (F_value_a : Fld Z h0 a "java/lang/AbstractStringBuilder" "value" "[B" (.ref t)) (F_coder_a : Fld Z h0 a "java/lang/AbstractStringBuilder" "coder" "B" (.int 1)) (F_count_a : Fld Z h0 a "java/lang/AbstractStringBuilder" "count" "I" (.int (Int32.ofNat cs.length))) (F_maybeLatin1_a : Fld Z h0 a "java/lang/AbstractStringBuilder" "maybeLatin1" "Z" (.int 0)) (V_t : Arv Z h0 t k .byte (Int32.ofNat (2 * 16)) (own_wide cs) (.int 0)) (hlen : cs.length ≤ 15) (g_a : n0 ≤ a) (g_t : n0 ≤ t) :
    MetFree l (⟨"java/lang/String", "<init>", "(Ljava/lang/AbstractStringBuilder;Ljava/lang/Void;)V"⟩ : MethodName) (head1 (Jvm.Cond.code (⟨"java/lang/String", "<init>", "(Ljava/lang/AbstractStringBuilder;Ljava/lang/Void;)V"⟩ : MethodName) jdk_42_method_150_code 5 none :: ws) ({ frames := 3, cells := 1, slots := 32, locals := 49 } : Room)) (fun a_ U_ => a_ = #[(.ref x), (.ref a), .null] ∧ Z.Warmed39 U_.vm ∧ U_.heap = h0) (fun _ _ _ _ _ => True) (fun _ U_ o_ U1_ => ∃ v_ L_, o_ = .returned v_ ∧ own_QS Z x cs h0 n0 v_ U1_.heap L_ ∧ FrameEnd U_ o_ U1_ L_ ({ frames := 3, cells := 1, slots := 32, locals := 49 } : Room).cells ({ frames := 3, cells := 1, slots := 32, locals := 49 } : Room).slots) := by
  refine MetFree.of_bodySF (plainFor_of_name pn_17) hisR ?_
  intro p e s m args below meth c s₁ Bd hml0 hP hK
  obtain ⟨rfl, hZ, hh⟩ := hP
  have hx := Bd.exec
  have hby := Bd.bytes
  have hml : c.maxLocals = 5 := hml0
  have hown : s.vm.findClass "java/lang/String" = some m.cls := findClass_of_methodNamed Bd.named
  have hnm := (name_of_methodNamed Bd.named Bd.method).1
  have X0 : Stand p l e ({ frames := 3, cells := 1, slots := 32, locals := 49 } : Room) s m #[(.ref x), (.ref a), .null] below meth c s₁ [] 0 0 := Stand.of_body Bd
  have e0 : s₁.heap = h0 := by rw [← hh, Bd.state]; rfl
  have N0 := Fr.nil n0
  have pre0 : ∀ tt, Steps p.tables e below (s₁.setTop (mkF m 0 #[.val (.ref x), .val (.ref a), .val .null, .unset, .unset] [])) tt → Steps p.tables e below (s₁.setTop (entryFrame m #[(.ref x), (.ref a), .null] 5)) tt := fun tt kk => castTop (ef_17_rrn m x a) kk
  have EN0 := EN
  obtain ⟨O2, P5, O4, rG3, O5, rG4, O6, O7, O8⟩ := EN
  obtain ⟨T1, X1, e1, st1⟩ := initO X0 hx hZ hown (hw _ (tk 101 rfl)) (hw _ (tk 14 rfl)) (hw _ (tk 15 rfl)) e0 (g := (mkF m 1 #[.val (.ref x), .val (.ref a), .val .null, .unset, .unset] [(.ref x)])) rfl (by rw [hml]; rfl) rfl (hb hby d17_1) (by decide) (W := 0) (by show 2 * 0 + _ ≤ _; exact Nat.le_of_eq rfl) (by decide)
  obtain ⟨cq2, kq2, q2a, q2b, q2c⟩ := isOf hZ e1 E_a
  obtain ⟨_, _, ⟨T2, L2, k2, n2⟩, -, X2, ⟨Lc2, hQ2, l2, y2, z2⟩, st2⟩ := X1.virtualBack hx (y := (⟨"java/lang/AbstractStringBuilder", "getValue", "()[B"⟩ : MethodName)) (z := (⟨"java/lang/AbstractStringBuilder", "getValue", "()[B"⟩ : MethodName)) hown (mvT hZ (hw _ (tk 102 rfl))) (mvT hZ (hw _ (tk 103 rfl))) (notFace_of_selects (args := #[]) (mvT hZ (hw _ (tk 105 rfl)))) (mvT hZ (hw _ (tk 105 rfl))) (mvT hZ (hw _ (tk 104 rfl))) (by decide) (backOf (W := 0) (rmGV l Z a0 hw [] a t h0 n0 Z0 E_a F_value_a) hZ (hw _ (tk 106 rfl)) (hw _ (tk 28 rfl)) (by decide) (by decide)) q2a q2c (g := (mkF m 5 #[.val (.ref x), .val (.ref a), .val .null, .unset, .unset] [(.ref a)])) rfl (by rw [hml]; rfl) (Steps.refl _) (argsL := []) (rest := []) (lenOf pd____B rfl) rfl (by show 2 * 0 + _ ≤ _; exact Nat.le_of_eq rfl) (hb hby d17_5) (fun _ _ => ⟨rfl, e1, (by decide : 0 + 0 ≤ _), (by decide : 0 + 0 ≤ _)⟩)
  dsimp only [Pt.U, Pt.locs, Pt.cells, Pt.slots] at X2 l2 y2 z2 st2 hQ2
  subst l2 y2 z2
  obtain ⟨rfl, Nq2, eq2⟩ := hQ2
  have N2 := Fr.app N0 Nq2
  obtain ⟨cq3, kq3, q3a, q3b, q3c⟩ := isOf hZ eq2 E_a
  obtain ⟨_, _, ⟨T3, L3, k3, n3⟩, -, X3, ⟨Lc3, hQ3, l3, y3, z3⟩, st3⟩ := X2.virtualBack hx (y := (⟨"java/lang/AbstractStringBuilder", "length", "()I"⟩ : MethodName)) (z := (⟨"java/lang/StringBuilder", "length", "()I"⟩ : MethodName)) hown (mvT hZ (hw _ (tk 107 rfl))) (mvT hZ (hw _ (tk 108 rfl))) (own_nf (a := #[]) (y := (⟨"java/lang/AbstractStringBuilder", "length", "()I"⟩ : MethodName)) (mvT hZ (hw _ (tk 66 rfl))) rfl) (mvT hZ (hw _ (tk 110 rfl))) (mvT hZ (hw _ (tk 111 rfl))) (by decide) (backOf (W := 0) (rmSLN l Z a0 hw [] a (Int32.ofNat cs.length) h0 n0 Z0 E_a F_count_a) hZ (hw _ (tk 112 rfl)) (hw _ (tk 20 rfl)) (by decide) (by decide)) q3a q3c (g := (mkF m 10 #[.val (.ref x), .val (.ref a), .val .null, .val (.ref t), .unset] [(.ref a)])) rfl (by rw [hml]; rfl) (Steps.refl _) (argsL := []) (rest := []) (lenOf pd___I rfl) rfl (by show 2 * 0 + _ ≤ _; exact Nat.le_of_eq rfl) (hb hby d17_10) (fun _ _ => ⟨rfl, eq2, (by decide : 0 + 0 ≤ _), (by decide : 0 + 0 ≤ _)⟩)
  dsimp only [Pt.U, Pt.locs, Pt.cells, Pt.slots] at X3 l3 y3 z3 st3 hQ3
  subst l3 y3 z3
  obtain ⟨rfl, Nq3, eq3⟩ := hQ3
  have N3 := Fr.app N2 Nq3
  obtain ⟨cq4, kq4, q4a, q4b, q4c⟩ := isOf hZ eq3 E_a
  obtain ⟨_, _, ⟨T4, L4, k4, n4⟩, -, X4, ⟨Lc4, hQ4, l4, y4, z4⟩, st4⟩ := X3.virtualBack hx (y := (⟨"java/lang/AbstractStringBuilder", "isLatin1", "()Z"⟩ : MethodName)) (z := (⟨"java/lang/AbstractStringBuilder", "isLatin1", "()Z"⟩ : MethodName)) hown (mvT hZ (hw _ (tk 115 rfl))) (mvT hZ (hw _ (tk 74 rfl))) (notFace_of_selects (args := #[]) (mvT hZ (hw _ (tk 76 rfl)))) (mvT hZ (hw _ (tk 76 rfl))) (mvT hZ (hw _ (tk 75 rfl))) (by decide) (backOf (W := 0) (rmIL1 l Z a0 hw [] G1 G3 G4 a h0 n0 Z0 EN0 X00 E_a F_coder_a) hZ (hw _ (tk 77 rfl)) (hw _ (tk 28 rfl)) (by decide) (by decide)) q4a q4c (g := (mkF m 16 #[.val (.ref x), .val (.ref a), .val .null, .val (.ref t), .val (.int (Int32.ofNat cs.length))] [(.ref a)])) rfl (by rw [hml]; rfl) (Steps.refl _) (argsL := []) (rest := []) (lenOf pd___Z rfl) rfl (by show 2 * 0 + _ ≤ _; exact Nat.le_of_eq rfl) (hb hby d17_16) (fun _ _ => ⟨rfl, eq3, (by decide : 0 + 0 ≤ _), (by decide : 0 + 0 ≤ _)⟩)
  dsimp only [Pt.U, Pt.locs, Pt.cells, Pt.slots] at X4 l4 y4 z4 st4 hQ4
  subst l4 y4 z4
  obtain ⟨rfl, Nq4, eq4⟩ := hQ4
  have N4 := Fr.app N3 Nq4
  obtain ⟨T5, X5, e5, st5⟩ := getS2 X4 hx hZ hown (host := "") (Or.inl (hw _ (tk 148 rfl))) Via.refl eq4 (Sta.ext X00.2 O2) (g := (mkF m 41 #[.val (.ref x), .val (.ref a), .val .null, .val (.ref t), .val (.int (Int32.ofNat cs.length))] [])) rfl (hb hby d17_41)
  obtain ⟨T6, X6, e6, st6⟩ := getF X5 hx hZ hown (host := "") (Or.inl (hw _ (tk 240 rfl))) Via.refl e5 F_maybeLatin1_a (g := (mkF m 48 #[.val (.ref x), .val (.ref a), .val .null, .val (.ref t), .val (.int (Int32.ofNat cs.length))] [(.ref a)])) rfl rfl (hb hby d17_48)
  obtain ⟨T7, h7, X7, e7, W7, st7⟩ := putFN X6 hx hZ hown (hw _ (tk 116 rfl)) Via.refl e6 F_coder_x E_x (Or.inr ⟨(hw _ (tk 117 rfl)), rfl, hnm⟩) (hw _ (tk 93 rfl)) (ty := .byte) (v' := (.int 1)) (by decide) rfl (by decide) (g := (mkF m 81 #[.val (.ref x), .val (.ref a), .val .null, .val (.ref t), .val (.int (Int32.ofNat cs.length))] [(.int 1), (.ref x)])) rfl rfl (hb hby d17_81)
  have Fw7 := F_coder_x.same W7
  have N7 := Fr.snoc X7 N4 g_x
  have f9 := (V_t.other W7 (Ne.symm hxt))
  obtain ⟨_, _, ⟨T8, L8, k8, n8⟩, -, X8, ⟨Lc8, hQ8, l8, y8, z8⟩, st8⟩ := Jvm.LawKit.callS X7 hx (y := (⟨"java/util/Arrays", "copyOfRange", "([BII)[B"⟩ : MethodName)) hown (mvT hZ (hw _ (tk 118 rfl))) (mvT hZ (hw _ (tk 119 rfl))) (mvT hZ (hw _ (tk 120 rfl))) (mvT hZ (hw _ (tk 121 rfl))) (by decide) (backOf (W := 1) (rmCR l Z a0 hw [] t k (2 * 16) (own_wide cs) (2 * cs.length) h7 n0 (Nat.le_trans Z0 (Keep.of_wr W7).1) f9 (own_wide_len cs) (by omega) (by decide)) hZ (hw _ (tk 121 rfl)) (hw _ (tk 120 rfl)) (by decide) (by decide)) (g := (mkF m 91 #[.val (.ref x), .val (.ref a), .val .null, .val (.ref t), .val (.int (Int32.ofNat cs.length))] [(.int (Int32.ofNat (2 * cs.length))), (.int 0), (.ref t), (.ref x)])) rfl (by rw [hml]; rfl) (argsL := [(.ref t), (.int 0), (.int (Int32.ofNat (2 * cs.length)))]) (rest := [(.ref x)]) (lenOf pd___BII__B rfl) rfl (by show 2 * 0 + _ ≤ _; exact Nat.le_of_eq rfl) (hb hby d17_91) (fun _ _ => ⟨rfl, e7, (by decide : 0 + 1 ≤ _), (by decide : 0 + 32 ≤ _)⟩)
  dsimp only [Pt.U, Pt.locs, Pt.cells, Pt.slots] at X8 l8 y8 z8 st8 hQ8
  subst l8 y8 z8
  obtain ⟨t8, k8q, rfl, Nq8, gt8, sq8, Kq8, V8q⟩ := hQ8
  have N8 := Fr.app N7 Nq8
  have szt8 : h0.size ≤ t8 := Nat.le_trans (Keep.of_wr W7).1 sq8
  have f11 := ((E_x.wr W7).keep Kq8)
  have f12 := ((F_value_x.other W7 (Or.inr (slot_ne (Or.inr (hw _ (tk 137 rfl))) (Or.inr (hw _ (tk 117 rfl))) (by decide) (t := (.array .byte)) (t' := .byte) (by decide) (by decide)))).keep Kq8 nin0)
  obtain ⟨T10, h10, X10, e10, W10, st10⟩ := putF X8 hx hZ hown (host := "") (Or.inl (hw _ (tk 136 rfl))) Via.refl rfl f12 f11 (Or.inr ⟨(hw _ (tk 137 rfl)), rfl, hnm⟩) (hw _ (tk 93 rfl)) (ty := (.array .byte)) (by decide) rfl rfl (g := (mkF m 94 #[.val (.ref x), .val (.ref a), .val .null, .val (.ref t), .val (.int (Int32.ofNat cs.length))] [(.ref t8), (.ref x)])) rfl rfl (hb hby d17_94)
  have Fw10 := f12.same W10
  have N10 := Fr.snoc X10 N8 g_x
  have f13 := (f11.wr W10)
  have f14 := ((Fw7.keep Kq8 nin0).other W10 (Or.inr (slot_ne (Or.inr (hw _ (tk 117 rfl))) (Or.inr (hw _ (tk 137 rfl))) (by decide) (t := .byte) (t' := (.array .byte)) (by decide) (by decide))))
  have f15 := (V8q.other W10 (Ne.symm (Nat.ne_of_lt (Nat.lt_of_lt_of_le (Nat.lt_of_lt_of_le E_x.lt (Keep.of_wr W7).1) sq8))))
  obtain ⟨fs, hr, hrun, hended, hW, hsame⟩ := X10.leave (v := none) (fun _ => rfl)
  refine ⟨_, _, pre0 _ ?_, hrun, hended, _, _, rfl, ?_, ⟨_, rfl⟩, hW, hsame.mono (by decide) (by decide)⟩
  · show Steps p.tables e below (s₁.setTop (mkF m 0 #[.val (.ref x), .val (.ref a), .val .null, .unset, .unset] [])) _
    refine XS.aloadN X0.here hx rfl (hb hby d17_0) rfl rfl ?_
    show Steps p.tables e below (s₁.setTop (mkF m 1 #[.val (.ref x), .val (.ref a), .val .null, .unset, .unset] [(.ref x)])) _
    refine st1 _ ?_
    show Steps p.tables e below (T1.setTop (mkF m 4 #[.val (.ref x), .val (.ref a), .val .null, .unset, .unset] [])) _
    refine XS.aloadN X1.here hx rfl (hb hby d17_4) rfl rfl ?_
    show Steps p.tables e below (T1.setTop (mkF m 5 #[.val (.ref x), .val (.ref a), .val .null, .unset, .unset] [(.ref a)])) _
    refine st2.trans ?_
    show Steps p.tables e below (T2.setTop (mkF m 8 #[.val (.ref x), .val (.ref a), .val .null, .unset, .unset] [(.ref t)])) _
    refine XS.astoreN X2.here hx rfl (hb hby d17_8) rfl rfl (l' := #[.val (.ref x), .val (.ref a), .val .null, .val (.ref t), .unset]) rfl ?_
    refine XS.aloadN X2.here hx rfl (hb hby d17_9) rfl rfl ?_
    show Steps p.tables e below (T2.setTop (mkF m 10 #[.val (.ref x), .val (.ref a), .val .null, .val (.ref t), .unset] [(.ref a)])) _
    refine st3.trans ?_
    show Steps p.tables e below (T3.setTop (mkF m 13 #[.val (.ref x), .val (.ref a), .val .null, .val (.ref t), .unset] [(.int (Int32.ofNat cs.length))])) _
    refine XS.istore X3.here hx rfl (hb hby d17_13) rfl (l' := #[.val (.ref x), .val (.ref a), .val .null, .val (.ref t), .val (.int (Int32.ofNat cs.length))]) rfl ?_
    refine XS.aloadN X3.here hx rfl (hb hby d17_15) rfl rfl ?_
    show Steps p.tables e below (T3.setTop (mkF m 16 #[.val (.ref x), .val (.ref a), .val .null, .val (.ref t), .val (.int (Int32.ofNat cs.length))] [(.ref a)])) _
    refine st4.trans ?_
    show Steps p.tables e below (T4.setTop (mkF m 19 #[.val (.ref x), .val (.ref a), .val .null, .val (.ref t), .val (.int (Int32.ofNat cs.length))] [(.int 0)])) _
    refine XS.ifYes X4.here hx rfl (pc0 := 19) (pc' := 41) rfl (hb hby d17_19) rfl ((if0 _ _).trans (teq (by decide : (0 : Int32) = (0 : Int32))).1) (by decide) (by decide) ?_
    show Steps p.tables e below (T4.setTop (mkF m 41 #[.val (.ref x), .val (.ref a), .val .null, .val (.ref t), .val (.int (Int32.ofNat cs.length))] [])) _
    refine st5 _ ?_
    show Steps p.tables e below (T5.setTop (mkF m 44 #[.val (.ref x), .val (.ref a), .val .null, .val (.ref t), .val (.int (Int32.ofNat cs.length))] [(.int G1)])) _
    refine XS.ifNo X5.here hx rfl (hb hby d17_44) rfl ((if0 _ _).trans (feq P5).1) ?_
    refine XS.aloadN X5.here hx rfl (hb hby d17_47) rfl rfl ?_
    show Steps p.tables e below (T5.setTop (mkF m 48 #[.val (.ref x), .val (.ref a), .val .null, .val (.ref t), .val (.int (Int32.ofNat cs.length))] [(.ref a)])) _
    refine st6 _ ?_
    show Steps p.tables e below (T6.setTop (mkF m 51 #[.val (.ref x), .val (.ref a), .val .null, .val (.ref t), .val (.int (Int32.ofNat cs.length))] [(.int 0)])) _
    refine XS.ifYes X6.here hx rfl (pc0 := 51) (pc' := 79) rfl (hb hby d17_51) rfl ((if0 _ _).trans (teq (by decide : (0 : Int32) = (0 : Int32))).1) (by decide) (by decide) ?_
    refine XS.aloadN X6.here hx rfl (hb hby d17_79) rfl rfl ?_
    refine XS.iconst X6.here hx rfl (hb hby d17_80) ?_
    show Steps p.tables e below (T6.setTop (mkF m 81 #[.val (.ref x), .val (.ref a), .val .null, .val (.ref t), .val (.int (Int32.ofNat cs.length))] [(.int 1), (.ref x)])) _
    refine st7 _ ?_
    show Steps p.tables e below (T7.setTop (mkF m 84 #[.val (.ref x), .val (.ref a), .val .null, .val (.ref t), .val (.int (Int32.ofNat cs.length))] [])) _
    refine XS.aloadN X7.here hx rfl (hb hby d17_84) rfl rfl ?_
    refine XS.aloadN X7.here hx rfl (hb hby d17_85) rfl rfl ?_
    refine XS.iconst X7.here hx rfl (hb hby d17_86) ?_
    refine XS.iload X7.here hx rfl (hb hby d17_87) rfl ?_
    refine XS.iconst X7.here hx rfl (hb hby d17_89) ?_
    refine XS.ishl X7.here hx rfl (hb hby d17_90) rfl ?_
    show Steps p.tables e below (T7.setTop (mkF m 91 #[.val (.ref x), .val (.ref a), .val .null, .val (.ref t), .val (.int (Int32.ofNat cs.length))] [(.int ((Int32.ofNat cs.length) <<< ((1 : Int32) &&& 31))), (.int 0), (.ref t), (.ref x)])) _
    rw [(own_shl (by omega))]
    show Steps p.tables e below (T7.setTop (mkF m 91 #[.val (.ref x), .val (.ref a), .val .null, .val (.ref t), .val (.int (Int32.ofNat cs.length))] [(.int (Int32.ofNat (2 * cs.length))), (.int 0), (.ref t), (.ref x)])) _
    refine st8 _ ?_
    show Steps p.tables e below (T8.setTop (mkF m 94 #[.val (.ref x), .val (.ref a), .val .null, .val (.ref t), .val (.int (Int32.ofNat cs.length))] [(.ref t8), (.ref x)])) _
    refine st10 _ ?_
    show Steps p.tables e below (T10.setTop (mkF m 97 #[.val (.ref x), .val (.ref a), .val .null, .val (.ref t), .val (.int (Int32.ofNat cs.length))] [])) _
    exact X10.returnOut hx Bd.returns (hb hby d17_97) hr
  · show own_QS Z x cs h0 n0 _ T10.heap _
    rw [e10]
    exact ⟨rfl, N10, ((((Keep.refl h0 [x]).wr W7 (Or.inl (tk 0 rfl))).trans Kq8 all0).wr W10 (Or.inl (tk 0 rfl))), t8, k8q, f13, Fw10, Or.inr ⟨f14, f15⟩⟩
theorem rmSI (l : Launch) (Z : State) (a0 : Array Value) (hw : ∀ d ∈ tables_1, d.before a0 Z = true) (ws : List Jvm.Cond) (G1 : Int32) (G3 G4 : Value) (x a t : Addr) (k : ClassId) (cs : List Int32) (h0 : Heap) (n0 : Nat) (Z0 : n0 ≤ h0.size) (EN : own_env Z G1 G3 G4) (X00 : Old Z n0 h0) (E_x : Exa Z h0 x "java/lang/String") (F_v : Fld Z h0 x "java/lang/String" "value" "[B" .null) (F_c : Fld Z h0 x "java/lang/String" "coder" "B" (.int 0)) (g_x : n0 ≤ x) (hxa : x ≠ a) (hxt : x ≠ t) (B : own_bd Z h0 a t k cs) (hlen : cs.length ≤ 15) (g_a : n0 ≤ a) (g_t : n0 ≤ t) :
    MetFree l (⟨"java/lang/String", "<init>", "(Ljava/lang/AbstractStringBuilder;Ljava/lang/Void;)V"⟩ : MethodName) (head1 (Jvm.Cond.code (⟨"java/lang/String", "<init>", "(Ljava/lang/AbstractStringBuilder;Ljava/lang/Void;)V"⟩ : MethodName) jdk_42_method_150_code 5 none :: ws) ({ frames := 3, cells := 1, slots := 32, locals := 49 } : Room)) (fun a_ U_ => a_ = #[(.ref x), (.ref a), .null] ∧ Z.Warmed39 U_.vm ∧ U_.heap = h0) (fun _ _ _ _ _ => True) (fun _ U_ o_ U1_ => ∃ v_ L_, o_ = .returned v_ ∧ own_QS Z x cs h0 n0 v_ U1_.heap L_ ∧ FrameEnd U_ o_ U1_ L_ ({ frames := 3, cells := 1, slots := 32, locals := 49 } : Room).cells ({ frames := 3, cells := 1, slots := 32, locals := 49 } : Room).slots) := by
  obtain ⟨B1, B2, B3, B4, ⟨B5, B6, B7⟩ | ⟨B5, B6⟩⟩ := B
  · exact rmSI_l l Z a0 hw ws G1 G3 G4 x a t k cs h0 n0 Z0 EN X00 E_x F_v F_c g_x hxa hxt B1 B2 B5 B3 B4 B6 B7 hlen g_a g_t
  · exact rmSI_w l Z a0 hw ws G1 G3 G4 x a t k cs h0 n0 Z0 EN X00 E_x F_v F_c g_x hxa hxt B1 B2 B5 B3 B4 B6 hlen g_a g_t
theorem own_bd_ext {Z : State} {h h' : Heap} {a t : Addr} {k : ClassId} {cs : List Int32} (B : own_bd Z h a t k cs) (E : Ext h h') : own_bd Z h' a t k cs := by
  obtain ⟨B1, B2, B3, B4, ⟨B5, B6, B7⟩ | ⟨B5, B6⟩⟩ := B
  · exact ⟨B1.ext E, B2.ext E, B3.ext E, B4.ext E, Or.inl ⟨B5.ext E, B6.ext E, B7⟩⟩
  · exact ⟨B1.ext E, B2.ext E, B3.ext E, B4.ext E, Or.inr ⟨B5.ext E, B6.ext E⟩⟩
theorem own_bd_lt {Z : State} {h : Heap} {a t : Addr} {k : ClassId} {cs : List Int32} (B : own_bd Z h a t k cs) : a < h.size ∧ t < h.size := by
  obtain ⟨B1, -, -, -, ⟨-, q, -⟩ | ⟨-, q⟩⟩ := B <;> exact ⟨B1.lt, q.lt⟩
theorem d16_0 : decode jdk_42_method_53_code 0 = .ok (.aload_n 0, 1) := by decide +kernel
theorem d16_1 : decode jdk_42_method_53_code 1 = .ok (.aload_n 1, 1) := by decide +kernel
theorem d16_2 : decode jdk_42_method_53_code 2 = .ok (.aconst_null, 1) := by decide +kernel
theorem pd__Ljava_lang_AbstractStringBuilder_Ljava_lang_Void__V : parseMethodDescriptor "(Ljava/lang/AbstractStringBuilder;Ljava/lang/Void;)V" = some ⟨[(.object "java/lang/AbstractStringBuilder"), (.object "java/lang/Void")], none⟩ := by decide +kernel
theorem d16_3 : decode jdk_42_method_53_code 3 = .ok (.invokespecial 489, 3) := by decide +kernel
theorem d16_6 : decode jdk_42_method_53_code 6 = .ok (.return_, 1) := by decide +kernel
theorem pn_16 : plainName "java/lang/String" = true := by first | (simp [plainName, overriddenIn]; done) | decide +kernel
theorem ef_16_rr (m : MethodId) (x0 : Addr) (x1 : Addr) : entryFrame m #[(.ref x0), (.ref x1)] 2 = mkF m 0 #[.val (.ref x0), .val (.ref x1)] [] := by first | (simp [entryFrame, mkF, argsToLocals, Value.category]; done) | rfl
set_option maxRecDepth 65536 in
set_option maxHeartbeats 40000000 in
theorem rmSJ (l : Launch) (Z : State) (a0 : Array Value) (hw : ∀ d ∈ tables_1, d.before a0 Z = true) (ws : List Jvm.Cond) (G1 : Int32) (G3 : Value) (G4 : Value) (x : Addr) (a : Addr) (t : Addr) (k : ClassId) (cs : List Int32) (h0 : Heap) (n0 : Nat) (Z0 : n0 ≤ h0.size) (EN : own_env Z G1 G3 G4) (X00 : Old Z n0 h0) (E_x : Exa Z h0 x "java/lang/String") (F_value_x : Fld Z h0 x "java/lang/String" "value" "[B" .null) (F_coder_x : Fld Z h0 x "java/lang/String" "coder" "B" (.int 0)) (g_x : n0 ≤ x) (hxa : x ≠ a) (hxt : x ≠ t) (B : own_bd Z h0 a t k cs) (hlen : cs.length ≤ 15) (g_a : n0 ≤ a) (g_t : n0 ≤ t) :
    MetFree l (⟨"java/lang/String", "<init>", "(Ljava/lang/StringBuilder;)V"⟩ : MethodName) (head1 (Jvm.Cond.code (⟨"java/lang/String", "<init>", "(Ljava/lang/StringBuilder;)V"⟩ : MethodName) jdk_42_method_53_code 2 none :: ws) ({ frames := 4, cells := 1, slots := 32, locals := 65 } : Room)) (fun a_ U_ => a_ = #[(.ref x), (.ref a)] ∧ Z.Warmed39 U_.vm ∧ U_.heap = h0) (fun _ _ _ _ _ => True) (fun _ U_ o_ U1_ => ∃ v_ L_, o_ = .returned v_ ∧ own_QS Z x cs h0 n0 v_ U1_.heap L_ ∧ FrameEnd U_ o_ U1_ L_ ({ frames := 4, cells := 1, slots := 32, locals := 65 } : Room).cells ({ frames := 4, cells := 1, slots := 32, locals := 65 } : Room).slots) := by
  refine MetFree.of_bodySF (plainFor_of_name pn_16) hisR ?_
  intro p e s m args below meth c s₁ Bd hml0 hP hK
  obtain ⟨rfl, hZ, hh⟩ := hP
  have hx := Bd.exec
  have hby := Bd.bytes
  have hml : c.maxLocals = 2 := hml0
  have hown : s.vm.findClass "java/lang/String" = some m.cls := findClass_of_methodNamed Bd.named
  have hnm := (name_of_methodNamed Bd.named Bd.method).1
  have X0 : Stand p l e ({ frames := 4, cells := 1, slots := 32, locals := 65 } : Room) s m #[(.ref x), (.ref a)] below meth c s₁ [] 0 0 := Stand.of_body Bd
  have e0 : s₁.heap = h0 := by rw [← hh, Bd.state]; rfl
  have N0 := Fr.nil n0
  have pre0 : ∀ tt, Steps p.tables e below (s₁.setTop (mkF m 0 #[.val (.ref x), .val (.ref a)] [])) tt → Steps p.tables e below (s₁.setTop (entryFrame m #[(.ref x), (.ref a)] 2)) tt := fun tt kk => castTop (ef_16_rr m x a) kk
  have EN0 := EN
  obtain ⟨O2, P5, O4, rG3, O5, rG4, O6, O7, O8⟩ := EN
  obtain ⟨_, _, ⟨T1, L1, k1, n1⟩, -, X1, ⟨Lc1, hQ1, l1, y1, z1⟩, st1⟩ := X0.specialBack hx (y := (⟨"java/lang/String", "<init>", "(Ljava/lang/AbstractStringBuilder;Ljava/lang/Void;)V"⟩ : MethodName)) rfl hown (mvT hZ (hw _ (tk 98 rfl))) (mvT hZ (hw _ (tk 99 rfl))) (mvT hZ (hw _ (tk 100 rfl))) (by decide) (backOf (W := 0) (rmSI l Z a0 hw [] G1 G3 G4 x a t k cs h0 n0 Z0 EN0 X00 E_x F_value_x F_coder_x g_x hxa hxt B hlen g_a g_t) hZ (hw _ (tk 100 rfl)) (hw _ (tk 32 rfl)) (by decide) (by decide)) (g := (mkF m 3 #[.val (.ref x), .val (.ref a)] [.null, (.ref a), (.ref x)])) rfl (by rw [hml]; rfl) (Steps.refl _) (a := x) (argsL := [(.ref a), .null]) (rest := []) (lenOf pd__Ljava_lang_AbstractStringBuilder_Ljava_lang_Void__V rfl) rfl (by show 2 * 0 + _ ≤ _; exact Nat.le_of_eq rfl) (hb hby d16_3) (fun _ _ => ⟨rfl, e0, (by decide : 0 + 1 ≤ _), (by decide : 0 + 32 ≤ _)⟩)
  dsimp only [Pt.U, Pt.locs, Pt.cells, Pt.slots] at X1 l1 y1 z1 st1 hQ1
  subst l1 y1 z1
  obtain ⟨rfl, Nq1, Kq1, S1⟩ := hQ1
  have N1 := Fr.app N0 Nq1
  have E1q := S1.choose_spec.choose_spec.1
  obtain ⟨fs, hr, hrun, hended, hW, hsame⟩ := X1.leave (v := none) (fun _ => rfl)
  refine ⟨_, _, pre0 _ ?_, hrun, hended, _, _, rfl, ?_, ⟨_, rfl⟩, hW, hsame.mono (by decide) (by decide)⟩
  · show Steps p.tables e below (s₁.setTop (mkF m 0 #[.val (.ref x), .val (.ref a)] [])) _
    refine XS.aloadN X0.here hx rfl (hb hby d16_0) rfl rfl ?_
    refine XS.aloadN X0.here hx rfl (hb hby d16_1) rfl rfl ?_
    refine XS.aconstNull X0.here hx rfl (hb hby d16_2) ?_
    show Steps p.tables e below (s₁.setTop (mkF m 3 #[.val (.ref x), .val (.ref a)] [.null, (.ref a), (.ref x)])) _
    refine st1.trans ?_
    show Steps p.tables e below (T1.setTop (mkF m 6 #[.val (.ref x), .val (.ref a)] [])) _
    exact X1.returnOut hx Bd.returns (hb hby d16_6) hr
  · show own_QS Z x cs h0 n0 _ T1.heap _
    exact ⟨rfl, N1, ((Keep.refl h0 [x]).trans Kq1 (allS (P := fun zz => zz ∈ [x] ∨ h0.size ≤ zz) (Or.inl (tk 0 rfl)) all0)), S1⟩
theorem d15_0 : decode jdk_67_method_42_code 0 = .ok (.new 18, 3) := by decide +kernel
theorem d15_3 : decode jdk_67_method_42_code 3 = .ok (.dup, 1) := by decide +kernel
theorem d15_4 : decode jdk_67_method_42_code 4 = .ok (.aload_n 0, 1) := by decide +kernel
theorem pd__Ljava_lang_StringBuilder__V : parseMethodDescriptor "(Ljava/lang/StringBuilder;)V" = some ⟨[(.object "java/lang/StringBuilder")], none⟩ := by decide +kernel
theorem d15_5 : decode jdk_67_method_42_code 5 = .ok (.invokespecial 137, 3) := by decide +kernel
theorem d15_8 : decode jdk_67_method_42_code 8 = .ok (.areturn, 1) := by decide +kernel
theorem pn_15 : plainName "java/lang/StringBuilder" = true := by first | (simp [plainName, overriddenIn]; done) | decide +kernel
theorem ef_15_r (m : MethodId) (x0 : Addr) : entryFrame m #[(.ref x0)] 1 = mkF m 0 #[.val (.ref x0)] [] := by first | (simp [entryFrame, mkF, argsToLocals, Value.category]; done) | rfl
set_option maxRecDepth 65536 in
set_option maxHeartbeats 40000000 in
theorem rmSTS (l : Launch) (Z : State) (a0 : Array Value) (hw : ∀ d ∈ tables_1, d.before a0 Z = true) (ws : List Jvm.Cond) (G1 : Int32) (G3 : Value) (G4 : Value) (a : Addr) (t : Addr) (k : ClassId) (cs : List Int32) (h0 : Heap) (n0 : Nat) (Z0 : n0 ≤ h0.size) (EN : own_env Z G1 G3 G4) (X00 : Old Z n0 h0) (B : own_bd Z h0 a t k cs) (hlen : cs.length ≤ 15) (g_a : n0 ≤ a) (g_t : n0 ≤ t) :
    MetFree l (⟨"java/lang/StringBuilder", "toString", "()Ljava/lang/String;"⟩ : MethodName) (head1 (Jvm.Cond.code (⟨"java/lang/StringBuilder", "toString", "()Ljava/lang/String;"⟩ : MethodName) jdk_67_method_42_code 1 (some (.object "java/lang/String")) :: ws) ({ frames := 5, cells := 2, slots := 36, locals := 79 } : Room)) (fun a_ U_ => a_ = #[(.ref a)] ∧ Z.Warmed39 U_.vm ∧ U_.heap = h0) (fun _ _ _ _ _ => True) (fun _ U_ o_ U1_ => ∃ v_ L_, o_ = .returned v_ ∧ own_QZ Z cs h0 n0 v_ U1_.heap L_ ∧ FrameEnd U_ o_ U1_ L_ ({ frames := 5, cells := 2, slots := 36, locals := 79 } : Room).cells ({ frames := 5, cells := 2, slots := 36, locals := 79 } : Room).slots) := by
  refine MetFree.of_bodySF (plainFor_of_name pn_15) hisR ?_
  intro p e s m args below meth c s₁ Bd hml0 hP hK
  obtain ⟨rfl, hZ, hh⟩ := hP
  have hx := Bd.exec
  have hby := Bd.bytes
  have hml : c.maxLocals = 1 := hml0
  have hown : s.vm.findClass "java/lang/StringBuilder" = some m.cls := findClass_of_methodNamed Bd.named
  have hnm := (name_of_methodNamed Bd.named Bd.method).1
  have X0 : Stand p l e ({ frames := 5, cells := 2, slots := 36, locals := 79 } : Room) s m #[(.ref a)] below meth c s₁ [] 0 0 := Stand.of_body Bd
  have e0 : s₁.heap = h0 := by rw [← hh, Bd.state]; rfl
  have N0 := Fr.nil n0
  have pre0 : ∀ tt, Steps p.tables e below (s₁.setTop (mkF m 0 #[.val (.ref a)] [])) tt → Steps p.tables e below (s₁.setTop (entryFrame m #[(.ref a)] 1)) tt := fun tt kk => castTop (ef_15_r m a) kk
  have EN0 := EN
  obtain ⟨O2, P5, O4, rG3, O5, rG4, O6, O7, O8⟩ := EN
  obtain ⟨T1, h1, X1, e1, E1, A1, D1, -, st1⟩ := newO X0 hx hZ hown (hw _ (tk 92 rfl)) (hw _ (tk 93 rfl)) (hw _ (tk 32 rfl)) e0 (g := (mkF m 0 #[.val (.ref a)] [])) rfl (hb hby d15_0) (by decide) (by decide)
  obtain ⟨b1, g1⟩ : ∃ z, z = h0.size := ⟨_, rfl⟩
  rw [← g1] at A1 D1 st1
  have g_b1 : n0 ≤ b1 := Nat.le_trans Z0 (Nat.le_of_eq g1.symm)
  have sz_b1 : h0.size ≤ b1 := Nat.le_trans (Nat.le_refl _) (Nat.le_of_eq g1.symm)
  have F1_coder : Fld Z h1 b1 "java/lang/String" "coder" "B" (.int 0) := D1 (Or.inr (hw _ (tk 117 rfl))) (ty := .byte) (by decide)
  have F1_value : Fld Z h1 b1 "java/lang/String" "value" "[B" .null := D1 (Or.inr (hw _ (tk 137 rfl))) (ty := (.array .byte)) (by decide)
  have f3 := (X00.ext E1)
  obtain ⟨_, _, ⟨T2, L2, k2, n2⟩, -, X2, ⟨Lc2, hQ2, l2, y2, z2⟩, st2⟩ := X1.specialBack hx (y := (⟨"java/lang/String", "<init>", "(Ljava/lang/StringBuilder;)V"⟩ : MethodName)) rfl hown (mvT hZ (hw _ (tk 94 rfl))) (mvT hZ (hw _ (tk 95 rfl))) (mvT hZ (hw _ (tk 97 rfl))) (by decide) (backOf (W := 1) (rmSJ l Z a0 hw [] G1 G3 G4 b1 a t k cs h1 n0 (Nat.le_trans Z0 E1.1) EN0 f3 A1 F1_value F1_coder g_b1 (Ne.symm (Nat.ne_of_lt (Nat.lt_of_lt_of_le (own_bd_lt B).1 (Nat.le_of_eq g1.symm)))) (Ne.symm (Nat.ne_of_lt (Nat.lt_of_lt_of_le (own_bd_lt B).2 (Nat.le_of_eq g1.symm)))) (own_bd_ext B E1) hlen g_a g_t) hZ (hw _ (tk 97 rfl)) (hw _ (tk 32 rfl)) (by decide) (by decide)) (g := (mkF m 5 #[.val (.ref a)] [(.ref a), (.ref b1), (.ref b1)])) rfl (by rw [hml]; rfl) (Steps.refl _) (a := b1) (argsL := [(.ref a)]) (rest := [(.ref b1)]) (lenOf pd__Ljava_lang_StringBuilder__V rfl) rfl (by show 2 * 0 + _ ≤ _; exact Nat.le_of_eq rfl) (hb hby d15_5) (fun _ _ => ⟨rfl, e1, (by decide : 1 + 1 ≤ _), (by decide : 4 + 32 ≤ _)⟩)
  dsimp only [Pt.U, Pt.locs, Pt.cells, Pt.slots] at X2 l2 y2 z2 st2 hQ2
  subst l2 y2 z2
  obtain ⟨rfl, Nq2, Kq2, S2⟩ := hQ2
  have N2 := Fr.app N0 Nq2
  have E2q := S2.choose_spec.choose_spec.1
  obtain ⟨fs, hr, hrun, hended, hW, hsame⟩ := X2.leave (v := some (.ref b1)) (fun h => by rw [Bd.returns] at h; cases h)
  refine ⟨_, _, pre0 _ ?_, hrun, hended, _, _, rfl, ?_, ⟨_, rfl⟩, hW, hsame.mono (by decide) (by decide)⟩
  · show Steps p.tables e below (s₁.setTop (mkF m 0 #[.val (.ref a)] [])) _
    refine st1 _ ?_
    show Steps p.tables e below (T1.setTop (mkF m 3 #[.val (.ref a)] [(.ref b1)])) _
    refine XS.dup X1.here hx rfl (hb hby d15_3) rfl rfl ?_
    refine XS.aloadN X1.here hx rfl (hb hby d15_4) rfl rfl ?_
    show Steps p.tables e below (T1.setTop (mkF m 5 #[.val (.ref a)] [(.ref a), (.ref b1), (.ref b1)])) _
    refine st2.trans ?_
    show Steps p.tables e below (T2.setTop (mkF m 8 #[.val (.ref a)] [(.ref b1)])) _
    jvm_step X2.here [X2.here.top, hx, (hb hby d15_8), X2.method', Bd.returns, Value.isRef, FieldType.isReference]
    first | (intro acts; rw [hr _ acts rfl rfl rfl]) | rw [hr _ _ rfl rfl rfl]
    exact Steps.refl _
  · show own_QZ Z cs h0 n0 _ T2.heap _
    exact ⟨b1, rfl, N2, sz_b1, (((Keep.refl h0 []).ext E1).trans Kq2 (allS (P := fun zz => zz ∈ ([] : List Addr) ∨ h0.size ≤ zz) (Or.inr sz_b1) all0)), S2⟩
theorem d14_0 : decode prog_16_method_8_code 0 = .ok (.aload_n 0, 1) := by decide +kernel
theorem d14_1 : decode prog_16_method_8_code 1 = .ok (.getfield 10, 3) := by decide +kernel
theorem pd___Ljava_lang_String_ : parseMethodDescriptor "()Ljava/lang/String;" = some ⟨[], some (.object "java/lang/String")⟩ := by decide +kernel
theorem d14_4 : decode prog_16_method_8_code 4 = .ok (.invokevirtual 46, 3) := by decide +kernel
theorem d14_7 : decode prog_16_method_8_code 7 = .ok (.areturn, 1) := by decide +kernel
theorem pn_14 : plainName "com/example/hebelwerk/hebelwerk/core/Text" = true := by first | (simp [plainName, overriddenIn]; done) | decide +kernel
theorem ef_14_r (m : MethodId) (x0 : Addr) : entryFrame m #[(.ref x0)] 1 = mkF m 0 #[.val (.ref x0)] [] := by first | (simp [entryFrame, mkF, argsToLocals, Value.category]; done) | rfl
set_option maxRecDepth 65536 in
set_option maxHeartbeats 40000000 in
theorem rmTTS (l : Launch) (Z : State) (a0 : Array Value) (hw : ∀ d ∈ tables_1, d.before a0 Z = true) (ws : List Jvm.Cond) (G1 : Int32) (G3 : Value) (G4 : Value) (tx : Addr) (a : Addr) (t : Addr) (k : ClassId) (cs : List Int32) (h0 : Heap) (n0 : Nat) (Z0 : n0 ≤ h0.size) (EN : own_env Z G1 G3 G4) (X00 : Old Z n0 h0) (B : own_bd Z h0 a t k cs) (hlen : cs.length ≤ 15) (g_a : n0 ≤ a) (g_t : n0 ≤ t) (E_tx : Exa Z h0 tx "com/example/hebelwerk/hebelwerk/core/Text") (F_text_tx : Fld Z h0 tx "com/example/hebelwerk/hebelwerk/core/Text" "text" "Ljava/lang/StringBuilder;" (.ref a)) :
    MetFree l (⟨"com/example/hebelwerk/hebelwerk/core/Text", "toString", "()Ljava/lang/String;"⟩ : MethodName) (head1 (Jvm.Cond.code (⟨"com/example/hebelwerk/hebelwerk/core/Text", "toString", "()Ljava/lang/String;"⟩ : MethodName) prog_16_method_8_code 1 (some (.object "java/lang/String")) :: ws) ({ frames := 6, cells := 2, slots := 36, locals := 91 } : Room)) (fun a_ U_ => a_ = #[(.ref tx)] ∧ Z.Warmed39 U_.vm ∧ U_.heap = h0) (fun _ _ _ _ _ => True) (fun _ U_ o_ U1_ => ∃ v_ L_, o_ = .returned v_ ∧ own_QZ Z cs h0 n0 v_ U1_.heap L_ ∧ FrameEnd U_ o_ U1_ L_ ({ frames := 6, cells := 2, slots := 36, locals := 91 } : Room).cells ({ frames := 6, cells := 2, slots := 36, locals := 91 } : Room).slots) := by
  refine MetFree.of_bodySF (plainFor_of_name pn_14) hisR ?_
  intro p e s m args below meth c s₁ Bd hml0 hP hK
  obtain ⟨rfl, hZ, hh⟩ := hP
  have hx := Bd.exec
  have hby := Bd.bytes
  have hml : c.maxLocals = 1 := hml0
  have hown : s.vm.findClass "com/example/hebelwerk/hebelwerk/core/Text" = some m.cls := findClass_of_methodNamed Bd.named
  have hnm := (name_of_methodNamed Bd.named Bd.method).1
  have X0 : Stand p l e ({ frames := 6, cells := 2, slots := 36, locals := 91 } : Room) s m #[(.ref tx)] below meth c s₁ [] 0 0 := Stand.of_body Bd
  have e0 : s₁.heap = h0 := by rw [← hh, Bd.state]; rfl
  have N0 := Fr.nil n0
  have pre0 : ∀ tt, Steps p.tables e below (s₁.setTop (mkF m 0 #[.val (.ref tx)] [])) tt → Steps p.tables e below (s₁.setTop (entryFrame m #[(.ref tx)] 1)) tt := fun tt kk => castTop (ef_14_r m tx) kk
  have EN0 := EN
  obtain ⟨O2, P5, O4, rG3, O5, rG4, O6, O7, O8⟩ := EN
  obtain ⟨T1, X1, e1, st1⟩ := getF X0 hx hZ hown (host := "") (Or.inl (hw _ (tk 38 rfl))) Via.refl e0 F_text_tx (g := (mkF m 1 #[.val (.ref tx)] [(.ref tx)])) rfl rfl (hb hby d14_1)
  obtain ⟨cq2, kq2, q2a, q2b, q2c⟩ := isOf hZ e1 B.1
  obtain ⟨_, _, ⟨T2, L2, k2, n2⟩, -, X2, ⟨Lc2, hQ2, l2, y2, z2⟩, st2⟩ := X1.virtualBack hx (y := (⟨"java/lang/StringBuilder", "toString", "()Ljava/lang/String;"⟩ : MethodName)) (z := (⟨"java/lang/StringBuilder", "toString", "()Ljava/lang/String;"⟩ : MethodName)) hown (mvT hZ (hw _ (tk 87 rfl))) (mvT hZ (hw _ (tk 88 rfl))) (notFace_of_selects (args := #[]) (mvT hZ (hw _ (tk 90 rfl)))) (mvT hZ (hw _ (tk 90 rfl))) (mvT hZ (hw _ (tk 89 rfl))) (by decide) (backOf (W := 0) (rmSTS l Z a0 hw [] G1 G3 G4 a t k cs h0 n0 Z0 EN0 X00 B hlen g_a g_t) hZ (hw _ (tk 91 rfl)) (hw _ (tk 20 rfl)) (by decide) (by decide)) q2a q2c (g := (mkF m 4 #[.val (.ref tx)] [(.ref a)])) rfl (by rw [hml]; rfl) (Steps.refl _) (argsL := []) (rest := []) (lenOf pd___Ljava_lang_String_ rfl) rfl (by show 2 * 0 + _ ≤ _; exact Nat.le_of_eq rfl) (hb hby d14_4) (fun _ _ => ⟨rfl, e1, (by decide : 0 + 2 ≤ _), (by decide : 0 + 36 ≤ _)⟩)
  dsimp only [Pt.U, Pt.locs, Pt.cells, Pt.slots] at X2 l2 y2 z2 st2 hQ2
  subst l2 y2 z2
  obtain ⟨x2, rfl, Nq2, sq2, Kq2, S2⟩ := hQ2
  have N2 := Fr.app N0 Nq2
  have E2q := S2.choose_spec.choose_spec.1
  obtain ⟨fs, hr, hrun, hended, hW, hsame⟩ := X2.leave (v := some (.ref x2)) (fun h => by rw [Bd.returns] at h; cases h)
  refine ⟨_, _, pre0 _ ?_, hrun, hended, _, _, rfl, ?_, ⟨_, rfl⟩, hW, hsame.mono (by decide) (by decide)⟩
  · show Steps p.tables e below (s₁.setTop (mkF m 0 #[.val (.ref tx)] [])) _
    refine XS.aloadN X0.here hx rfl (hb hby d14_0) rfl rfl ?_
    show Steps p.tables e below (s₁.setTop (mkF m 1 #[.val (.ref tx)] [(.ref tx)])) _
    refine st1 _ ?_
    show Steps p.tables e below (T1.setTop (mkF m 4 #[.val (.ref tx)] [(.ref a)])) _
    refine st2.trans ?_
    show Steps p.tables e below (T2.setTop (mkF m 7 #[.val (.ref tx)] [(.ref x2)])) _
    jvm_step X2.here [X2.here.top, hx, (hb hby d14_7), X2.method', Bd.returns, Value.isRef, FieldType.isReference]
    first | (intro acts; rw [hr _ acts rfl rfl rfl]) | rw [hr _ _ rfl rfl rfl]
    exact Steps.refl _
  · show own_QZ Z cs h0 n0 _ T2.heap _
    exact ⟨x2, rfl, N2, (Nat.le_trans (Nat.le_refl _) sq2), ((Keep.refl h0 []).trans Kq2 all0), S2⟩
theorem own_wa0 (cs : List Int32) (j : Nat) (h : j < cs.length) (hb : cs.length < 64) : (own_wide cs).getD (Int32.ofNat (2 * j)).toNatClampNeg (.int 0) = .int (own_b0 (cs.getD j 0)) := by
  rw [own_clamp (by omega)]; exact (own_wide_at _ cs j h).1
theorem own_wa1 (cs : List Int32) (j : Nat) (h : j < cs.length) (hb : cs.length < 64) : (own_wide cs).getD (Int32.ofNat (2 * j + 1)).toNatClampNeg (.int 0) = .int (own_b1 (cs.getD j 0)) := by
  rw [own_clamp (by omega)]; exact (own_wide_at _ cs j h).2
theorem own_i2c {c : Int32} (h : own_ch c) : c.toUInt32.toUInt16.toUInt32.toInt32 = c := own_narc h
theorem own_some {x y : Int32} (h : x = y) : (some (Value.int x)) = some (.int y) := by rw [h]
theorem d26_0 : decode jdk_42_method_152_code 0 = .ok (.getstatic 38, 3) := by decide +kernel
theorem d26_3 : decode jdk_42_method_152_code 3 = .ok (.ifCond .eq 10, 3) := by decide +kernel
theorem d26_6 : decode jdk_42_method_152_code 6 = .ok (.aload_n 0, 1) := by decide +kernel
theorem d26_7 : decode jdk_42_method_152_code 7 = .ok (.getfield 15, 3) := by decide +kernel
theorem d26_10 : decode jdk_42_method_152_code 10 = .ok (.goto 4, 3) := by decide +kernel
theorem d26_14 : decode jdk_42_method_152_code 14 = .ok (.ireturn, 1) := by decide +kernel
theorem pn_26 : plainName "java/lang/String" = true := by first | (simp [plainName, overriddenIn]; done) | decide +kernel
theorem ef_26_r (m : MethodId) (x0 : Addr) : entryFrame m #[(.ref x0)] 1 = mkF m 0 #[.val (.ref x0)] [] := by first | (simp [entryFrame, mkF, argsToLocals, Value.category]; done) | rfl
set_option maxRecDepth 65536 in
set_option maxHeartbeats 40000000 in
theorem rmCD0 (l : Launch) (Z : State) (a0 : Array Value) (hw : ∀ d ∈ tables_1, d.before a0 Z = true) (ws : List Jvm.Cond) (G1 : Int32) (G3 : Value) (G4 : Value) (x : Addr) (h0 : Heap) (n0 : Nat) (Z0 : n0 ≤ h0.size) (EN : own_env Z G1 G3 G4) (X00 : Old Z n0 h0) (E_x : Exa Z h0 x "java/lang/String") (F_coder_x : Fld Z h0 x "java/lang/String" "coder" "B" (.int 0)) :
    MetFree l (⟨"java/lang/String", "coder", "()B"⟩ : MethodName) (head1 (Jvm.Cond.code (⟨"java/lang/String", "coder", "()B"⟩ : MethodName) jdk_42_method_152_code 1 (some .byte) :: ws) ({ frames := 0, cells := 0, slots := 0, locals := 0 } : Room)) (fun a_ U_ => a_ = #[(.ref x)] ∧ Z.Warmed39 U_.vm ∧ U_.heap = h0) (fun _ _ _ _ _ => True) (fun _ U_ o_ U1_ => ∃ v_ L_, o_ = .returned v_ ∧ own_Q Z (some (.int 0)) h0 n0 v_ U1_.heap L_ ∧ FrameEnd U_ o_ U1_ L_ ({ frames := 0, cells := 0, slots := 0, locals := 0 } : Room).cells ({ frames := 0, cells := 0, slots := 0, locals := 0 } : Room).slots) := by
  refine MetFree.of_bodySF (plainFor_of_name pn_26) hisR ?_
  intro p e s m args below meth c s₁ Bd hml0 hP hK
  obtain ⟨rfl, hZ, hh⟩ := hP
  have hx := Bd.exec
  have hby := Bd.bytes
  have hml : c.maxLocals = 1 := hml0
  have hown : s.vm.findClass "java/lang/String" = some m.cls := findClass_of_methodNamed Bd.named
  have hnm := (name_of_methodNamed Bd.named Bd.method).1
  have X0 : Stand p l e ({ frames := 0, cells := 0, slots := 0, locals := 0 } : Room) s m #[(.ref x)] below meth c s₁ [] 0 0 := Stand.of_body Bd
  have e0 : s₁.heap = h0 := by rw [← hh, Bd.state]; rfl
  have N0 := Fr.nil n0
  have pre0 : ∀ tt, Steps p.tables e below (s₁.setTop (mkF m 0 #[.val (.ref x)] [])) tt → Steps p.tables e below (s₁.setTop (entryFrame m #[(.ref x)] 1)) tt := fun tt kk => castTop (ef_26_r m x) kk
  have EN0 := EN
  obtain ⟨O2, P5, O4, rG3, O5, rG4, O6, O7, O8⟩ := EN
  obtain ⟨T1, X1, e1, st1⟩ := getS2 X0 hx hZ hown (host := "") (Or.inl (hw _ (tk 148 rfl))) Via.refl e0 (Sta.ext X00.2 O2) (g := (mkF m 0 #[.val (.ref x)] [])) rfl (hb hby d26_0)
  obtain ⟨T2, X2, e2, st2⟩ := getF X1 hx hZ hown (host := "") (Or.inl (hw _ (tk 116 rfl))) Via.refl e1 F_coder_x (g := (mkF m 7 #[.val (.ref x)] [(.ref x)])) rfl rfl (hb hby d26_7)
  obtain ⟨fs, hr, hrun, hended, hW, hsame⟩ := X2.leave (v := some (.int 0)) (fun h => by rw [Bd.returns] at h; cases h)
  refine ⟨_, _, pre0 _ ?_, hrun, hended, _, _, rfl, ?_, ⟨_, rfl⟩, hW, hsame.mono (by decide) (by decide)⟩
  · show Steps p.tables e below (s₁.setTop (mkF m 0 #[.val (.ref x)] [])) _
    refine st1 _ ?_
    show Steps p.tables e below (T1.setTop (mkF m 3 #[.val (.ref x)] [(.int G1)])) _
    refine XS.ifNo X1.here hx rfl (hb hby d26_3) rfl ((if0 _ _).trans (feq P5).1) ?_
    refine XS.aloadN X1.here hx rfl (hb hby d26_6) rfl rfl ?_
    show Steps p.tables e below (T1.setTop (mkF m 7 #[.val (.ref x)] [(.ref x)])) _
    refine st2 _ ?_
    show Steps p.tables e below (T2.setTop (mkF m 10 #[.val (.ref x)] [(.int 0)])) _
    refine XS.goto X2.here hx rfl (pc0 := 10) (pc' := 14) rfl (hb hby d26_10) (by decide) (by decide) ?_
    show Steps p.tables e below (T2.setTop (mkF m 14 #[.val (.ref x)] [(.int 0)])) _
    exact retN X2 hx (t := .byte) Bd.returns (by simp) (hb hby d26_14) hr
  · show own_Q Z (some (.int 0)) h0 n0 _ T2.heap _
    rw [e2]
    exact ⟨rfl, N0, rfl⟩
theorem d28_0 : decode jdk_42_method_154_code 0 = .ok (.getstatic 38, 3) := by decide +kernel
theorem d28_3 : decode jdk_42_method_154_code 3 = .ok (.ifCond .eq 14, 3) := by decide +kernel
theorem d28_6 : decode jdk_42_method_154_code 6 = .ok (.aload_n 0, 1) := by decide +kernel
theorem d28_7 : decode jdk_42_method_154_code 7 = .ok (.getfield 15, 3) := by decide +kernel
theorem d28_10 : decode jdk_42_method_154_code 10 = .ok (.ifCond .ne 7, 3) := by decide +kernel
theorem d28_13 : decode jdk_42_method_154_code 13 = .ok (.iconst 1, 1) := by decide +kernel
theorem d28_14 : decode jdk_42_method_154_code 14 = .ok (.goto 4, 3) := by decide +kernel
theorem d28_18 : decode jdk_42_method_154_code 18 = .ok (.ireturn, 1) := by decide +kernel
theorem pn_28 : plainName "java/lang/String" = true := by first | (simp [plainName, overriddenIn]; done) | decide +kernel
theorem ef_28_r (m : MethodId) (x0 : Addr) : entryFrame m #[(.ref x0)] 1 = mkF m 0 #[.val (.ref x0)] [] := by first | (simp [entryFrame, mkF, argsToLocals, Value.category]; done) | rfl
set_option maxRecDepth 65536 in
set_option maxHeartbeats 40000000 in
theorem rmSL0 (l : Launch) (Z : State) (a0 : Array Value) (hw : ∀ d ∈ tables_1, d.before a0 Z = true) (ws : List Jvm.Cond) (G1 : Int32) (G3 : Value) (G4 : Value) (x : Addr) (h0 : Heap) (n0 : Nat) (Z0 : n0 ≤ h0.size) (EN : own_env Z G1 G3 G4) (X00 : Old Z n0 h0) (E_x : Exa Z h0 x "java/lang/String") (F_coder_x : Fld Z h0 x "java/lang/String" "coder" "B" (.int 0)) :
    MetFree l (⟨"java/lang/String", "isLatin1", "()Z"⟩ : MethodName) (head1 (Jvm.Cond.code (⟨"java/lang/String", "isLatin1", "()Z"⟩ : MethodName) jdk_42_method_154_code 1 (some .boolean) :: ws) ({ frames := 0, cells := 0, slots := 0, locals := 0 } : Room)) (fun a_ U_ => a_ = #[(.ref x)] ∧ Z.Warmed39 U_.vm ∧ U_.heap = h0) (fun _ _ _ _ _ => True) (fun _ U_ o_ U1_ => ∃ v_ L_, o_ = .returned v_ ∧ own_Q Z (some (.int 1)) h0 n0 v_ U1_.heap L_ ∧ FrameEnd U_ o_ U1_ L_ ({ frames := 0, cells := 0, slots := 0, locals := 0 } : Room).cells ({ frames := 0, cells := 0, slots := 0, locals := 0 } : Room).slots) := by
  refine MetFree.of_bodySF (plainFor_of_name pn_28) hisR ?_
  intro p e s m args below meth c s₁ Bd hml0 hP hK
  obtain ⟨rfl, hZ, hh⟩ := hP
  have hx := Bd.exec
  have hby := Bd.bytes
  have hml : c.maxLocals = 1 := hml0
  have hown : s.vm.findClass "java/lang/String" = some m.cls := findClass_of_methodNamed Bd.named
  have hnm := (name_of_methodNamed Bd.named Bd.method).1
  have X0 : Stand p l e ({ frames := 0, cells := 0, slots := 0, locals := 0 } : Room) s m #[(.ref x)] below meth c s₁ [] 0 0 := Stand.of_body Bd
  have e0 : s₁.heap = h0 := by rw [← hh, Bd.state]; rfl
  have N0 := Fr.nil n0
  have pre0 : ∀ tt, Steps p.tables e below (s₁.setTop (mkF m 0 #[.val (.ref x)] [])) tt → Steps p.tables e below (s₁.setTop (entryFrame m #[(.ref x)] 1)) tt := fun tt kk => castTop (ef_28_r m x) kk
  have EN0 := EN
  obtain ⟨O2, P5, O4, rG3, O5, rG4, O6, O7, O8⟩ := EN
  obtain ⟨T1, X1, e1, st1⟩ := getS2 X0 hx hZ hown (host := "") (Or.inl (hw _ (tk 148 rfl))) Via.refl e0 (Sta.ext X00.2 O2) (g := (mkF m 0 #[.val (.ref x)] [])) rfl (hb hby d28_0)
  obtain ⟨T2, X2, e2, st2⟩ := getF X1 hx hZ hown (host := "") (Or.inl (hw _ (tk 116 rfl))) Via.refl e1 F_coder_x (g := (mkF m 7 #[.val (.ref x)] [(.ref x)])) rfl rfl (hb hby d28_7)
  obtain ⟨fs, hr, hrun, hended, hW, hsame⟩ := X2.leave (v := some (.int 1)) (fun h => by rw [Bd.returns] at h; cases h)
  refine ⟨_, _, pre0 _ ?_, hrun, hended, _, _, rfl, ?_, ⟨_, rfl⟩, hW, hsame.mono (by decide) (by decide)⟩
  · show Steps p.tables e below (s₁.setTop (mkF m 0 #[.val (.ref x)] [])) _
    refine st1 _ ?_
    show Steps p.tables e below (T1.setTop (mkF m 3 #[.val (.ref x)] [(.int G1)])) _
    refine XS.ifNo X1.here hx rfl (hb hby d28_3) rfl ((if0 _ _).trans (feq P5).1) ?_
    refine XS.aloadN X1.here hx rfl (hb hby d28_6) rfl rfl ?_
    show Steps p.tables e below (T1.setTop (mkF m 7 #[.val (.ref x)] [(.ref x)])) _
    refine st2 _ ?_
    show Steps p.tables e below (T2.setTop (mkF m 10 #[.val (.ref x)] [(.int 0)])) _
    refine XS.ifNo X2.here hx rfl (hb hby d28_10) rfl ((if0 _ _).trans (teq (by decide : (0 : Int32) = (0 : Int32))).2) ?_
    refine XS.iconst X2.here hx rfl (hb hby d28_13) ?_
    refine XS.goto X2.here hx rfl (pc0 := 14) (pc' := 18) rfl (hb hby d28_14) (by decide) (by decide) ?_
    show Steps p.tables e below (T2.setTop (mkF m 18 #[.val (.ref x)] [(.int 1)])) _
    exact retN X2 hx (t := .boolean) Bd.returns (by simp) (hb hby d28_18) hr
  · show own_Q Z (some (.int 1)) h0 n0 _ T2.heap _
    rw [e2]
    exact ⟨rfl, N0, rfl⟩
set_option maxRecDepth 65536 in
set_option maxHeartbeats 40000000 in
theorem rmCD1 (l : Launch) (Z : State) (a0 : Array Value) (hw : ∀ d ∈ tables_1, d.before a0 Z = true) (ws : List Jvm.Cond) (G1 : Int32) (G3 : Value) (G4 : Value) (x : Addr) (h0 : Heap) (n0 : Nat) (Z0 : n0 ≤ h0.size) (EN : own_env Z G1 G3 G4) (X00 : Old Z n0 h0) (E_x : Exa Z h0 x "java/lang/String") (F_coder_x : Fld Z h0 x "java/lang/String" "coder" "B" (.int 1)) :
    MetFree l (⟨"java/lang/String", "coder", "()B"⟩ : MethodName) (head1 (Jvm.Cond.code (⟨"java/lang/String", "coder", "()B"⟩ : MethodName) jdk_42_method_152_code 1 (some .byte) :: ws) ({ frames := 0, cells := 0, slots := 0, locals := 0 } : Room)) (fun a_ U_ => a_ = #[(.ref x)] ∧ Z.Warmed39 U_.vm ∧ U_.heap = h0) (fun _ _ _ _ _ => True) (fun _ U_ o_ U1_ => ∃ v_ L_, o_ = .returned v_ ∧ own_Q Z (some (.int 1)) h0 n0 v_ U1_.heap L_ ∧ FrameEnd U_ o_ U1_ L_ ({ frames := 0, cells := 0, slots := 0, locals := 0 } : Room).cells ({ frames := 0, cells := 0, slots := 0, locals := 0 } : Room).slots) := by
  refine MetFree.of_bodySF (plainFor_of_name pn_26) hisR ?_
  intro p e s m args below meth c s₁ Bd hml0 hP hK
  obtain ⟨rfl, hZ, hh⟩ := hP
  have hx := Bd.exec
  have hby := Bd.bytes
  have hml : c.maxLocals = 1 := hml0
  have hown : s.vm.findClass "java/lang/String" = some m.cls := findClass_of_methodNamed Bd.named
  have hnm := (name_of_methodNamed Bd.named Bd.method).1
  have X0 : Stand p l e ({ frames := 0, cells := 0, slots := 0, locals := 0 } : Room) s m #[(.ref x)] below meth c s₁ [] 0 0 := Stand.of_body Bd
  have e0 : s₁.heap = h0 := by rw [← hh, Bd.state]; rfl
  have N0 := Fr.nil n0
  have pre0 : ∀ tt, Steps p.tables e below (s₁.setTop (mkF m 0 #[.val (.ref x)] [])) tt → Steps p.tables e below (s₁.setTop (entryFrame m #[(.ref x)] 1)) tt := fun tt kk => castTop (ef_26_r m x) kk
  have EN0 := EN
  obtain ⟨O2, P5, O4, rG3, O5, rG4, O6, O7, O8⟩ := EN
  obtain ⟨T1, X1, e1, st1⟩ := getS2 X0 hx hZ hown (host := "") (Or.inl (hw _ (tk 148 rfl))) Via.refl e0 (Sta.ext X00.2 O2) (g := (mkF m 0 #[.val (.ref x)] [])) rfl (hb hby d26_0)
  obtain ⟨T2, X2, e2, st2⟩ := getF X1 hx hZ hown (host := "") (Or.inl (hw _ (tk 116 rfl))) Via.refl e1 F_coder_x (g := (mkF m 7 #[.val (.ref x)] [(.ref x)])) rfl rfl (hb hby d26_7)
  obtain ⟨fs, hr, hrun, hended, hW, hsame⟩ := X2.leave (v := some (.int 1)) (fun h => by rw [Bd.returns] at h; cases h)
  refine ⟨_, _, pre0 _ ?_, hrun, hended, _, _, rfl, ?_, ⟨_, rfl⟩, hW, hsame.mono (by decide) (by decide)⟩
  · show Steps p.tables e below (s₁.setTop (mkF m 0 #[.val (.ref x)] [])) _
    refine st1 _ ?_
    show Steps p.tables e below (T1.setTop (mkF m 3 #[.val (.ref x)] [(.int G1)])) _
    refine XS.ifNo X1.here hx rfl (hb hby d26_3) rfl ((if0 _ _).trans (feq P5).1) ?_
    refine XS.aloadN X1.here hx rfl (hb hby d26_6) rfl rfl ?_
    show Steps p.tables e below (T1.setTop (mkF m 7 #[.val (.ref x)] [(.ref x)])) _
    refine st2 _ ?_
    show Steps p.tables e below (T2.setTop (mkF m 10 #[.val (.ref x)] [(.int 1)])) _
    refine XS.goto X2.here hx rfl (pc0 := 10) (pc' := 14) rfl (hb hby d26_10) (by decide) (by decide) ?_
    show Steps p.tables e below (T2.setTop (mkF m 14 #[.val (.ref x)] [(.int 1)])) _
    exact retN X2 hx (t := .byte) Bd.returns (by simp) (hb hby d26_14) hr
  · show own_Q Z (some (.int 1)) h0 n0 _ T2.heap _
    rw [e2]
    exact ⟨rfl, N0, rfl⟩
theorem d28_17 : decode jdk_42_method_154_code 17 = .ok (.iconst 0, 1) := by decide +kernel
set_option maxRecDepth 65536 in
set_option maxHeartbeats 40000000 in
theorem rmSL1 (l : Launch) (Z : State) (a0 : Array Value) (hw : ∀ d ∈ tables_1, d.before a0 Z = true) (ws : List Jvm.Cond) (G1 : Int32) (G3 : Value) (G4 : Value) (x : Addr) (h0 : Heap) (n0 : Nat) (Z0 : n0 ≤ h0.size) (EN : own_env Z G1 G3 G4) (X00 : Old Z n0 h0) (E_x : Exa Z h0 x "java/lang/String") (F_coder_x : Fld Z h0 x "java/lang/String" "coder" "B" (.int 1)) :
    MetFree l (⟨"java/lang/String", "isLatin1", "()Z"⟩ : MethodName) (head1 (Jvm.Cond.code (⟨"java/lang/String", "isLatin1", "()Z"⟩ : MethodName) jdk_42_method_154_code 1 (some .boolean) :: ws) ({ frames := 0, cells := 0, slots := 0, locals := 0 } : Room)) (fun a_ U_ => a_ = #[(.ref x)] ∧ Z.Warmed39 U_.vm ∧ U_.heap = h0) (fun _ _ _ _ _ => True) (fun _ U_ o_ U1_ => ∃ v_ L_, o_ = .returned v_ ∧ own_Q Z (some (.int 0)) h0 n0 v_ U1_.heap L_ ∧ FrameEnd U_ o_ U1_ L_ ({ frames := 0, cells := 0, slots := 0, locals := 0 } : Room).cells ({ frames := 0, cells := 0, slots := 0, locals := 0 } : Room).slots) := by
  refine MetFree.of_bodySF (plainFor_of_name pn_28) hisR ?_
  intro p e s m args below meth c s₁ Bd hml0 hP hK
  obtain ⟨rfl, hZ, hh⟩ := hP
  have hx := Bd.exec
  have hby := Bd.bytes
  have hml : c.maxLocals = 1 := hml0
  have hown : s.vm.findClass "java/lang/String" = some m.cls := findClass_of_methodNamed Bd.named
  have hnm := (name_of_methodNamed Bd.named Bd.method).1
  have X0 : Stand p l e ({ frames := 0, cells := 0, slots := 0, locals := 0 } : Room) s m #[(.ref x)] below meth c s₁ [] 0 0 := Stand.of_body Bd
  have e0 : s₁.heap = h0 := by rw [← hh, Bd.state]; rfl
  have N0 := Fr.nil n0
  have pre0 : ∀ tt, Steps p.tables e below (s₁.setTop (mkF m 0 #[.val (.ref x)] [])) tt → Steps p.tables e below (s₁.setTop (entryFrame m #[(.ref x)] 1)) tt := fun tt kk => castTop (ef_28_r m x) kk
  have EN0 := EN
  obtain ⟨O2, P5, O4, rG3, O5, rG4, O6, O7, O8⟩ := EN
  obtain ⟨T1, X1, e1, st1⟩ := getS2 X0 hx hZ hown (host := "") (Or.inl (hw _ (tk 148 rfl))) Via.refl e0 (Sta.ext X00.2 O2) (g := (mkF m 0 #[.val (.ref x)] [])) rfl (hb hby d28_0)
  obtain ⟨T2, X2, e2, st2⟩ := getF X1 hx hZ hown (host := "") (Or.inl (hw _ (tk 116 rfl))) Via.refl e1 F_coder_x (g := (mkF m 7 #[.val (.ref x)] [(.ref x)])) rfl rfl (hb hby d28_7)
  obtain ⟨fs, hr, hrun, hended, hW, hsame⟩ := X2.leave (v := some (.int 0)) (fun h => by rw [Bd.returns] at h; cases h)
  refine ⟨_, _, pre0 _ ?_, hrun, hended, _, _, rfl, ?_, ⟨_, rfl⟩, hW, hsame.mono (by decide) (by decide)⟩
  · show Steps p.tables e below (s₁.setTop (mkF m 0 #[.val (.ref x)] [])) _
    refine st1 _ ?_
    show Steps p.tables e below (T1.setTop (mkF m 3 #[.val (.ref x)] [(.int G1)])) _
    refine XS.ifNo X1.here hx rfl (hb hby d28_3) rfl ((if0 _ _).trans (feq P5).1) ?_
    refine XS.aloadN X1.here hx rfl (hb hby d28_6) rfl rfl ?_
    show Steps p.tables e below (T1.setTop (mkF m 7 #[.val (.ref x)] [(.ref x)])) _
    refine st2 _ ?_
    show Steps p.tables e below (T2.setTop (mkF m 10 #[.val (.ref x)] [(.int 1)])) _
    refine XS.ifYes X2.here hx rfl (pc0 := 10) (pc' := 17) rfl (hb hby d28_10) rfl ((if0 _ _).trans (feq (by decide : ¬ ((1 : Int32) = (0 : Int32)))).2) (by decide) (by decide) ?_
    refine XS.iconst X2.here hx rfl (hb hby d28_17) ?_
    show Steps p.tables e below (T2.setTop (mkF m 18 #[.val (.ref x)] [(.int 0)])) _
    exact retN X2 hx (t := .boolean) Bd.returns (by simp) (hb hby d28_18) hr
  · show own_Q Z (some (.int 0)) h0 n0 _ T2.heap _
    rw [e2]
    exact ⟨rfl, N0, rfl⟩
theorem d25_0 : decode jdk_42_method_54_code 0 = .ok (.aload_n 0, 1) := by decide +kernel
theorem d25_1 : decode jdk_42_method_54_code 1 = .ok (.getfield 9, 3) := by decide +kernel
theorem d25_4 : decode jdk_42_method_54_code 4 = .ok (.arraylength, 1) := by decide +kernel
theorem d25_5 : decode jdk_42_method_54_code 5 = .ok (.aload_n 0, 1) := by decide +kernel
theorem pd___B : parseMethodDescriptor "()B" = some ⟨[], some .byte⟩ := by decide +kernel
theorem d25_6 : decode jdk_42_method_54_code 6 = .ok (.invokevirtual 335, 3) := by decide +kernel
theorem d25_9 : decode jdk_42_method_54_code 9 = .ok (.ishr, 1) := by decide +kernel
theorem d25_10 : decode jdk_42_method_54_code 10 = .ok (.ireturn, 1) := by decide +kernel
theorem pn_25 : plainName "java/lang/String" = true := by first | (simp [plainName, overriddenIn]; done) | decide +kernel
theorem ef_25_r (m : MethodId) (x0 : Addr) : entryFrame m #[(.ref x0)] 1 = mkF m 0 #[.val (.ref x0)] [] := by first | (simp [entryFrame, mkF, argsToLocals, Value.category]; done) | rfl
set_option maxRecDepth 65536 in
set_option maxHeartbeats 40000000 in
theorem rmLEl (l : Launch) (Z : State) (a0 : Array Value) (hw : ∀ d ∈ tables_1, d.before a0 Z = true) (ws : List Jvm.Cond) (G1 : Int32) (G3 : Value) (G4 : Value) (x : Addr) (t : Addr) (k : ClassId) (cs : List Int32) (h0 : Heap) (n0 : Nat) (Z0 : n0 ≤ h0.size) (EN : own_env Z G1 G3 G4) (X00 : Old Z n0 h0) (E_x : Exa Z h0 x "java/lang/String") (F_value_x : Fld Z h0 x "java/lang/String" "value" "[B" (.ref t)) (F_coder_x : Fld Z h0 x "java/lang/String" "coder" "B" (.int 0)) (V_t : Arv Z h0 t k .byte (Int32.ofNat cs.length) (own_lat cs) (.int 0)) (hl : own_l1 cs) (hlen : cs.length ≤ 15) :
    MetFree l (⟨"java/lang/String", "length", "()I"⟩ : MethodName) (head1 (Jvm.Cond.code (⟨"java/lang/String", "length", "()I"⟩ : MethodName) jdk_42_method_54_code 1 (some .int) :: ws) ({ frames := 1, cells := 0, slots := 0, locals := 13 } : Room)) (fun a_ U_ => a_ = #[(.ref x)] ∧ Z.Warmed39 U_.vm ∧ U_.heap = h0) (fun _ _ _ _ _ => True) (fun _ U_ o_ U1_ => ∃ v_ L_, o_ = .returned v_ ∧ own_Q Z (some (.int (Int32.ofNat cs.length))) h0 n0 v_ U1_.heap L_ ∧ FrameEnd U_ o_ U1_ L_ ({ frames := 1, cells := 0, slots := 0, locals := 13 } : Room).cells ({ frames := 1, cells := 0, slots := 0, locals := 13 } : Room).slots) := by
  refine MetFree.of_bodySF (plainFor_of_name pn_25) hisR ?_
  intro p e s m args below meth c s₁ Bd hml0 hP hK
  obtain ⟨rfl, hZ, hh⟩ := hP
  have hx := Bd.exec
  have hby := Bd.bytes
  have hml : c.maxLocals = 1 := hml0
  have hown : s.vm.findClass "java/lang/String" = some m.cls := findClass_of_methodNamed Bd.named
  have hnm := (name_of_methodNamed Bd.named Bd.method).1
  have X0 : Stand p l e ({ frames := 1, cells := 0, slots := 0, locals := 13 } : Room) s m #[(.ref x)] below meth c s₁ [] 0 0 := Stand.of_body Bd
  have e0 : s₁.heap = h0 := by rw [← hh, Bd.state]; rfl
  have N0 := Fr.nil n0
  have pre0 : ∀ tt, Steps p.tables e below (s₁.setTop (mkF m 0 #[.val (.ref x)] [])) tt → Steps p.tables e below (s₁.setTop (entryFrame m #[(.ref x)] 1)) tt := fun tt kk => castTop (ef_25_r m x) kk
  have EN0 := EN
  obtain ⟨O2, P5, O4, rG3, O5, rG4, O6, O7, O8⟩ := EN
  obtain ⟨T1, X1, e1, st1⟩ := getF X0 hx hZ hown (host := "") (Or.inl (hw _ (tk 136 rfl))) Via.refl e0 F_value_x (g := (mkF m 1 #[.val (.ref x)] [(.ref x)])) rfl rfl (hb hby d25_1)
  obtain ⟨c2, Ar2, -, S2, M2, -, -⟩ := id V_t
  obtain ⟨cq3, kq3, q3a, q3b, q3c⟩ := isOf hZ e1 E_x
  obtain ⟨_, _, ⟨T3, L3, k3, n3⟩, -, X3, ⟨Lc3, hQ3, l3, y3, z3⟩, st3⟩ := X1.virtualBack hx (y := (⟨"java/lang/String", "coder", "()B"⟩ : MethodName)) (z := (⟨"java/lang/String", "coder", "()B"⟩ : MethodName)) hown (mvT hZ (hw _ (tk 143 rfl))) (mvT hZ (hw _ (tk 144 rfl))) (notFace_of_selects (args := #[]) (mvT hZ (hw _ (tk 146 rfl)))) (mvT hZ (hw _ (tk 146 rfl))) (mvT hZ (hw _ (tk 145 rfl))) (by decide) (backOf (W := 1) (rmCD0 l Z a0 hw [] G1 G3 G4 x h0 n0 Z0 EN0 X00 E_x F_coder_x) hZ (hw _ (tk 147 rfl)) (hw _ (tk 32 rfl)) (by decide) (by decide)) q3a q3c (g := (mkF m 6 #[.val (.ref x)] [(.ref x), (.int (Int32.ofNat cs.length))])) rfl (by rw [hml]; rfl) (Steps.refl _) (argsL := []) (rest := [(.int (Int32.ofNat cs.length))]) (lenOf pd___B rfl) rfl (by show 2 * 0 + _ ≤ _; exact Nat.le_of_eq rfl) (hb hby d25_6) (fun _ _ => ⟨rfl, e1, (by decide : 0 + 0 ≤ _), (by decide : 0 + 0 ≤ _)⟩)
  dsimp only [Pt.U, Pt.locs, Pt.cells, Pt.slots] at X3 l3 y3 z3 st3 hQ3
  subst l3 y3 z3
  obtain ⟨rfl, Nq3, eq3⟩ := hQ3
  have N3 := Fr.app N0 Nq3
  obtain ⟨fs, hr, hrun, hended, hW, hsame⟩ := X3.leave (v := some (.int (Int32.ofNat cs.length))) (fun h => by rw [Bd.returns] at h; cases h)
  refine ⟨_, _, pre0 _ ?_, hrun, hended, _, _, rfl, ?_, ⟨_, rfl⟩, hW, hsame.mono (by decide) (by decide)⟩
  · show Steps p.tables e below (s₁.setTop (mkF m 0 #[.val (.ref x)] [])) _
    refine XS.aloadN X0.here hx rfl (hb hby d25_0) rfl rfl ?_
    show Steps p.tables e below (s₁.setTop (mkF m 1 #[.val (.ref x)] [(.ref x)])) _
    refine st1 _ ?_
    show Steps p.tables e below (T1.setTop (mkF m 4 #[.val (.ref x)] [(.ref t)])) _
    refine X1.arraylength hx (by rw [e1]; exact Ar2.1) (State.isArrayOf_alike hZ.alike Ar2.2.1) (g := (mkF m 4 #[.val (.ref x)] [(.ref t)])) rfl rfl (hb hby d25_4) _ ?_
    rw [len_of S2 M2]
    show Steps p.tables e below (T1.setTop (mkF m 5 #[.val (.ref x)] [(.int (Int32.ofNat cs.length))])) _
    refine XS.aloadN X1.here hx rfl (hb hby d25_5) rfl rfl ?_
    show Steps p.tables e below (T1.setTop (mkF m 6 #[.val (.ref x)] [(.ref x), (.int (Int32.ofNat cs.length))])) _
    refine st3.trans ?_
    show Steps p.tables e below (T3.setTop (mkF m 9 #[.val (.ref x)] [(.int 0), (.int (Int32.ofNat cs.length))])) _
    refine XS.ishr X3.here hx rfl (hb hby d25_9) rfl ?_
    show Steps p.tables e below (T3.setTop (mkF m 10 #[.val (.ref x)] [(.int ((Int32.ofNat cs.length) >>> ((0 : Int32) &&& 31)))])) _
    rw [(own_shr0 (by omega))]
    show Steps p.tables e below (T3.setTop (mkF m 10 #[.val (.ref x)] [(.int (Int32.ofNat cs.length))])) _
    exact retI X3 hx Bd.returns (hb hby d25_10) hr
  · show own_Q Z (some (.int (Int32.ofNat cs.length))) h0 n0 _ T3.heap _
    rw [eq3]
    exact ⟨rfl, N3, rfl⟩
set_option maxRecDepth 65536 in
set_option maxHeartbeats 40000000 in
theorem rmLEw (l : Launch) (Z : State) (a0 : Array Value) (hw : ∀ d ∈ tables_1, d.before a0 Z = true) (ws : List Jvm.Cond) (G1 : Int32) (G3 : Value) (G4 : Value) (x : Addr) (t : Addr) (k : ClassId) (cs : List Int32) (h0 : Heap) (n0 : Nat) (Z0 : n0 ≤ h0.size) (EN : own_env Z G1 G3 G4) (X00 : Old Z n0 h0) (E_x : Exa Z h0 x "java/lang/String") (F_value_x : Fld Z h0 x "java/lang/String" "value" "[B" (.ref t)) (F_coder_x : Fld Z h0 x "java/lang/String" "coder" "B" (.int 1)) (V_t : Arv Z h0 t k .byte (Int32.ofNat (2 * cs.length)) (own_wide cs) (.int 0)) (hlen : cs.length ≤ 15) :
    MetFree l (⟨"java/lang/String", "length", "()I"⟩ : MethodName) (head1 (Jvm.Cond.code (⟨"java/lang/String", "length", "()I"⟩ : MethodName) jdk_42_method_54_code 1 (some .int) :: ws) ({ frames := 1, cells := 0, slots := 0, locals := 13 } : Room)) (fun a_ U_ => a_ = #[(.ref x)] ∧ Z.Warmed39 U_.vm ∧ U_.heap = h0) (fun _ _ _ _ _ => True) (fun _ U_ o_ U1_ => ∃ v_ L_, o_ = .returned v_ ∧ own_Q Z (some (.int (Int32.ofNat cs.length))) h0 n0 v_ U1_.heap L_ ∧ FrameEnd U_ o_ U1_ L_ ({ frames := 1, cells := 0, slots := 0, locals := 13 } : Room).cells ({ frames := 1, cells := 0, slots := 0, locals := 13 } : Room).slots) := by
  refine MetFree.of_bodySF (plainFor_of_name pn_25) hisR ?_
  intro p e s m args below meth c s₁ Bd hml0 hP hK
  obtain ⟨rfl, hZ, hh⟩ := hP
  have hx := Bd.exec
  have hby := Bd.bytes
  have hml : c.maxLocals = 1 := hml0
  have hown : s.vm.findClass "java/lang/String" = some m.cls := findClass_of_methodNamed Bd.named
  have hnm := (name_of_methodNamed Bd.named Bd.method).1
  have X0 : Stand p l e ({ frames := 1, cells := 0, slots := 0, locals := 13 } : Room) s m #[(.ref x)] below meth c s₁ [] 0 0 := Stand.of_body Bd
  have e0 : s₁.heap = h0 := by rw [← hh, Bd.state]; rfl
  have N0 := Fr.nil n0
  have pre0 : ∀ tt, Steps p.tables e below (s₁.setTop (mkF m 0 #[.val (.ref x)] [])) tt → Steps p.tables e below (s₁.setTop (entryFrame m #[(.ref x)] 1)) tt := fun tt kk => castTop (ef_25_r m x) kk
  have EN0 := EN
  obtain ⟨O2, P5, O4, rG3, O5, rG4, O6, O7, O8⟩ := EN
  obtain ⟨T1, X1, e1, st1⟩ := getF X0 hx hZ hown (host := "") (Or.inl (hw _ (tk 136 rfl))) Via.refl e0 F_value_x (g := (mkF m 1 #[.val (.ref x)] [(.ref x)])) rfl rfl (hb hby d25_1)
  obtain ⟨c2, Ar2, -, S2, M2, -, -⟩ := id V_t
  obtain ⟨cq3, kq3, q3a, q3b, q3c⟩ := isOf hZ e1 E_x
  obtain ⟨_, _, ⟨T3, L3, k3, n3⟩, -, X3, ⟨Lc3, hQ3, l3, y3, z3⟩, st3⟩ := X1.virtualBack hx (y := (⟨"java/lang/String", "coder", "()B"⟩ : MethodName)) (z := (⟨"java/lang/String", "coder", "()B"⟩ : MethodName)) hown (mvT hZ (hw _ (tk 143 rfl))) (mvT hZ (hw _ (tk 144 rfl))) (notFace_of_selects (args := #[]) (mvT hZ (hw _ (tk 146 rfl)))) (mvT hZ (hw _ (tk 146 rfl))) (mvT hZ (hw _ (tk 145 rfl))) (by decide) (backOf (W := 1) (rmCD1 l Z a0 hw [] G1 G3 G4 x h0 n0 Z0 EN0 X00 E_x F_coder_x) hZ (hw _ (tk 147 rfl)) (hw _ (tk 32 rfl)) (by decide) (by decide)) q3a q3c (g := (mkF m 6 #[.val (.ref x)] [(.ref x), (.int (Int32.ofNat (2 * cs.length)))])) rfl (by rw [hml]; rfl) (Steps.refl _) (argsL := []) (rest := [(.int (Int32.ofNat (2 * cs.length)))]) (lenOf pd___B rfl) rfl (by show 2 * 0 + _ ≤ _; exact Nat.le_of_eq rfl) (hb hby d25_6) (fun _ _ => ⟨rfl, e1, (by decide : 0 + 0 ≤ _), (by decide : 0 + 0 ≤ _)⟩)
  dsimp only [Pt.U, Pt.locs, Pt.cells, Pt.slots] at X3 l3 y3 z3 st3 hQ3
  subst l3 y3 z3
  obtain ⟨rfl, Nq3, eq3⟩ := hQ3
  have N3 := Fr.app N0 Nq3
  obtain ⟨fs, hr, hrun, hended, hW, hsame⟩ := X3.leave (v := some (.int (Int32.ofNat cs.length))) (fun h => by rw [Bd.returns] at h; cases h)
  refine ⟨_, _, pre0 _ ?_, hrun, hended, _, _, rfl, ?_, ⟨_, rfl⟩, hW, hsame.mono (by decide) (by decide)⟩
  · show Steps p.tables e below (s₁.setTop (mkF m 0 #[.val (.ref x)] [])) _
    refine XS.aloadN X0.here hx rfl (hb hby d25_0) rfl rfl ?_
    show Steps p.tables e below (s₁.setTop (mkF m 1 #[.val (.ref x)] [(.ref x)])) _
    refine st1 _ ?_
    show Steps p.tables e below (T1.setTop (mkF m 4 #[.val (.ref x)] [(.ref t)])) _
    refine X1.arraylength hx (by rw [e1]; exact Ar2.1) (State.isArrayOf_alike hZ.alike Ar2.2.1) (g := (mkF m 4 #[.val (.ref x)] [(.ref t)])) rfl rfl (hb hby d25_4) _ ?_
    rw [len_of S2 M2]
    show Steps p.tables e below (T1.setTop (mkF m 5 #[.val (.ref x)] [(.int (Int32.ofNat (2 * cs.length)))])) _
    refine XS.aloadN X1.here hx rfl (hb hby d25_5) rfl rfl ?_
    show Steps p.tables e below (T1.setTop (mkF m 6 #[.val (.ref x)] [(.ref x), (.int (Int32.ofNat (2 * cs.length)))])) _
    refine st3.trans ?_
    show Steps p.tables e below (T3.setTop (mkF m 9 #[.val (.ref x)] [(.int 1), (.int (Int32.ofNat (2 * cs.length)))])) _
    refine XS.ishr X3.here hx rfl (hb hby d25_9) rfl ?_
    show Steps p.tables e below (T3.setTop (mkF m 10 #[.val (.ref x)] [(.int ((Int32.ofNat (2 * cs.length)) >>> ((1 : Int32) &&& 31)))])) _
    rw [(own_shr (by omega))]
    show Steps p.tables e below (T3.setTop (mkF m 10 #[.val (.ref x)] [(.int (Int32.ofNat cs.length))])) _
    exact retI X3 hx Bd.returns (hb hby d25_10) hr
  · show own_Q Z (some (.int (Int32.ofNat cs.length))) h0 n0 _ T3.heap _
    rw [eq3]
    exact ⟨rfl, N3, rfl⟩
theorem rmLE (l : Launch) (Z : State) (a0 : Array Value) (hw : ∀ d ∈ tables_1, d.before a0 Z = true) (ws : List Jvm.Cond) (G1 : Int32) (G3 G4 : Value) (x : Addr) (cs : List Int32) (h0 : Heap) (n0 : Nat) (Z0 : n0 ≤ h0.size) (EN : own_env Z G1 G3 G4) (X00 : Old Z n0 h0) (S : own_st Z h0 x cs) (hlen : cs.length ≤ 15) :
    MetFree l (⟨"java/lang/String", "length", "()I"⟩ : MethodName) (head1 (Jvm.Cond.code (⟨"java/lang/String", "length", "()I"⟩ : MethodName) jdk_42_method_54_code 1 (some .int) :: ws) ({ frames := 1, cells := 0, slots := 0, locals := 13 } : Room)) (fun a_ U_ => a_ = #[(.ref x)] ∧ Z.Warmed39 U_.vm ∧ U_.heap = h0) (fun _ _ _ _ _ => True) (fun _ U_ o_ U1_ => ∃ v_ L_, o_ = .returned v_ ∧ own_Q Z (some (.int (Int32.ofNat cs.length))) h0 n0 v_ U1_.heap L_ ∧ FrameEnd U_ o_ U1_ L_ ({ frames := 1, cells := 0, slots := 0, locals := 13 } : Room).cells ({ frames := 1, cells := 0, slots := 0, locals := 13 } : Room).slots) := by
  obtain ⟨t, k, S1, S2, ⟨S3, S4, S5⟩ | ⟨S3, S4⟩⟩ := S
  · exact rmLEl l Z a0 hw ws G1 G3 G4 x t k cs h0 n0 Z0 EN X00 S1 S2 S3 S4 S5 hlen
  · exact rmLEw l Z a0 hw ws G1 G3 G4 x t k cs h0 n0 Z0 EN X00 S1 S2 S3 S4 hlen
theorem d29_0 : decode jdk_43_method_2_code 0 = .ok (.iload_n 1, 1) := by decide +kernel
theorem d29_1 : decode jdk_43_method_2_code 1 = .ok (.aload_n 0, 1) := by decide +kernel
theorem d29_2 : decode jdk_43_method_2_code 2 = .ok (.arraylength, 1) := by decide +kernel
theorem d29_3 : decode jdk_43_method_2_code 3 = .ok (.invokestatic 9, 3) := by decide +kernel
theorem d29_6 : decode jdk_43_method_2_code 6 = .ok (.aload_n 0, 1) := by decide +kernel
theorem d29_7 : decode jdk_43_method_2_code 7 = .ok (.iload_n 1, 1) := by decide +kernel
theorem d29_8 : decode jdk_43_method_2_code 8 = .ok (.baload, 1) := by decide +kernel
theorem d29_9 : decode jdk_43_method_2_code 9 = .ok (.sipush 255, 3) := by decide +kernel
theorem d29_12 : decode jdk_43_method_2_code 12 = .ok (.iand, 1) := by decide +kernel
theorem d29_13 : decode jdk_43_method_2_code 13 = .ok (.i2c, 1) := by decide +kernel
theorem d29_14 : decode jdk_43_method_2_code 14 = .ok (.ireturn, 1) := by decide +kernel
theorem pn_29 : plainName "java/lang/StringLatin1" = true := by first | (simp [plainName, overriddenIn]; done) | decide +kernel
theorem ef_29_rr (m : MethodId) (x0 : Addr) (x1 : Int32) : entryFrame m #[(.ref x0), (.int x1)] 2 = mkF m 0 #[.val (.ref x0), .val (.int x1)] [] := by first | (simp [entryFrame, mkF, argsToLocals, Value.category]; done) | rfl
set_option maxRecDepth 65536 in
set_option maxHeartbeats 40000000 in
theorem rmLCA (l : Launch) (Z : State) (a0 : Array Value) (hw : ∀ d ∈ tables_1, d.before a0 Z = true) (ws : List Jvm.Cond) (G1 : Int32) (G3 : Value) (G4 : Value) (t : Addr) (k : ClassId) (cs : List Int32) (i : Nat) (h0 : Heap) (n0 : Nat) (Z0 : n0 ≤ h0.size) (EN : own_env Z G1 G3 G4) (X00 : Old Z n0 h0) (V_t : Arv Z h0 t k .byte (Int32.ofNat cs.length) (own_lat cs) (.int 0)) (hl : own_l1 cs) (hlen : cs.length ≤ 15) (hi : i < cs.length) :
    MetFree l (⟨"java/lang/StringLatin1", "charAt", "([BI)C"⟩ : MethodName) (head1 (Jvm.Cond.code (⟨"java/lang/StringLatin1", "charAt", "([BI)C"⟩ : MethodName) jdk_43_method_2_code 2 (some .char) :: ws) ({ frames := 2, cells := 0, slots := 0, locals := 27 } : Room)) (fun a_ U_ => a_ = #[(.ref t), (.int (Int32.ofNat i))] ∧ Z.Warmed39 U_.vm ∧ U_.heap = h0) (fun _ _ _ _ _ => True) (fun _ U_ o_ U1_ => ∃ v_ L_, o_ = .returned v_ ∧ own_Q Z (some (.int (cs.getD i 0))) h0 n0 v_ U1_.heap L_ ∧ FrameEnd U_ o_ U1_ L_ ({ frames := 2, cells := 0, slots := 0, locals := 27 } : Room).cells ({ frames := 2, cells := 0, slots := 0, locals := 27 } : Room).slots) := by
  refine MetFree.of_bodySF (plainFor_of_name pn_29) hisR ?_
  intro p e s m args below meth c s₁ Bd hml0 hP hK
  obtain ⟨rfl, hZ, hh⟩ := hP
  have hx := Bd.exec
  have hby := Bd.bytes
  have hml : c.maxLocals = 2 := hml0
  have hown : s.vm.findClass "java/lang/StringLatin1" = some m.cls := findClass_of_methodNamed Bd.named
  have hnm := (name_of_methodNamed Bd.named Bd.method).1
  have X0 : Stand p l e ({ frames := 2, cells := 0, slots := 0, locals := 27 } : Room) s m #[(.ref t), (.int (Int32.ofNat i))] below meth c s₁ [] 0 0 := Stand.of_body Bd
  have e0 : s₁.heap = h0 := by rw [← hh, Bd.state]; rfl
  have N0 := Fr.nil n0
  have pre0 : ∀ tt, Steps p.tables e below (s₁.setTop (mkF m 0 #[.val (.ref t), .val (.int (Int32.ofNat i))] [])) tt → Steps p.tables e below (s₁.setTop (entryFrame m #[(.ref t), (.int (Int32.ofNat i))] 2)) tt := fun tt kk => castTop (ef_29_rr m t (Int32.ofNat i)) kk
  have EN0 := EN
  obtain ⟨O2, P5, O4, rG3, O5, rG4, O6, O7, O8⟩ := EN
  have CH : own_ch (cs.getD i 0) := own_up (own_l1_at hl hi).1 (own_l1_at hl hi).2
  obtain ⟨c1, Ar1, -, S1, M1, -, -⟩ := id V_t
  obtain ⟨_, _, ⟨T2, L2, k2, n2⟩, -, X2, ⟨Lc2, hQ2, l2, y2, z2⟩, st2⟩ := Jvm.LawKit.callS X0 hx (y := (⟨"java/lang/String", "checkIndex", "(II)V"⟩ : MethodName)) hown (mvT hZ (hw _ (tk 162 rfl))) (mvT hZ (hw _ (tk 163 rfl))) (mvT hZ (hw _ (tk 32 rfl))) (mvT hZ (hw _ (tk 164 rfl))) (by decide) (backOf (W := 0) (rmSCI l Z a0 hw [] G1 G3 G4 (Int32.ofNat i) (Int32.ofNat cs.length) h0 n0 Z0 EN0 X00 (own_in hi (by omega)).1 (own_in hi (by omega)).2) hZ (hw _ (tk 164 rfl)) (hw _ (tk 32 rfl)) (by decide) (by decide)) (g := (mkF m 3 #[.val (.ref t), .val (.int (Int32.ofNat i))] [(.int (Int32.ofNat cs.length)), (.int (Int32.ofNat i))])) rfl (by rw [hml]; rfl) (argsL := [(.int (Int32.ofNat i)), (.int (Int32.ofNat cs.length))]) (rest := []) (lenOf pd__II_V rfl) rfl (by show 2 * 0 + _ ≤ _; exact Nat.le_of_eq rfl) (hb hby d29_3) (fun _ _ => ⟨rfl, e0, (by decide : 0 + 0 ≤ _), (by decide : 0 + 0 ≤ _)⟩)
  dsimp only [Pt.U, Pt.locs, Pt.cells, Pt.slots] at X2 l2 y2 z2 st2 hQ2
  subst l2 y2 z2
  obtain ⟨rfl, Nq2, eq2⟩ := hQ2
  have N2 := Fr.app N0 Nq2
  obtain ⟨c3, Ar3, -, S3, M3, H3, -⟩ := id V_t
  have hin3 := inb_of (j := (Int32.ofNat i)) S3 (own_in hi (by omega))
  obtain ⟨fs, hr, hrun, hended, hW, hsame⟩ := X2.leave (v := some (.int (nar .char (cs.getD i 0)))) (fun h => by rw [Bd.returns] at h; cases h)
  refine ⟨_, _, pre0 _ ?_, hrun, hended, _, _, rfl, ?_, ⟨_, rfl⟩, hW, hsame.mono (by decide) (by decide)⟩
  · show Steps p.tables e below (s₁.setTop (mkF m 0 #[.val (.ref t), .val (.int (Int32.ofNat i))] [])) _
    refine XS.iloadN X0.here hx rfl (hb hby d29_0) rfl ?_
    refine XS.aloadN X0.here hx rfl (hb hby d29_1) rfl rfl ?_
    show Steps p.tables e below (s₁.setTop (mkF m 2 #[.val (.ref t), .val (.int (Int32.ofNat i))] [(.ref t), (.int (Int32.ofNat i))])) _
    refine X0.arraylength hx (by rw [e0]; exact Ar1.1) (State.isArrayOf_alike hZ.alike Ar1.2.1) (g := (mkF m 2 #[.val (.ref t), .val (.int (Int32.ofNat i))] [(.ref t), (.int (Int32.ofNat i))])) rfl rfl (hb hby d29_2) _ ?_
    rw [len_of S1 M1]
    show Steps p.tables e below (s₁.setTop (mkF m 3 #[.val (.ref t), .val (.int (Int32.ofNat i))] [(.int (Int32.ofNat cs.length)), (.int (Int32.ofNat i))])) _
    refine st2 _ ?_
    show Steps p.tables e below (T2.setTop (mkF m 6 #[.val (.ref t), .val (.int (Int32.ofNat i))] [])) _
    refine XS.aloadN X2.here hx rfl (hb hby d29_6) rfl rfl ?_
    refine XS.iloadN X2.here hx rfl (hb hby d29_7) rfl ?_
    show Steps p.tables e below (T2.setTop (mkF m 8 #[.val (.ref t), .val (.int (Int32.ofNat i))] [(.int (Int32.ofNat i)), (.ref t)])) _
    refine X2.baloadBytes hx (j := (Int32.ofNat i)) (v := (.int (own_l8 (cs.getD i 0)))) (by rw [eq2]; exact Ar3.1) (State.isArrayOf_alike hZ.alike Ar3.2.1) Ar3.2.2 hin3 (H3.at hin3 (own_la cs i hi (by omega))) (g := (mkF m 8 #[.val (.ref t), .val (.int (Int32.ofNat i))] [(.int (Int32.ofNat i)), (.ref t)])) rfl rfl (hb hby d29_8) _ ?_
    show Steps p.tables e below (T2.setTop (mkF m 9 #[.val (.ref t), .val (.int (Int32.ofNat i))] [(.int (own_l8 (cs.getD i 0)))])) _
    refine XS.sipush X2.here hx rfl (hb hby d29_9) ?_
    refine XS.iand X2.here hx rfl (hb hby d29_12) rfl ?_
    show Steps p.tables e below (T2.setTop (mkF m 13 #[.val (.ref t), .val (.int (Int32.ofNat i))] [(.int ((own_l8 (cs.getD i 0)) &&& (255 : Int32)))])) _
    rw [(own_msk (own_l1_at hl hi).1 (own_l1_at hl hi).2)]
    show Steps p.tables e below (T2.setTop (mkF m 13 #[.val (.ref t), .val (.int (Int32.ofNat i))] [(.int (cs.getD i 0))])) _
    refine XS.i2c X2.here hx rfl (hb hby d29_13) rfl ?_
    show Steps p.tables e below (T2.setTop (mkF m 14 #[.val (.ref t), .val (.int (Int32.ofNat i))] [(.int ((cs.getD i 0).toUInt32.toUInt16.toUInt32.toInt32))])) _
    rw [(own_i2c (c := (cs.getD i 0)) CH)]
    show Steps p.tables e below (T2.setTop (mkF m 14 #[.val (.ref t), .val (.int (Int32.ofNat i))] [(.int (cs.getD i 0))])) _
    exact retN X2 hx (t := .char) Bd.returns (by simp) (hb hby d29_14) hr
  · show own_Q Z (some (.int (cs.getD i 0))) h0 n0 _ T2.heap _
    rw [eq2]
    exact ⟨own_some (own_narc CH), N2, rfl⟩
theorem d52_0 : decode jdk_52_method_5_code 0 = .ok (.getstatic 44, 3) := by decide +kernel
theorem d52_3 : decode jdk_52_method_5_code 3 = .ok (.ifCond .ne 25, 3) := by decide +kernel
theorem d52_28 : decode jdk_52_method_5_code 28 = .ok (.iload_n 1, 1) := by decide +kernel
theorem d52_29 : decode jdk_52_method_5_code 29 = .ok (.iconst 1, 1) := by decide +kernel
theorem d52_30 : decode jdk_52_method_5_code 30 = .ok (.ishl, 1) := by decide +kernel
theorem d52_31 : decode jdk_52_method_5_code 31 = .ok (.istore_n 1, 1) := by decide +kernel
theorem d52_32 : decode jdk_52_method_5_code 32 = .ok (.aload_n 0, 1) := by decide +kernel
theorem d52_33 : decode jdk_52_method_5_code 33 = .ok (.iload_n 1, 1) := by decide +kernel
theorem d52_34 : decode jdk_52_method_5_code 34 = .ok (.iinc 1 1, 3) := by decide +kernel
theorem d52_37 : decode jdk_52_method_5_code 37 = .ok (.baload, 1) := by decide +kernel
theorem d52_38 : decode jdk_52_method_5_code 38 = .ok (.sipush 255, 3) := by decide +kernel
theorem d52_41 : decode jdk_52_method_5_code 41 = .ok (.iand, 1) := by decide +kernel
theorem d52_42 : decode jdk_52_method_5_code 42 = .ok (.getstatic 59, 3) := by decide +kernel
theorem d52_45 : decode jdk_52_method_5_code 45 = .ok (.ishl, 1) := by decide +kernel
theorem d52_46 : decode jdk_52_method_5_code 46 = .ok (.aload_n 0, 1) := by decide +kernel
theorem d52_47 : decode jdk_52_method_5_code 47 = .ok (.iload_n 1, 1) := by decide +kernel
theorem d52_48 : decode jdk_52_method_5_code 48 = .ok (.baload, 1) := by decide +kernel
theorem d52_49 : decode jdk_52_method_5_code 49 = .ok (.sipush 255, 3) := by decide +kernel
theorem d52_52 : decode jdk_52_method_5_code 52 = .ok (.iand, 1) := by decide +kernel
theorem d52_53 : decode jdk_52_method_5_code 53 = .ok (.getstatic 63, 3) := by decide +kernel
theorem d52_56 : decode jdk_52_method_5_code 56 = .ok (.ishl, 1) := by decide +kernel
theorem d52_57 : decode jdk_52_method_5_code 57 = .ok (.ior, 1) := by decide +kernel
theorem d52_58 : decode jdk_52_method_5_code 58 = .ok (.i2c, 1) := by decide +kernel
theorem d52_59 : decode jdk_52_method_5_code 59 = .ok (.ireturn, 1) := by decide +kernel
theorem pn_52 : plainName "java/lang/StringUTF16" = true := by first | (simp [plainName, overriddenIn]; done) | decide +kernel
theorem ef_52_rr (m : MethodId) (x0 : Addr) (x1 : Int32) : entryFrame m #[(.ref x0), (.int x1)] 2 = mkF m 0 #[.val (.ref x0), .val (.int x1)] [] := by first | (simp [entryFrame, mkF, argsToLocals, Value.category]; done) | rfl
set_option maxRecDepth 65536 in
set_option maxHeartbeats 40000000 in
theorem rmGC (l : Launch) (Z : State) (a0 : Array Value) (hw : ∀ d ∈ tables_1, d.before a0 Z = true) (ws : List Jvm.Cond) (G1 : Int32) (G3 : Value) (G4 : Value) (t : Addr) (k : ClassId) (cs : List Int32) (i : Nat) (h0 : Heap) (n0 : Nat) (Z0 : n0 ≤ h0.size) (EN : own_env Z G1 G3 G4) (X00 : Old Z n0 h0) (V_t : Arv Z h0 t k .byte (Int32.ofNat (2 * cs.length)) (own_wide cs) (.int 0)) (CH : own_ch (cs.getD i 0)) (hlen : cs.length ≤ 15) (hi : i < cs.length) :
    MetFree l (⟨"java/lang/StringUTF16", "getChar", "([BI)C"⟩ : MethodName) (head1 (Jvm.Cond.code (⟨"java/lang/StringUTF16", "getChar", "([BI)C"⟩ : MethodName) jdk_52_method_5_code 2 (some .char) :: ws) ({ frames := 0, cells := 0, slots := 0, locals := 0 } : Room)) (fun a_ U_ => a_ = #[(.ref t), (.int (Int32.ofNat i))] ∧ Z.Warmed39 U_.vm ∧ U_.heap = h0) (fun _ _ _ _ _ => True) (fun _ U_ o_ U1_ => ∃ v_ L_, o_ = .returned v_ ∧ own_Q Z (some (.int (cs.getD i 0))) h0 n0 v_ U1_.heap L_ ∧ FrameEnd U_ o_ U1_ L_ ({ frames := 0, cells := 0, slots := 0, locals := 0 } : Room).cells ({ frames := 0, cells := 0, slots := 0, locals := 0 } : Room).slots) := by
  refine MetFree.of_bodySF (plainFor_of_name pn_52) hisR ?_
  intro p e s m args below meth c s₁ Bd hml0 hP hK
  obtain ⟨rfl, hZ, hh⟩ := hP
  have hx := Bd.exec
  have hby := Bd.bytes
  have hml : c.maxLocals = 2 := hml0
  have hown : s.vm.findClass "java/lang/StringUTF16" = some m.cls := findClass_of_methodNamed Bd.named
  have hnm := (name_of_methodNamed Bd.named Bd.method).1
  have X0 : Stand p l e ({ frames := 0, cells := 0, slots := 0, locals := 0 } : Room) s m #[(.ref t), (.int (Int32.ofNat i))] below meth c s₁ [] 0 0 := Stand.of_body Bd
  have e0 : s₁.heap = h0 := by rw [← hh, Bd.state]; rfl
  have N0 := Fr.nil n0
  have pre0 : ∀ tt, Steps p.tables e below (s₁.setTop (mkF m 0 #[.val (.ref t), .val (.int (Int32.ofNat i))] [])) tt → Steps p.tables e below (s₁.setTop (entryFrame m #[(.ref t), (.int (Int32.ofNat i))] 2)) tt := fun tt kk => castTop (ef_52_rr m t (Int32.ofNat i)) kk
  have EN0 := EN
  obtain ⟨O2, P5, O4, rG3, O5, rG4, O6, O7, O8⟩ := EN
  obtain ⟨T1, X1, e1, st1⟩ := getS2 X0 hx hZ hown (host := "") (Or.inl (hw _ (tk 224 rfl))) Via.refl e0 (Sta.ext X00.2 O6) (g := (mkF m 0 #[.val (.ref t), .val (.int (Int32.ofNat i))] [])) rfl (hb hby d52_0)
  obtain ⟨c2, Ar2, -, S2, M2, H2, -⟩ := id V_t
  have hin2 := inb_of (j := (Int32.ofNat (2 * i))) S2 (own_in (by omega) (by omega))
  obtain ⟨T3, X3, e3, st3⟩ := getS2 X1 hx hZ hown (host := "") (Or.inl (hw _ (tk 225 rfl))) Via.refl e1 (Sta.ext X00.2 O7) (g := (mkF m 42 #[.val (.ref t), .val (.int ((Int32.ofNat (2 * i)) + (1 : Int32)))] [(.int ((own_b0 (cs.getD i 0)) &&& (255 : Int32)))])) rfl (hb hby d52_42)
  obtain ⟨c4, Ar4, -, S4, M4, H4, -⟩ := id V_t
  have hin4 := inb_of (j := (Int32.ofNat (2 * i + 1))) S4 (own_in (by omega) (by omega))
  obtain ⟨T5, X5, e5, st5⟩ := getS2 X3 hx hZ hown (host := "") (Or.inl (hw _ (tk 226 rfl))) Via.refl e3 (Sta.ext X00.2 O8) (g := (mkF m 53 #[.val (.ref t), .val (.int (Int32.ofNat (2 * i + 1)))] [(.int ((own_b1 (cs.getD i 0)) &&& (255 : Int32))), (.int (((own_b0 (cs.getD i 0)) &&& (255 : Int32)) <<< ((0 : Int32) &&& 31)))])) rfl (hb hby d52_53)
  obtain ⟨fs, hr, hrun, hended, hW, hsame⟩ := X5.leave (v := some (.int (nar .char (cs.getD i 0)))) (fun h => by rw [Bd.returns] at h; cases h)
  refine ⟨_, _, pre0 _ ?_, hrun, hended, _, _, rfl, ?_, ⟨_, rfl⟩, hW, hsame.mono (by decide) (by decide)⟩
  · show Steps p.tables e below (s₁.setTop (mkF m 0 #[.val (.ref t), .val (.int (Int32.ofNat i))] [])) _
    refine st1 _ ?_
    show Steps p.tables e below (T1.setTop (mkF m 3 #[.val (.ref t), .val (.int (Int32.ofNat i))] [(.int 1)])) _
    refine XS.ifYes X1.here hx rfl (pc0 := 3) (pc' := 28) rfl (hb hby d52_3) rfl ((if0 _ _).trans (feq (by decide : ¬ ((1 : Int32) = (0 : Int32)))).2) (by decide) (by decide) ?_
    refine XS.iloadN X1.here hx rfl (hb hby d52_28) rfl ?_
    refine XS.iconst X1.here hx rfl (hb hby d52_29) ?_
    refine XS.ishl X1.here hx rfl (hb hby d52_30) rfl ?_
    show Steps p.tables e below (T1.setTop (mkF m 31 #[.val (.ref t), .val (.int (Int32.ofNat i))] [(.int ((Int32.ofNat i) <<< ((1 : Int32) &&& 31)))])) _
    rw [(own_shl (by omega))]
    show Steps p.tables e below (T1.setTop (mkF m 31 #[.val (.ref t), .val (.int (Int32.ofNat i))] [(.int (Int32.ofNat (2 * i)))])) _
    refine XS.istoreN X1.here hx rfl (hb hby d52_31) rfl (l' := #[.val (.ref t), .val (.int (Int32.ofNat (2 * i)))]) rfl ?_
    refine XS.aloadN X1.here hx rfl (hb hby d52_32) rfl rfl ?_
    refine XS.iloadN X1.here hx rfl (hb hby d52_33) rfl ?_
    refine XS.iinc X1.here hx rfl (hb hby d52_34) rfl (l' := #[.val (.ref t), .val (.int ((Int32.ofNat (2 * i)) + (1 : Int32)))]) rfl ?_
    show Steps p.tables e below (T1.setTop (mkF m 37 #[.val (.ref t), .val (.int ((Int32.ofNat (2 * i)) + (1 : Int32)))] [(.int (Int32.ofNat (2 * i))), (.ref t)])) _
    refine X1.baloadBytes hx (j := (Int32.ofNat (2 * i))) (v := (.int (own_b0 (cs.getD i 0)))) (by rw [e1]; exact Ar2.1) (State.isArrayOf_alike hZ.alike Ar2.2.1) Ar2.2.2 hin2 (H2.at hin2 (own_wa0 cs i hi (by omega))) (g := (mkF m 37 #[.val (.ref t), .val (.int ((Int32.ofNat (2 * i)) + (1 : Int32)))] [(.int (Int32.ofNat (2 * i))), (.ref t)])) rfl rfl (hb hby d52_37) _ ?_
    show Steps p.tables e below (T1.setTop (mkF m 38 #[.val (.ref t), .val (.int ((Int32.ofNat (2 * i)) + (1 : Int32)))] [(.int (own_b0 (cs.getD i 0)))])) _
    refine XS.sipush X1.here hx rfl (hb hby d52_38) ?_
    refine XS.iand X1.here hx rfl (hb hby d52_41) rfl ?_
    show Steps p.tables e below (T1.setTop (mkF m 42 #[.val (.ref t), .val (.int ((Int32.ofNat (2 * i)) + (1 : Int32)))] [(.int ((own_b0 (cs.getD i 0)) &&& (255 : Int32)))])) _
    refine st3 _ ?_
    show Steps p.tables e below (T3.setTop (mkF m 45 #[.val (.ref t), .val (.int ((Int32.ofNat (2 * i)) + (1 : Int32)))] [(.int 0), (.int ((own_b0 (cs.getD i 0)) &&& (255 : Int32)))])) _
    refine XS.ishl X3.here hx rfl (hb hby d52_45) rfl ?_
    refine XS.aloadN X3.here hx rfl (hb hby d52_46) rfl rfl ?_
    refine XS.iloadN X3.here hx rfl (hb hby d52_47) rfl ?_
    show Steps p.tables e below (T3.setTop (mkF m 48 #[.val (.ref t), .val (.int ((Int32.ofNat (2 * i)) + (1 : Int32)))] [(.int ((Int32.ofNat (2 * i)) + (1 : Int32))), (.ref t), (.int (((own_b0 (cs.getD i 0)) &&& (255 : Int32)) <<< ((0 : Int32) &&& 31)))])) _
    rw [(own_succ (2 * i))]
    show Steps p.tables e below (T3.setTop (mkF m 48 #[.val (.ref t), .val (.int (Int32.ofNat (2 * i + 1)))] [(.int (Int32.ofNat (2 * i + 1))), (.ref t), (.int (((own_b0 (cs.getD i 0)) &&& (255 : Int32)) <<< ((0 : Int32) &&& 31)))])) _
    refine X3.baloadBytes hx (j := (Int32.ofNat (2 * i + 1))) (v := (.int (own_b1 (cs.getD i 0)))) (by rw [e3]; exact Ar4.1) (State.isArrayOf_alike hZ.alike Ar4.2.1) Ar4.2.2 hin4 (H4.at hin4 (own_wa1 cs i hi (by omega))) (g := (mkF m 48 #[.val (.ref t), .val (.int (Int32.ofNat (2 * i + 1)))] [(.int (Int32.ofNat (2 * i + 1))), (.ref t), (.int (((own_b0 (cs.getD i 0)) &&& (255 : Int32)) <<< ((0 : Int32) &&& 31)))])) rfl rfl (hb hby d52_48) _ ?_
    show Steps p.tables e below (T3.setTop (mkF m 49 #[.val (.ref t), .val (.int (Int32.ofNat (2 * i + 1)))] [(.int (own_b1 (cs.getD i 0))), (.int (((own_b0 (cs.getD i 0)) &&& (255 : Int32)) <<< ((0 : Int32) &&& 31)))])) _
    refine XS.sipush X3.here hx rfl (hb hby d52_49) ?_
    refine XS.iand X3.here hx rfl (hb hby d52_52) rfl ?_
    show Steps p.tables e below (T3.setTop (mkF m 53 #[.val (.ref t), .val (.int (Int32.ofNat (2 * i + 1)))] [(.int ((own_b1 (cs.getD i 0)) &&& (255 : Int32))), (.int (((own_b0 (cs.getD i 0)) &&& (255 : Int32)) <<< ((0 : Int32) &&& 31)))])) _
    refine st5 _ ?_
    show Steps p.tables e below (T5.setTop (mkF m 56 #[.val (.ref t), .val (.int (Int32.ofNat (2 * i + 1)))] [(.int 8), (.int ((own_b1 (cs.getD i 0)) &&& (255 : Int32))), (.int (((own_b0 (cs.getD i 0)) &&& (255 : Int32)) <<< ((0 : Int32) &&& 31)))])) _
    refine XS.ishl X5.here hx rfl (hb hby d52_56) rfl ?_
    refine XS.ior X5.here hx rfl (hb hby d52_57) rfl ?_
    refine XS.i2c X5.here hx rfl (hb hby d52_58) rfl ?_
    show Steps p.tables e below (T5.setTop (mkF m 59 #[.val (.ref t), .val (.int (Int32.ofNat (2 * i + 1)))] [(.int (((((own_b0 (cs.getD i 0)) &&& (255 : Int32)) <<< ((0 : Int32) &&& 31)) ||| (((own_b1 (cs.getD i 0)) &&& (255 : Int32)) <<< ((8 : Int32) &&& 31))).toUInt32.toUInt16.toUInt32.toInt32))])) _
    rw [(own_pair CH)]
    show Steps p.tables e below (T5.setTop (mkF m 59 #[.val (.ref t), .val (.int (Int32.ofNat (2 * i + 1)))] [(.int (cs.getD i 0))])) _
    exact retN X5 hx (t := .char) Bd.returns (by simp) (hb hby d52_59) hr
  · show own_Q Z (some (.int (cs.getD i 0))) h0 n0 _ T5.heap _
    rw [e5]
    exact ⟨own_some (own_narc CH), N0, rfl⟩
theorem d51_0 : decode jdk_52_method_83_code 0 = .ok (.iload_n 1, 1) := by decide +kernel
theorem d51_1 : decode jdk_52_method_83_code 1 = .ok (.aload_n 0, 1) := by decide +kernel
theorem d51_2 : decode jdk_52_method_83_code 2 = .ok (.invokestatic 67, 3) := by decide +kernel
theorem d51_5 : decode jdk_52_method_83_code 5 = .ok (.aload_n 0, 1) := by decide +kernel
theorem d51_6 : decode jdk_52_method_83_code 6 = .ok (.iload_n 1, 1) := by decide +kernel
theorem pd___BI_C : parseMethodDescriptor "([BI)C" = some ⟨[(.array .byte), .int], some .char⟩ := by decide +kernel
theorem d51_7 : decode jdk_52_method_83_code 7 = .ok (.invokestatic 71, 3) := by decide +kernel
theorem d51_10 : decode jdk_52_method_83_code 10 = .ok (.ireturn, 1) := by decide +kernel
theorem pn_51 : plainName "java/lang/StringUTF16" = true := by first | (simp [plainName, overriddenIn]; done) | decide +kernel
theorem ef_51_rr (m : MethodId) (x0 : Addr) (x1 : Int32) : entryFrame m #[(.ref x0), (.int x1)] 2 = mkF m 0 #[.val (.ref x0), .val (.int x1)] [] := by first | (simp [entryFrame, mkF, argsToLocals, Value.category]; done) | rfl
set_option maxRecDepth 65536 in
set_option maxHeartbeats 40000000 in
theorem rmUCA (l : Launch) (Z : State) (a0 : Array Value) (hw : ∀ d ∈ tables_1, d.before a0 Z = true) (ws : List Jvm.Cond) (G1 : Int32) (G3 : Value) (G4 : Value) (t : Addr) (k : ClassId) (cs : List Int32) (i : Nat) (h0 : Heap) (n0 : Nat) (Z0 : n0 ≤ h0.size) (EN : own_env Z G1 G3 G4) (X00 : Old Z n0 h0) (V_t : Arv Z h0 t k .byte (Int32.ofNat (2 * cs.length)) (own_wide cs) (.int 0)) (CH : own_ch (cs.getD i 0)) (hlen : cs.length ≤ 15) (hi : i < cs.length) :
    MetFree l (⟨"java/lang/StringUTF16", "charAt", "([BI)C"⟩ : MethodName) (head1 (Jvm.Cond.code (⟨"java/lang/StringUTF16", "charAt", "([BI)C"⟩ : MethodName) jdk_52_method_83_code 2 (some .char) :: ws) ({ frames := 3, cells := 0, slots := 0, locals := 40 } : Room)) (fun a_ U_ => a_ = #[(.ref t), (.int (Int32.ofNat i))] ∧ Z.Warmed39 U_.vm ∧ U_.heap = h0) (fun _ _ _ _ _ => True) (fun _ U_ o_ U1_ => ∃ v_ L_, o_ = .returned v_ ∧ own_Q Z (some (.int (cs.getD i 0))) h0 n0 v_ U1_.heap L_ ∧ FrameEnd U_ o_ U1_ L_ ({ frames := 3, cells := 0, slots := 0, locals := 40 } : Room).cells ({ frames := 3, cells := 0, slots := 0, locals := 40 } : Room).slots) := by
  refine MetFree.of_bodySF (plainFor_of_name pn_51) hisR ?_
  intro p e s m args below meth c s₁ Bd hml0 hP hK
  obtain ⟨rfl, hZ, hh⟩ := hP
  have hx := Bd.exec
  have hby := Bd.bytes
  have hml : c.maxLocals = 2 := hml0
  have hown : s.vm.findClass "java/lang/StringUTF16" = some m.cls := findClass_of_methodNamed Bd.named
  have hnm := (name_of_methodNamed Bd.named Bd.method).1
  have X0 : Stand p l e ({ frames := 3, cells := 0, slots := 0, locals := 40 } : Room) s m #[(.ref t), (.int (Int32.ofNat i))] below meth c s₁ [] 0 0 := Stand.of_body Bd
  have e0 : s₁.heap = h0 := by rw [← hh, Bd.state]; rfl
  have N0 := Fr.nil n0
  have pre0 : ∀ tt, Steps p.tables e below (s₁.setTop (mkF m 0 #[.val (.ref t), .val (.int (Int32.ofNat i))] [])) tt → Steps p.tables e below (s₁.setTop (entryFrame m #[(.ref t), (.int (Int32.ofNat i))] 2)) tt := fun tt kk => castTop (ef_51_rr m t (Int32.ofNat i)) kk
  have EN0 := EN
  obtain ⟨O2, P5, O4, rG3, O5, rG4, O6, O7, O8⟩ := EN
  obtain ⟨_, _, ⟨T1, L1, k1, n1⟩, -, X1, ⟨Lc1, hQ1, l1, y1, z1⟩, st1⟩ := Jvm.LawKit.callS X0 hx (y := (⟨"java/lang/StringUTF16", "checkIndex", "(I[B)V"⟩ : MethodName)) hown (mvT hZ (hw _ (tk 217 rfl))) (mvT hZ (hw _ (tk 218 rfl))) (mvT hZ (hw _ (tk 190 rfl))) (mvT hZ (hw _ (tk 219 rfl))) (by decide) (backOf (W := 0) (rmUCI l Z a0 hw [] G1 G3 G4 (Int32.ofNat i) t k cs.length (own_wide cs) h0 n0 Z0 EN0 X00 (own_in hi (by omega)).1 (own_in hi (by omega)).2 V_t (by omega)) hZ (hw _ (tk 219 rfl)) (hw _ (tk 190 rfl)) (by decide) (by decide)) (g := (mkF m 2 #[.val (.ref t), .val (.int (Int32.ofNat i))] [(.ref t), (.int (Int32.ofNat i))])) rfl (by rw [hml]; rfl) (argsL := [(.int (Int32.ofNat i)), (.ref t)]) (rest := []) (lenOf pd__I_B_V rfl) rfl (by show 2 * 0 + _ ≤ _; exact Nat.le_of_eq rfl) (hb hby d51_2) (fun _ _ => ⟨rfl, e0, (by decide : 0 + 0 ≤ _), (by decide : 0 + 0 ≤ _)⟩)
  dsimp only [Pt.U, Pt.locs, Pt.cells, Pt.slots] at X1 l1 y1 z1 st1 hQ1
  subst l1 y1 z1
  obtain ⟨rfl, Nq1, eq1⟩ := hQ1
  have N1 := Fr.app N0 Nq1
  obtain ⟨_, _, ⟨T2, L2, k2, n2⟩, -, X2, ⟨Lc2, hQ2, l2, y2, z2⟩, st2⟩ := Jvm.LawKit.callS X1 hx (y := (⟨"java/lang/StringUTF16", "getChar", "([BI)C"⟩ : MethodName)) hown (mvT hZ (hw _ (tk 245 rfl))) (mvT hZ (hw _ (tk 246 rfl))) (mvT hZ (hw _ (tk 190 rfl))) (mvT hZ (hw _ (tk 247 rfl))) (by decide) (backOf (W := 0) (rmGC l Z a0 hw [] G1 G3 G4 t k cs i h0 n0 Z0 EN0 X00 V_t CH hlen hi) hZ (hw _ (tk 247 rfl)) (hw _ (tk 190 rfl)) (by decide) (by decide)) (g := (mkF m 7 #[.val (.ref t), .val (.int (Int32.ofNat i))] [(.int (Int32.ofNat i)), (.ref t)])) rfl (by rw [hml]; rfl) (argsL := [(.ref t), (.int (Int32.ofNat i))]) (rest := []) (lenOf pd___BI_C rfl) rfl (by show 2 * 0 + _ ≤ _; exact Nat.le_of_eq rfl) (hb hby d51_7) (fun _ _ => ⟨rfl, eq1, (by decide : 0 + 0 ≤ _), (by decide : 0 + 0 ≤ _)⟩)
  dsimp only [Pt.U, Pt.locs, Pt.cells, Pt.slots] at X2 l2 y2 z2 st2 hQ2
  subst l2 y2 z2
  obtain ⟨rfl, Nq2, eq2⟩ := hQ2
  have N2 := Fr.app N1 Nq2
  obtain ⟨fs, hr, hrun, hended, hW, hsame⟩ := X2.leave (v := some (.int (nar .char (cs.getD i 0)))) (fun h => by rw [Bd.returns] at h; cases h)
  refine ⟨_, _, pre0 _ ?_, hrun, hended, _, _, rfl, ?_, ⟨_, rfl⟩, hW, hsame.mono (by decide) (by decide)⟩
  · show Steps p.tables e below (s₁.setTop (mkF m 0 #[.val (.ref t), .val (.int (Int32.ofNat i))] [])) _
    refine XS.iloadN X0.here hx rfl (hb hby d51_0) rfl ?_
    refine XS.aloadN X0.here hx rfl (hb hby d51_1) rfl rfl ?_
    show Steps p.tables e below (s₁.setTop (mkF m 2 #[.val (.ref t), .val (.int (Int32.ofNat i))] [(.ref t), (.int (Int32.ofNat i))])) _
    refine st1 _ ?_
    show Steps p.tables e below (T1.setTop (mkF m 5 #[.val (.ref t), .val (.int (Int32.ofNat i))] [])) _
    refine XS.aloadN X1.here hx rfl (hb hby d51_5) rfl rfl ?_
    refine XS.iloadN X1.here hx rfl (hb hby d51_6) rfl ?_
    show Steps p.tables e below (T1.setTop (mkF m 7 #[.val (.ref t), .val (.int (Int32.ofNat i))] [(.int (Int32.ofNat i)), (.ref t)])) _
    refine st2 _ ?_
    show Steps p.tables e below (T2.setTop (mkF m 10 #[.val (.ref t), .val (.int (Int32.ofNat i))] [(.int (cs.getD i 0))])) _
    exact retN X2 hx (t := .char) Bd.returns (by simp) (hb hby d51_10) hr
  · show own_Q Z (some (.int (cs.getD i 0))) h0 n0 _ T2.heap _
    rw [eq2]
    exact ⟨own_some (own_narc CH), N2, rfl⟩
theorem d27_0 : decode jdk_42_method_56_code 0 = .ok (.aload_n 0, 1) := by decide +kernel
theorem d27_1 : decode jdk_42_method_56_code 1 = .ok (.invokevirtual 492, 3) := by decide +kernel
theorem d27_4 : decode jdk_42_method_56_code 4 = .ok (.ifCond .eq 12, 3) := by decide +kernel
theorem d27_7 : decode jdk_42_method_56_code 7 = .ok (.aload_n 0, 1) := by decide +kernel
theorem d27_8 : decode jdk_42_method_56_code 8 = .ok (.getfield 9, 3) := by decide +kernel
theorem d27_11 : decode jdk_42_method_56_code 11 = .ok (.iload_n 1, 1) := by decide +kernel
theorem d27_12 : decode jdk_42_method_56_code 12 = .ok (.invokestatic 495, 3) := by decide +kernel
theorem d27_15 : decode jdk_42_method_56_code 15 = .ok (.ireturn, 1) := by decide +kernel
theorem pn_27 : plainName "java/lang/String" = true := by first | (simp [plainName, overriddenIn]; done) | decide +kernel
theorem ef_27_rr (m : MethodId) (x0 : Addr) (x1 : Int32) : entryFrame m #[(.ref x0), (.int x1)] 2 = mkF m 0 #[.val (.ref x0), .val (.int x1)] [] := by first | (simp [entryFrame, mkF, argsToLocals, Value.category]; done) | rfl
set_option maxRecDepth 65536 in
set_option maxHeartbeats 40000000 in
theorem rmCAl (l : Launch) (Z : State) (a0 : Array Value) (hw : ∀ d ∈ tables_1, d.before a0 Z = true) (ws : List Jvm.Cond) (G1 : Int32) (G3 : Value) (G4 : Value) (x : Addr) (t : Addr) (k : ClassId) (cs : List Int32) (i : Nat) (h0 : Heap) (n0 : Nat) (Z0 : n0 ≤ h0.size) (EN : own_env Z G1 G3 G4) (X00 : Old Z n0 h0) (E_x : Exa Z h0 x "java/lang/String") (F_value_x : Fld Z h0 x "java/lang/String" "value" "[B" (.ref t)) (F_coder_x : Fld Z h0 x "java/lang/String" "coder" "B" (.int 0)) (V_t : Arv Z h0 t k .byte (Int32.ofNat cs.length) (own_lat cs) (.int 0)) (hl : own_l1 cs) (hlen : cs.length ≤ 15) (hi : i < cs.length) :
    MetFree l (⟨"java/lang/String", "charAt", "(I)C"⟩ : MethodName) (head1 (Jvm.Cond.code (⟨"java/lang/String", "charAt", "(I)C"⟩ : MethodName) jdk_42_method_56_code 2 (some .char) :: ws) ({ frames := 4, cells := 0, slots := 0, locals := 53 } : Room)) (fun a_ U_ => a_ = #[(.ref x), (.int (Int32.ofNat i))] ∧ Z.Warmed39 U_.vm ∧ U_.heap = h0) (fun _ _ _ _ _ => True) (fun _ U_ o_ U1_ => ∃ v_ L_, o_ = .returned v_ ∧ own_Q Z (some (.int (cs.getD i 0))) h0 n0 v_ U1_.heap L_ ∧ FrameEnd U_ o_ U1_ L_ ({ frames := 4, cells := 0, slots := 0, locals := 53 } : Room).cells ({ frames := 4, cells := 0, slots := 0, locals := 53 } : Room).slots) := by
  refine MetFree.of_bodySF (plainFor_of_name pn_27) hisR ?_
  intro p e s m args below meth c s₁ Bd hml0 hP hK
  obtain ⟨rfl, hZ, hh⟩ := hP
  have hx := Bd.exec
  have hby := Bd.bytes
  have hml : c.maxLocals = 2 := hml0
  have hown : s.vm.findClass "java/lang/String" = some m.cls := findClass_of_methodNamed Bd.named
  have hnm := (name_of_methodNamed Bd.named Bd.method).1
  have X0 : Stand p l e ({ frames := 4, cells := 0, slots := 0, locals := 53 } : Room) s m #[(.ref x), (.int (Int32.ofNat i))] below meth c s₁ [] 0 0 := Stand.of_body Bd
  have e0 : s₁.heap = h0 := by rw [← hh, Bd.state]; rfl
  have N0 := Fr.nil n0
  have pre0 : ∀ tt, Steps p.tables e below (s₁.setTop (mkF m 0 #[.val (.ref x), .val (.int (Int32.ofNat i))] [])) tt → Steps p.tables e below (s₁.setTop (entryFrame m #[(.ref x), (.int (Int32.ofNat i))] 2)) tt := fun tt kk => castTop (ef_27_rr m x (Int32.ofNat i)) kk
  have EN0 := EN
  obtain ⟨O2, P5, O4, rG3, O5, rG4, O6, O7, O8⟩ := EN
  have CH : own_ch (cs.getD i 0) := own_up (own_l1_at hl hi).1 (own_l1_at hl hi).2
  obtain ⟨cq1, kq1, q1a, q1b, q1c⟩ := isOf hZ e0 E_x
  obtain ⟨_, _, ⟨T1, L1, k1, n1⟩, -, X1, ⟨Lc1, hQ1, l1, y1, z1⟩, st1⟩ := X0.virtualBack hx (y := (⟨"java/lang/String", "isLatin1", "()Z"⟩ : MethodName)) (z := (⟨"java/lang/String", "isLatin1", "()Z"⟩ : MethodName)) hown (mvT hZ (hw _ (tk 154 rfl))) (mvT hZ (hw _ (tk 155 rfl))) (notFace_of_selects (args := #[]) (mvT hZ (hw _ (tk 157 rfl)))) (mvT hZ (hw _ (tk 157 rfl))) (mvT hZ (hw _ (tk 156 rfl))) (by decide) (backOf (W := 0) (rmSL0 l Z a0 hw [] G1 G3 G4 x h0 n0 Z0 EN0 X00 E_x F_coder_x) hZ (hw _ (tk 158 rfl)) (hw _ (tk 32 rfl)) (by decide) (by decide)) q1a q1c (g := (mkF m 1 #[.val (.ref x), .val (.int (Int32.ofNat i))] [(.ref x)])) rfl (by rw [hml]; rfl) (Steps.refl _) (argsL := []) (rest := []) (lenOf pd___Z rfl) rfl (by show 2 * 0 + _ ≤ _; exact Nat.le_of_eq rfl) (hb hby d27_1) (fun _ _ => ⟨rfl, e0, (by decide : 0 + 0 ≤ _), (by decide : 0 + 0 ≤ _)⟩)
  dsimp only [Pt.U, Pt.locs, Pt.cells, Pt.slots] at X1 l1 y1 z1 st1 hQ1
  subst l1 y1 z1
  obtain ⟨rfl, Nq1, eq1⟩ := hQ1
  have N1 := Fr.app N0 Nq1
  obtain ⟨T2, X2, e2, st2⟩ := getF X1 hx hZ hown (host := "") (Or.inl (hw _ (tk 136 rfl))) Via.refl eq1 F_value_x (g := (mkF m 8 #[.val (.ref x), .val (.int (Int32.ofNat i))] [(.ref x)])) rfl rfl (hb hby d27_8)
  obtain ⟨_, _, ⟨T3, L3, k3, n3⟩, -, X3, ⟨Lc3, hQ3, l3, y3, z3⟩, st3⟩ := Jvm.LawKit.callS X2 hx (y := (⟨"java/lang/StringLatin1", "charAt", "([BI)C"⟩ : MethodName)) hown (mvT hZ (hw _ (tk 159 rfl))) (mvT hZ (hw _ (tk 160 rfl))) (mvT hZ (hw _ (tk 80 rfl))) (mvT hZ (hw _ (tk 161 rfl))) (by decide) (backOf (W := 0) (rmLCA l Z a0 hw [] G1 G3 G4 t k cs i h0 n0 Z0 EN0 X00 V_t hl hlen hi) hZ (hw _ (tk 161 rfl)) (hw _ (tk 80 rfl)) (by decide) (by decide)) (g := (mkF m 12 #[.val (.ref x), .val (.int (Int32.ofNat i))] [(.int (Int32.ofNat i)), (.ref t)])) rfl (by rw [hml]; rfl) (argsL := [(.ref t), (.int (Int32.ofNat i))]) (rest := []) (lenOf pd___BI_C rfl) rfl (by show 2 * 0 + _ ≤ _; exact Nat.le_of_eq rfl) (hb hby d27_12) (fun _ _ => ⟨rfl, e2, (by decide : 0 + 0 ≤ _), (by decide : 0 + 0 ≤ _)⟩)
  dsimp only [Pt.U, Pt.locs, Pt.cells, Pt.slots] at X3 l3 y3 z3 st3 hQ3
  subst l3 y3 z3
  obtain ⟨rfl, Nq3, eq3⟩ := hQ3
  have N3 := Fr.app N1 Nq3
  obtain ⟨fs, hr, hrun, hended, hW, hsame⟩ := X3.leave (v := some (.int (nar .char (cs.getD i 0)))) (fun h => by rw [Bd.returns] at h; cases h)
  refine ⟨_, _, pre0 _ ?_, hrun, hended, _, _, rfl, ?_, ⟨_, rfl⟩, hW, hsame.mono (by decide) (by decide)⟩
  · show Steps p.tables e below (s₁.setTop (mkF m 0 #[.val (.ref x), .val (.int (Int32.ofNat i))] [])) _
    refine XS.aloadN X0.here hx rfl (hb hby d27_0) rfl rfl ?_
    show Steps p.tables e below (s₁.setTop (mkF m 1 #[.val (.ref x), .val (.int (Int32.ofNat i))] [(.ref x)])) _
    refine st1.trans ?_
    show Steps p.tables e below (T1.setTop (mkF m 4 #[.val (.ref x), .val (.int (Int32.ofNat i))] [(.int 1)])) _
    refine XS.ifNo X1.here hx rfl (hb hby d27_4) rfl ((if0 _ _).trans (feq (by decide : ¬ ((1 : Int32) = (0 : Int32)))).1) ?_
    refine XS.aloadN X1.here hx rfl (hb hby d27_7) rfl rfl ?_
    show Steps p.tables e below (T1.setTop (mkF m 8 #[.val (.ref x), .val (.int (Int32.ofNat i))] [(.ref x)])) _
    refine st2 _ ?_
    show Steps p.tables e below (T2.setTop (mkF m 11 #[.val (.ref x), .val (.int (Int32.ofNat i))] [(.ref t)])) _
    refine XS.iloadN X2.here hx rfl (hb hby d27_11) rfl ?_
    show Steps p.tables e below (T2.setTop (mkF m 12 #[.val (.ref x), .val (.int (Int32.ofNat i))] [(.int (Int32.ofNat i)), (.ref t)])) _
    refine st3 _ ?_
    show Steps p.tables e below (T3.setTop (mkF m 15 #[.val (.ref x), .val (.int (Int32.ofNat i))] [(.int (cs.getD i 0))])) _
    exact retN X3 hx (t := .char) Bd.returns (by simp) (hb hby d27_15) hr
  · show own_Q Z (some (.int (cs.getD i 0))) h0 n0 _ T3.heap _
    rw [eq3]
    exact ⟨own_some (own_narc CH), N3, rfl⟩
theorem d27_16 : decode jdk_42_method_56_code 16 = .ok (.aload_n 0, 1) := by decide +kernel
theorem d27_17 : decode jdk_42_method_56_code 17 = .ok (.getfield 9, 3) := by decide +kernel
theorem d27_20 : decode jdk_42_method_56_code 20 = .ok (.iload_n 1, 1) := by decide +kernel
theorem d27_21 : decode jdk_42_method_56_code 21 = .ok (.invokestatic 498, 3) := by decide +kernel
theorem d27_24 : decode jdk_42_method_56_code 24 = .ok (.ireturn, 1) := by decide +kernel
set_option maxRecDepth 65536 in
set_option maxHeartbeats 40000000 in
theorem rmCAw (l : Launch) (Z : State) (a0 : Array Value) (hw : ∀ d ∈ tables_1, d.before a0 Z = true) (ws : List Jvm.Cond) (G1 : Int32) (G3 : Value) (G4 : Value) (x : Addr) (t : Addr) (k : ClassId) (cs : List Int32) (i : Nat) (h0 : Heap) (n0 : Nat) (Z0 : n0 ≤ h0.size) (EN : own_env Z G1 G3 G4) (X00 : Old Z n0 h0) (E_x : Exa Z h0 x "java/lang/String") (F_value_x : Fld Z h0 x "java/lang/String" "value" "[B" (.ref t)) (F_coder_x : Fld Z h0 x "java/lang/String" "coder" "B" (.int 1)) (V_t : Arv Z h0 t k .byte (Int32.ofNat (2 * cs.length)) (own_wide cs) (.int 0)) (hlen : cs.length ≤ 15) (CH : own_ch (cs.getD i 0)) (hi : i < cs.length) :
    MetFree l (⟨"java/lang/String", "charAt", "(I)C"⟩ : MethodName) (head1 (Jvm.Cond.code (⟨"java/lang/String", "charAt", "(I)C"⟩ : MethodName) jdk_42_method_56_code 2 (some .char) :: ws) ({ frames := 4, cells := 0, slots := 0, locals := 53 } : Room)) (fun a_ U_ => a_ = #[(.ref x), (.int (Int32.ofNat i))] ∧ Z.Warmed39 U_.vm ∧ U_.heap = h0) (fun _ _ _ _ _ => True) (fun _ U_ o_ U1_ => ∃ v_ L_, o_ = .returned v_ ∧ own_Q Z (some (.int (cs.getD i 0))) h0 n0 v_ U1_.heap L_ ∧ FrameEnd U_ o_ U1_ L_ ({ frames := 4, cells := 0, slots := 0, locals := 53 } : Room).cells ({ frames := 4, cells := 0, slots := 0, locals := 53 } : Room).slots) := by
  refine MetFree.of_bodySF (plainFor_of_name pn_27) hisR ?_
  intro p e s m args below meth c s₁ Bd hml0 hP hK
  obtain ⟨rfl, hZ, hh⟩ := hP
  have hx := Bd.exec
  have hby := Bd.bytes
  have hml : c.maxLocals = 2 := hml0
  have hown : s.vm.findClass "java/lang/String" = some m.cls := findClass_of_methodNamed Bd.named
  have hnm := (name_of_methodNamed Bd.named Bd.method).1
  have X0 : Stand p l e ({ frames := 4, cells := 0, slots := 0, locals := 53 } : Room) s m #[(.ref x), (.int (Int32.ofNat i))] below meth c s₁ [] 0 0 := Stand.of_body Bd
  have e0 : s₁.heap = h0 := by rw [← hh, Bd.state]; rfl
  have N0 := Fr.nil n0
  have pre0 : ∀ tt, Steps p.tables e below (s₁.setTop (mkF m 0 #[.val (.ref x), .val (.int (Int32.ofNat i))] [])) tt → Steps p.tables e below (s₁.setTop (entryFrame m #[(.ref x), (.int (Int32.ofNat i))] 2)) tt := fun tt kk => castTop (ef_27_rr m x (Int32.ofNat i)) kk
  have EN0 := EN
  obtain ⟨O2, P5, O4, rG3, O5, rG4, O6, O7, O8⟩ := EN
  obtain ⟨cq1, kq1, q1a, q1b, q1c⟩ := isOf hZ e0 E_x
  obtain ⟨_, _, ⟨T1, L1, k1, n1⟩, -, X1, ⟨Lc1, hQ1, l1, y1, z1⟩, st1⟩ := X0.virtualBack hx (y := (⟨"java/lang/String", "isLatin1", "()Z"⟩ : MethodName)) (z := (⟨"java/lang/String", "isLatin1", "()Z"⟩ : MethodName)) hown (mvT hZ (hw _ (tk 154 rfl))) (mvT hZ (hw _ (tk 155 rfl))) (notFace_of_selects (args := #[]) (mvT hZ (hw _ (tk 157 rfl)))) (mvT hZ (hw _ (tk 157 rfl))) (mvT hZ (hw _ (tk 156 rfl))) (by decide) (backOf (W := 0) (rmSL1 l Z a0 hw [] G1 G3 G4 x h0 n0 Z0 EN0 X00 E_x F_coder_x) hZ (hw _ (tk 158 rfl)) (hw _ (tk 32 rfl)) (by decide) (by decide)) q1a q1c (g := (mkF m 1 #[.val (.ref x), .val (.int (Int32.ofNat i))] [(.ref x)])) rfl (by rw [hml]; rfl) (Steps.refl _) (argsL := []) (rest := []) (lenOf pd___Z rfl) rfl (by show 2 * 0 + _ ≤ _; exact Nat.le_of_eq rfl) (hb hby d27_1) (fun _ _ => ⟨rfl, e0, (by decide : 0 + 0 ≤ _), (by decide : 0 + 0 ≤ _)⟩)
  dsimp only [Pt.U, Pt.locs, Pt.cells, Pt.slots] at X1 l1 y1 z1 st1 hQ1
  subst l1 y1 z1
  obtain ⟨rfl, Nq1, eq1⟩ := hQ1
  have N1 := Fr.app N0 Nq1
  obtain ⟨T2, X2, e2, st2⟩ := getF X1 hx hZ hown (host := "") (Or.inl (hw _ (tk 136 rfl))) Via.refl eq1 F_value_x (g := (mkF m 17 #[.val (.ref x), .val (.int (Int32.ofNat i))] [(.ref x)])) rfl rfl (hb hby d27_17)
  obtain ⟨_, _, ⟨T3, L3, k3, n3⟩, -, X3, ⟨Lc3, hQ3, l3, y3, z3⟩, st3⟩ := Jvm.LawKit.callS X2 hx (y := (⟨"java/lang/StringUTF16", "charAt", "([BI)C"⟩ : MethodName)) hown (mvT hZ (hw _ (tk 242 rfl))) (mvT hZ (hw _ (tk 243 rfl))) (mvT hZ (hw _ (tk 190 rfl))) (mvT hZ (hw _ (tk 244 rfl))) (by decide) (backOf (W := 0) (rmUCA l Z a0 hw [] G1 G3 G4 t k cs i h0 n0 Z0 EN0 X00 V_t CH hlen hi) hZ (hw _ (tk 244 rfl)) (hw _ (tk 190 rfl)) (by decide) (by decide)) (g := (mkF m 21 #[.val (.ref x), .val (.int (Int32.ofNat i))] [(.int (Int32.ofNat i)), (.ref t)])) rfl (by rw [hml]; rfl) (argsL := [(.ref t), (.int (Int32.ofNat i))]) (rest := []) (lenOf pd___BI_C rfl) rfl (by show 2 * 0 + _ ≤ _; exact Nat.le_of_eq rfl) (hb hby d27_21) (fun _ _ => ⟨rfl, e2, (by decide : 0 + 0 ≤ _), (by decide : 0 + 0 ≤ _)⟩)
  dsimp only [Pt.U, Pt.locs, Pt.cells, Pt.slots] at X3 l3 y3 z3 st3 hQ3
  subst l3 y3 z3
  obtain ⟨rfl, Nq3, eq3⟩ := hQ3
  have N3 := Fr.app N1 Nq3
  obtain ⟨fs, hr, hrun, hended, hW, hsame⟩ := X3.leave (v := some (.int (nar .char (cs.getD i 0)))) (fun h => by rw [Bd.returns] at h; cases h)
  refine ⟨_, _, pre0 _ ?_, hrun, hended, _, _, rfl, ?_, ⟨_, rfl⟩, hW, hsame.mono (by decide) (by decide)⟩
  · show Steps p.tables e below (s₁.setTop (mkF m 0 #[.val (.ref x), .val (.int (Int32.ofNat i))] [])) _
    refine XS.aloadN X0.here hx rfl (hb hby d27_0) rfl rfl ?_
    show Steps p.tables e below (s₁.setTop (mkF m 1 #[.val (.ref x), .val (.int (Int32.ofNat i))] [(.ref x)])) _
    refine st1.trans ?_
    show Steps p.tables e below (T1.setTop (mkF m 4 #[.val (.ref x), .val (.int (Int32.ofNat i))] [(.int 0)])) _
    refine XS.ifYes X1.here hx rfl (pc0 := 4) (pc' := 16) rfl (hb hby d27_4) rfl ((if0 _ _).trans (teq (by decide : (0 : Int32) = (0 : Int32))).1) (by decide) (by decide) ?_
    refine XS.aloadN X1.here hx rfl (hb hby d27_16) rfl rfl ?_
    show Steps p.tables e below (T1.setTop (mkF m 17 #[.val (.ref x), .val (.int (Int32.ofNat i))] [(.ref x)])) _
    refine st2 _ ?_
    show Steps p.tables e below (T2.setTop (mkF m 20 #[.val (.ref x), .val (.int (Int32.ofNat i))] [(.ref t)])) _
    refine XS.iloadN X2.here hx rfl (hb hby d27_20) rfl ?_
    show Steps p.tables e below (T2.setTop (mkF m 21 #[.val (.ref x), .val (.int (Int32.ofNat i))] [(.int (Int32.ofNat i)), (.ref t)])) _
    refine st3 _ ?_
    show Steps p.tables e below (T3.setTop (mkF m 24 #[.val (.ref x), .val (.int (Int32.ofNat i))] [(.int (cs.getD i 0))])) _
    exact retN X3 hx (t := .char) Bd.returns (by simp) (hb hby d27_24) hr
  · show own_Q Z (some (.int (cs.getD i 0))) h0 n0 _ T3.heap _
    rw [eq3]
    exact ⟨own_some (own_narc CH), N3, rfl⟩
theorem rmCA (l : Launch) (Z : State) (a0 : Array Value) (hw : ∀ d ∈ tables_1, d.before a0 Z = true) (ws : List Jvm.Cond) (G1 : Int32) (G3 G4 : Value) (x : Addr) (cs : List Int32) (i : Nat) (h0 : Heap) (n0 : Nat) (Z0 : n0 ≤ h0.size) (EN : own_env Z G1 G3 G4) (X00 : Old Z n0 h0) (S : own_st Z h0 x cs) (hlen : cs.length ≤ 15) (hc : ∀ c ∈ cs, own_ch c) (hi : i < cs.length) :
    MetFree l (⟨"java/lang/String", "charAt", "(I)C"⟩ : MethodName) (head1 (Jvm.Cond.code (⟨"java/lang/String", "charAt", "(I)C"⟩ : MethodName) jdk_42_method_56_code 2 (some .char) :: ws) ({ frames := 4, cells := 0, slots := 0, locals := 53 } : Room)) (fun a_ U_ => a_ = #[(.ref x), (.int (Int32.ofNat i))] ∧ Z.Warmed39 U_.vm ∧ U_.heap = h0) (fun _ _ _ _ _ => True) (fun _ U_ o_ U1_ => ∃ v_ L_, o_ = .returned v_ ∧ own_Q Z (some (.int (cs.getD i 0))) h0 n0 v_ U1_.heap L_ ∧ FrameEnd U_ o_ U1_ L_ ({ frames := 4, cells := 0, slots := 0, locals := 53 } : Room).cells ({ frames := 4, cells := 0, slots := 0, locals := 53 } : Room).slots) := by
  obtain ⟨t, k, S1, S2, ⟨S3, S4, S5⟩ | ⟨S3, S4⟩⟩ := S
  · exact rmCAl l Z a0 hw ws G1 G3 G4 x t k cs i h0 n0 Z0 EN X00 S1 S2 S3 S4 S5 hlen hi
  · exact rmCAw l Z a0 hw ws G1 G3 G4 x t k cs i h0 n0 Z0 EN X00 S1 S2 S3 S4 hlen (own_atch hc hi) hi
theorem own_nz {j : Nat} (h0 : 0 < j) (hj : j < 2 ^ 31) : ¬ ((Int32.ofNat j) = (0 : Int32)) := fun q => by have := (own_eq (i := j) (j := 0) hj (by omega)).mp q; omega
theorem own_l3 (a n b : Nat) : Int32.ofNat (a + n + b) = (((Int32.ofNat a) + (Int32.ofNat n)) + (Int32.ofNat b)) := by rw [own_add, own_add]
theorem own_cs (pre as suf : List Int32) (o n : Nat) (h : o + n ≤ as.length) (CS : List Int32) (e : CS = (pre ++ (as.drop o).take n) ++ suf) : CS.length = pre.length + n + suf.length ∧ (∀ k < n, CS.getD (pre.length + k) 0 = as.getD (o + k) 0) ∧ (∀ k < pre.length, CS.getD k 0 = pre.getD k 0) ∧ (∀ k < suf.length, CS.getD (pre.length + n + k) 0 = suf.getD k 0) := by
  subst e
  have hl : ((as.drop o).take n).length = n := by rw [List.length_take, List.length_drop]; omega
  refine ⟨by rw [List.length_append, List.length_append, hl], fun k hk => ?_, fun k hk => ?_, fun k hk => ?_⟩
  · simp only [List.getD_eq_getElem?_getD]
    rw [List.getElem?_append_left (by rw [List.length_append, hl]; omega), List.getElem?_append_right (by omega), Nat.add_sub_cancel_left, List.getElem?_take_of_lt hk, List.getElem?_drop]
  · simp only [List.getD_eq_getElem?_getD]
    rw [List.getElem?_append_left (by rw [List.length_append, hl]; omega), List.getElem?_append_left hk]
  · simp only [List.getD_eq_getElem?_getD]
    rw [List.getElem?_append_right (by rw [List.length_append, hl]; omega), List.length_append, hl, Nat.add_sub_cancel_left]
theorem own_cch {pre as suf : List Int32} {o n : Nat} (h1 : ∀ c ∈ pre, own_ch c) (h2 : ∀ c ∈ as, own_ch c) (h3 : ∀ c ∈ suf, own_ch c) : ∀ c ∈ (pre ++ (as.drop o).take n) ++ suf, own_ch c := fun c hc => by
  rcases List.mem_append.mp hc with q | q
  · rcases List.mem_append.mp q with q | q
    · exact h1 c q
    · exact h2 c (List.mem_of_mem_drop (List.mem_of_mem_take q))
  · exact h3 c q
theorem own_one {c : Int32} (h : own_ch c) : ∀ d ∈ [c], own_ch d := fun d hd => by cases List.mem_singleton.mp hd; exact h
theorem own_nil : ∀ d ∈ ([] : List Int32), own_ch d := fun _ q => nomatch q
theorem own_ad1 (o : Nat) : (Int32.ofNat o) + (1 : Int32) = Int32.ofNat (o + 1) := own_add (i := o) (j := 1)
theorem own_ad2 (o : Nat) : (Int32.ofNat o) + (2 : Int32) = Int32.ofNat (o + 2) := own_add (i := o) (j := 2)
theorem own_ad3 (o : Nat) : (Int32.ofNat o) + (3 : Int32) = Int32.ofNat (o + 3) := own_add (i := o) (j := 3)
theorem own_adn (o n : Nat) : (Int32.ofNat o) + (Int32.ofNat n) = Int32.ofNat (o + n) := own_add (i := o) (j := n)
theorem own_s5 {o : Nat} (h : o < 5) : (5 : Int32) - (Int32.ofNat o) = Int32.ofNat (5 - o) := own_sub (i := 5) (j := o) (by omega) (by decide)
set_option maxRecDepth 65536 in
set_option maxHeartbeats 40000000 in
theorem bA0 {p : Program} {l : Launch} {e : Env} {s : State} {m : MethodId} {args : Array Value} {below : List Frame} {meth : Method} {c : Code} {s₁ : State} {L0 : List Loc} {Z : State} {a0 : Array Value} (G1 : Int32) (G3 : Value) (G4 : Value) (p1 : Int32) (p2 : Int32) (p3 : Int32) (p4 : Int32) (p5 : Int32) (pcv : Int32) (scv : Int32) (ar : Addr) (tx : Addr) (x : Addr) (ka : ClassId) (as : List Int32) (o : Nat) (n : Nat) (CS : List Int32) (pf : Nat) (sf : Int32) (h0 : Heap) (n0 : Nat) (X0 : Stand p l e room_1 s m args below meth c s₁ L0 9 159) (hx : p.tables.exec = Jvm.exec) (hZ : Z.Warmed39 s.vm) (hw : ∀ d ∈ tables_1, d.before a0 Z = true) (hby : c.code = code) (hml : c.maxLocals = 17) (hown : s.vm.findClass "com/example/hebelwerk/hebelwerk/core/TextWritePinLaw" = some m.cls) (e0 : s₁.heap = h0) (N0 : Fr n0 L0) (Z0 : n0 ≤ h0.size) (EN : own_env Z G1 G3 G4) (X00 : Old Z n0 h0) (S : own_st Z h0 x CS) (hlen : CS.length ≤ 15) (hc : ∀ c ∈ CS, own_ch c) (V_ar : Arv Z h0 ar ka .char (Int32.ofNat as.length) (as.map Value.int) (.int 0)) (ha : as.length < 2 ^ 30) (ho : o + n ≤ as.length) :
    ∃ (T' : State) (h' : Heap) (L' : List Loc) , Stand p l e room_1 s m args below meth c T' L' 9 159 ∧ T'.heap = h' ∧ Fr n0 L' ∧ n0 ≤ h'.size ∧ h' = h0 ∧ 
      ∀ target, Steps p.tables e below (T'.setTop (mkF m 226 #[.val (.int p1), .val (.int p2), .val (.int p3), .val (.int p4), .val (.int p5), .val (.ref ar), .val (.int (Int32.ofNat o)), .val (.int (Int32.ofNat n)), .val (.int 0), .val (.int sf), .val (.int pcv), .val (.int scv), .val (.ref tx), .val (.ref x), .val (.int 0), .val (.int sf), .val (.int 1)] [])) target → Steps p.tables e below (s₁.setTop (mkF m 198 #[.val (.int p1), .val (.int p2), .val (.int p3), .val (.int p4), .val (.int p5), .val (.ref ar), .val (.int (Int32.ofNat o)), .val (.int (Int32.ofNat n)), .val (.int 0), .val (.int sf), .val (.int pcv), .val (.int scv), .val (.ref tx), .val (.ref x), .val (.int 0), .val (.int sf), .val (.int 1)] [])) target := by
  have EN0 := EN
  obtain ⟨O2, P5, O4, rG3, O5, rG4, O6, O7, O8⟩ := EN
  have E_x := S.choose_spec.choose_spec.1
  refine ⟨s₁, h0, _, X0, e0, N0, Z0, rfl, fun target kt => ?_⟩
  show Steps p.tables e below (s₁.setTop (mkF m 198 #[.val (.int p1), .val (.int p2), .val (.int p3), .val (.int p4), .val (.int p5), .val (.ref ar), .val (.int (Int32.ofNat o)), .val (.int (Int32.ofNat n)), .val (.int 0), .val (.int sf), .val (.int pcv), .val (.int scv), .val (.ref tx), .val (.ref x), .val (.int 0), .val (.int sf), .val (.int 1)] [])) _
  refine XS.iload X0.here hx rfl (hb hby at_198) rfl ?_
  refine XS.ifYes X0.here hx rfl (pc0 := 200) (pc' := 226) rfl (hb hby at_200) rfl ((if0 _ _).trans (teq (by decide : (0 : Int32) = (0 : Int32))).1) (by decide) (by decide) ?_
  exact kt
theorem pd__I_C : parseMethodDescriptor "(I)C" = some ⟨[.int], some .char⟩ := by decide +kernel
set_option maxRecDepth 65536 in
set_option maxHeartbeats 40000000 in
theorem bA1 {p : Program} {l : Launch} {e : Env} {s : State} {m : MethodId} {args : Array Value} {below : List Frame} {meth : Method} {c : Code} {s₁ : State} {L0 : List Loc} {Z : State} {a0 : Array Value} (G1 : Int32) (G3 : Value) (G4 : Value) (p1 : Int32) (p2 : Int32) (p3 : Int32) (p4 : Int32) (p5 : Int32) (pcv : Int32) (scv : Int32) (ar : Addr) (tx : Addr) (x : Addr) (ka : ClassId) (as : List Int32) (o : Nat) (n : Nat) (CS : List Int32) (pf : Nat) (sf : Int32) (h0 : Heap) (n0 : Nat) (X0 : Stand p l e room_1 s m args below meth c s₁ L0 9 159) (hx : p.tables.exec = Jvm.exec) (hZ : Z.Warmed39 s.vm) (hw : ∀ d ∈ tables_1, d.before a0 Z = true) (hby : c.code = code) (hml : c.maxLocals = 17) (hown : s.vm.findClass "com/example/hebelwerk/hebelwerk/core/TextWritePinLaw" = some m.cls) (e0 : s₁.heap = h0) (N0 : Fr n0 L0) (Z0 : n0 ≤ h0.size) (EN : own_env Z G1 G3 G4) (X00 : Old Z n0 h0) (S : own_st Z h0 x CS) (hlen : CS.length ≤ 15) (hc : ∀ c ∈ CS, own_ch c) (V_ar : Arv Z h0 ar ka .char (Int32.ofNat as.length) (as.map Value.int) (.int 0)) (ha : as.length < 2 ^ 30) (ho : o + n ≤ as.length) (hq : (CS.getD 0 0) = pcv) (hpos : 0 < CS.length) :
    ∃ (T' : State) (h' : Heap) (L' : List Loc) , Stand p l e room_1 s m args below meth c T' L' 9 159 ∧ T'.heap = h' ∧ Fr n0 L' ∧ n0 ≤ h'.size ∧ h' = h0 ∧ 
      ∀ target, Steps p.tables e below (T'.setTop (mkF m 226 #[.val (.int p1), .val (.int p2), .val (.int p3), .val (.int p4), .val (.int p5), .val (.ref ar), .val (.int (Int32.ofNat o)), .val (.int (Int32.ofNat n)), .val (.int 1), .val (.int sf), .val (.int pcv), .val (.int scv), .val (.ref tx), .val (.ref x), .val (.int 1), .val (.int sf), .val (.int 1)] [])) target → Steps p.tables e below (s₁.setTop (mkF m 198 #[.val (.int p1), .val (.int p2), .val (.int p3), .val (.int p4), .val (.int p5), .val (.ref ar), .val (.int (Int32.ofNat o)), .val (.int (Int32.ofNat n)), .val (.int 1), .val (.int sf), .val (.int pcv), .val (.int scv), .val (.ref tx), .val (.ref x), .val (.int 1), .val (.int sf), .val (.int 1)] [])) target := by
  have EN0 := EN
  obtain ⟨O2, P5, O4, rG3, O5, rG4, O6, O7, O8⟩ := EN
  have E_x := S.choose_spec.choose_spec.1
  obtain ⟨cq1, kq1, q1a, q1b, q1c⟩ := isOf hZ e0 E_x
  obtain ⟨_, _, ⟨T1, L1, k1, n1⟩, -, X1, ⟨Lc1, hQ1, l1, y1, z1⟩, st1⟩ := X0.virtualBack hx (y := (⟨"java/lang/String", "charAt", "(I)C"⟩ : MethodName)) (z := (⟨"java/lang/String", "charAt", "(I)C"⟩ : MethodName)) hown (mvT hZ (hw _ (tk 149 rfl))) (mvT hZ (hw _ (tk 150 rfl))) (notFace_of_selects (args := #[]) (mvT hZ (hw _ (tk 152 rfl)))) (mvT hZ (hw _ (tk 152 rfl))) (mvT hZ (hw _ (tk 151 rfl))) (by decide) (backOf (W := 0) (rmCA l Z a0 hw [] G1 G3 G4 x CS 0 h0 n0 Z0 EN0 X00 S hlen hc hpos) hZ (hw _ (tk 153 rfl)) (hw _ (tk 32 rfl)) (by decide) (by decide)) q1a q1c (g := (mkF m 211 #[.val (.int p1), .val (.int p2), .val (.int p3), .val (.int p4), .val (.int p5), .val (.ref ar), .val (.int (Int32.ofNat o)), .val (.int (Int32.ofNat n)), .val (.int 1), .val (.int sf), .val (.int pcv), .val (.int scv), .val (.ref tx), .val (.ref x), .val (.int 1), .val (.int sf), .val (.int 1)] [(.int 0), (.ref x)])) rfl (by rw [hml]; rfl) (Steps.refl _) (argsL := [(.int 0)]) (rest := []) (lenOf pd__I_C rfl) rfl (by show 2 * 0 + _ ≤ _; exact Nat.le_of_eq rfl) (hb hby at_211) (fun _ _ => ⟨rfl, e0, (by decide : 9 + 0 ≤ _), (by decide : 159 + 0 ≤ _)⟩)
  dsimp only [Pt.U, Pt.locs, Pt.cells, Pt.slots] at X1 l1 y1 z1 st1 hQ1
  subst l1 y1 z1
  obtain ⟨rfl, Nq1, eq1⟩ := hQ1
  have N1 := Fr.app N0 Nq1
  refine ⟨T1, h0, _, X1, eq1, N1, Z0, rfl, fun target kt => ?_⟩
  show Steps p.tables e below (s₁.setTop (mkF m 198 #[.val (.int p1), .val (.int p2), .val (.int p3), .val (.int p4), .val (.int p5), .val (.ref ar), .val (.int (Int32.ofNat o)), .val (.int (Int32.ofNat n)), .val (.int 1), .val (.int sf), .val (.int pcv), .val (.int scv), .val (.ref tx), .val (.ref x), .val (.int 1), .val (.int sf), .val (.int 1)] [])) _
  refine XS.iload X0.here hx rfl (hb hby at_198) rfl ?_
  refine XS.ifNo X0.here hx rfl (hb hby at_200) rfl ((if0 _ _).trans (feq (by decide : ¬ ((1 : Int32) = (0 : Int32)))).1) ?_
  refine XS.iload X0.here hx rfl (hb hby at_203) rfl ?_
  refine XS.ifNo X0.here hx rfl (hb hby at_205) rfl ((if0 _ _).trans (feq (by decide : ¬ ((1 : Int32) = (0 : Int32)))).1) ?_
  refine XS.aload X0.here hx rfl (hb hby at_208) rfl rfl ?_
  refine XS.iconst X0.here hx rfl (hb hby at_210) ?_
  show Steps p.tables e below (s₁.setTop (mkF m 211 #[.val (.int p1), .val (.int p2), .val (.int p3), .val (.int p4), .val (.int p5), .val (.ref ar), .val (.int (Int32.ofNat o)), .val (.int (Int32.ofNat n)), .val (.int 1), .val (.int sf), .val (.int pcv), .val (.int scv), .val (.ref tx), .val (.ref x), .val (.int 1), .val (.int sf), .val (.int 1)] [(.int 0), (.ref x)])) _
  refine st1.trans ?_
  show Steps p.tables e below (T1.setTop (mkF m 214 #[.val (.int p1), .val (.int p2), .val (.int p3), .val (.int p4), .val (.int p5), .val (.ref ar), .val (.int (Int32.ofNat o)), .val (.int (Int32.ofNat n)), .val (.int 1), .val (.int sf), .val (.int pcv), .val (.int scv), .val (.ref tx), .val (.ref x), .val (.int 1), .val (.int sf), .val (.int 1)] [(.int (CS.getD 0 0))])) _
  refine XS.iload X1.here hx rfl (hb hby at_214) rfl ?_
  refine XS.icmpNo X1.here hx rfl (hb hby at_216) rfl (teq hq).2 ?_
  refine XS.iconst X1.here hx rfl (hb hby at_219) ?_
  refine XS.goto X1.here hx rfl (pc0 := 220) (pc' := 224) rfl (hb hby at_220) (by decide) (by decide) ?_
  refine XS.istore X1.here hx rfl (hb hby at_224) rfl (l' := #[.val (.int p1), .val (.int p2), .val (.int p3), .val (.int p4), .val (.int p5), .val (.ref ar), .val (.int (Int32.ofNat o)), .val (.int (Int32.ofNat n)), .val (.int 1), .val (.int sf), .val (.int pcv), .val (.int scv), .val (.ref tx), .val (.ref x), .val (.int 1), .val (.int sf), .val (.int 1)]) rfl ?_
  exact kt
set_option maxRecDepth 65536 in
set_option maxHeartbeats 40000000 in
theorem bK0y {p : Program} {l : Launch} {e : Env} {s : State} {m : MethodId} {args : Array Value} {below : List Frame} {meth : Method} {c : Code} {s₁ : State} {L0 : List Loc} {Z : State} {a0 : Array Value} (G1 : Int32) (G3 : Value) (G4 : Value) (p1 : Int32) (p2 : Int32) (p3 : Int32) (p4 : Int32) (p5 : Int32) (pcv : Int32) (scv : Int32) (ar : Addr) (tx : Addr) (x : Addr) (ka : ClassId) (as : List Int32) (o : Nat) (n : Nat) (CS : List Int32) (pf : Nat) (sf : Int32) (h0 : Heap) (n0 : Nat) (X0 : Stand p l e room_1 s m args below meth c s₁ L0 9 159) (hx : p.tables.exec = Jvm.exec) (hZ : Z.Warmed39 s.vm) (hw : ∀ d ∈ tables_1, d.before a0 Z = true) (hby : c.code = code) (hml : c.maxLocals = 17) (hown : s.vm.findClass "com/example/hebelwerk/hebelwerk/core/TextWritePinLaw" = some m.cls) (e0 : s₁.heap = h0) (N0 : Fr n0 L0) (Z0 : n0 ≤ h0.size) (EN : own_env Z G1 G3 G4) (X00 : Old Z n0 h0) (S : own_st Z h0 x CS) (hlen : CS.length ≤ 15) (hc : ∀ c ∈ CS, own_ch c) (V_ar : Arv Z h0 ar ka .char (Int32.ofNat as.length) (as.map Value.int) (.int 0)) (ha : as.length < 2 ^ 30) (ho : o + n ≤ as.length) (hkn : 0 < n) (hq : (CS.getD pf 0) = (as.getD o 0)) (hpos : pf < CS.length) :
    ∃ (T' : State) (h' : Heap) (L' : List Loc) , Stand p l e room_1 s m args below meth c T' L' 9 159 ∧ T'.heap = h' ∧ Fr n0 L' ∧ n0 ≤ h'.size ∧ h' = h0 ∧ 
      ∀ target, Steps p.tables e below (T'.setTop (mkF m 259 #[.val (.int p1), .val (.int p2), .val (.int p3), .val (.int p4), .val (.int p5), .val (.ref ar), .val (.int (Int32.ofNat o)), .val (.int (Int32.ofNat n)), .val (.int (Int32.ofNat pf)), .val (.int sf), .val (.int pcv), .val (.int scv), .val (.ref tx), .val (.ref x), .val (.int (Int32.ofNat pf)), .val (.int sf), .val (.int 1)] [])) target → Steps p.tables e below (s₁.setTop (mkF m 226 #[.val (.int p1), .val (.int p2), .val (.int p3), .val (.int p4), .val (.int p5), .val (.ref ar), .val (.int (Int32.ofNat o)), .val (.int (Int32.ofNat n)), .val (.int (Int32.ofNat pf)), .val (.int sf), .val (.int pcv), .val (.int scv), .val (.ref tx), .val (.ref x), .val (.int (Int32.ofNat pf)), .val (.int sf), .val (.int 1)] [])) target := by
  have EN0 := EN
  obtain ⟨O2, P5, O4, rG3, O5, rG4, O6, O7, O8⟩ := EN
  have E_x := S.choose_spec.choose_spec.1
  obtain ⟨cq1, kq1, q1a, q1b, q1c⟩ := isOf hZ e0 E_x
  obtain ⟨_, _, ⟨T1, L1, k1, n1⟩, -, X1, ⟨Lc1, hQ1, l1, y1, z1⟩, st1⟩ := X0.virtualBack hx (y := (⟨"java/lang/String", "charAt", "(I)C"⟩ : MethodName)) (z := (⟨"java/lang/String", "charAt", "(I)C"⟩ : MethodName)) hown (mvT hZ (hw _ (tk 149 rfl))) (mvT hZ (hw _ (tk 150 rfl))) (notFace_of_selects (args := #[]) (mvT hZ (hw _ (tk 152 rfl)))) (mvT hZ (hw _ (tk 152 rfl))) (mvT hZ (hw _ (tk 151 rfl))) (by decide) (backOf (W := 0) (rmCA l Z a0 hw [] G1 G3 G4 x CS pf h0 n0 Z0 EN0 X00 S hlen hc hpos) hZ (hw _ (tk 153 rfl)) (hw _ (tk 32 rfl)) (by decide) (by decide)) q1a q1c (g := (mkF m 241 #[.val (.int p1), .val (.int p2), .val (.int p3), .val (.int p4), .val (.int p5), .val (.ref ar), .val (.int (Int32.ofNat o)), .val (.int (Int32.ofNat n)), .val (.int (Int32.ofNat pf)), .val (.int sf), .val (.int pcv), .val (.int scv), .val (.ref tx), .val (.ref x), .val (.int (Int32.ofNat pf)), .val (.int sf), .val (.int 1)] [(.int (Int32.ofNat pf)), (.ref x)])) rfl (by rw [hml]; rfl) (Steps.refl _) (argsL := [(.int (Int32.ofNat pf))]) (rest := []) (lenOf pd__I_C rfl) rfl (by show 2 * 0 + _ ≤ _; exact Nat.le_of_eq rfl) (hb hby at_241) (fun _ _ => ⟨rfl, e0, (by decide : 9 + 0 ≤ _), (by decide : 159 + 0 ≤ _)⟩)
  dsimp only [Pt.U, Pt.locs, Pt.cells, Pt.slots] at X1 l1 y1 z1 st1 hQ1
  subst l1 y1 z1
  obtain ⟨rfl, Nq1, eq1⟩ := hQ1
  have N1 := Fr.app N0 Nq1
  obtain ⟨c2, Ar2, -, S2, M2, H2, -⟩ := id V_ar
  have hin2 := inb_of (j := (Int32.ofNat o)) S2 (own_in (by omega) (by omega))
  refine ⟨T1, h0, _, X1, eq1, N1, Z0, rfl, fun target kt => ?_⟩
  show Steps p.tables e below (s₁.setTop (mkF m 226 #[.val (.int p1), .val (.int p2), .val (.int p3), .val (.int p4), .val (.int p5), .val (.ref ar), .val (.int (Int32.ofNat o)), .val (.int (Int32.ofNat n)), .val (.int (Int32.ofNat pf)), .val (.int sf), .val (.int pcv), .val (.int scv), .val (.ref tx), .val (.ref x), .val (.int (Int32.ofNat pf)), .val (.int sf), .val (.int 1)] [])) _
  refine XS.iconst X0.here hx rfl (hb hby at_226) ?_
  refine XS.iload X0.here hx rfl (hb hby at_227) rfl ?_
  refine XS.icmpNo X0.here hx rfl (hb hby at_229) rfl (tlt ((own_lt (i := 0) (by omega) (by omega)).mpr hkn)).2.1 ?_
  refine XS.iload X0.here hx rfl (hb hby at_232) rfl ?_
  refine XS.ifNo X0.here hx rfl (hb hby at_234) rfl ((if0 _ _).trans (feq (by decide : ¬ ((1 : Int32) = (0 : Int32)))).1) ?_
  refine XS.aload X0.here hx rfl (hb hby at_237) rfl rfl ?_
  refine XS.iload X0.here hx rfl (hb hby at_239) rfl ?_
  show Steps p.tables e below (s₁.setTop (mkF m 241 #[.val (.int p1), .val (.int p2), .val (.int p3), .val (.int p4), .val (.int p5), .val (.ref ar), .val (.int (Int32.ofNat o)), .val (.int (Int32.ofNat n)), .val (.int (Int32.ofNat pf)), .val (.int sf), .val (.int pcv), .val (.int scv), .val (.ref tx), .val (.ref x), .val (.int (Int32.ofNat pf)), .val (.int sf), .val (.int 1)] [(.int (Int32.ofNat pf)), (.ref x)])) _
  refine st1.trans ?_
  show Steps p.tables e below (T1.setTop (mkF m 244 #[.val (.int p1), .val (.int p2), .val (.int p3), .val (.int p4), .val (.int p5), .val (.ref ar), .val (.int (Int32.ofNat o)), .val (.int (Int32.ofNat n)), .val (.int (Int32.ofNat pf)), .val (.int sf), .val (.int pcv), .val (.int scv), .val (.ref tx), .val (.ref x), .val (.int (Int32.ofNat pf)), .val (.int sf), .val (.int 1)] [(.int (CS.getD pf 0))])) _
  refine XS.aload X1.here hx rfl (hb hby at_244) rfl rfl ?_
  refine XS.iload X1.here hx rfl (hb hby at_246) rfl ?_
  show Steps p.tables e below (T1.setTop (mkF m 248 #[.val (.int p1), .val (.int p2), .val (.int p3), .val (.int p4), .val (.int p5), .val (.ref ar), .val (.int (Int32.ofNat o)), .val (.int (Int32.ofNat n)), .val (.int (Int32.ofNat pf)), .val (.int sf), .val (.int pcv), .val (.int scv), .val (.ref tx), .val (.ref x), .val (.int (Int32.ofNat pf)), .val (.int sf), .val (.int 1)] [(.int (Int32.ofNat o)), (.ref ar), (.int (CS.getD pf 0))])) _
  refine X1.caload hx (j := (Int32.ofNat o)) (v := (.int (as.getD o 0))) (by rw [eq1]; exact Ar2.1) (State.isArrayOf_alike hZ.alike Ar2.2.1) Ar2.2.2 hin2 (H2.at hin2 (own_ca as o (by omega))) (g := (mkF m 248 #[.val (.int p1), .val (.int p2), .val (.int p3), .val (.int p4), .val (.int p5), .val (.ref ar), .val (.int (Int32.ofNat o)), .val (.int (Int32.ofNat n)), .val (.int (Int32.ofNat pf)), .val (.int sf), .val (.int pcv), .val (.int scv), .val (.ref tx), .val (.ref x), .val (.int (Int32.ofNat pf)), .val (.int sf), .val (.int 1)] [(.int (Int32.ofNat o)), (.ref ar), (.int (CS.getD pf 0))])) rfl rfl (hb hby at_248) _ ?_
  show Steps p.tables e below (T1.setTop (mkF m 249 #[.val (.int p1), .val (.int p2), .val (.int p3), .val (.int p4), .val (.int p5), .val (.ref ar), .val (.int (Int32.ofNat o)), .val (.int (Int32.ofNat n)), .val (.int (Int32.ofNat pf)), .val (.int sf), .val (.int pcv), .val (.int scv), .val (.ref tx), .val (.ref x), .val (.int (Int32.ofNat pf)), .val (.int sf), .val (.int 1)] [(.int (as.getD o 0)), (.int (CS.getD pf 0))])) _
  refine XS.icmpNo X1.here hx rfl (hb hby at_249) rfl (teq hq).2 ?_
  refine XS.iconst X1.here hx rfl (hb hby at_252) ?_
  refine XS.goto X1.here hx rfl (pc0 := 253) (pc' := 257) rfl (hb hby at_253) (by decide) (by decide) ?_
  refine XS.istore X1.here hx rfl (hb hby at_257) rfl (l' := #[.val (.int p1), .val (.int p2), .val (.int p3), .val (.int p4), .val (.int p5), .val (.ref ar), .val (.int (Int32.ofNat o)), .val (.int (Int32.ofNat n)), .val (.int (Int32.ofNat pf)), .val (.int sf), .val (.int pcv), .val (.int scv), .val (.ref tx), .val (.ref x), .val (.int (Int32.ofNat pf)), .val (.int sf), .val (.int 1)]) rfl ?_
  exact kt
set_option maxRecDepth 65536 in
set_option maxHeartbeats 40000000 in
theorem bK0n {p : Program} {l : Launch} {e : Env} {s : State} {m : MethodId} {args : Array Value} {below : List Frame} {meth : Method} {c : Code} {s₁ : State} {L0 : List Loc} {Z : State} {a0 : Array Value} (G1 : Int32) (G3 : Value) (G4 : Value) (p1 : Int32) (p2 : Int32) (p3 : Int32) (p4 : Int32) (p5 : Int32) (pcv : Int32) (scv : Int32) (ar : Addr) (tx : Addr) (x : Addr) (ka : ClassId) (as : List Int32) (o : Nat) (n : Nat) (CS : List Int32) (pf : Nat) (sf : Int32) (h0 : Heap) (n0 : Nat) (X0 : Stand p l e room_1 s m args below meth c s₁ L0 9 159) (hx : p.tables.exec = Jvm.exec) (hZ : Z.Warmed39 s.vm) (hw : ∀ d ∈ tables_1, d.before a0 Z = true) (hby : c.code = code) (hml : c.maxLocals = 17) (hown : s.vm.findClass "com/example/hebelwerk/hebelwerk/core/TextWritePinLaw" = some m.cls) (e0 : s₁.heap = h0) (N0 : Fr n0 L0) (Z0 : n0 ≤ h0.size) (EN : own_env Z G1 G3 G4) (X00 : Old Z n0 h0) (S : own_st Z h0 x CS) (hlen : CS.length ≤ 15) (hc : ∀ c ∈ CS, own_ch c) (V_ar : Arv Z h0 ar ka .char (Int32.ofNat as.length) (as.map Value.int) (.int 0)) (ha : as.length < 2 ^ 30) (ho : o + n ≤ as.length) (hkn : ¬ (0 < n)) (hn5 : n < 5) :
    ∃ (T' : State) (h' : Heap) (L' : List Loc) , Stand p l e room_1 s m args below meth c T' L' 9 159 ∧ T'.heap = h' ∧ Fr n0 L' ∧ n0 ≤ h'.size ∧ h' = h0 ∧ 
      ∀ target, Steps p.tables e below (T'.setTop (mkF m 259 #[.val (.int p1), .val (.int p2), .val (.int p3), .val (.int p4), .val (.int p5), .val (.ref ar), .val (.int (Int32.ofNat o)), .val (.int (Int32.ofNat n)), .val (.int (Int32.ofNat pf)), .val (.int sf), .val (.int pcv), .val (.int scv), .val (.ref tx), .val (.ref x), .val (.int (Int32.ofNat pf)), .val (.int sf), .val (.int 1)] [])) target → Steps p.tables e below (s₁.setTop (mkF m 226 #[.val (.int p1), .val (.int p2), .val (.int p3), .val (.int p4), .val (.int p5), .val (.ref ar), .val (.int (Int32.ofNat o)), .val (.int (Int32.ofNat n)), .val (.int (Int32.ofNat pf)), .val (.int sf), .val (.int pcv), .val (.int scv), .val (.ref tx), .val (.ref x), .val (.int (Int32.ofNat pf)), .val (.int sf), .val (.int 1)] [])) target := by
  have EN0 := EN
  obtain ⟨O2, P5, O4, rG3, O5, rG4, O6, O7, O8⟩ := EN
  have E_x := S.choose_spec.choose_spec.1
  refine ⟨s₁, h0, _, X0, e0, N0, Z0, rfl, fun target kt => ?_⟩
  show Steps p.tables e below (s₁.setTop (mkF m 226 #[.val (.int p1), .val (.int p2), .val (.int p3), .val (.int p4), .val (.int p5), .val (.ref ar), .val (.int (Int32.ofNat o)), .val (.int (Int32.ofNat n)), .val (.int (Int32.ofNat pf)), .val (.int sf), .val (.int pcv), .val (.int scv), .val (.ref tx), .val (.ref x), .val (.int (Int32.ofNat pf)), .val (.int sf), .val (.int 1)] [])) _
  refine XS.iconst X0.here hx rfl (hb hby at_226) ?_
  refine XS.iload X0.here hx rfl (hb hby at_227) rfl ?_
  refine XS.icmpYes X0.here hx rfl (pc0 := 229) (pc' := 259) rfl (hb hby at_229) rfl (flt (fun q => hkn ((own_lt (i := 0) (by omega) (by omega)).mp q))).2.1 (by decide) (by decide) ?_
  exact kt
set_option maxRecDepth 65536 in
set_option maxHeartbeats 40000000 in
theorem bK1y {p : Program} {l : Launch} {e : Env} {s : State} {m : MethodId} {args : Array Value} {below : List Frame} {meth : Method} {c : Code} {s₁ : State} {L0 : List Loc} {Z : State} {a0 : Array Value} (G1 : Int32) (G3 : Value) (G4 : Value) (p1 : Int32) (p2 : Int32) (p3 : Int32) (p4 : Int32) (p5 : Int32) (pcv : Int32) (scv : Int32) (ar : Addr) (tx : Addr) (x : Addr) (ka : ClassId) (as : List Int32) (o : Nat) (n : Nat) (CS : List Int32) (pf : Nat) (sf : Int32) (h0 : Heap) (n0 : Nat) (X0 : Stand p l e room_1 s m args below meth c s₁ L0 9 159) (hx : p.tables.exec = Jvm.exec) (hZ : Z.Warmed39 s.vm) (hw : ∀ d ∈ tables_1, d.before a0 Z = true) (hby : c.code = code) (hml : c.maxLocals = 17) (hown : s.vm.findClass "com/example/hebelwerk/hebelwerk/core/TextWritePinLaw" = some m.cls) (e0 : s₁.heap = h0) (N0 : Fr n0 L0) (Z0 : n0 ≤ h0.size) (EN : own_env Z G1 G3 G4) (X00 : Old Z n0 h0) (S : own_st Z h0 x CS) (hlen : CS.length ≤ 15) (hc : ∀ c ∈ CS, own_ch c) (V_ar : Arv Z h0 ar ka .char (Int32.ofNat as.length) (as.map Value.int) (.int 0)) (ha : as.length < 2 ^ 30) (ho : o + n ≤ as.length) (hkn : 1 < n) (hq : (CS.getD (pf + 1) 0) = (as.getD (o + 1) 0)) (hpos : (pf + 1) < CS.length) :
    ∃ (T' : State) (h' : Heap) (L' : List Loc) , Stand p l e room_1 s m args below meth c T' L' 9 159 ∧ T'.heap = h' ∧ Fr n0 L' ∧ n0 ≤ h'.size ∧ h' = h0 ∧ 
      ∀ target, Steps p.tables e below (T'.setTop (mkF m 296 #[.val (.int p1), .val (.int p2), .val (.int p3), .val (.int p4), .val (.int p5), .val (.ref ar), .val (.int (Int32.ofNat o)), .val (.int (Int32.ofNat n)), .val (.int (Int32.ofNat pf)), .val (.int sf), .val (.int pcv), .val (.int scv), .val (.ref tx), .val (.ref x), .val (.int (Int32.ofNat pf)), .val (.int sf), .val (.int 1)] [])) target → Steps p.tables e below (s₁.setTop (mkF m 259 #[.val (.int p1), .val (.int p2), .val (.int p3), .val (.int p4), .val (.int p5), .val (.ref ar), .val (.int (Int32.ofNat o)), .val (.int (Int32.ofNat n)), .val (.int (Int32.ofNat pf)), .val (.int sf), .val (.int pcv), .val (.int scv), .val (.ref tx), .val (.ref x), .val (.int (Int32.ofNat pf)), .val (.int sf), .val (.int 1)] [])) target := by
  have EN0 := EN
  obtain ⟨O2, P5, O4, rG3, O5, rG4, O6, O7, O8⟩ := EN
  have E_x := S.choose_spec.choose_spec.1
  obtain ⟨cq1, kq1, q1a, q1b, q1c⟩ := isOf hZ e0 E_x
  obtain ⟨_, _, ⟨T1, L1, k1, n1⟩, -, X1, ⟨Lc1, hQ1, l1, y1, z1⟩, st1⟩ := X0.virtualBack hx (y := (⟨"java/lang/String", "charAt", "(I)C"⟩ : MethodName)) (z := (⟨"java/lang/String", "charAt", "(I)C"⟩ : MethodName)) hown (mvT hZ (hw _ (tk 149 rfl))) (mvT hZ (hw _ (tk 150 rfl))) (notFace_of_selects (args := #[]) (mvT hZ (hw _ (tk 152 rfl)))) (mvT hZ (hw _ (tk 152 rfl))) (mvT hZ (hw _ (tk 151 rfl))) (by decide) (backOf (W := 0) (rmCA l Z a0 hw [] G1 G3 G4 x CS (pf + 1) h0 n0 Z0 EN0 X00 S hlen hc hpos) hZ (hw _ (tk 153 rfl)) (hw _ (tk 32 rfl)) (by decide) (by decide)) q1a q1c (g := (mkF m 276 #[.val (.int p1), .val (.int p2), .val (.int p3), .val (.int p4), .val (.int p5), .val (.ref ar), .val (.int (Int32.ofNat o)), .val (.int (Int32.ofNat n)), .val (.int (Int32.ofNat pf)), .val (.int sf), .val (.int pcv), .val (.int scv), .val (.ref tx), .val (.ref x), .val (.int (Int32.ofNat pf)), .val (.int sf), .val (.int 1)] [(.int (Int32.ofNat (pf + 1))), (.ref x)])) rfl (by rw [hml]; rfl) (Steps.refl _) (argsL := [(.int (Int32.ofNat (pf + 1)))]) (rest := []) (lenOf pd__I_C rfl) rfl (by show 2 * 0 + _ ≤ _; exact Nat.le_of_eq rfl) (hb hby at_276) (fun _ _ => ⟨rfl, e0, (by decide : 9 + 0 ≤ _), (by decide : 159 + 0 ≤ _)⟩)
  dsimp only [Pt.U, Pt.locs, Pt.cells, Pt.slots] at X1 l1 y1 z1 st1 hQ1
  subst l1 y1 z1
  obtain ⟨rfl, Nq1, eq1⟩ := hQ1
  have N1 := Fr.app N0 Nq1
  obtain ⟨c2, Ar2, -, S2, M2, H2, -⟩ := id V_ar
  have hin2 := inb_of (j := (Int32.ofNat (o + 1))) S2 (own_in (by omega) (by omega))
  refine ⟨T1, h0, _, X1, eq1, N1, Z0, rfl, fun target kt => ?_⟩
  show Steps p.tables e below (s₁.setTop (mkF m 259 #[.val (.int p1), .val (.int p2), .val (.int p3), .val (.int p4), .val (.int p5), .val (.ref ar), .val (.int (Int32.ofNat o)), .val (.int (Int32.ofNat n)), .val (.int (Int32.ofNat pf)), .val (.int sf), .val (.int pcv), .val (.int scv), .val (.ref tx), .val (.ref x), .val (.int (Int32.ofNat pf)), .val (.int sf), .val (.int 1)] [])) _
  refine XS.iconst X0.here hx rfl (hb hby at_259) ?_
  refine XS.iload X0.here hx rfl (hb hby at_260) rfl ?_
  refine XS.icmpNo X0.here hx rfl (hb hby at_262) rfl (tlt ((own_lt (i := 1) (by omega) (by omega)).mpr hkn)).2.1 ?_
  refine XS.iload X0.here hx rfl (hb hby at_265) rfl ?_
  refine XS.ifNo X0.here hx rfl (hb hby at_267) rfl ((if0 _ _).trans (feq (by decide : ¬ ((1 : Int32) = (0 : Int32)))).1) ?_
  refine XS.aload X0.here hx rfl (hb hby at_270) rfl rfl ?_
  refine XS.iload X0.here hx rfl (hb hby at_272) rfl ?_
  refine XS.iconst X0.here hx rfl (hb hby at_274) ?_
  refine XS.iadd X0.here hx rfl (hb hby at_275) rfl ?_
  show Steps p.tables e below (s₁.setTop (mkF m 276 #[.val (.int p1), .val (.int p2), .val (.int p3), .val (.int p4), .val (.int p5), .val (.ref ar), .val (.int (Int32.ofNat o)), .val (.int (Int32.ofNat n)), .val (.int (Int32.ofNat pf)), .val (.int sf), .val (.int pcv), .val (.int scv), .val (.ref tx), .val (.ref x), .val (.int (Int32.ofNat pf)), .val (.int sf), .val (.int 1)] [(.int ((Int32.ofNat pf) + (1 : Int32))), (.ref x)])) _
  rw [own_ad1 pf]
  show Steps p.tables e below (s₁.setTop (mkF m 276 #[.val (.int p1), .val (.int p2), .val (.int p3), .val (.int p4), .val (.int p5), .val (.ref ar), .val (.int (Int32.ofNat o)), .val (.int (Int32.ofNat n)), .val (.int (Int32.ofNat pf)), .val (.int sf), .val (.int pcv), .val (.int scv), .val (.ref tx), .val (.ref x), .val (.int (Int32.ofNat pf)), .val (.int sf), .val (.int 1)] [(.int (Int32.ofNat (pf + 1))), (.ref x)])) _
  refine st1.trans ?_
  show Steps p.tables e below (T1.setTop (mkF m 279 #[.val (.int p1), .val (.int p2), .val (.int p3), .val (.int p4), .val (.int p5), .val (.ref ar), .val (.int (Int32.ofNat o)), .val (.int (Int32.ofNat n)), .val (.int (Int32.ofNat pf)), .val (.int sf), .val (.int pcv), .val (.int scv), .val (.ref tx), .val (.ref x), .val (.int (Int32.ofNat pf)), .val (.int sf), .val (.int 1)] [(.int (CS.getD (pf + 1) 0))])) _
  refine XS.aload X1.here hx rfl (hb hby at_279) rfl rfl ?_
  refine XS.iload X1.here hx rfl (hb hby at_281) rfl ?_
  refine XS.iconst X1.here hx rfl (hb hby at_283) ?_
  refine XS.iadd X1.here hx rfl (hb hby at_284) rfl ?_
  show Steps p.tables e below (T1.setTop (mkF m 285 #[.val (.int p1), .val (.int p2), .val (.int p3), .val (.int p4), .val (.int p5), .val (.ref ar), .val (.int (Int32.ofNat o)), .val (.int (Int32.ofNat n)), .val (.int (Int32.ofNat pf)), .val (.int sf), .val (.int pcv), .val (.int scv), .val (.ref tx), .val (.ref x), .val (.int (Int32.ofNat pf)), .val (.int sf), .val (.int 1)] [(.int ((Int32.ofNat o) + (1 : Int32))), (.ref ar), (.int (CS.getD (pf + 1) 0))])) _
  rw [own_ad1 o]
  show Steps p.tables e below (T1.setTop (mkF m 285 #[.val (.int p1), .val (.int p2), .val (.int p3), .val (.int p4), .val (.int p5), .val (.ref ar), .val (.int (Int32.ofNat o)), .val (.int (Int32.ofNat n)), .val (.int (Int32.ofNat pf)), .val (.int sf), .val (.int pcv), .val (.int scv), .val (.ref tx), .val (.ref x), .val (.int (Int32.ofNat pf)), .val (.int sf), .val (.int 1)] [(.int (Int32.ofNat (o + 1))), (.ref ar), (.int (CS.getD (pf + 1) 0))])) _
  refine X1.caload hx (j := (Int32.ofNat (o + 1))) (v := (.int (as.getD (o + 1) 0))) (by rw [eq1]; exact Ar2.1) (State.isArrayOf_alike hZ.alike Ar2.2.1) Ar2.2.2 hin2 (H2.at hin2 (own_ca as (o + 1) (by omega))) (g := (mkF m 285 #[.val (.int p1), .val (.int p2), .val (.int p3), .val (.int p4), .val (.int p5), .val (.ref ar), .val (.int (Int32.ofNat o)), .val (.int (Int32.ofNat n)), .val (.int (Int32.ofNat pf)), .val (.int sf), .val (.int pcv), .val (.int scv), .val (.ref tx), .val (.ref x), .val (.int (Int32.ofNat pf)), .val (.int sf), .val (.int 1)] [(.int (Int32.ofNat (o + 1))), (.ref ar), (.int (CS.getD (pf + 1) 0))])) rfl rfl (hb hby at_285) _ ?_
  show Steps p.tables e below (T1.setTop (mkF m 286 #[.val (.int p1), .val (.int p2), .val (.int p3), .val (.int p4), .val (.int p5), .val (.ref ar), .val (.int (Int32.ofNat o)), .val (.int (Int32.ofNat n)), .val (.int (Int32.ofNat pf)), .val (.int sf), .val (.int pcv), .val (.int scv), .val (.ref tx), .val (.ref x), .val (.int (Int32.ofNat pf)), .val (.int sf), .val (.int 1)] [(.int (as.getD (o + 1) 0)), (.int (CS.getD (pf + 1) 0))])) _
  refine XS.icmpNo X1.here hx rfl (hb hby at_286) rfl (teq hq).2 ?_
  refine XS.iconst X1.here hx rfl (hb hby at_289) ?_
  refine XS.goto X1.here hx rfl (pc0 := 290) (pc' := 294) rfl (hb hby at_290) (by decide) (by decide) ?_
  refine XS.istore X1.here hx rfl (hb hby at_294) rfl (l' := #[.val (.int p1), .val (.int p2), .val (.int p3), .val (.int p4), .val (.int p5), .val (.ref ar), .val (.int (Int32.ofNat o)), .val (.int (Int32.ofNat n)), .val (.int (Int32.ofNat pf)), .val (.int sf), .val (.int pcv), .val (.int scv), .val (.ref tx), .val (.ref x), .val (.int (Int32.ofNat pf)), .val (.int sf), .val (.int 1)]) rfl ?_
  exact kt
set_option maxRecDepth 65536 in
set_option maxHeartbeats 40000000 in
theorem bK1n {p : Program} {l : Launch} {e : Env} {s : State} {m : MethodId} {args : Array Value} {below : List Frame} {meth : Method} {c : Code} {s₁ : State} {L0 : List Loc} {Z : State} {a0 : Array Value} (G1 : Int32) (G3 : Value) (G4 : Value) (p1 : Int32) (p2 : Int32) (p3 : Int32) (p4 : Int32) (p5 : Int32) (pcv : Int32) (scv : Int32) (ar : Addr) (tx : Addr) (x : Addr) (ka : ClassId) (as : List Int32) (o : Nat) (n : Nat) (CS : List Int32) (pf : Nat) (sf : Int32) (h0 : Heap) (n0 : Nat) (X0 : Stand p l e room_1 s m args below meth c s₁ L0 9 159) (hx : p.tables.exec = Jvm.exec) (hZ : Z.Warmed39 s.vm) (hw : ∀ d ∈ tables_1, d.before a0 Z = true) (hby : c.code = code) (hml : c.maxLocals = 17) (hown : s.vm.findClass "com/example/hebelwerk/hebelwerk/core/TextWritePinLaw" = some m.cls) (e0 : s₁.heap = h0) (N0 : Fr n0 L0) (Z0 : n0 ≤ h0.size) (EN : own_env Z G1 G3 G4) (X00 : Old Z n0 h0) (S : own_st Z h0 x CS) (hlen : CS.length ≤ 15) (hc : ∀ c ∈ CS, own_ch c) (V_ar : Arv Z h0 ar ka .char (Int32.ofNat as.length) (as.map Value.int) (.int 0)) (ha : as.length < 2 ^ 30) (ho : o + n ≤ as.length) (hkn : ¬ (1 < n)) (hn5 : n < 5) :
    ∃ (T' : State) (h' : Heap) (L' : List Loc) , Stand p l e room_1 s m args below meth c T' L' 9 159 ∧ T'.heap = h' ∧ Fr n0 L' ∧ n0 ≤ h'.size ∧ h' = h0 ∧ 
      ∀ target, Steps p.tables e below (T'.setTop (mkF m 296 #[.val (.int p1), .val (.int p2), .val (.int p3), .val (.int p4), .val (.int p5), .val (.ref ar), .val (.int (Int32.ofNat o)), .val (.int (Int32.ofNat n)), .val (.int (Int32.ofNat pf)), .val (.int sf), .val (.int pcv), .val (.int scv), .val (.ref tx), .val (.ref x), .val (.int (Int32.ofNat pf)), .val (.int sf), .val (.int 1)] [])) target → Steps p.tables e below (s₁.setTop (mkF m 259 #[.val (.int p1), .val (.int p2), .val (.int p3), .val (.int p4), .val (.int p5), .val (.ref ar), .val (.int (Int32.ofNat o)), .val (.int (Int32.ofNat n)), .val (.int (Int32.ofNat pf)), .val (.int sf), .val (.int pcv), .val (.int scv), .val (.ref tx), .val (.ref x), .val (.int (Int32.ofNat pf)), .val (.int sf), .val (.int 1)] [])) target := by
  have EN0 := EN
  obtain ⟨O2, P5, O4, rG3, O5, rG4, O6, O7, O8⟩ := EN
  have E_x := S.choose_spec.choose_spec.1
  refine ⟨s₁, h0, _, X0, e0, N0, Z0, rfl, fun target kt => ?_⟩
  show Steps p.tables e below (s₁.setTop (mkF m 259 #[.val (.int p1), .val (.int p2), .val (.int p3), .val (.int p4), .val (.int p5), .val (.ref ar), .val (.int (Int32.ofNat o)), .val (.int (Int32.ofNat n)), .val (.int (Int32.ofNat pf)), .val (.int sf), .val (.int pcv), .val (.int scv), .val (.ref tx), .val (.ref x), .val (.int (Int32.ofNat pf)), .val (.int sf), .val (.int 1)] [])) _
  refine XS.iconst X0.here hx rfl (hb hby at_259) ?_
  refine XS.iload X0.here hx rfl (hb hby at_260) rfl ?_
  refine XS.icmpYes X0.here hx rfl (pc0 := 262) (pc' := 296) rfl (hb hby at_262) rfl (flt (fun q => hkn ((own_lt (i := 1) (by omega) (by omega)).mp q))).2.1 (by decide) (by decide) ?_
  exact kt
set_option maxRecDepth 65536 in
set_option maxHeartbeats 40000000 in
theorem bK2y {p : Program} {l : Launch} {e : Env} {s : State} {m : MethodId} {args : Array Value} {below : List Frame} {meth : Method} {c : Code} {s₁ : State} {L0 : List Loc} {Z : State} {a0 : Array Value} (G1 : Int32) (G3 : Value) (G4 : Value) (p1 : Int32) (p2 : Int32) (p3 : Int32) (p4 : Int32) (p5 : Int32) (pcv : Int32) (scv : Int32) (ar : Addr) (tx : Addr) (x : Addr) (ka : ClassId) (as : List Int32) (o : Nat) (n : Nat) (CS : List Int32) (pf : Nat) (sf : Int32) (h0 : Heap) (n0 : Nat) (X0 : Stand p l e room_1 s m args below meth c s₁ L0 9 159) (hx : p.tables.exec = Jvm.exec) (hZ : Z.Warmed39 s.vm) (hw : ∀ d ∈ tables_1, d.before a0 Z = true) (hby : c.code = code) (hml : c.maxLocals = 17) (hown : s.vm.findClass "com/example/hebelwerk/hebelwerk/core/TextWritePinLaw" = some m.cls) (e0 : s₁.heap = h0) (N0 : Fr n0 L0) (Z0 : n0 ≤ h0.size) (EN : own_env Z G1 G3 G4) (X00 : Old Z n0 h0) (S : own_st Z h0 x CS) (hlen : CS.length ≤ 15) (hc : ∀ c ∈ CS, own_ch c) (V_ar : Arv Z h0 ar ka .char (Int32.ofNat as.length) (as.map Value.int) (.int 0)) (ha : as.length < 2 ^ 30) (ho : o + n ≤ as.length) (hkn : 2 < n) (hq : (CS.getD (pf + 2) 0) = (as.getD (o + 2) 0)) (hpos : (pf + 2) < CS.length) :
    ∃ (T' : State) (h' : Heap) (L' : List Loc) , Stand p l e room_1 s m args below meth c T' L' 9 159 ∧ T'.heap = h' ∧ Fr n0 L' ∧ n0 ≤ h'.size ∧ h' = h0 ∧ 
      ∀ target, Steps p.tables e below (T'.setTop (mkF m 333 #[.val (.int p1), .val (.int p2), .val (.int p3), .val (.int p4), .val (.int p5), .val (.ref ar), .val (.int (Int32.ofNat o)), .val (.int (Int32.ofNat n)), .val (.int (Int32.ofNat pf)), .val (.int sf), .val (.int pcv), .val (.int scv), .val (.ref tx), .val (.ref x), .val (.int (Int32.ofNat pf)), .val (.int sf), .val (.int 1)] [])) target → Steps p.tables e below (s₁.setTop (mkF m 296 #[.val (.int p1), .val (.int p2), .val (.int p3), .val (.int p4), .val (.int p5), .val (.ref ar), .val (.int (Int32.ofNat o)), .val (.int (Int32.ofNat n)), .val (.int (Int32.ofNat pf)), .val (.int sf), .val (.int pcv), .val (.int scv), .val (.ref tx), .val (.ref x), .val (.int (Int32.ofNat pf)), .val (.int sf), .val (.int 1)] [])) target := by
  have EN0 := EN
  obtain ⟨O2, P5, O4, rG3, O5, rG4, O6, O7, O8⟩ := EN
  have E_x := S.choose_spec.choose_spec.1
  obtain ⟨cq1, kq1, q1a, q1b, q1c⟩ := isOf hZ e0 E_x
  obtain ⟨_, _, ⟨T1, L1, k1, n1⟩, -, X1, ⟨Lc1, hQ1, l1, y1, z1⟩, st1⟩ := X0.virtualBack hx (y := (⟨"java/lang/String", "charAt", "(I)C"⟩ : MethodName)) (z := (⟨"java/lang/String", "charAt", "(I)C"⟩ : MethodName)) hown (mvT hZ (hw _ (tk 149 rfl))) (mvT hZ (hw _ (tk 150 rfl))) (notFace_of_selects (args := #[]) (mvT hZ (hw _ (tk 152 rfl)))) (mvT hZ (hw _ (tk 152 rfl))) (mvT hZ (hw _ (tk 151 rfl))) (by decide) (backOf (W := 0) (rmCA l Z a0 hw [] G1 G3 G4 x CS (pf + 2) h0 n0 Z0 EN0 X00 S hlen hc hpos) hZ (hw _ (tk 153 rfl)) (hw _ (tk 32 rfl)) (by decide) (by decide)) q1a q1c (g := (mkF m 313 #[.val (.int p1), .val (.int p2), .val (.int p3), .val (.int p4), .val (.int p5), .val (.ref ar), .val (.int (Int32.ofNat o)), .val (.int (Int32.ofNat n)), .val (.int (Int32.ofNat pf)), .val (.int sf), .val (.int pcv), .val (.int scv), .val (.ref tx), .val (.ref x), .val (.int (Int32.ofNat pf)), .val (.int sf), .val (.int 1)] [(.int (Int32.ofNat (pf + 2))), (.ref x)])) rfl (by rw [hml]; rfl) (Steps.refl _) (argsL := [(.int (Int32.ofNat (pf + 2)))]) (rest := []) (lenOf pd__I_C rfl) rfl (by show 2 * 0 + _ ≤ _; exact Nat.le_of_eq rfl) (hb hby at_313) (fun _ _ => ⟨rfl, e0, (by decide : 9 + 0 ≤ _), (by decide : 159 + 0 ≤ _)⟩)
  dsimp only [Pt.U, Pt.locs, Pt.cells, Pt.slots] at X1 l1 y1 z1 st1 hQ1
  subst l1 y1 z1
  obtain ⟨rfl, Nq1, eq1⟩ := hQ1
  have N1 := Fr.app N0 Nq1
  obtain ⟨c2, Ar2, -, S2, M2, H2, -⟩ := id V_ar
  have hin2 := inb_of (j := (Int32.ofNat (o + 2))) S2 (own_in (by omega) (by omega))
  refine ⟨T1, h0, _, X1, eq1, N1, Z0, rfl, fun target kt => ?_⟩
  show Steps p.tables e below (s₁.setTop (mkF m 296 #[.val (.int p1), .val (.int p2), .val (.int p3), .val (.int p4), .val (.int p5), .val (.ref ar), .val (.int (Int32.ofNat o)), .val (.int (Int32.ofNat n)), .val (.int (Int32.ofNat pf)), .val (.int sf), .val (.int pcv), .val (.int scv), .val (.ref tx), .val (.ref x), .val (.int (Int32.ofNat pf)), .val (.int sf), .val (.int 1)] [])) _
  refine XS.iconst X0.here hx rfl (hb hby at_296) ?_
  refine XS.iload X0.here hx rfl (hb hby at_297) rfl ?_
  refine XS.icmpNo X0.here hx rfl (hb hby at_299) rfl (tlt ((own_lt (i := 2) (by omega) (by omega)).mpr hkn)).2.1 ?_
  refine XS.iload X0.here hx rfl (hb hby at_302) rfl ?_
  refine XS.ifNo X0.here hx rfl (hb hby at_304) rfl ((if0 _ _).trans (feq (by decide : ¬ ((1 : Int32) = (0 : Int32)))).1) ?_
  refine XS.aload X0.here hx rfl (hb hby at_307) rfl rfl ?_
  refine XS.iload X0.here hx rfl (hb hby at_309) rfl ?_
  refine XS.iconst X0.here hx rfl (hb hby at_311) ?_
  refine XS.iadd X0.here hx rfl (hb hby at_312) rfl ?_
  show Steps p.tables e below (s₁.setTop (mkF m 313 #[.val (.int p1), .val (.int p2), .val (.int p3), .val (.int p4), .val (.int p5), .val (.ref ar), .val (.int (Int32.ofNat o)), .val (.int (Int32.ofNat n)), .val (.int (Int32.ofNat pf)), .val (.int sf), .val (.int pcv), .val (.int scv), .val (.ref tx), .val (.ref x), .val (.int (Int32.ofNat pf)), .val (.int sf), .val (.int 1)] [(.int ((Int32.ofNat pf) + (2 : Int32))), (.ref x)])) _
  rw [own_ad2 pf]
  show Steps p.tables e below (s₁.setTop (mkF m 313 #[.val (.int p1), .val (.int p2), .val (.int p3), .val (.int p4), .val (.int p5), .val (.ref ar), .val (.int (Int32.ofNat o)), .val (.int (Int32.ofNat n)), .val (.int (Int32.ofNat pf)), .val (.int sf), .val (.int pcv), .val (.int scv), .val (.ref tx), .val (.ref x), .val (.int (Int32.ofNat pf)), .val (.int sf), .val (.int 1)] [(.int (Int32.ofNat (pf + 2))), (.ref x)])) _
  refine st1.trans ?_
  show Steps p.tables e below (T1.setTop (mkF m 316 #[.val (.int p1), .val (.int p2), .val (.int p3), .val (.int p4), .val (.int p5), .val (.ref ar), .val (.int (Int32.ofNat o)), .val (.int (Int32.ofNat n)), .val (.int (Int32.ofNat pf)), .val (.int sf), .val (.int pcv), .val (.int scv), .val (.ref tx), .val (.ref x), .val (.int (Int32.ofNat pf)), .val (.int sf), .val (.int 1)] [(.int (CS.getD (pf + 2) 0))])) _
  refine XS.aload X1.here hx rfl (hb hby at_316) rfl rfl ?_
  refine XS.iload X1.here hx rfl (hb hby at_318) rfl ?_
  refine XS.iconst X1.here hx rfl (hb hby at_320) ?_
  refine XS.iadd X1.here hx rfl (hb hby at_321) rfl ?_
  show Steps p.tables e below (T1.setTop (mkF m 322 #[.val (.int p1), .val (.int p2), .val (.int p3), .val (.int p4), .val (.int p5), .val (.ref ar), .val (.int (Int32.ofNat o)), .val (.int (Int32.ofNat n)), .val (.int (Int32.ofNat pf)), .val (.int sf), .val (.int pcv), .val (.int scv), .val (.ref tx), .val (.ref x), .val (.int (Int32.ofNat pf)), .val (.int sf), .val (.int 1)] [(.int ((Int32.ofNat o) + (2 : Int32))), (.ref ar), (.int (CS.getD (pf + 2) 0))])) _
  rw [own_ad2 o]
  show Steps p.tables e below (T1.setTop (mkF m 322 #[.val (.int p1), .val (.int p2), .val (.int p3), .val (.int p4), .val (.int p5), .val (.ref ar), .val (.int (Int32.ofNat o)), .val (.int (Int32.ofNat n)), .val (.int (Int32.ofNat pf)), .val (.int sf), .val (.int pcv), .val (.int scv), .val (.ref tx), .val (.ref x), .val (.int (Int32.ofNat pf)), .val (.int sf), .val (.int 1)] [(.int (Int32.ofNat (o + 2))), (.ref ar), (.int (CS.getD (pf + 2) 0))])) _
  refine X1.caload hx (j := (Int32.ofNat (o + 2))) (v := (.int (as.getD (o + 2) 0))) (by rw [eq1]; exact Ar2.1) (State.isArrayOf_alike hZ.alike Ar2.2.1) Ar2.2.2 hin2 (H2.at hin2 (own_ca as (o + 2) (by omega))) (g := (mkF m 322 #[.val (.int p1), .val (.int p2), .val (.int p3), .val (.int p4), .val (.int p5), .val (.ref ar), .val (.int (Int32.ofNat o)), .val (.int (Int32.ofNat n)), .val (.int (Int32.ofNat pf)), .val (.int sf), .val (.int pcv), .val (.int scv), .val (.ref tx), .val (.ref x), .val (.int (Int32.ofNat pf)), .val (.int sf), .val (.int 1)] [(.int (Int32.ofNat (o + 2))), (.ref ar), (.int (CS.getD (pf + 2) 0))])) rfl rfl (hb hby at_322) _ ?_
  show Steps p.tables e below (T1.setTop (mkF m 323 #[.val (.int p1), .val (.int p2), .val (.int p3), .val (.int p4), .val (.int p5), .val (.ref ar), .val (.int (Int32.ofNat o)), .val (.int (Int32.ofNat n)), .val (.int (Int32.ofNat pf)), .val (.int sf), .val (.int pcv), .val (.int scv), .val (.ref tx), .val (.ref x), .val (.int (Int32.ofNat pf)), .val (.int sf), .val (.int 1)] [(.int (as.getD (o + 2) 0)), (.int (CS.getD (pf + 2) 0))])) _
  refine XS.icmpNo X1.here hx rfl (hb hby at_323) rfl (teq hq).2 ?_
  refine XS.iconst X1.here hx rfl (hb hby at_326) ?_
  refine XS.goto X1.here hx rfl (pc0 := 327) (pc' := 331) rfl (hb hby at_327) (by decide) (by decide) ?_
  refine XS.istore X1.here hx rfl (hb hby at_331) rfl (l' := #[.val (.int p1), .val (.int p2), .val (.int p3), .val (.int p4), .val (.int p5), .val (.ref ar), .val (.int (Int32.ofNat o)), .val (.int (Int32.ofNat n)), .val (.int (Int32.ofNat pf)), .val (.int sf), .val (.int pcv), .val (.int scv), .val (.ref tx), .val (.ref x), .val (.int (Int32.ofNat pf)), .val (.int sf), .val (.int 1)]) rfl ?_
  exact kt
set_option maxRecDepth 65536 in
set_option maxHeartbeats 40000000 in
theorem bK2n {p : Program} {l : Launch} {e : Env} {s : State} {m : MethodId} {args : Array Value} {below : List Frame} {meth : Method} {c : Code} {s₁ : State} {L0 : List Loc} {Z : State} {a0 : Array Value} (G1 : Int32) (G3 : Value) (G4 : Value) (p1 : Int32) (p2 : Int32) (p3 : Int32) (p4 : Int32) (p5 : Int32) (pcv : Int32) (scv : Int32) (ar : Addr) (tx : Addr) (x : Addr) (ka : ClassId) (as : List Int32) (o : Nat) (n : Nat) (CS : List Int32) (pf : Nat) (sf : Int32) (h0 : Heap) (n0 : Nat) (X0 : Stand p l e room_1 s m args below meth c s₁ L0 9 159) (hx : p.tables.exec = Jvm.exec) (hZ : Z.Warmed39 s.vm) (hw : ∀ d ∈ tables_1, d.before a0 Z = true) (hby : c.code = code) (hml : c.maxLocals = 17) (hown : s.vm.findClass "com/example/hebelwerk/hebelwerk/core/TextWritePinLaw" = some m.cls) (e0 : s₁.heap = h0) (N0 : Fr n0 L0) (Z0 : n0 ≤ h0.size) (EN : own_env Z G1 G3 G4) (X00 : Old Z n0 h0) (S : own_st Z h0 x CS) (hlen : CS.length ≤ 15) (hc : ∀ c ∈ CS, own_ch c) (V_ar : Arv Z h0 ar ka .char (Int32.ofNat as.length) (as.map Value.int) (.int 0)) (ha : as.length < 2 ^ 30) (ho : o + n ≤ as.length) (hkn : ¬ (2 < n)) (hn5 : n < 5) :
    ∃ (T' : State) (h' : Heap) (L' : List Loc) , Stand p l e room_1 s m args below meth c T' L' 9 159 ∧ T'.heap = h' ∧ Fr n0 L' ∧ n0 ≤ h'.size ∧ h' = h0 ∧ 
      ∀ target, Steps p.tables e below (T'.setTop (mkF m 333 #[.val (.int p1), .val (.int p2), .val (.int p3), .val (.int p4), .val (.int p5), .val (.ref ar), .val (.int (Int32.ofNat o)), .val (.int (Int32.ofNat n)), .val (.int (Int32.ofNat pf)), .val (.int sf), .val (.int pcv), .val (.int scv), .val (.ref tx), .val (.ref x), .val (.int (Int32.ofNat pf)), .val (.int sf), .val (.int 1)] [])) target → Steps p.tables e below (s₁.setTop (mkF m 296 #[.val (.int p1), .val (.int p2), .val (.int p3), .val (.int p4), .val (.int p5), .val (.ref ar), .val (.int (Int32.ofNat o)), .val (.int (Int32.ofNat n)), .val (.int (Int32.ofNat pf)), .val (.int sf), .val (.int pcv), .val (.int scv), .val (.ref tx), .val (.ref x), .val (.int (Int32.ofNat pf)), .val (.int sf), .val (.int 1)] [])) target := by
  have EN0 := EN
  obtain ⟨O2, P5, O4, rG3, O5, rG4, O6, O7, O8⟩ := EN
  have E_x := S.choose_spec.choose_spec.1
  refine ⟨s₁, h0, _, X0, e0, N0, Z0, rfl, fun target kt => ?_⟩
  show Steps p.tables e below (s₁.setTop (mkF m 296 #[.val (.int p1), .val (.int p2), .val (.int p3), .val (.int p4), .val (.int p5), .val (.ref ar), .val (.int (Int32.ofNat o)), .val (.int (Int32.ofNat n)), .val (.int (Int32.ofNat pf)), .val (.int sf), .val (.int pcv), .val (.int scv), .val (.ref tx), .val (.ref x), .val (.int (Int32.ofNat pf)), .val (.int sf), .val (.int 1)] [])) _
  refine XS.iconst X0.here hx rfl (hb hby at_296) ?_
  refine XS.iload X0.here hx rfl (hb hby at_297) rfl ?_
  refine XS.icmpYes X0.here hx rfl (pc0 := 299) (pc' := 333) rfl (hb hby at_299) rfl (flt (fun q => hkn ((own_lt (i := 2) (by omega) (by omega)).mp q))).2.1 (by decide) (by decide) ?_
  exact kt
set_option maxRecDepth 65536 in
set_option maxHeartbeats 40000000 in
theorem bK3y {p : Program} {l : Launch} {e : Env} {s : State} {m : MethodId} {args : Array Value} {below : List Frame} {meth : Method} {c : Code} {s₁ : State} {L0 : List Loc} {Z : State} {a0 : Array Value} (G1 : Int32) (G3 : Value) (G4 : Value) (p1 : Int32) (p2 : Int32) (p3 : Int32) (p4 : Int32) (p5 : Int32) (pcv : Int32) (scv : Int32) (ar : Addr) (tx : Addr) (x : Addr) (ka : ClassId) (as : List Int32) (o : Nat) (n : Nat) (CS : List Int32) (pf : Nat) (sf : Int32) (h0 : Heap) (n0 : Nat) (X0 : Stand p l e room_1 s m args below meth c s₁ L0 9 159) (hx : p.tables.exec = Jvm.exec) (hZ : Z.Warmed39 s.vm) (hw : ∀ d ∈ tables_1, d.before a0 Z = true) (hby : c.code = code) (hml : c.maxLocals = 17) (hown : s.vm.findClass "com/example/hebelwerk/hebelwerk/core/TextWritePinLaw" = some m.cls) (e0 : s₁.heap = h0) (N0 : Fr n0 L0) (Z0 : n0 ≤ h0.size) (EN : own_env Z G1 G3 G4) (X00 : Old Z n0 h0) (S : own_st Z h0 x CS) (hlen : CS.length ≤ 15) (hc : ∀ c ∈ CS, own_ch c) (V_ar : Arv Z h0 ar ka .char (Int32.ofNat as.length) (as.map Value.int) (.int 0)) (ha : as.length < 2 ^ 30) (ho : o + n ≤ as.length) (hkn : 3 < n) (hq : (CS.getD (pf + 3) 0) = (as.getD (o + 3) 0)) (hpos : (pf + 3) < CS.length) :
    ∃ (T' : State) (h' : Heap) (L' : List Loc) , Stand p l e room_1 s m args below meth c T' L' 9 159 ∧ T'.heap = h' ∧ Fr n0 L' ∧ n0 ≤ h'.size ∧ h' = h0 ∧ 
      ∀ target, Steps p.tables e below (T'.setTop (mkF m 370 #[.val (.int p1), .val (.int p2), .val (.int p3), .val (.int p4), .val (.int p5), .val (.ref ar), .val (.int (Int32.ofNat o)), .val (.int (Int32.ofNat n)), .val (.int (Int32.ofNat pf)), .val (.int sf), .val (.int pcv), .val (.int scv), .val (.ref tx), .val (.ref x), .val (.int (Int32.ofNat pf)), .val (.int sf), .val (.int 1)] [])) target → Steps p.tables e below (s₁.setTop (mkF m 333 #[.val (.int p1), .val (.int p2), .val (.int p3), .val (.int p4), .val (.int p5), .val (.ref ar), .val (.int (Int32.ofNat o)), .val (.int (Int32.ofNat n)), .val (.int (Int32.ofNat pf)), .val (.int sf), .val (.int pcv), .val (.int scv), .val (.ref tx), .val (.ref x), .val (.int (Int32.ofNat pf)), .val (.int sf), .val (.int 1)] [])) target := by
  have EN0 := EN
  obtain ⟨O2, P5, O4, rG3, O5, rG4, O6, O7, O8⟩ := EN
  have E_x := S.choose_spec.choose_spec.1
  obtain ⟨cq1, kq1, q1a, q1b, q1c⟩ := isOf hZ e0 E_x
  obtain ⟨_, _, ⟨T1, L1, k1, n1⟩, -, X1, ⟨Lc1, hQ1, l1, y1, z1⟩, st1⟩ := X0.virtualBack hx (y := (⟨"java/lang/String", "charAt", "(I)C"⟩ : MethodName)) (z := (⟨"java/lang/String", "charAt", "(I)C"⟩ : MethodName)) hown (mvT hZ (hw _ (tk 149 rfl))) (mvT hZ (hw _ (tk 150 rfl))) (notFace_of_selects (args := #[]) (mvT hZ (hw _ (tk 152 rfl)))) (mvT hZ (hw _ (tk 152 rfl))) (mvT hZ (hw _ (tk 151 rfl))) (by decide) (backOf (W := 0) (rmCA l Z a0 hw [] G1 G3 G4 x CS (pf + 3) h0 n0 Z0 EN0 X00 S hlen hc hpos) hZ (hw _ (tk 153 rfl)) (hw _ (tk 32 rfl)) (by decide) (by decide)) q1a q1c (g := (mkF m 350 #[.val (.int p1), .val (.int p2), .val (.int p3), .val (.int p4), .val (.int p5), .val (.ref ar), .val (.int (Int32.ofNat o)), .val (.int (Int32.ofNat n)), .val (.int (Int32.ofNat pf)), .val (.int sf), .val (.int pcv), .val (.int scv), .val (.ref tx), .val (.ref x), .val (.int (Int32.ofNat pf)), .val (.int sf), .val (.int 1)] [(.int (Int32.ofNat (pf + 3))), (.ref x)])) rfl (by rw [hml]; rfl) (Steps.refl _) (argsL := [(.int (Int32.ofNat (pf + 3)))]) (rest := []) (lenOf pd__I_C rfl) rfl (by show 2 * 0 + _ ≤ _; exact Nat.le_of_eq rfl) (hb hby at_350) (fun _ _ => ⟨rfl, e0, (by decide : 9 + 0 ≤ _), (by decide : 159 + 0 ≤ _)⟩)
  dsimp only [Pt.U, Pt.locs, Pt.cells, Pt.slots] at X1 l1 y1 z1 st1 hQ1
  subst l1 y1 z1
  obtain ⟨rfl, Nq1, eq1⟩ := hQ1
  have N1 := Fr.app N0 Nq1
  obtain ⟨c2, Ar2, -, S2, M2, H2, -⟩ := id V_ar
  have hin2 := inb_of (j := (Int32.ofNat (o + 3))) S2 (own_in (by omega) (by omega))
  refine ⟨T1, h0, _, X1, eq1, N1, Z0, rfl, fun target kt => ?_⟩
  show Steps p.tables e below (s₁.setTop (mkF m 333 #[.val (.int p1), .val (.int p2), .val (.int p3), .val (.int p4), .val (.int p5), .val (.ref ar), .val (.int (Int32.ofNat o)), .val (.int (Int32.ofNat n)), .val (.int (Int32.ofNat pf)), .val (.int sf), .val (.int pcv), .val (.int scv), .val (.ref tx), .val (.ref x), .val (.int (Int32.ofNat pf)), .val (.int sf), .val (.int 1)] [])) _
  refine XS.iconst X0.here hx rfl (hb hby at_333) ?_
  refine XS.iload X0.here hx rfl (hb hby at_334) rfl ?_
  refine XS.icmpNo X0.here hx rfl (hb hby at_336) rfl (tlt ((own_lt (i := 3) (by omega) (by omega)).mpr hkn)).2.1 ?_
  refine XS.iload X0.here hx rfl (hb hby at_339) rfl ?_
  refine XS.ifNo X0.here hx rfl (hb hby at_341) rfl ((if0 _ _).trans (feq (by decide : ¬ ((1 : Int32) = (0 : Int32)))).1) ?_
  refine XS.aload X0.here hx rfl (hb hby at_344) rfl rfl ?_
  refine XS.iload X0.here hx rfl (hb hby at_346) rfl ?_
  refine XS.iconst X0.here hx rfl (hb hby at_348) ?_
  refine XS.iadd X0.here hx rfl (hb hby at_349) rfl ?_
  show Steps p.tables e below (s₁.setTop (mkF m 350 #[.val (.int p1), .val (.int p2), .val (.int p3), .val (.int p4), .val (.int p5), .val (.ref ar), .val (.int (Int32.ofNat o)), .val (.int (Int32.ofNat n)), .val (.int (Int32.ofNat pf)), .val (.int sf), .val (.int pcv), .val (.int scv), .val (.ref tx), .val (.ref x), .val (.int (Int32.ofNat pf)), .val (.int sf), .val (.int 1)] [(.int ((Int32.ofNat pf) + (3 : Int32))), (.ref x)])) _
  rw [own_ad3 pf]
  show Steps p.tables e below (s₁.setTop (mkF m 350 #[.val (.int p1), .val (.int p2), .val (.int p3), .val (.int p4), .val (.int p5), .val (.ref ar), .val (.int (Int32.ofNat o)), .val (.int (Int32.ofNat n)), .val (.int (Int32.ofNat pf)), .val (.int sf), .val (.int pcv), .val (.int scv), .val (.ref tx), .val (.ref x), .val (.int (Int32.ofNat pf)), .val (.int sf), .val (.int 1)] [(.int (Int32.ofNat (pf + 3))), (.ref x)])) _
  refine st1.trans ?_
  show Steps p.tables e below (T1.setTop (mkF m 353 #[.val (.int p1), .val (.int p2), .val (.int p3), .val (.int p4), .val (.int p5), .val (.ref ar), .val (.int (Int32.ofNat o)), .val (.int (Int32.ofNat n)), .val (.int (Int32.ofNat pf)), .val (.int sf), .val (.int pcv), .val (.int scv), .val (.ref tx), .val (.ref x), .val (.int (Int32.ofNat pf)), .val (.int sf), .val (.int 1)] [(.int (CS.getD (pf + 3) 0))])) _
  refine XS.aload X1.here hx rfl (hb hby at_353) rfl rfl ?_
  refine XS.iload X1.here hx rfl (hb hby at_355) rfl ?_
  refine XS.iconst X1.here hx rfl (hb hby at_357) ?_
  refine XS.iadd X1.here hx rfl (hb hby at_358) rfl ?_
  show Steps p.tables e below (T1.setTop (mkF m 359 #[.val (.int p1), .val (.int p2), .val (.int p3), .val (.int p4), .val (.int p5), .val (.ref ar), .val (.int (Int32.ofNat o)), .val (.int (Int32.ofNat n)), .val (.int (Int32.ofNat pf)), .val (.int sf), .val (.int pcv), .val (.int scv), .val (.ref tx), .val (.ref x), .val (.int (Int32.ofNat pf)), .val (.int sf), .val (.int 1)] [(.int ((Int32.ofNat o) + (3 : Int32))), (.ref ar), (.int (CS.getD (pf + 3) 0))])) _
  rw [own_ad3 o]
  show Steps p.tables e below (T1.setTop (mkF m 359 #[.val (.int p1), .val (.int p2), .val (.int p3), .val (.int p4), .val (.int p5), .val (.ref ar), .val (.int (Int32.ofNat o)), .val (.int (Int32.ofNat n)), .val (.int (Int32.ofNat pf)), .val (.int sf), .val (.int pcv), .val (.int scv), .val (.ref tx), .val (.ref x), .val (.int (Int32.ofNat pf)), .val (.int sf), .val (.int 1)] [(.int (Int32.ofNat (o + 3))), (.ref ar), (.int (CS.getD (pf + 3) 0))])) _
  refine X1.caload hx (j := (Int32.ofNat (o + 3))) (v := (.int (as.getD (o + 3) 0))) (by rw [eq1]; exact Ar2.1) (State.isArrayOf_alike hZ.alike Ar2.2.1) Ar2.2.2 hin2 (H2.at hin2 (own_ca as (o + 3) (by omega))) (g := (mkF m 359 #[.val (.int p1), .val (.int p2), .val (.int p3), .val (.int p4), .val (.int p5), .val (.ref ar), .val (.int (Int32.ofNat o)), .val (.int (Int32.ofNat n)), .val (.int (Int32.ofNat pf)), .val (.int sf), .val (.int pcv), .val (.int scv), .val (.ref tx), .val (.ref x), .val (.int (Int32.ofNat pf)), .val (.int sf), .val (.int 1)] [(.int (Int32.ofNat (o + 3))), (.ref ar), (.int (CS.getD (pf + 3) 0))])) rfl rfl (hb hby at_359) _ ?_
  show Steps p.tables e below (T1.setTop (mkF m 360 #[.val (.int p1), .val (.int p2), .val (.int p3), .val (.int p4), .val (.int p5), .val (.ref ar), .val (.int (Int32.ofNat o)), .val (.int (Int32.ofNat n)), .val (.int (Int32.ofNat pf)), .val (.int sf), .val (.int pcv), .val (.int scv), .val (.ref tx), .val (.ref x), .val (.int (Int32.ofNat pf)), .val (.int sf), .val (.int 1)] [(.int (as.getD (o + 3) 0)), (.int (CS.getD (pf + 3) 0))])) _
  refine XS.icmpNo X1.here hx rfl (hb hby at_360) rfl (teq hq).2 ?_
  refine XS.iconst X1.here hx rfl (hb hby at_363) ?_
  refine XS.goto X1.here hx rfl (pc0 := 364) (pc' := 368) rfl (hb hby at_364) (by decide) (by decide) ?_
  refine XS.istore X1.here hx rfl (hb hby at_368) rfl (l' := #[.val (.int p1), .val (.int p2), .val (.int p3), .val (.int p4), .val (.int p5), .val (.ref ar), .val (.int (Int32.ofNat o)), .val (.int (Int32.ofNat n)), .val (.int (Int32.ofNat pf)), .val (.int sf), .val (.int pcv), .val (.int scv), .val (.ref tx), .val (.ref x), .val (.int (Int32.ofNat pf)), .val (.int sf), .val (.int 1)]) rfl ?_
  exact kt
set_option maxRecDepth 65536 in
set_option maxHeartbeats 40000000 in
theorem bK3n {p : Program} {l : Launch} {e : Env} {s : State} {m : MethodId} {args : Array Value} {below : List Frame} {meth : Method} {c : Code} {s₁ : State} {L0 : List Loc} {Z : State} {a0 : Array Value} (G1 : Int32) (G3 : Value) (G4 : Value) (p1 : Int32) (p2 : Int32) (p3 : Int32) (p4 : Int32) (p5 : Int32) (pcv : Int32) (scv : Int32) (ar : Addr) (tx : Addr) (x : Addr) (ka : ClassId) (as : List Int32) (o : Nat) (n : Nat) (CS : List Int32) (pf : Nat) (sf : Int32) (h0 : Heap) (n0 : Nat) (X0 : Stand p l e room_1 s m args below meth c s₁ L0 9 159) (hx : p.tables.exec = Jvm.exec) (hZ : Z.Warmed39 s.vm) (hw : ∀ d ∈ tables_1, d.before a0 Z = true) (hby : c.code = code) (hml : c.maxLocals = 17) (hown : s.vm.findClass "com/example/hebelwerk/hebelwerk/core/TextWritePinLaw" = some m.cls) (e0 : s₁.heap = h0) (N0 : Fr n0 L0) (Z0 : n0 ≤ h0.size) (EN : own_env Z G1 G3 G4) (X00 : Old Z n0 h0) (S : own_st Z h0 x CS) (hlen : CS.length ≤ 15) (hc : ∀ c ∈ CS, own_ch c) (V_ar : Arv Z h0 ar ka .char (Int32.ofNat as.length) (as.map Value.int) (.int 0)) (ha : as.length < 2 ^ 30) (ho : o + n ≤ as.length) (hkn : ¬ (3 < n)) (hn5 : n < 5) :
    ∃ (T' : State) (h' : Heap) (L' : List Loc) , Stand p l e room_1 s m args below meth c T' L' 9 159 ∧ T'.heap = h' ∧ Fr n0 L' ∧ n0 ≤ h'.size ∧ h' = h0 ∧ 
      ∀ target, Steps p.tables e below (T'.setTop (mkF m 370 #[.val (.int p1), .val (.int p2), .val (.int p3), .val (.int p4), .val (.int p5), .val (.ref ar), .val (.int (Int32.ofNat o)), .val (.int (Int32.ofNat n)), .val (.int (Int32.ofNat pf)), .val (.int sf), .val (.int pcv), .val (.int scv), .val (.ref tx), .val (.ref x), .val (.int (Int32.ofNat pf)), .val (.int sf), .val (.int 1)] [])) target → Steps p.tables e below (s₁.setTop (mkF m 333 #[.val (.int p1), .val (.int p2), .val (.int p3), .val (.int p4), .val (.int p5), .val (.ref ar), .val (.int (Int32.ofNat o)), .val (.int (Int32.ofNat n)), .val (.int (Int32.ofNat pf)), .val (.int sf), .val (.int pcv), .val (.int scv), .val (.ref tx), .val (.ref x), .val (.int (Int32.ofNat pf)), .val (.int sf), .val (.int 1)] [])) target := by
  have EN0 := EN
  obtain ⟨O2, P5, O4, rG3, O5, rG4, O6, O7, O8⟩ := EN
  have E_x := S.choose_spec.choose_spec.1
  refine ⟨s₁, h0, _, X0, e0, N0, Z0, rfl, fun target kt => ?_⟩
  show Steps p.tables e below (s₁.setTop (mkF m 333 #[.val (.int p1), .val (.int p2), .val (.int p3), .val (.int p4), .val (.int p5), .val (.ref ar), .val (.int (Int32.ofNat o)), .val (.int (Int32.ofNat n)), .val (.int (Int32.ofNat pf)), .val (.int sf), .val (.int pcv), .val (.int scv), .val (.ref tx), .val (.ref x), .val (.int (Int32.ofNat pf)), .val (.int sf), .val (.int 1)] [])) _
  refine XS.iconst X0.here hx rfl (hb hby at_333) ?_
  refine XS.iload X0.here hx rfl (hb hby at_334) rfl ?_
  refine XS.icmpYes X0.here hx rfl (pc0 := 336) (pc' := 370) rfl (hb hby at_336) rfl (flt (fun q => hkn ((own_lt (i := 3) (by omega) (by omega)).mp q))).2.1 (by decide) (by decide) ?_
  exact kt
set_option maxRecDepth 65536 in
set_option maxHeartbeats 40000000 in
theorem bZ0 {p : Program} {l : Launch} {e : Env} {s : State} {m : MethodId} {args : Array Value} {below : List Frame} {meth : Method} {c : Code} {s₁ : State} {L0 : List Loc} {Z : State} {a0 : Array Value} (G1 : Int32) (G3 : Value) (G4 : Value) (p1 : Int32) (p2 : Int32) (p3 : Int32) (p4 : Int32) (p5 : Int32) (pcv : Int32) (scv : Int32) (ar : Addr) (tx : Addr) (x : Addr) (ka : ClassId) (as : List Int32) (o : Nat) (n : Nat) (CS : List Int32) (pf : Nat) (sf : Int32) (h0 : Heap) (n0 : Nat) (X0 : Stand p l e room_1 s m args below meth c s₁ L0 9 159) (hx : p.tables.exec = Jvm.exec) (hZ : Z.Warmed39 s.vm) (hw : ∀ d ∈ tables_1, d.before a0 Z = true) (hby : c.code = code) (hml : c.maxLocals = 17) (hown : s.vm.findClass "com/example/hebelwerk/hebelwerk/core/TextWritePinLaw" = some m.cls) (e0 : s₁.heap = h0) (N0 : Fr n0 L0) (Z0 : n0 ≤ h0.size) (EN : own_env Z G1 G3 G4) (X00 : Old Z n0 h0) (S : own_st Z h0 x CS) (hlen : CS.length ≤ 15) (hc : ∀ c ∈ CS, own_ch c) (V_ar : Arv Z h0 ar ka .char (Int32.ofNat as.length) (as.map Value.int) (.int 0)) (ha : as.length < 2 ^ 30) (ho : o + n ≤ as.length) :
    ∃ (T' : State) (h' : Heap) (L' : List Loc) , Stand p l e room_1 s m args below meth c T' L' 9 159 ∧ T'.heap = h' ∧ Fr n0 L' ∧ n0 ≤ h'.size ∧ h' = h0 ∧ 
      ∀ target, Steps p.tables e below (T'.setTop (mkF m 402 #[.val (.int p1), .val (.int p2), .val (.int p3), .val (.int p4), .val (.int p5), .val (.ref ar), .val (.int (Int32.ofNat o)), .val (.int (Int32.ofNat n)), .val (.int (Int32.ofNat pf)), .val (.int 0), .val (.int pcv), .val (.int scv), .val (.ref tx), .val (.ref x), .val (.int (Int32.ofNat pf)), .val (.int 0), .val (.int 1)] [])) target → Steps p.tables e below (s₁.setTop (mkF m 370 #[.val (.int p1), .val (.int p2), .val (.int p3), .val (.int p4), .val (.int p5), .val (.ref ar), .val (.int (Int32.ofNat o)), .val (.int (Int32.ofNat n)), .val (.int (Int32.ofNat pf)), .val (.int 0), .val (.int pcv), .val (.int scv), .val (.ref tx), .val (.ref x), .val (.int (Int32.ofNat pf)), .val (.int 0), .val (.int 1)] [])) target := by
  have EN0 := EN
  obtain ⟨O2, P5, O4, rG3, O5, rG4, O6, O7, O8⟩ := EN
  have E_x := S.choose_spec.choose_spec.1
  refine ⟨s₁, h0, _, X0, e0, N0, Z0, rfl, fun target kt => ?_⟩
  show Steps p.tables e below (s₁.setTop (mkF m 370 #[.val (.int p1), .val (.int p2), .val (.int p3), .val (.int p4), .val (.int p5), .val (.ref ar), .val (.int (Int32.ofNat o)), .val (.int (Int32.ofNat n)), .val (.int (Int32.ofNat pf)), .val (.int 0), .val (.int pcv), .val (.int scv), .val (.ref tx), .val (.ref x), .val (.int (Int32.ofNat pf)), .val (.int 0), .val (.int 1)] [])) _
  refine XS.iload X0.here hx rfl (hb hby at_370) rfl ?_
  refine XS.ifYes X0.here hx rfl (pc0 := 372) (pc' := 402) rfl (hb hby at_372) rfl ((if0 _ _).trans (teq (by decide : (0 : Int32) = (0 : Int32))).1) (by decide) (by decide) ?_
  exact kt
set_option maxRecDepth 65536 in
set_option maxHeartbeats 40000000 in
theorem bZ1 {p : Program} {l : Launch} {e : Env} {s : State} {m : MethodId} {args : Array Value} {below : List Frame} {meth : Method} {c : Code} {s₁ : State} {L0 : List Loc} {Z : State} {a0 : Array Value} (G1 : Int32) (G3 : Value) (G4 : Value) (p1 : Int32) (p2 : Int32) (p3 : Int32) (p4 : Int32) (p5 : Int32) (pcv : Int32) (scv : Int32) (ar : Addr) (tx : Addr) (x : Addr) (ka : ClassId) (as : List Int32) (o : Nat) (n : Nat) (CS : List Int32) (pf : Nat) (sf : Int32) (h0 : Heap) (n0 : Nat) (X0 : Stand p l e room_1 s m args below meth c s₁ L0 9 159) (hx : p.tables.exec = Jvm.exec) (hZ : Z.Warmed39 s.vm) (hw : ∀ d ∈ tables_1, d.before a0 Z = true) (hby : c.code = code) (hml : c.maxLocals = 17) (hown : s.vm.findClass "com/example/hebelwerk/hebelwerk/core/TextWritePinLaw" = some m.cls) (e0 : s₁.heap = h0) (N0 : Fr n0 L0) (Z0 : n0 ≤ h0.size) (EN : own_env Z G1 G3 G4) (X00 : Old Z n0 h0) (S : own_st Z h0 x CS) (hlen : CS.length ≤ 15) (hc : ∀ c ∈ CS, own_ch c) (V_ar : Arv Z h0 ar ka .char (Int32.ofNat as.length) (as.map Value.int) (.int 0)) (ha : as.length < 2 ^ 30) (ho : o + n ≤ as.length) (hq : (CS.getD (pf + n) 0) = scv) (hpos : (pf + n) < CS.length) :
    ∃ (T' : State) (h' : Heap) (L' : List Loc) , Stand p l e room_1 s m args below meth c T' L' 9 159 ∧ T'.heap = h' ∧ Fr n0 L' ∧ n0 ≤ h'.size ∧ h' = h0 ∧ 
      ∀ target, Steps p.tables e below (T'.setTop (mkF m 402 #[.val (.int p1), .val (.int p2), .val (.int p3), .val (.int p4), .val (.int p5), .val (.ref ar), .val (.int (Int32.ofNat o)), .val (.int (Int32.ofNat n)), .val (.int (Int32.ofNat pf)), .val (.int 1), .val (.int pcv), .val (.int scv), .val (.ref tx), .val (.ref x), .val (.int (Int32.ofNat pf)), .val (.int 1), .val (.int 1)] [])) target → Steps p.tables e below (s₁.setTop (mkF m 370 #[.val (.int p1), .val (.int p2), .val (.int p3), .val (.int p4), .val (.int p5), .val (.ref ar), .val (.int (Int32.ofNat o)), .val (.int (Int32.ofNat n)), .val (.int (Int32.ofNat pf)), .val (.int 1), .val (.int pcv), .val (.int scv), .val (.ref tx), .val (.ref x), .val (.int (Int32.ofNat pf)), .val (.int 1), .val (.int 1)] [])) target := by
  have EN0 := EN
  obtain ⟨O2, P5, O4, rG3, O5, rG4, O6, O7, O8⟩ := EN
  have E_x := S.choose_spec.choose_spec.1
  obtain ⟨cq1, kq1, q1a, q1b, q1c⟩ := isOf hZ e0 E_x
  obtain ⟨_, _, ⟨T1, L1, k1, n1⟩, -, X1, ⟨Lc1, hQ1, l1, y1, z1⟩, st1⟩ := X0.virtualBack hx (y := (⟨"java/lang/String", "charAt", "(I)C"⟩ : MethodName)) (z := (⟨"java/lang/String", "charAt", "(I)C"⟩ : MethodName)) hown (mvT hZ (hw _ (tk 149 rfl))) (mvT hZ (hw _ (tk 150 rfl))) (notFace_of_selects (args := #[]) (mvT hZ (hw _ (tk 152 rfl)))) (mvT hZ (hw _ (tk 152 rfl))) (mvT hZ (hw _ (tk 151 rfl))) (by decide) (backOf (W := 0) (rmCA l Z a0 hw [] G1 G3 G4 x CS (pf + n) h0 n0 Z0 EN0 X00 S hlen hc hpos) hZ (hw _ (tk 153 rfl)) (hw _ (tk 32 rfl)) (by decide) (by decide)) q1a q1c (g := (mkF m 387 #[.val (.int p1), .val (.int p2), .val (.int p3), .val (.int p4), .val (.int p5), .val (.ref ar), .val (.int (Int32.ofNat o)), .val (.int (Int32.ofNat n)), .val (.int (Int32.ofNat pf)), .val (.int 1), .val (.int pcv), .val (.int scv), .val (.ref tx), .val (.ref x), .val (.int (Int32.ofNat pf)), .val (.int 1), .val (.int 1)] [(.int (Int32.ofNat (pf + n))), (.ref x)])) rfl (by rw [hml]; rfl) (Steps.refl _) (argsL := [(.int (Int32.ofNat (pf + n)))]) (rest := []) (lenOf pd__I_C rfl) rfl (by show 2 * 0 + _ ≤ _; exact Nat.le_of_eq rfl) (hb hby at_387) (fun _ _ => ⟨rfl, e0, (by decide : 9 + 0 ≤ _), (by decide : 159 + 0 ≤ _)⟩)
  dsimp only [Pt.U, Pt.locs, Pt.cells, Pt.slots] at X1 l1 y1 z1 st1 hQ1
  subst l1 y1 z1
  obtain ⟨rfl, Nq1, eq1⟩ := hQ1
  have N1 := Fr.app N0 Nq1
  refine ⟨T1, h0, _, X1, eq1, N1, Z0, rfl, fun target kt => ?_⟩
  show Steps p.tables e below (s₁.setTop (mkF m 370 #[.val (.int p1), .val (.int p2), .val (.int p3), .val (.int p4), .val (.int p5), .val (.ref ar), .val (.int (Int32.ofNat o)), .val (.int (Int32.ofNat n)), .val (.int (Int32.ofNat pf)), .val (.int 1), .val (.int pcv), .val (.int scv), .val (.ref tx), .val (.ref x), .val (.int (Int32.ofNat pf)), .val (.int 1), .val (.int 1)] [])) _
  refine XS.iload X0.here hx rfl (hb hby at_370) rfl ?_
  refine XS.ifNo X0.here hx rfl (hb hby at_372) rfl ((if0 _ _).trans (feq (by decide : ¬ ((1 : Int32) = (0 : Int32)))).1) ?_
  refine XS.iload X0.here hx rfl (hb hby at_375) rfl ?_
  refine XS.ifNo X0.here hx rfl (hb hby at_377) rfl ((if0 _ _).trans (feq (by decide : ¬ ((1 : Int32) = (0 : Int32)))).1) ?_
  refine XS.aload X0.here hx rfl (hb hby at_380) rfl rfl ?_
  refine XS.iload X0.here hx rfl (hb hby at_382) rfl ?_
  refine XS.iload X0.here hx rfl (hb hby at_384) rfl ?_
  refine XS.iadd X0.here hx rfl (hb hby at_386) rfl ?_
  show Steps p.tables e below (s₁.setTop (mkF m 387 #[.val (.int p1), .val (.int p2), .val (.int p3), .val (.int p4), .val (.int p5), .val (.ref ar), .val (.int (Int32.ofNat o)), .val (.int (Int32.ofNat n)), .val (.int (Int32.ofNat pf)), .val (.int 1), .val (.int pcv), .val (.int scv), .val (.ref tx), .val (.ref x), .val (.int (Int32.ofNat pf)), .val (.int 1), .val (.int 1)] [(.int ((Int32.ofNat pf) + (Int32.ofNat n))), (.ref x)])) _
  rw [own_adn pf n]
  show Steps p.tables e below (s₁.setTop (mkF m 387 #[.val (.int p1), .val (.int p2), .val (.int p3), .val (.int p4), .val (.int p5), .val (.ref ar), .val (.int (Int32.ofNat o)), .val (.int (Int32.ofNat n)), .val (.int (Int32.ofNat pf)), .val (.int 1), .val (.int pcv), .val (.int scv), .val (.ref tx), .val (.ref x), .val (.int (Int32.ofNat pf)), .val (.int 1), .val (.int 1)] [(.int (Int32.ofNat (pf + n))), (.ref x)])) _
  refine st1.trans ?_
  show Steps p.tables e below (T1.setTop (mkF m 390 #[.val (.int p1), .val (.int p2), .val (.int p3), .val (.int p4), .val (.int p5), .val (.ref ar), .val (.int (Int32.ofNat o)), .val (.int (Int32.ofNat n)), .val (.int (Int32.ofNat pf)), .val (.int 1), .val (.int pcv), .val (.int scv), .val (.ref tx), .val (.ref x), .val (.int (Int32.ofNat pf)), .val (.int 1), .val (.int 1)] [(.int (CS.getD (pf + n) 0))])) _
  refine XS.iload X1.here hx rfl (hb hby at_390) rfl ?_
  refine XS.icmpNo X1.here hx rfl (hb hby at_392) rfl (teq hq).2 ?_
  refine XS.iconst X1.here hx rfl (hb hby at_395) ?_
  refine XS.goto X1.here hx rfl (pc0 := 396) (pc' := 400) rfl (hb hby at_396) (by decide) (by decide) ?_
  refine XS.istore X1.here hx rfl (hb hby at_400) rfl (l' := #[.val (.int p1), .val (.int p2), .val (.int p3), .val (.int p4), .val (.int p5), .val (.ref ar), .val (.int (Int32.ofNat o)), .val (.int (Int32.ofNat n)), .val (.int (Int32.ofNat pf)), .val (.int 1), .val (.int pcv), .val (.int scv), .val (.ref tx), .val (.ref x), .val (.int (Int32.ofNat pf)), .val (.int 1), .val (.int 1)]) rfl ?_
  exact kt
def Q0 (Z : State) (h0 : Heap) (n0 : Nat) (v : Option Value) (h1 : Heap) (L : List Loc) : Prop := v = some (.int 1) ∧ Fr n0 L
theorem pn_0 : plainName "com/example/hebelwerk/hebelwerk/core/TextWritePinLaw" = true := by first | (simp [plainName, overriddenIn]; done) | decide +kernel
theorem ef_0_rrrrr (m : MethodId) (x0 : Int32) (x1 : Int32) (x2 : Int32) (x3 : Int32) (x4 : Int32) : entryFrame m #[(.int x0), (.int x1), (.int x2), (.int x3), (.int x4)] maxLocals = mkF m 0 #[.val (.int x0), .val (.int x1), .val (.int x2), .val (.int x3), .val (.int x4), .unset, .unset, .unset, .unset, .unset, .unset, .unset, .unset, .unset, .unset, .unset, .unset] [] := by first | (simp [entryFrame, mkF, argsToLocals, Value.category, maxLocals]; done) | rfl
set_option maxRecDepth 65536 in
set_option maxHeartbeats 40000000 in
theorem rm0_00 (l : Launch) (Z : State) (a0 : Array Value) (hw : ∀ d ∈ tables_1, d.before a0 Z = true) (ws : List Jvm.Cond) (G1 : Int32) (G3 : Value) (G4 : Value) (p1 : Int32) (p2 : Int32) (p3 : Int32) (p4 : Int32) (p5 : Int32) (o : Nat) (n : Nat) (h0 : Heap) (n0 : Nat) (Z0 : n0 ≤ h0.size) (EN : own_env Z G1 G3 G4) (X00 : Old Z n0 h0) (hr1 : ((p3 &&& (2147483647 : Int32)) % (5 : Int32)) = (Int32.ofNat o)) (ho5 : o < 5) (hr2 : ((p4 &&& (2147483647 : Int32)) % (Int32.ofNat (5 - o))) = (Int32.ofNat n)) (hn5 : n < 5 - o) (hb1 : (p5 &&& (1 : Int32)) = (0 : Int32)) (hb2 : (p5 &&& (2 : Int32)) = (0 : Int32)) :
    MetFree l x (head1 (Jvm.Cond.code x code maxLocals ret :: ws) room_1) (fun a_ U_ => a_ = #[(.int p1), (.int p2), (.int p3), (.int p4), (.int p5)] ∧ Z.Warmed39 U_.vm ∧ U_.heap = h0) (fun _ _ _ _ _ => True) (fun _ U_ o_ U1_ => ∃ v_ L_, o_ = .returned v_ ∧ Q0 Z  h0 n0 v_ U1_.heap L_ ∧ FrameEnd U_ o_ U1_ L_ 24 256) := by
  refine MetFree.of_bodySF (plainFor_of_name pn_0) hisR ?_
  intro p e s m args below meth c s₁ Bd hml0 hP hK
  obtain ⟨rfl, hZ, hh⟩ := hP
  have hx := Bd.exec
  have hby := Bd.bytes
  have hml : c.maxLocals = 17 := hml0
  have hown : s.vm.findClass "com/example/hebelwerk/hebelwerk/core/TextWritePinLaw" = some m.cls := findClass_of_methodNamed Bd.named
  have hnm := (name_of_methodNamed Bd.named Bd.method).1
  have X0 : Stand p l e room_1 s m #[(.int p1), (.int p2), (.int p3), (.int p4), (.int p5)] below meth c s₁ [] 0 0 := Stand.of_body Bd
  have e0 : s₁.heap = h0 := by rw [← hh, Bd.state]; rfl
  have N0 := Fr.nil n0
  have pre0 : ∀ tt, Steps p.tables e below (s₁.setTop (mkF m 0 #[.val (.int p1), .val (.int p2), .val (.int p3), .val (.int p4), .val (.int p5), .unset, .unset, .unset, .unset, .unset, .unset, .unset, .unset, .unset, .unset, .unset, .unset] [])) tt → Steps p.tables e below (s₁.setTop (entryFrame m #[(.int p1), (.int p2), (.int p3), (.int p4), (.int p5)] maxLocals)) tt := fun tt kk => castTop (ef_0_rrrrr m p1 p2 p3 p4 p5) kk
  have EN0 := EN
  obtain ⟨O2, P5, O4, rG3, O5, rG4, O6, O7, O8⟩ := EN
  obtain ⟨T1, h1, k1, X1, e1, E1, A1, st1⟩ := newP X0 hx hZ (hw _ (tk 0 rfl)) e0 (g := (mkF m 1 #[.val (.int p1), .val (.int p2), .val (.int p3), .val (.int p4), .val (.int p5), .unset, .unset, .unset, .unset, .unset, .unset, .unset, .unset, .unset, .unset, .unset, .unset] [(.int 4)])) rfl (hb hby at_1) rfl (by decide) (cap := 4) (by decide) (by decide) (by decide) (by decide)
  obtain ⟨b1, g1⟩ : ∃ z, z = h0.size := ⟨_, rfl⟩
  rw [← g1] at A1 st1
  have g_b1 : n0 ≤ b1 := Nat.le_trans Z0 (Nat.le_of_eq g1.symm)
  have sz_b1 : h0.size ≤ b1 := Nat.le_trans (Nat.le_refl _) (Nat.le_of_eq g1.symm)
  have V1 : Arv Z h1 b1 k1 .char (4 : Int32) [(.int 0), (.int 0), (.int 0), (.int 0)] (.int 0) := (Arv.new A1 (by decide)).pad (pad_rep [] (.int 0) 4)
  obtain ⟨c2, Ar2, q2, S2, M2, H2, Gz2⟩ := id V1
  obtain ⟨T2, h2, X2, e2, W2, st2⟩ := stC X1 hx hZ e1 Ar2 (j := (0 : Int32)) (inb_of S2 ⟨by decide, by decide⟩) (g := (mkF m 10 #[.val (.int p1), .val (.int p2), .val (.int p3), .val (.int p4), .val (.int p5), .val (.ref b1), .unset, .unset, .unset, .unset, .unset, .unset, .unset, .unset, .unset, .unset, .unset] [(.int (p1.toUInt32.toUInt16.toUInt32.toInt32)), (.int 0), (.ref b1)])) rfl rfl (hb hby at_10)
  have V2 : Arv Z h2 b1 k1 .char (4 : Int32) [(.int (nar .char (p1.toUInt32.toUInt16.toUInt32.toInt32))), (.int 0), (.int 0), (.int 0)] (.int 0) := Arv.set Ar2 q2 S2 M2 H2 Gz2 (fits_nar_char _) W2 0 rfl (Nat.le_of_ble_eq_true rfl)
  have N2 := Fr.snoc X2 N0 g_b1
  obtain ⟨c3, Ar3, q3, S3, M3, H3, Gz3⟩ := id V2
  obtain ⟨T3, h3, X3, e3, W3, st3⟩ := stC X2 hx hZ e2 Ar3 (j := (1 : Int32)) (inb_of S3 ⟨by decide, by decide⟩) (g := (mkF m 19 #[.val (.int p1), .val (.int p2), .val (.int p3), .val (.int p4), .val (.int p5), .val (.ref b1), .unset, .unset, .unset, .unset, .unset, .unset, .unset, .unset, .unset, .unset, .unset] [(.int (((p1.toUInt32 >>> ((16 : Int32) &&& 31).toUInt32).toInt32).toUInt32.toUInt16.toUInt32.toInt32)), (.int 1), (.ref b1)])) rfl rfl (hb hby at_19)
  have V3 : Arv Z h3 b1 k1 .char (4 : Int32) [(.int (nar .char (p1.toUInt32.toUInt16.toUInt32.toInt32))), (.int (nar .char (((p1.toUInt32 >>> ((16 : Int32) &&& 31).toUInt32).toInt32).toUInt32.toUInt16.toUInt32.toInt32))), (.int 0), (.int 0)] (.int 0) := Arv.set Ar3 q3 S3 M3 H3 Gz3 (fits_nar_char _) W3 1 rfl (Nat.le_of_ble_eq_true rfl)
  have N3 := Fr.snoc X3 N2 g_b1
  obtain ⟨c4, Ar4, q4, S4, M4, H4, Gz4⟩ := id V3
  obtain ⟨T4, h4, X4, e4, W4, st4⟩ := stC X3 hx hZ e3 Ar4 (j := (2 : Int32)) (inb_of S4 ⟨by decide, by decide⟩) (g := (mkF m 25 #[.val (.int p1), .val (.int p2), .val (.int p3), .val (.int p4), .val (.int p5), .val (.ref b1), .unset, .unset, .unset, .unset, .unset, .unset, .unset, .unset, .unset, .unset, .unset] [(.int (p2.toUInt32.toUInt16.toUInt32.toInt32)), (.int 2), (.ref b1)])) rfl rfl (hb hby at_25)
  have V4 : Arv Z h4 b1 k1 .char (4 : Int32) [(.int (nar .char (p1.toUInt32.toUInt16.toUInt32.toInt32))), (.int (nar .char (((p1.toUInt32 >>> ((16 : Int32) &&& 31).toUInt32).toInt32).toUInt32.toUInt16.toUInt32.toInt32))), (.int (nar .char (p2.toUInt32.toUInt16.toUInt32.toInt32))), (.int 0)] (.int 0) := Arv.set Ar4 q4 S4 M4 H4 Gz4 (fits_nar_char _) W4 2 rfl (Nat.le_of_ble_eq_true rfl)
  have N4 := Fr.snoc X4 N3 g_b1
  obtain ⟨c5, Ar5, q5, S5, M5, H5, Gz5⟩ := id V4
  obtain ⟨T5, h5, X5, e5, W5, st5⟩ := stC X4 hx hZ e4 Ar5 (j := (3 : Int32)) (inb_of S5 ⟨by decide, by decide⟩) (g := (mkF m 34 #[.val (.int p1), .val (.int p2), .val (.int p3), .val (.int p4), .val (.int p5), .val (.ref b1), .unset, .unset, .unset, .unset, .unset, .unset, .unset, .unset, .unset, .unset, .unset] [(.int (((p2.toUInt32 >>> ((16 : Int32) &&& 31).toUInt32).toInt32).toUInt32.toUInt16.toUInt32.toInt32)), (.int 3), (.ref b1)])) rfl rfl (hb hby at_34)
  have V5 : Arv Z h5 b1 k1 .char (4 : Int32) [(.int (nar .char (p1.toUInt32.toUInt16.toUInt32.toInt32))), (.int (nar .char (((p1.toUInt32 >>> ((16 : Int32) &&& 31).toUInt32).toInt32).toUInt32.toUInt16.toUInt32.toInt32))), (.int (nar .char (p2.toUInt32.toUInt16.toUInt32.toInt32))), (.int (nar .char (((p2.toUInt32 >>> ((16 : Int32) &&& 31).toUInt32).toInt32).toUInt32.toUInt16.toUInt32.toInt32)))] (.int 0) := Arv.set Ar5 q5 S5 M5 H5 Gz5 (fits_nar_char _) W5 3 rfl (Nat.le_of_ble_eq_true rfl)
  have N5 := Fr.snoc X5 N4 g_b1
  obtain ⟨as, has⟩ : ∃ z : List Int32, z = [(nar .char (p1.toUInt32.toUInt16.toUInt32.toInt32)), (nar .char (((p1.toUInt32 >>> ((16 : Int32) &&& 31).toUInt32).toInt32).toUInt32.toUInt16.toUInt32.toInt32)), (nar .char (p2.toUInt32.toUInt16.toUInt32.toInt32)), (nar .char (((p2.toUInt32 >>> ((16 : Int32) &&& 31).toUInt32).toInt32).toUInt32.toUInt16.toUInt32.toInt32))] := ⟨_, rfl⟩
  have Va : Arv Z h5 b1 k1 .char (Int32.ofNat as.length) (as.map Value.int) (.int 0) := by subst has; exact V5
  have hal : as.length = 4 := by subst has; rfl
  have hch : ∀ c ∈ as, own_ch c := by
    subst has
    intro c hc
    simp only [List.mem_cons, List.not_mem_nil, or_false] at hc
    rcases hc with rfl | rfl | rfl | rfl <;> exact own_narch _
  obtain ⟨T6, h6, X6, e6, E6, A6, D6, -, st6⟩ := newO X5 hx hZ hown (hw _ (tk 2 rfl)) (hw _ (tk 3 rfl)) (hw _ (tk 4 rfl)) e5 (g := (mkF m 97 #[.val (.int p1), .val (.int p2), .val (.int p3), .val (.int p4), .val (.int p5), .val (.ref b1), .val (.int (Int32.ofNat o)), .val (.int (Int32.ofNat n)), .val (.int 0), .val (.int 0), .val (.int (((p5.toUInt32 >>> ((2 : Int32) &&& 31).toUInt32).toInt32).toUInt32.toUInt16.toUInt32.toInt32)), .val (.int (((p5.toUInt32 >>> ((18 : Int32) &&& 31).toUInt32).toInt32).toUInt32.toUInt16.toUInt32.toInt32)), .unset, .unset, .unset, .unset, .unset] [])) rfl (hb hby at_97) (by decide) (by decide)
  obtain ⟨b6, g6⟩ : ∃ z, z = h5.size := ⟨_, rfl⟩
  rw [← g6] at A6 D6 st6
  have g_b6 : n0 ≤ b6 := Nat.le_trans (Nat.le_trans Z0 (Nat.le_trans (Nat.le_trans (Nat.le_trans (Nat.le_trans E1.1 (Keep.of_wr W2).1) (Keep.of_wr W3).1) (Keep.of_wr W4).1) (Keep.of_wr W5).1)) (Nat.le_of_eq g6.symm)
  have sz_b6 : h0.size ≤ b6 := Nat.le_trans (Nat.le_trans (Nat.le_trans (Nat.le_trans (Nat.le_trans E1.1 (Keep.of_wr W2).1) (Keep.of_wr W3).1) (Keep.of_wr W4).1) (Keep.of_wr W5).1) (Nat.le_of_eq g6.symm)
  have F6_lock : Fld Z h6 b6 "java/io/Writer" "lock" "Ljava/lang/Object;" .null := D6 (Or.inl (hw _ (tk 17 rfl))) (ty := (.object "java/lang/Object")) (by decide)
  have F6_text : Fld Z h6 b6 "com/example/hebelwerk/hebelwerk/core/Text" "text" "Ljava/lang/StringBuilder;" .null := D6 (Or.inr (hw _ (tk 39 rfl))) (ty := (.object "java/lang/StringBuilder")) (by decide)
  have f8 := ((((((X00.ext E1).wr W2 g_b1).wr W3 g_b1).wr W4 g_b1).wr W5 g_b1).ext E6)
  obtain ⟨_, _, ⟨T7, L7, k7, n7⟩, -, X7, ⟨Lc7, hQ7, l7, y7, z7⟩, st7⟩ := X6.specialBack hx (y := (⟨"com/example/hebelwerk/hebelwerk/core/Text", "<init>", "()V"⟩ : MethodName)) rfl hown (mvT hZ (hw _ (tk 5 rfl))) (mvT hZ (hw _ (tk 6 rfl))) (mvT hZ (hw _ (tk 7 rfl))) (by decide) (backOf (W := 1) (rmTXI l Z a0 hw [] G1 G3 G4 b6 h6 n0 (Nat.le_trans Z0 (Nat.le_trans (Nat.le_trans (Nat.le_trans (Nat.le_trans (Nat.le_trans E1.1 (Keep.of_wr W2).1) (Keep.of_wr W3).1) (Keep.of_wr W4).1) (Keep.of_wr W5).1) E6.1)) EN0 f8 A6 F6_lock F6_text g_b6) hZ (hw _ (tk 7 rfl)) (hw _ (tk 4 rfl)) (by decide) (by decide)) (g := (mkF m 101 #[.val (.int p1), .val (.int p2), .val (.int p3), .val (.int p4), .val (.int p5), .val (.ref b1), .val (.int (Int32.ofNat o)), .val (.int (Int32.ofNat n)), .val (.int 0), .val (.int 0), .val (.int (((p5.toUInt32 >>> ((2 : Int32) &&& 31).toUInt32).toInt32).toUInt32.toUInt16.toUInt32.toInt32)), .val (.int (((p5.toUInt32 >>> ((18 : Int32) &&& 31).toUInt32).toInt32).toUInt32.toUInt16.toUInt32.toInt32)), .unset, .unset, .unset, .unset, .unset] [(.ref b6), (.ref b6)])) rfl (by rw [hml]; rfl) (Steps.refl _) (a := b6) (argsL := []) (rest := [(.ref b6)]) (lenOf pd___V rfl) rfl (by show 2 * 0 + _ ≤ _; exact Nat.le_of_eq rfl) (hb hby at_101) (fun _ _ => ⟨rfl, e6, (by decide : 2 + 2 ≤ _), (by decide : 7 + 20 ≤ _)⟩)
  dsimp only [Pt.U, Pt.locs, Pt.cells, Pt.slots] at X7 l7 y7 z7 st7 hQ7
  subst l7 y7 z7
  obtain ⟨a7, t7, k7q, rfl, Nq7, ga7, gt7, sa7, sq7, Kq7, E7q, F7q, B7⟩ := hQ7
  have N7 := Fr.app N5 Nq7
  have f10 := (f8.keep Kq7 (allS g_b6 all0))
  have f11 := ((Va.ext E6).keep Kq7 (ninS (Nat.ne_of_lt (Nat.lt_of_lt_of_le (Nat.lt_of_lt_of_le V1.lt (Nat.le_trans (Nat.le_trans (Nat.le_trans (Keep.of_wr W2).1 (Keep.of_wr W3).1) (Keep.of_wr W4).1) (Keep.of_wr W5).1)) (Nat.le_of_eq g6.symm))) nin0))
  obtain ⟨cq9, kq9, q9a, q9b, q9c⟩ := isOf hZ rfl E7q
  obtain ⟨_, _, ⟨T9, L9, k9, n9⟩, -, X9, ⟨Lc9, hQ9, l9, y9, z9⟩, st9⟩ := X7.virtualBack hx (y := (⟨"com/example/hebelwerk/hebelwerk/core/Text", "write", "([CII)V"⟩ : MethodName)) (z := (⟨"com/example/hebelwerk/hebelwerk/core/Text", "write", "([CII)V"⟩ : MethodName)) hown (mvT hZ (hw _ (tk 40 rfl))) (mvT hZ (hw _ (tk 41 rfl))) (notFace_of_selects (args := #[]) (mvT hZ (hw _ (tk 43 rfl)))) (mvT hZ (hw _ (tk 43 rfl))) (mvT hZ (hw _ (tk 42 rfl))) (by decide) (backOf (W := 0) (rmTW l Z a0 hw [] G1 G3 G4 b6 a7 t7 k7q [] b1 k1 as o (o + n) n T7.heap n0 (Nat.le_trans Z0 (Nat.le_trans (Nat.le_trans (Nat.le_trans (Nat.le_trans (Nat.le_trans (Nat.le_trans E1.1 (Keep.of_wr W2).1) (Keep.of_wr W3).1) (Keep.of_wr W4).1) (Keep.of_wr W5).1) E6.1) Kq7.1)) EN0 f10 B7 ga7 gt7 f11 (Nat.ne_of_lt (Nat.lt_of_lt_of_le (Nat.lt_of_lt_of_le V1.lt (Nat.le_trans (Nat.le_trans (Nat.le_trans (Nat.le_trans (Keep.of_wr W2).1 (Keep.of_wr W3).1) (Keep.of_wr W4).1) (Keep.of_wr W5).1) E6.1)) sq7)) (Nat.ne_of_lt (Nat.lt_of_lt_of_le (Nat.lt_of_lt_of_le V1.lt (Nat.le_trans (Nat.le_trans (Nat.le_trans (Nat.le_trans (Keep.of_wr W2).1 (Keep.of_wr W3).1) (Keep.of_wr W4).1) (Keep.of_wr W5).1) E6.1)) sa7)) (by simp only [List.length_nil]; omega) rfl (by omega) (by omega) hch E7q F7q) hZ (hw _ (tk 44 rfl)) (hw _ (tk 4 rfl)) (by decide) (by decide)) q9a q9c (g := (mkF m 128 #[.val (.int p1), .val (.int p2), .val (.int p3), .val (.int p4), .val (.int p5), .val (.ref b1), .val (.int (Int32.ofNat o)), .val (.int (Int32.ofNat n)), .val (.int 0), .val (.int 0), .val (.int (((p5.toUInt32 >>> ((2 : Int32) &&& 31).toUInt32).toInt32).toUInt32.toUInt16.toUInt32.toInt32)), .val (.int (((p5.toUInt32 >>> ((18 : Int32) &&& 31).toUInt32).toInt32).toUInt32.toUInt16.toUInt32.toInt32)), .val (.ref b6), .unset, .unset, .unset, .unset] [(.int (Int32.ofNat n)), (.int (Int32.ofNat o)), (.ref b1), (.ref b6)])) rfl (by rw [hml]; rfl) (Steps.refl _) (argsL := [(.ref b1), (.int (Int32.ofNat o)), (.int (Int32.ofNat n))]) (rest := []) (lenOf pd___CII_V rfl) rfl (by show 2 * 0 + _ ≤ _; exact Nat.le_of_eq rfl) (hb hby at_128) (fun _ _ => ⟨rfl, rfl, (by decide : 4 + 1 ≤ _), (by decide : 27 + 32 ≤ _)⟩)
  dsimp only [Pt.U, Pt.locs, Pt.cells, Pt.slots] at X9 l9 y9 z9 st9 hQ9
  subst l9 y9 z9
  obtain ⟨rfl, Nq9, Kq9, t9, k9q, gt9, or9, B9⟩ := hQ9
  have N9 := Fr.app N7 Nq9
  have lb9 : h6.size ≤ t9 := or9.elim (fun q => by rw [q]; exact sq7) (fun q => Nat.le_trans Kq7.1 q)
  have f13 := (f10.keep Kq9 (allS ga7 (allS gt7 all0)))
  have f14 := (E7q.keep Kq9)
  have f15 := (F7q.keep Kq9 (ninS (Nat.ne_of_lt (Nat.lt_of_lt_of_le A6.lt sa7)) (ninS (Nat.ne_of_lt (Nat.lt_of_lt_of_le A6.lt sq7)) nin0)))
  obtain ⟨cq12, kq12, q12a, q12b, q12c⟩ := isOf hZ rfl f14
  obtain ⟨_, _, ⟨T12, L12, k12, n12⟩, -, X12, ⟨Lc12, hQ12, l12, y12, z12⟩, st12⟩ := X9.virtualBack hx (y := (⟨"com/example/hebelwerk/hebelwerk/core/Text", "toString", "()Ljava/lang/String;"⟩ : MethodName)) (z := (⟨"com/example/hebelwerk/hebelwerk/core/Text", "toString", "()Ljava/lang/String;"⟩ : MethodName)) hown (mvT hZ (hw _ (tk 82 rfl))) (mvT hZ (hw _ (tk 83 rfl))) (notFace_of_selects (args := #[]) (mvT hZ (hw _ (tk 85 rfl)))) (mvT hZ (hw _ (tk 85 rfl))) (mvT hZ (hw _ (tk 84 rfl))) (by decide) (backOf (W := 0) (rmTTS l Z a0 hw [] G1 G3 G4 b6 a7 t9 k9q ([] ++ (as.drop o).take n) T9.heap n0 (Nat.le_trans Z0 (Nat.le_trans (Nat.le_trans (Nat.le_trans (Nat.le_trans (Nat.le_trans (Nat.le_trans (Nat.le_trans E1.1 (Keep.of_wr W2).1) (Keep.of_wr W3).1) (Keep.of_wr W4).1) (Keep.of_wr W5).1) E6.1) Kq7.1) Kq9.1)) EN0 f13 B9 (by have q := (own_cs [] as [] o n (by omega) ([] ++ (as.drop o).take n) (List.append_nil _).symm).1; simp only [List.length_append, List.length_nil, List.length_cons] at q ⊢; omega) ga7 gt9 f14 f15) hZ (hw _ (tk 86 rfl)) (hw _ (tk 4 rfl)) (by decide) (by decide)) q12a q12c (g := (mkF m 148 #[.val (.int p1), .val (.int p2), .val (.int p3), .val (.int p4), .val (.int p5), .val (.ref b1), .val (.int (Int32.ofNat o)), .val (.int (Int32.ofNat n)), .val (.int 0), .val (.int 0), .val (.int (((p5.toUInt32 >>> ((2 : Int32) &&& 31).toUInt32).toInt32).toUInt32.toUInt16.toUInt32.toInt32)), .val (.int (((p5.toUInt32 >>> ((18 : Int32) &&& 31).toUInt32).toInt32).toUInt32.toUInt16.toUInt32.toInt32)), .val (.ref b6), .unset, .unset, .unset, .unset] [(.ref b6)])) rfl (by rw [hml]; rfl) (Steps.refl _) (argsL := []) (rest := []) (lenOf pd___Ljava_lang_String_ rfl) rfl (by show 2 * 0 + _ ≤ _; exact Nat.le_of_eq rfl) (hb hby at_148) (fun _ _ => ⟨rfl, rfl, (by decide : 5 + 2 ≤ _), (by decide : 59 + 36 ≤ _)⟩)
  dsimp only [Pt.U, Pt.locs, Pt.cells, Pt.slots] at X12 l12 y12 z12 st12 hQ12
  subst l12 y12 z12
  obtain ⟨x12, rfl, Nq12, sq12, Kq12, S12⟩ := hQ12
  have N12 := Fr.app N9 Nq12
  have E12q := S12.choose_spec.choose_spec.1
  obtain ⟨CS, hCS⟩ : ∃ z : List Int32, z = ([] ++ (as.drop o).take n) := ⟨_, rfl⟩
  rw [← hCS] at S12
  obtain ⟨hL, hk, hpre, hsuf⟩ := own_cs [] as [] o n (by omega) CS (hCS.trans (List.append_nil _).symm)
  have hCc : ∀ c ∈ CS, own_ch c := by rw [(hCS.trans (List.append_nil _).symm)]; exact own_cch own_nil hch own_nil
  have hL' : CS.length = 0 + n + 0 := hL
  have f17 := (f13.keep Kq12 all0)
  obtain ⟨cq16, kq16, q16a, q16b, q16c⟩ := isOf hZ rfl E12q
  obtain ⟨_, _, ⟨T16, L16, k16, n16⟩, -, X16, ⟨Lc16, hQ16, l16, y16, z16⟩, st16⟩ := X12.virtualBack hx (y := (⟨"java/lang/String", "length", "()I"⟩ : MethodName)) (z := (⟨"java/lang/String", "length", "()I"⟩ : MethodName)) hown (mvT hZ (hw _ (tk 138 rfl))) (mvT hZ (hw _ (tk 139 rfl))) (notFace_of_selects (args := #[]) (mvT hZ (hw _ (tk 141 rfl)))) (mvT hZ (hw _ (tk 141 rfl))) (mvT hZ (hw _ (tk 140 rfl))) (by decide) (backOf (W := 0) (rmLE l Z a0 hw [] G1 G3 G4 x12 CS T12.heap n0 (Nat.le_trans Z0 (Nat.le_trans (Nat.le_trans (Nat.le_trans (Nat.le_trans (Nat.le_trans (Nat.le_trans (Nat.le_trans (Nat.le_trans E1.1 (Keep.of_wr W2).1) (Keep.of_wr W3).1) (Keep.of_wr W4).1) (Keep.of_wr W5).1) E6.1) Kq7.1) Kq9.1) Kq12.1)) EN0 f17 S12 (by omega)) hZ (hw _ (tk 142 rfl)) (hw _ (tk 32 rfl)) (by decide) (by decide)) q16a q16c (g := (mkF m 179 #[.val (.int p1), .val (.int p2), .val (.int p3), .val (.int p4), .val (.int p5), .val (.ref b1), .val (.int (Int32.ofNat o)), .val (.int (Int32.ofNat n)), .val (.int 0), .val (.int 0), .val (.int (((p5.toUInt32 >>> ((2 : Int32) &&& 31).toUInt32).toInt32).toUInt32.toUInt16.toUInt32.toInt32)), .val (.int (((p5.toUInt32 >>> ((18 : Int32) &&& 31).toUInt32).toInt32).toUInt32.toUInt16.toUInt32.toInt32)), .val (.ref b6), .val (.ref x12), .val (.int 0), .val (.int 0), .unset] [(.ref x12)])) rfl (by rw [hml]; rfl) (Steps.refl _) (argsL := []) (rest := []) (lenOf pd___I rfl) rfl (by show 2 * 0 + _ ≤ _; exact Nat.le_of_eq rfl) (hb hby at_179) (fun _ _ => ⟨rfl, rfl, (by decide : 7 + 0 ≤ _), (by decide : 95 + 0 ≤ _)⟩)
  dsimp only [Pt.U, Pt.locs, Pt.cells, Pt.slots] at X16 l16 y16 z16 st16 hQ16
  subst l16 y16 z16
  obtain ⟨rfl, Nq16, eq16⟩ := hQ16
  have N16 := Fr.app N12 Nq16
  have Xm : Stand p l e room_1 s m _ below meth c T16 _ 9 159 := { X16 with same := X16.same.mono (by decide) (by decide) }
  have f18 := ((f11.keep Kq9 (ninS (Nat.ne_of_lt (Nat.lt_of_lt_of_le (Nat.lt_of_lt_of_le V1.lt (Nat.le_trans (Nat.le_trans (Nat.le_trans (Nat.le_trans (Keep.of_wr W2).1 (Keep.of_wr W3).1) (Keep.of_wr W4).1) (Keep.of_wr W5).1) E6.1)) sa7)) (ninS (Nat.ne_of_lt (Nat.lt_of_lt_of_le (Nat.lt_of_lt_of_le V1.lt (Nat.le_trans (Nat.le_trans (Nat.le_trans (Nat.le_trans (Keep.of_wr W2).1 (Keep.of_wr W3).1) (Keep.of_wr W4).1) (Keep.of_wr W5).1) E6.1)) sq7)) nin0))).keep Kq12 nin0)
  obtain ⟨T19, h19, L19, X19, e19, N19, Z19, hh19, st19⟩ := bA0 G1 G3 G4 p1 p2 p3 p4 p5 (((p5.toUInt32 >>> ((2 : Int32) &&& 31).toUInt32).toInt32).toUInt32.toUInt16.toUInt32.toInt32) (((p5.toUInt32 >>> ((18 : Int32) &&& 31).toUInt32).toInt32).toUInt32.toUInt16.toUInt32.toInt32) b1 b6 x12 k1 as o n CS 0 (0 : Int32) T12.heap n0 Xm hx hZ hw hby hml hown eq16 N16 (Nat.le_trans Z0 (Nat.le_trans (Nat.le_trans (Nat.le_trans (Nat.le_trans (Nat.le_trans (Nat.le_trans (Nat.le_trans (Nat.le_trans E1.1 (Keep.of_wr W2).1) (Keep.of_wr W3).1) (Keep.of_wr W4).1) (Keep.of_wr W5).1) E6.1) Kq7.1) Kq9.1) Kq12.1)) EN0 f17 S12 (by omega) hCc f18 (by omega) (by omega)
  have e19b := e19.trans hh19
  obtain ⟨T20, h20, L20, X20, e20, N20, Z20, hh20, st20⟩ := (if hkk : 0 < n then bK0y G1 G3 G4 p1 p2 p3 p4 p5 (((p5.toUInt32 >>> ((2 : Int32) &&& 31).toUInt32).toInt32).toUInt32.toUInt16.toUInt32.toInt32) (((p5.toUInt32 >>> ((18 : Int32) &&& 31).toUInt32).toInt32).toUInt32.toUInt16.toUInt32.toInt32) b1 b6 x12 k1 as o n CS 0 (0 : Int32) T12.heap n0 X19 hx hZ hw hby hml hown e19b N19 (Nat.le_trans Z0 (Nat.le_trans (Nat.le_trans (Nat.le_trans (Nat.le_trans (Nat.le_trans (Nat.le_trans (Nat.le_trans (Nat.le_trans E1.1 (Keep.of_wr W2).1) (Keep.of_wr W3).1) (Keep.of_wr W4).1) (Keep.of_wr W5).1) E6.1) Kq7.1) Kq9.1) Kq12.1)) EN0 f17 S12 (by omega) hCc f18 (by omega) (by omega) hkk (hk 0 hkk) (by omega) else bK0n G1 G3 G4 p1 p2 p3 p4 p5 (((p5.toUInt32 >>> ((2 : Int32) &&& 31).toUInt32).toInt32).toUInt32.toUInt16.toUInt32.toInt32) (((p5.toUInt32 >>> ((18 : Int32) &&& 31).toUInt32).toInt32).toUInt32.toUInt16.toUInt32.toInt32) b1 b6 x12 k1 as o n CS 0 (0 : Int32) T12.heap n0 X19 hx hZ hw hby hml hown e19b N19 (Nat.le_trans Z0 (Nat.le_trans (Nat.le_trans (Nat.le_trans (Nat.le_trans (Nat.le_trans (Nat.le_trans (Nat.le_trans (Nat.le_trans E1.1 (Keep.of_wr W2).1) (Keep.of_wr W3).1) (Keep.of_wr W4).1) (Keep.of_wr W5).1) E6.1) Kq7.1) Kq9.1) Kq12.1)) EN0 f17 S12 (by omega) hCc f18 (by omega) (by omega) hkk (by omega))
  have e20b := e20.trans hh20
  obtain ⟨T21, h21, L21, X21, e21, N21, Z21, hh21, st21⟩ := (if hkk : 1 < n then bK1y G1 G3 G4 p1 p2 p3 p4 p5 (((p5.toUInt32 >>> ((2 : Int32) &&& 31).toUInt32).toInt32).toUInt32.toUInt16.toUInt32.toInt32) (((p5.toUInt32 >>> ((18 : Int32) &&& 31).toUInt32).toInt32).toUInt32.toUInt16.toUInt32.toInt32) b1 b6 x12 k1 as o n CS 0 (0 : Int32) T12.heap n0 X20 hx hZ hw hby hml hown e20b N20 (Nat.le_trans Z0 (Nat.le_trans (Nat.le_trans (Nat.le_trans (Nat.le_trans (Nat.le_trans (Nat.le_trans (Nat.le_trans (Nat.le_trans E1.1 (Keep.of_wr W2).1) (Keep.of_wr W3).1) (Keep.of_wr W4).1) (Keep.of_wr W5).1) E6.1) Kq7.1) Kq9.1) Kq12.1)) EN0 f17 S12 (by omega) hCc f18 (by omega) (by omega) hkk (hk 1 hkk) (by omega) else bK1n G1 G3 G4 p1 p2 p3 p4 p5 (((p5.toUInt32 >>> ((2 : Int32) &&& 31).toUInt32).toInt32).toUInt32.toUInt16.toUInt32.toInt32) (((p5.toUInt32 >>> ((18 : Int32) &&& 31).toUInt32).toInt32).toUInt32.toUInt16.toUInt32.toInt32) b1 b6 x12 k1 as o n CS 0 (0 : Int32) T12.heap n0 X20 hx hZ hw hby hml hown e20b N20 (Nat.le_trans Z0 (Nat.le_trans (Nat.le_trans (Nat.le_trans (Nat.le_trans (Nat.le_trans (Nat.le_trans (Nat.le_trans (Nat.le_trans E1.1 (Keep.of_wr W2).1) (Keep.of_wr W3).1) (Keep.of_wr W4).1) (Keep.of_wr W5).1) E6.1) Kq7.1) Kq9.1) Kq12.1)) EN0 f17 S12 (by omega) hCc f18 (by omega) (by omega) hkk (by omega))
  have e21b := e21.trans hh21
  obtain ⟨T22, h22, L22, X22, e22, N22, Z22, hh22, st22⟩ := (if hkk : 2 < n then bK2y G1 G3 G4 p1 p2 p3 p4 p5 (((p5.toUInt32 >>> ((2 : Int32) &&& 31).toUInt32).toInt32).toUInt32.toUInt16.toUInt32.toInt32) (((p5.toUInt32 >>> ((18 : Int32) &&& 31).toUInt32).toInt32).toUInt32.toUInt16.toUInt32.toInt32) b1 b6 x12 k1 as o n CS 0 (0 : Int32) T12.heap n0 X21 hx hZ hw hby hml hown e21b N21 (Nat.le_trans Z0 (Nat.le_trans (Nat.le_trans (Nat.le_trans (Nat.le_trans (Nat.le_trans (Nat.le_trans (Nat.le_trans (Nat.le_trans E1.1 (Keep.of_wr W2).1) (Keep.of_wr W3).1) (Keep.of_wr W4).1) (Keep.of_wr W5).1) E6.1) Kq7.1) Kq9.1) Kq12.1)) EN0 f17 S12 (by omega) hCc f18 (by omega) (by omega) hkk (hk 2 hkk) (by omega) else bK2n G1 G3 G4 p1 p2 p3 p4 p5 (((p5.toUInt32 >>> ((2 : Int32) &&& 31).toUInt32).toInt32).toUInt32.toUInt16.toUInt32.toInt32) (((p5.toUInt32 >>> ((18 : Int32) &&& 31).toUInt32).toInt32).toUInt32.toUInt16.toUInt32.toInt32) b1 b6 x12 k1 as o n CS 0 (0 : Int32) T12.heap n0 X21 hx hZ hw hby hml hown e21b N21 (Nat.le_trans Z0 (Nat.le_trans (Nat.le_trans (Nat.le_trans (Nat.le_trans (Nat.le_trans (Nat.le_trans (Nat.le_trans (Nat.le_trans E1.1 (Keep.of_wr W2).1) (Keep.of_wr W3).1) (Keep.of_wr W4).1) (Keep.of_wr W5).1) E6.1) Kq7.1) Kq9.1) Kq12.1)) EN0 f17 S12 (by omega) hCc f18 (by omega) (by omega) hkk (by omega))
  have e22b := e22.trans hh22
  obtain ⟨T23, h23, L23, X23, e23, N23, Z23, hh23, st23⟩ := (if hkk : 3 < n then bK3y G1 G3 G4 p1 p2 p3 p4 p5 (((p5.toUInt32 >>> ((2 : Int32) &&& 31).toUInt32).toInt32).toUInt32.toUInt16.toUInt32.toInt32) (((p5.toUInt32 >>> ((18 : Int32) &&& 31).toUInt32).toInt32).toUInt32.toUInt16.toUInt32.toInt32) b1 b6 x12 k1 as o n CS 0 (0 : Int32) T12.heap n0 X22 hx hZ hw hby hml hown e22b N22 (Nat.le_trans Z0 (Nat.le_trans (Nat.le_trans (Nat.le_trans (Nat.le_trans (Nat.le_trans (Nat.le_trans (Nat.le_trans (Nat.le_trans E1.1 (Keep.of_wr W2).1) (Keep.of_wr W3).1) (Keep.of_wr W4).1) (Keep.of_wr W5).1) E6.1) Kq7.1) Kq9.1) Kq12.1)) EN0 f17 S12 (by omega) hCc f18 (by omega) (by omega) hkk (hk 3 hkk) (by omega) else bK3n G1 G3 G4 p1 p2 p3 p4 p5 (((p5.toUInt32 >>> ((2 : Int32) &&& 31).toUInt32).toInt32).toUInt32.toUInt16.toUInt32.toInt32) (((p5.toUInt32 >>> ((18 : Int32) &&& 31).toUInt32).toInt32).toUInt32.toUInt16.toUInt32.toInt32) b1 b6 x12 k1 as o n CS 0 (0 : Int32) T12.heap n0 X22 hx hZ hw hby hml hown e22b N22 (Nat.le_trans Z0 (Nat.le_trans (Nat.le_trans (Nat.le_trans (Nat.le_trans (Nat.le_trans (Nat.le_trans (Nat.le_trans (Nat.le_trans E1.1 (Keep.of_wr W2).1) (Keep.of_wr W3).1) (Keep.of_wr W4).1) (Keep.of_wr W5).1) E6.1) Kq7.1) Kq9.1) Kq12.1)) EN0 f17 S12 (by omega) hCc f18 (by omega) (by omega) hkk (by omega))
  have e23b := e23.trans hh23
  obtain ⟨T24, h24, L24, X24, e24, N24, Z24, hh24, st24⟩ := bZ0 G1 G3 G4 p1 p2 p3 p4 p5 (((p5.toUInt32 >>> ((2 : Int32) &&& 31).toUInt32).toInt32).toUInt32.toUInt16.toUInt32.toInt32) (((p5.toUInt32 >>> ((18 : Int32) &&& 31).toUInt32).toInt32).toUInt32.toUInt16.toUInt32.toInt32) b1 b6 x12 k1 as o n CS 0 (0 : Int32) T12.heap n0 X23 hx hZ hw hby hml hown e23b N23 (Nat.le_trans Z0 (Nat.le_trans (Nat.le_trans (Nat.le_trans (Nat.le_trans (Nat.le_trans (Nat.le_trans (Nat.le_trans (Nat.le_trans E1.1 (Keep.of_wr W2).1) (Keep.of_wr W3).1) (Keep.of_wr W4).1) (Keep.of_wr W5).1) E6.1) Kq7.1) Kq9.1) Kq12.1)) EN0 f17 S12 (by omega) hCc f18 (by omega) (by omega)
  have e24b := e24.trans hh24
  obtain ⟨fs, hr, hrun, hended, hW, hsame⟩ := X24.leave (v := some (.int 1)) (fun h => by rw [Bd.returns] at h; cases h)
  refine ⟨_, _, pre0 _ ?_, hrun, hended, _, _, rfl, ?_, ⟨_, rfl⟩, hW, hsame.mono (by decide) (by decide)⟩
  · show Steps p.tables e below (s₁.setTop (mkF m 0 #[.val (.int p1), .val (.int p2), .val (.int p3), .val (.int p4), .val (.int p5), .unset, .unset, .unset, .unset, .unset, .unset, .unset, .unset, .unset, .unset, .unset, .unset] [])) _
    refine XS.iconst X0.here hx rfl (hb hby at_0) ?_
    show Steps p.tables e below (s₁.setTop (mkF m 1 #[.val (.int p1), .val (.int p2), .val (.int p3), .val (.int p4), .val (.int p5), .unset, .unset, .unset, .unset, .unset, .unset, .unset, .unset, .unset, .unset, .unset, .unset] [(.int 4)])) _
    refine st1 _ ?_
    show Steps p.tables e below (T1.setTop (mkF m 3 #[.val (.int p1), .val (.int p2), .val (.int p3), .val (.int p4), .val (.int p5), .unset, .unset, .unset, .unset, .unset, .unset, .unset, .unset, .unset, .unset, .unset, .unset] [(.ref b1)])) _
    refine XS.astore X1.here hx rfl (hb hby at_3) rfl rfl (l' := #[.val (.int p1), .val (.int p2), .val (.int p3), .val (.int p4), .val (.int p5), .val (.ref b1), .unset, .unset, .unset, .unset, .unset, .unset, .unset, .unset, .unset, .unset, .unset]) rfl ?_
    refine XS.aload X1.here hx rfl (hb hby at_5) rfl rfl ?_
    refine XS.iconst X1.here hx rfl (hb hby at_7) ?_
    refine XS.iloadN X1.here hx rfl (hb hby at_8) rfl ?_
    refine XS.i2c X1.here hx rfl (hb hby at_9) rfl ?_
    show Steps p.tables e below (T1.setTop (mkF m 10 #[.val (.int p1), .val (.int p2), .val (.int p3), .val (.int p4), .val (.int p5), .val (.ref b1), .unset, .unset, .unset, .unset, .unset, .unset, .unset, .unset, .unset, .unset, .unset] [(.int (p1.toUInt32.toUInt16.toUInt32.toInt32)), (.int 0), (.ref b1)])) _
    refine st2 _ ?_
    show Steps p.tables e below (T2.setTop (mkF m 11 #[.val (.int p1), .val (.int p2), .val (.int p3), .val (.int p4), .val (.int p5), .val (.ref b1), .unset, .unset, .unset, .unset, .unset, .unset, .unset, .unset, .unset, .unset, .unset] [])) _
    refine XS.aload X2.here hx rfl (hb hby at_11) rfl rfl ?_
    refine XS.iconst X2.here hx rfl (hb hby at_13) ?_
    refine XS.iloadN X2.here hx rfl (hb hby at_14) rfl ?_
    refine XS.bipush X2.here hx rfl (hb hby at_15) ?_
    refine XS.iushr X2.here hx rfl (hb hby at_17) rfl ?_
    refine XS.i2c X2.here hx rfl (hb hby at_18) rfl ?_
    show Steps p.tables e below (T2.setTop (mkF m 19 #[.val (.int p1), .val (.int p2), .val (.int p3), .val (.int p4), .val (.int p5), .val (.ref b1), .unset, .unset, .unset, .unset, .unset, .unset, .unset, .unset, .unset, .unset, .unset] [(.int (((p1.toUInt32 >>> ((16 : Int32) &&& 31).toUInt32).toInt32).toUInt32.toUInt16.toUInt32.toInt32)), (.int 1), (.ref b1)])) _
    refine st3 _ ?_
    show Steps p.tables e below (T3.setTop (mkF m 20 #[.val (.int p1), .val (.int p2), .val (.int p3), .val (.int p4), .val (.int p5), .val (.ref b1), .unset, .unset, .unset, .unset, .unset, .unset, .unset, .unset, .unset, .unset, .unset] [])) _
    refine XS.aload X3.here hx rfl (hb hby at_20) rfl rfl ?_
    refine XS.iconst X3.here hx rfl (hb hby at_22) ?_
    refine XS.iloadN X3.here hx rfl (hb hby at_23) rfl ?_
    refine XS.i2c X3.here hx rfl (hb hby at_24) rfl ?_
    show Steps p.tables e below (T3.setTop (mkF m 25 #[.val (.int p1), .val (.int p2), .val (.int p3), .val (.int p4), .val (.int p5), .val (.ref b1), .unset, .unset, .unset, .unset, .unset, .unset, .unset, .unset, .unset, .unset, .unset] [(.int (p2.toUInt32.toUInt16.toUInt32.toInt32)), (.int 2), (.ref b1)])) _
    refine st4 _ ?_
    show Steps p.tables e below (T4.setTop (mkF m 26 #[.val (.int p1), .val (.int p2), .val (.int p3), .val (.int p4), .val (.int p5), .val (.ref b1), .unset, .unset, .unset, .unset, .unset, .unset, .unset, .unset, .unset, .unset, .unset] [])) _
    refine XS.aload X4.here hx rfl (hb hby at_26) rfl rfl ?_
    refine XS.iconst X4.here hx rfl (hb hby at_28) ?_
    refine XS.iloadN X4.here hx rfl (hb hby at_29) rfl ?_
    refine XS.bipush X4.here hx rfl (hb hby at_30) ?_
    refine XS.iushr X4.here hx rfl (hb hby at_32) rfl ?_
    refine XS.i2c X4.here hx rfl (hb hby at_33) rfl ?_
    show Steps p.tables e below (T4.setTop (mkF m 34 #[.val (.int p1), .val (.int p2), .val (.int p3), .val (.int p4), .val (.int p5), .val (.ref b1), .unset, .unset, .unset, .unset, .unset, .unset, .unset, .unset, .unset, .unset, .unset] [(.int (((p2.toUInt32 >>> ((16 : Int32) &&& 31).toUInt32).toInt32).toUInt32.toUInt16.toUInt32.toInt32)), (.int 3), (.ref b1)])) _
    refine st5 _ ?_
    show Steps p.tables e below (T5.setTop (mkF m 35 #[.val (.int p1), .val (.int p2), .val (.int p3), .val (.int p4), .val (.int p5), .val (.ref b1), .unset, .unset, .unset, .unset, .unset, .unset, .unset, .unset, .unset, .unset, .unset] [])) _
    refine XS.iloadN X5.here hx rfl (hb hby at_35) rfl ?_
    show Steps p.tables e below (T5.setTop (mkF m 36 #[.val (.int p1), .val (.int p2), .val (.int p3), .val (.int p4), .val (.int p5), .val (.ref b1), .unset, .unset, .unset, .unset, .unset, .unset, .unset, .unset, .unset, .unset, .unset] [(.int p3)])) _
    refine X5.ldcInt hx hown (mvT hZ (hw _ (tk 1 rfl))) (g := (mkF m 36 #[.val (.int p1), .val (.int p2), .val (.int p3), .val (.int p4), .val (.int p5), .val (.ref b1), .unset, .unset, .unset, .unset, .unset, .unset, .unset, .unset, .unset, .unset, .unset] [(.int p3)])) rfl (hb hby at_36) _ ?_
    show Steps p.tables e below (T5.setTop (mkF m 38 #[.val (.int p1), .val (.int p2), .val (.int p3), .val (.int p4), .val (.int p5), .val (.ref b1), .unset, .unset, .unset, .unset, .unset, .unset, .unset, .unset, .unset, .unset, .unset] [(.int 2147483647), (.int p3)])) _
    refine XS.iand X5.here hx rfl (hb hby at_38) rfl ?_
    refine XS.iconst X5.here hx rfl (hb hby at_39) ?_
    show Steps p.tables e below (T5.setTop (mkF m 40 #[.val (.int p1), .val (.int p2), .val (.int p3), .val (.int p4), .val (.int p5), .val (.ref b1), .unset, .unset, .unset, .unset, .unset, .unset, .unset, .unset, .unset, .unset, .unset] [(.int 5), (.int (p3 &&& (2147483647 : Int32)))])) _
    refine iremM X5 hx (g := (mkF m 40 #[.val (.int p1), .val (.int p2), .val (.int p3), .val (.int p4), .val (.int p5), .val (.ref b1), .unset, .unset, .unset, .unset, .unset, .unset, .unset, .unset, .unset, .unset, .unset] [(.int 5), (.int (p3 &&& (2147483647 : Int32)))])) rfl (hb hby at_40) rfl (by decide) ?_
    show Steps p.tables e below (T5.setTop (mkF m 41 #[.val (.int p1), .val (.int p2), .val (.int p3), .val (.int p4), .val (.int p5), .val (.ref b1), .unset, .unset, .unset, .unset, .unset, .unset, .unset, .unset, .unset, .unset, .unset] [(.int ((p3 &&& (2147483647 : Int32)) % (5 : Int32)))])) _
    rw [hr1]
    show Steps p.tables e below (T5.setTop (mkF m 41 #[.val (.int p1), .val (.int p2), .val (.int p3), .val (.int p4), .val (.int p5), .val (.ref b1), .unset, .unset, .unset, .unset, .unset, .unset, .unset, .unset, .unset, .unset, .unset] [(.int (Int32.ofNat o))])) _
    refine XS.istore X5.here hx rfl (hb hby at_41) rfl (l' := #[.val (.int p1), .val (.int p2), .val (.int p3), .val (.int p4), .val (.int p5), .val (.ref b1), .val (.int (Int32.ofNat o)), .unset, .unset, .unset, .unset, .unset, .unset, .unset, .unset, .unset, .unset]) rfl ?_
    refine XS.iloadN X5.here hx rfl (hb hby at_43) rfl ?_
    show Steps p.tables e below (T5.setTop (mkF m 44 #[.val (.int p1), .val (.int p2), .val (.int p3), .val (.int p4), .val (.int p5), .val (.ref b1), .val (.int (Int32.ofNat o)), .unset, .unset, .unset, .unset, .unset, .unset, .unset, .unset, .unset, .unset] [(.int p4)])) _
    refine X5.ldcInt hx hown (mvT hZ (hw _ (tk 1 rfl))) (g := (mkF m 44 #[.val (.int p1), .val (.int p2), .val (.int p3), .val (.int p4), .val (.int p5), .val (.ref b1), .val (.int (Int32.ofNat o)), .unset, .unset, .unset, .unset, .unset, .unset, .unset, .unset, .unset, .unset] [(.int p4)])) rfl (hb hby at_44) _ ?_
    show Steps p.tables e below (T5.setTop (mkF m 46 #[.val (.int p1), .val (.int p2), .val (.int p3), .val (.int p4), .val (.int p5), .val (.ref b1), .val (.int (Int32.ofNat o)), .unset, .unset, .unset, .unset, .unset, .unset, .unset, .unset, .unset, .unset] [(.int 2147483647), (.int p4)])) _
    refine XS.iand X5.here hx rfl (hb hby at_46) rfl ?_
    refine XS.iconst X5.here hx rfl (hb hby at_47) ?_
    refine XS.iload X5.here hx rfl (hb hby at_48) rfl ?_
    refine XS.isub X5.here hx rfl (hb hby at_50) rfl ?_
    show Steps p.tables e below (T5.setTop (mkF m 51 #[.val (.int p1), .val (.int p2), .val (.int p3), .val (.int p4), .val (.int p5), .val (.ref b1), .val (.int (Int32.ofNat o)), .unset, .unset, .unset, .unset, .unset, .unset, .unset, .unset, .unset, .unset] [(.int ((5 : Int32) - (Int32.ofNat o))), (.int (p4 &&& (2147483647 : Int32)))])) _
    rw [own_s5 ho5]
    show Steps p.tables e below (T5.setTop (mkF m 51 #[.val (.int p1), .val (.int p2), .val (.int p3), .val (.int p4), .val (.int p5), .val (.ref b1), .val (.int (Int32.ofNat o)), .unset, .unset, .unset, .unset, .unset, .unset, .unset, .unset, .unset, .unset] [(.int (Int32.ofNat (5 - o))), (.int (p4 &&& (2147483647 : Int32)))])) _
    refine iremM X5 hx (g := (mkF m 51 #[.val (.int p1), .val (.int p2), .val (.int p3), .val (.int p4), .val (.int p5), .val (.ref b1), .val (.int (Int32.ofNat o)), .unset, .unset, .unset, .unset, .unset, .unset, .unset, .unset, .unset, .unset] [(.int (Int32.ofNat (5 - o))), (.int (p4 &&& (2147483647 : Int32)))])) rfl (hb hby at_51) rfl (own_nz (by omega) (by omega)) ?_
    show Steps p.tables e below (T5.setTop (mkF m 52 #[.val (.int p1), .val (.int p2), .val (.int p3), .val (.int p4), .val (.int p5), .val (.ref b1), .val (.int (Int32.ofNat o)), .unset, .unset, .unset, .unset, .unset, .unset, .unset, .unset, .unset, .unset] [(.int ((p4 &&& (2147483647 : Int32)) % (Int32.ofNat (5 - o))))])) _
    rw [hr2]
    show Steps p.tables e below (T5.setTop (mkF m 52 #[.val (.int p1), .val (.int p2), .val (.int p3), .val (.int p4), .val (.int p5), .val (.ref b1), .val (.int (Int32.ofNat o)), .unset, .unset, .unset, .unset, .unset, .unset, .unset, .unset, .unset, .unset] [(.int (Int32.ofNat n))])) _
    refine XS.istore X5.here hx rfl (hb hby at_52) rfl (l' := #[.val (.int p1), .val (.int p2), .val (.int p3), .val (.int p4), .val (.int p5), .val (.ref b1), .val (.int (Int32.ofNat o)), .val (.int (Int32.ofNat n)), .unset, .unset, .unset, .unset, .unset, .unset, .unset, .unset, .unset]) rfl ?_
    refine XS.iload X5.here hx rfl (hb hby at_54) rfl ?_
    refine XS.iconst X5.here hx rfl (hb hby at_56) ?_
    refine XS.iand X5.here hx rfl (hb hby at_57) rfl ?_
    refine XS.ifYes X5.here hx rfl (pc0 := 58) (pc' := 65) rfl (hb hby at_58) rfl ((if0 _ _).trans (teq hb1).1) (by decide) (by decide) ?_
    refine XS.iconst X5.here hx rfl (hb hby at_65) ?_
    refine XS.istore X5.here hx rfl (hb hby at_66) rfl (l' := #[.val (.int p1), .val (.int p2), .val (.int p3), .val (.int p4), .val (.int p5), .val (.ref b1), .val (.int (Int32.ofNat o)), .val (.int (Int32.ofNat n)), .val (.int 0), .unset, .unset, .unset, .unset, .unset, .unset, .unset, .unset]) rfl ?_
    refine XS.iload X5.here hx rfl (hb hby at_68) rfl ?_
    refine XS.iconst X5.here hx rfl (hb hby at_70) ?_
    refine XS.iand X5.here hx rfl (hb hby at_71) rfl ?_
    refine XS.ifYes X5.here hx rfl (pc0 := 72) (pc' := 79) rfl (hb hby at_72) rfl ((if0 _ _).trans (teq hb2).1) (by decide) (by decide) ?_
    show Steps p.tables e below (T5.setTop (mkF m 79 #[.val (.int p1), .val (.int p2), .val (.int p3), .val (.int p4), .val (.int p5), .val (.ref b1), .val (.int (Int32.ofNat o)), .val (.int (Int32.ofNat n)), .val (.int 0), .unset, .unset, .unset, .unset, .unset, .unset, .unset, .unset] [])) _
    refine XS.iconst X5.here hx rfl (hb hby at_79) ?_
    refine XS.istore X5.here hx rfl (hb hby at_80) rfl (l' := #[.val (.int p1), .val (.int p2), .val (.int p3), .val (.int p4), .val (.int p5), .val (.ref b1), .val (.int (Int32.ofNat o)), .val (.int (Int32.ofNat n)), .val (.int 0), .val (.int 0), .unset, .unset, .unset, .unset, .unset, .unset, .unset]) rfl ?_
    refine XS.iload X5.here hx rfl (hb hby at_82) rfl ?_
    refine XS.iconst X5.here hx rfl (hb hby at_84) ?_
    refine XS.iushr X5.here hx rfl (hb hby at_85) rfl ?_
    refine XS.i2c X5.here hx rfl (hb hby at_86) rfl ?_
    refine XS.istore X5.here hx rfl (hb hby at_87) rfl (l' := #[.val (.int p1), .val (.int p2), .val (.int p3), .val (.int p4), .val (.int p5), .val (.ref b1), .val (.int (Int32.ofNat o)), .val (.int (Int32.ofNat n)), .val (.int 0), .val (.int 0), .val (.int (((p5.toUInt32 >>> ((2 : Int32) &&& 31).toUInt32).toInt32).toUInt32.toUInt16.toUInt32.toInt32)), .unset, .unset, .unset, .unset, .unset, .unset]) rfl ?_
    refine XS.iload X5.here hx rfl (hb hby at_89) rfl ?_
    refine XS.bipush X5.here hx rfl (hb hby at_91) ?_
    refine XS.iushr X5.here hx rfl (hb hby at_93) rfl ?_
    refine XS.i2c X5.here hx rfl (hb hby at_94) rfl ?_
    show Steps p.tables e below (T5.setTop (mkF m 95 #[.val (.int p1), .val (.int p2), .val (.int p3), .val (.int p4), .val (.int p5), .val (.ref b1), .val (.int (Int32.ofNat o)), .val (.int (Int32.ofNat n)), .val (.int 0), .val (.int 0), .val (.int (((p5.toUInt32 >>> ((2 : Int32) &&& 31).toUInt32).toInt32).toUInt32.toUInt16.toUInt32.toInt32)), .unset, .unset, .unset, .unset, .unset, .unset] [(.int (((p5.toUInt32 >>> ((18 : Int32) &&& 31).toUInt32).toInt32).toUInt32.toUInt16.toUInt32.toInt32))])) _
    refine XS.istore X5.here hx rfl (hb hby at_95) rfl (l' := #[.val (.int p1), .val (.int p2), .val (.int p3), .val (.int p4), .val (.int p5), .val (.ref b1), .val (.int (Int32.ofNat o)), .val (.int (Int32.ofNat n)), .val (.int 0), .val (.int 0), .val (.int (((p5.toUInt32 >>> ((2 : Int32) &&& 31).toUInt32).toInt32).toUInt32.toUInt16.toUInt32.toInt32)), .val (.int (((p5.toUInt32 >>> ((18 : Int32) &&& 31).toUInt32).toInt32).toUInt32.toUInt16.toUInt32.toInt32)), .unset, .unset, .unset, .unset, .unset]) rfl ?_
    show Steps p.tables e below (T5.setTop (mkF m 97 #[.val (.int p1), .val (.int p2), .val (.int p3), .val (.int p4), .val (.int p5), .val (.ref b1), .val (.int (Int32.ofNat o)), .val (.int (Int32.ofNat n)), .val (.int 0), .val (.int 0), .val (.int (((p5.toUInt32 >>> ((2 : Int32) &&& 31).toUInt32).toInt32).toUInt32.toUInt16.toUInt32.toInt32)), .val (.int (((p5.toUInt32 >>> ((18 : Int32) &&& 31).toUInt32).toInt32).toUInt32.toUInt16.toUInt32.toInt32)), .unset, .unset, .unset, .unset, .unset] [])) _
    refine st6 _ ?_
    show Steps p.tables e below (T6.setTop (mkF m 100 #[.val (.int p1), .val (.int p2), .val (.int p3), .val (.int p4), .val (.int p5), .val (.ref b1), .val (.int (Int32.ofNat o)), .val (.int (Int32.ofNat n)), .val (.int 0), .val (.int 0), .val (.int (((p5.toUInt32 >>> ((2 : Int32) &&& 31).toUInt32).toInt32).toUInt32.toUInt16.toUInt32.toInt32)), .val (.int (((p5.toUInt32 >>> ((18 : Int32) &&& 31).toUInt32).toInt32).toUInt32.toUInt16.toUInt32.toInt32)), .unset, .unset, .unset, .unset, .unset] [(.ref b6)])) _
    refine XS.dup X6.here hx rfl (hb hby at_100) rfl rfl ?_
    show Steps p.tables e below (T6.setTop (mkF m 101 #[.val (.int p1), .val (.int p2), .val (.int p3), .val (.int p4), .val (.int p5), .val (.ref b1), .val (.int (Int32.ofNat o)), .val (.int (Int32.ofNat n)), .val (.int 0), .val (.int 0), .val (.int (((p5.toUInt32 >>> ((2 : Int32) &&& 31).toUInt32).toInt32).toUInt32.toUInt16.toUInt32.toInt32)), .val (.int (((p5.toUInt32 >>> ((18 : Int32) &&& 31).toUInt32).toInt32).toUInt32.toUInt16.toUInt32.toInt32)), .unset, .unset, .unset, .unset, .unset] [(.ref b6), (.ref b6)])) _
    refine st7.trans ?_
    show Steps p.tables e below (T7.setTop (mkF m 104 #[.val (.int p1), .val (.int p2), .val (.int p3), .val (.int p4), .val (.int p5), .val (.ref b1), .val (.int (Int32.ofNat o)), .val (.int (Int32.ofNat n)), .val (.int 0), .val (.int 0), .val (.int (((p5.toUInt32 >>> ((2 : Int32) &&& 31).toUInt32).toInt32).toUInt32.toUInt16.toUInt32.toInt32)), .val (.int (((p5.toUInt32 >>> ((18 : Int32) &&& 31).toUInt32).toInt32).toUInt32.toUInt16.toUInt32.toInt32)), .unset, .unset, .unset, .unset, .unset] [(.ref b6)])) _
    refine XS.astore X7.here hx rfl (hb hby at_104) rfl rfl (l' := #[.val (.int p1), .val (.int p2), .val (.int p3), .val (.int p4), .val (.int p5), .val (.ref b1), .val (.int (Int32.ofNat o)), .val (.int (Int32.ofNat n)), .val (.int 0), .val (.int 0), .val (.int (((p5.toUInt32 >>> ((2 : Int32) &&& 31).toUInt32).toInt32).toUInt32.toUInt16.toUInt32.toInt32)), .val (.int (((p5.toUInt32 >>> ((18 : Int32) &&& 31).toUInt32).toInt32).toUInt32.toUInt16.toUInt32.toInt32)), .val (.ref b6), .unset, .unset, .unset, .unset]) rfl ?_
    refine XS.iload X7.here hx rfl (hb hby at_106) rfl ?_
    refine XS.ifYes X7.here hx rfl (pc0 := 108) (pc' := 120) rfl (hb hby at_108) rfl ((if0 _ _).trans (teq (by decide : (0 : Int32) = (0 : Int32))).1) (by decide) (by decide) ?_
    refine XS.aload X7.here hx rfl (hb hby at_120) rfl rfl ?_
    refine XS.aload X7.here hx rfl (hb hby at_122) rfl rfl ?_
    refine XS.iload X7.here hx rfl (hb hby at_124) rfl ?_
    refine XS.iload X7.here hx rfl (hb hby at_126) rfl ?_
    show Steps p.tables e below (T7.setTop (mkF m 128 #[.val (.int p1), .val (.int p2), .val (.int p3), .val (.int p4), .val (.int p5), .val (.ref b1), .val (.int (Int32.ofNat o)), .val (.int (Int32.ofNat n)), .val (.int 0), .val (.int 0), .val (.int (((p5.toUInt32 >>> ((2 : Int32) &&& 31).toUInt32).toInt32).toUInt32.toUInt16.toUInt32.toInt32)), .val (.int (((p5.toUInt32 >>> ((18 : Int32) &&& 31).toUInt32).toInt32).toUInt32.toUInt16.toUInt32.toInt32)), .val (.ref b6), .unset, .unset, .unset, .unset] [(.int (Int32.ofNat n)), (.int (Int32.ofNat o)), (.ref b1), (.ref b6)])) _
    refine st9.trans ?_
    show Steps p.tables e below (T9.setTop (mkF m 131 #[.val (.int p1), .val (.int p2), .val (.int p3), .val (.int p4), .val (.int p5), .val (.ref b1), .val (.int (Int32.ofNat o)), .val (.int (Int32.ofNat n)), .val (.int 0), .val (.int 0), .val (.int (((p5.toUInt32 >>> ((2 : Int32) &&& 31).toUInt32).toInt32).toUInt32.toUInt16.toUInt32.toInt32)), .val (.int (((p5.toUInt32 >>> ((18 : Int32) &&& 31).toUInt32).toInt32).toUInt32.toUInt16.toUInt32.toInt32)), .val (.ref b6), .unset, .unset, .unset, .unset] [])) _
    refine XS.iload X9.here hx rfl (hb hby at_131) rfl ?_
    refine XS.ifYes X9.here hx rfl (pc0 := 133) (pc' := 146) rfl (hb hby at_133) rfl ((if0 _ _).trans (teq (by decide : (0 : Int32) = (0 : Int32))).1) (by decide) (by decide) ?_
    refine XS.aload X9.here hx rfl (hb hby at_146) rfl rfl ?_
    show Steps p.tables e below (T9.setTop (mkF m 148 #[.val (.int p1), .val (.int p2), .val (.int p3), .val (.int p4), .val (.int p5), .val (.ref b1), .val (.int (Int32.ofNat o)), .val (.int (Int32.ofNat n)), .val (.int 0), .val (.int 0), .val (.int (((p5.toUInt32 >>> ((2 : Int32) &&& 31).toUInt32).toInt32).toUInt32.toUInt16.toUInt32.toInt32)), .val (.int (((p5.toUInt32 >>> ((18 : Int32) &&& 31).toUInt32).toInt32).toUInt32.toUInt16.toUInt32.toInt32)), .val (.ref b6), .unset, .unset, .unset, .unset] [(.ref b6)])) _
    refine st12.trans ?_
    show Steps p.tables e below (T12.setTop (mkF m 151 #[.val (.int p1), .val (.int p2), .val (.int p3), .val (.int p4), .val (.int p5), .val (.ref b1), .val (.int (Int32.ofNat o)), .val (.int (Int32.ofNat n)), .val (.int 0), .val (.int 0), .val (.int (((p5.toUInt32 >>> ((2 : Int32) &&& 31).toUInt32).toInt32).toUInt32.toUInt16.toUInt32.toInt32)), .val (.int (((p5.toUInt32 >>> ((18 : Int32) &&& 31).toUInt32).toInt32).toUInt32.toUInt16.toUInt32.toInt32)), .val (.ref b6), .unset, .unset, .unset, .unset] [(.ref x12)])) _
    refine XS.astore X12.here hx rfl (hb hby at_151) rfl rfl (l' := #[.val (.int p1), .val (.int p2), .val (.int p3), .val (.int p4), .val (.int p5), .val (.ref b1), .val (.int (Int32.ofNat o)), .val (.int (Int32.ofNat n)), .val (.int 0), .val (.int 0), .val (.int (((p5.toUInt32 >>> ((2 : Int32) &&& 31).toUInt32).toInt32).toUInt32.toUInt16.toUInt32.toInt32)), .val (.int (((p5.toUInt32 >>> ((18 : Int32) &&& 31).toUInt32).toInt32).toUInt32.toUInt16.toUInt32.toInt32)), .val (.ref b6), .val (.ref x12), .unset, .unset, .unset]) rfl ?_
    refine XS.iload X12.here hx rfl (hb hby at_153) rfl ?_
    refine XS.ifYes X12.here hx rfl (pc0 := 155) (pc' := 162) rfl (hb hby at_155) rfl ((if0 _ _).trans (teq (by decide : (0 : Int32) = (0 : Int32))).1) (by decide) (by decide) ?_
    refine XS.iconst X12.here hx rfl (hb hby at_162) ?_
    refine XS.istore X12.here hx rfl (hb hby at_163) rfl (l' := #[.val (.int p1), .val (.int p2), .val (.int p3), .val (.int p4), .val (.int p5), .val (.ref b1), .val (.int (Int32.ofNat o)), .val (.int (Int32.ofNat n)), .val (.int 0), .val (.int 0), .val (.int (((p5.toUInt32 >>> ((2 : Int32) &&& 31).toUInt32).toInt32).toUInt32.toUInt16.toUInt32.toInt32)), .val (.int (((p5.toUInt32 >>> ((18 : Int32) &&& 31).toUInt32).toInt32).toUInt32.toUInt16.toUInt32.toInt32)), .val (.ref b6), .val (.ref x12), .val (.int 0), .unset, .unset]) rfl ?_
    refine XS.iload X12.here hx rfl (hb hby at_165) rfl ?_
    refine XS.ifYes X12.here hx rfl (pc0 := 167) (pc' := 174) rfl (hb hby at_167) rfl ((if0 _ _).trans (teq (by decide : (0 : Int32) = (0 : Int32))).1) (by decide) (by decide) ?_
    refine XS.iconst X12.here hx rfl (hb hby at_174) ?_
    refine XS.istore X12.here hx rfl (hb hby at_175) rfl (l' := #[.val (.int p1), .val (.int p2), .val (.int p3), .val (.int p4), .val (.int p5), .val (.ref b1), .val (.int (Int32.ofNat o)), .val (.int (Int32.ofNat n)), .val (.int 0), .val (.int 0), .val (.int (((p5.toUInt32 >>> ((2 : Int32) &&& 31).toUInt32).toInt32).toUInt32.toUInt16.toUInt32.toInt32)), .val (.int (((p5.toUInt32 >>> ((18 : Int32) &&& 31).toUInt32).toInt32).toUInt32.toUInt16.toUInt32.toInt32)), .val (.ref b6), .val (.ref x12), .val (.int 0), .val (.int 0), .unset]) rfl ?_
    refine XS.aload X12.here hx rfl (hb hby at_177) rfl rfl ?_
    show Steps p.tables e below (T12.setTop (mkF m 179 #[.val (.int p1), .val (.int p2), .val (.int p3), .val (.int p4), .val (.int p5), .val (.ref b1), .val (.int (Int32.ofNat o)), .val (.int (Int32.ofNat n)), .val (.int 0), .val (.int 0), .val (.int (((p5.toUInt32 >>> ((2 : Int32) &&& 31).toUInt32).toInt32).toUInt32.toUInt16.toUInt32.toInt32)), .val (.int (((p5.toUInt32 >>> ((18 : Int32) &&& 31).toUInt32).toInt32).toUInt32.toUInt16.toUInt32.toInt32)), .val (.ref b6), .val (.ref x12), .val (.int 0), .val (.int 0), .unset] [(.ref x12)])) _
    refine st16.trans ?_
    show Steps p.tables e below (T16.setTop (mkF m 182 #[.val (.int p1), .val (.int p2), .val (.int p3), .val (.int p4), .val (.int p5), .val (.ref b1), .val (.int (Int32.ofNat o)), .val (.int (Int32.ofNat n)), .val (.int 0), .val (.int 0), .val (.int (((p5.toUInt32 >>> ((2 : Int32) &&& 31).toUInt32).toInt32).toUInt32.toUInt16.toUInt32.toInt32)), .val (.int (((p5.toUInt32 >>> ((18 : Int32) &&& 31).toUInt32).toInt32).toUInt32.toUInt16.toUInt32.toInt32)), .val (.ref b6), .val (.ref x12), .val (.int 0), .val (.int 0), .unset] [(.int (Int32.ofNat CS.length))])) _
    refine XS.iload X16.here hx rfl (hb hby at_182) rfl ?_
    refine XS.iload X16.here hx rfl (hb hby at_184) rfl ?_
    refine XS.iadd X16.here hx rfl (hb hby at_186) rfl ?_
    refine XS.iload X16.here hx rfl (hb hby at_187) rfl ?_
    refine XS.iadd X16.here hx rfl (hb hby at_189) rfl ?_
    refine XS.icmpYes X16.here hx rfl (pc0 := 190) (pc' := 195) rfl (hb hby at_190) rfl (teq (by rw [hL']; exact own_l3 0 n 0)).1 (by decide) (by decide) ?_
    refine XS.iconst X16.here hx rfl (hb hby at_195) ?_
    refine XS.istore X16.here hx rfl (hb hby at_196) rfl (l' := #[.val (.int p1), .val (.int p2), .val (.int p3), .val (.int p4), .val (.int p5), .val (.ref b1), .val (.int (Int32.ofNat o)), .val (.int (Int32.ofNat n)), .val (.int 0), .val (.int 0), .val (.int (((p5.toUInt32 >>> ((2 : Int32) &&& 31).toUInt32).toInt32).toUInt32.toUInt16.toUInt32.toInt32)), .val (.int (((p5.toUInt32 >>> ((18 : Int32) &&& 31).toUInt32).toInt32).toUInt32.toUInt16.toUInt32.toInt32)), .val (.ref b6), .val (.ref x12), .val (.int 0), .val (.int 0), .val (.int 1)]) rfl ?_
    show Steps p.tables e below (T16.setTop (mkF m 198 #[.val (.int p1), .val (.int p2), .val (.int p3), .val (.int p4), .val (.int p5), .val (.ref b1), .val (.int (Int32.ofNat o)), .val (.int (Int32.ofNat n)), .val (.int 0), .val (.int 0), .val (.int (((p5.toUInt32 >>> ((2 : Int32) &&& 31).toUInt32).toInt32).toUInt32.toUInt16.toUInt32.toInt32)), .val (.int (((p5.toUInt32 >>> ((18 : Int32) &&& 31).toUInt32).toInt32).toUInt32.toUInt16.toUInt32.toInt32)), .val (.ref b6), .val (.ref x12), .val (.int 0), .val (.int 0), .val (.int 1)] [])) _
    refine st19 _ ?_
    show Steps p.tables e below (T19.setTop (mkF m 226 #[.val (.int p1), .val (.int p2), .val (.int p3), .val (.int p4), .val (.int p5), .val (.ref b1), .val (.int (Int32.ofNat o)), .val (.int (Int32.ofNat n)), .val (.int 0), .val (.int 0), .val (.int (((p5.toUInt32 >>> ((2 : Int32) &&& 31).toUInt32).toInt32).toUInt32.toUInt16.toUInt32.toInt32)), .val (.int (((p5.toUInt32 >>> ((18 : Int32) &&& 31).toUInt32).toInt32).toUInt32.toUInt16.toUInt32.toInt32)), .val (.ref b6), .val (.ref x12), .val (.int 0), .val (.int 0), .val (.int 1)] [])) _
    refine st20 _ ?_
    show Steps p.tables e below (T20.setTop (mkF m 259 #[.val (.int p1), .val (.int p2), .val (.int p3), .val (.int p4), .val (.int p5), .val (.ref b1), .val (.int (Int32.ofNat o)), .val (.int (Int32.ofNat n)), .val (.int 0), .val (.int 0), .val (.int (((p5.toUInt32 >>> ((2 : Int32) &&& 31).toUInt32).toInt32).toUInt32.toUInt16.toUInt32.toInt32)), .val (.int (((p5.toUInt32 >>> ((18 : Int32) &&& 31).toUInt32).toInt32).toUInt32.toUInt16.toUInt32.toInt32)), .val (.ref b6), .val (.ref x12), .val (.int 0), .val (.int 0), .val (.int 1)] [])) _
    refine st21 _ ?_
    show Steps p.tables e below (T21.setTop (mkF m 296 #[.val (.int p1), .val (.int p2), .val (.int p3), .val (.int p4), .val (.int p5), .val (.ref b1), .val (.int (Int32.ofNat o)), .val (.int (Int32.ofNat n)), .val (.int 0), .val (.int 0), .val (.int (((p5.toUInt32 >>> ((2 : Int32) &&& 31).toUInt32).toInt32).toUInt32.toUInt16.toUInt32.toInt32)), .val (.int (((p5.toUInt32 >>> ((18 : Int32) &&& 31).toUInt32).toInt32).toUInt32.toUInt16.toUInt32.toInt32)), .val (.ref b6), .val (.ref x12), .val (.int 0), .val (.int 0), .val (.int 1)] [])) _
    refine st22 _ ?_
    show Steps p.tables e below (T22.setTop (mkF m 333 #[.val (.int p1), .val (.int p2), .val (.int p3), .val (.int p4), .val (.int p5), .val (.ref b1), .val (.int (Int32.ofNat o)), .val (.int (Int32.ofNat n)), .val (.int 0), .val (.int 0), .val (.int (((p5.toUInt32 >>> ((2 : Int32) &&& 31).toUInt32).toInt32).toUInt32.toUInt16.toUInt32.toInt32)), .val (.int (((p5.toUInt32 >>> ((18 : Int32) &&& 31).toUInt32).toInt32).toUInt32.toUInt16.toUInt32.toInt32)), .val (.ref b6), .val (.ref x12), .val (.int 0), .val (.int 0), .val (.int 1)] [])) _
    refine st23 _ ?_
    show Steps p.tables e below (T23.setTop (mkF m 370 #[.val (.int p1), .val (.int p2), .val (.int p3), .val (.int p4), .val (.int p5), .val (.ref b1), .val (.int (Int32.ofNat o)), .val (.int (Int32.ofNat n)), .val (.int 0), .val (.int 0), .val (.int (((p5.toUInt32 >>> ((2 : Int32) &&& 31).toUInt32).toInt32).toUInt32.toUInt16.toUInt32.toInt32)), .val (.int (((p5.toUInt32 >>> ((18 : Int32) &&& 31).toUInt32).toInt32).toUInt32.toUInt16.toUInt32.toInt32)), .val (.ref b6), .val (.ref x12), .val (.int 0), .val (.int 0), .val (.int 1)] [])) _
    refine st24 _ ?_
    show Steps p.tables e below (T24.setTop (mkF m 402 #[.val (.int p1), .val (.int p2), .val (.int p3), .val (.int p4), .val (.int p5), .val (.ref b1), .val (.int (Int32.ofNat o)), .val (.int (Int32.ofNat n)), .val (.int 0), .val (.int 0), .val (.int (((p5.toUInt32 >>> ((2 : Int32) &&& 31).toUInt32).toInt32).toUInt32.toUInt16.toUInt32.toInt32)), .val (.int (((p5.toUInt32 >>> ((18 : Int32) &&& 31).toUInt32).toInt32).toUInt32.toUInt16.toUInt32.toInt32)), .val (.ref b6), .val (.ref x12), .val (.int 0), .val (.int 0), .val (.int 1)] [])) _
    refine XS.iload X24.here hx rfl (hb hby at_402) rfl ?_
    show Steps p.tables e below (T24.setTop (mkF m 404 #[.val (.int p1), .val (.int p2), .val (.int p3), .val (.int p4), .val (.int p5), .val (.ref b1), .val (.int (Int32.ofNat o)), .val (.int (Int32.ofNat n)), .val (.int 0), .val (.int 0), .val (.int (((p5.toUInt32 >>> ((2 : Int32) &&& 31).toUInt32).toInt32).toUInt32.toUInt16.toUInt32.toInt32)), .val (.int (((p5.toUInt32 >>> ((18 : Int32) &&& 31).toUInt32).toInt32).toUInt32.toUInt16.toUInt32.toInt32)), .val (.ref b6), .val (.ref x12), .val (.int 0), .val (.int 0), .val (.int 1)] [(.int 1)])) _
    exact retN X24 hx (t := .boolean) Bd.returns (by simp) (hb hby at_404) hr
  · show Q0 Z  h0 n0 _ T24.heap _
    rw [e24b]
    exact ⟨rfl, N24⟩
set_option maxRecDepth 65536 in
set_option maxHeartbeats 40000000 in
theorem rm0_01 (l : Launch) (Z : State) (a0 : Array Value) (hw : ∀ d ∈ tables_1, d.before a0 Z = true) (ws : List Jvm.Cond) (G1 : Int32) (G3 : Value) (G4 : Value) (p1 : Int32) (p2 : Int32) (p3 : Int32) (p4 : Int32) (p5 : Int32) (o : Nat) (n : Nat) (h0 : Heap) (n0 : Nat) (Z0 : n0 ≤ h0.size) (EN : own_env Z G1 G3 G4) (X00 : Old Z n0 h0) (hr1 : ((p3 &&& (2147483647 : Int32)) % (5 : Int32)) = (Int32.ofNat o)) (ho5 : o < 5) (hr2 : ((p4 &&& (2147483647 : Int32)) % (Int32.ofNat (5 - o))) = (Int32.ofNat n)) (hn5 : n < 5 - o) (hb1 : (p5 &&& (1 : Int32)) = (0 : Int32)) (hb2 : ¬ ((p5 &&& (2 : Int32)) = (0 : Int32))) :
    MetFree l x (head1 (Jvm.Cond.code x code maxLocals ret :: ws) room_1) (fun a_ U_ => a_ = #[(.int p1), (.int p2), (.int p3), (.int p4), (.int p5)] ∧ Z.Warmed39 U_.vm ∧ U_.heap = h0) (fun _ _ _ _ _ => True) (fun _ U_ o_ U1_ => ∃ v_ L_, o_ = .returned v_ ∧ Q0 Z  h0 n0 v_ U1_.heap L_ ∧ FrameEnd U_ o_ U1_ L_ 24 256) := by
  refine MetFree.of_bodySF (plainFor_of_name pn_0) hisR ?_
  intro p e s m args below meth c s₁ Bd hml0 hP hK
  obtain ⟨rfl, hZ, hh⟩ := hP
  have hx := Bd.exec
  have hby := Bd.bytes
  have hml : c.maxLocals = 17 := hml0
  have hown : s.vm.findClass "com/example/hebelwerk/hebelwerk/core/TextWritePinLaw" = some m.cls := findClass_of_methodNamed Bd.named
  have hnm := (name_of_methodNamed Bd.named Bd.method).1
  have X0 : Stand p l e room_1 s m #[(.int p1), (.int p2), (.int p3), (.int p4), (.int p5)] below meth c s₁ [] 0 0 := Stand.of_body Bd
  have e0 : s₁.heap = h0 := by rw [← hh, Bd.state]; rfl
  have N0 := Fr.nil n0
  have pre0 : ∀ tt, Steps p.tables e below (s₁.setTop (mkF m 0 #[.val (.int p1), .val (.int p2), .val (.int p3), .val (.int p4), .val (.int p5), .unset, .unset, .unset, .unset, .unset, .unset, .unset, .unset, .unset, .unset, .unset, .unset] [])) tt → Steps p.tables e below (s₁.setTop (entryFrame m #[(.int p1), (.int p2), (.int p3), (.int p4), (.int p5)] maxLocals)) tt := fun tt kk => castTop (ef_0_rrrrr m p1 p2 p3 p4 p5) kk
  have EN0 := EN
  obtain ⟨O2, P5, O4, rG3, O5, rG4, O6, O7, O8⟩ := EN
  obtain ⟨T1, h1, k1, X1, e1, E1, A1, st1⟩ := newP X0 hx hZ (hw _ (tk 0 rfl)) e0 (g := (mkF m 1 #[.val (.int p1), .val (.int p2), .val (.int p3), .val (.int p4), .val (.int p5), .unset, .unset, .unset, .unset, .unset, .unset, .unset, .unset, .unset, .unset, .unset, .unset] [(.int 4)])) rfl (hb hby at_1) rfl (by decide) (cap := 4) (by decide) (by decide) (by decide) (by decide)
  obtain ⟨b1, g1⟩ : ∃ z, z = h0.size := ⟨_, rfl⟩
  rw [← g1] at A1 st1
  have g_b1 : n0 ≤ b1 := Nat.le_trans Z0 (Nat.le_of_eq g1.symm)
  have sz_b1 : h0.size ≤ b1 := Nat.le_trans (Nat.le_refl _) (Nat.le_of_eq g1.symm)
  have V1 : Arv Z h1 b1 k1 .char (4 : Int32) [(.int 0), (.int 0), (.int 0), (.int 0)] (.int 0) := (Arv.new A1 (by decide)).pad (pad_rep [] (.int 0) 4)
  obtain ⟨c2, Ar2, q2, S2, M2, H2, Gz2⟩ := id V1
  obtain ⟨T2, h2, X2, e2, W2, st2⟩ := stC X1 hx hZ e1 Ar2 (j := (0 : Int32)) (inb_of S2 ⟨by decide, by decide⟩) (g := (mkF m 10 #[.val (.int p1), .val (.int p2), .val (.int p3), .val (.int p4), .val (.int p5), .val (.ref b1), .unset, .unset, .unset, .unset, .unset, .unset, .unset, .unset, .unset, .unset, .unset] [(.int (p1.toUInt32.toUInt16.toUInt32.toInt32)), (.int 0), (.ref b1)])) rfl rfl (hb hby at_10)
  have V2 : Arv Z h2 b1 k1 .char (4 : Int32) [(.int (nar .char (p1.toUInt32.toUInt16.toUInt32.toInt32))), (.int 0), (.int 0), (.int 0)] (.int 0) := Arv.set Ar2 q2 S2 M2 H2 Gz2 (fits_nar_char _) W2 0 rfl (Nat.le_of_ble_eq_true rfl)
  have N2 := Fr.snoc X2 N0 g_b1
  obtain ⟨c3, Ar3, q3, S3, M3, H3, Gz3⟩ := id V2
  obtain ⟨T3, h3, X3, e3, W3, st3⟩ := stC X2 hx hZ e2 Ar3 (j := (1 : Int32)) (inb_of S3 ⟨by decide, by decide⟩) (g := (mkF m 19 #[.val (.int p1), .val (.int p2), .val (.int p3), .val (.int p4), .val (.int p5), .val (.ref b1), .unset, .unset, .unset, .unset, .unset, .unset, .unset, .unset, .unset, .unset, .unset] [(.int (((p1.toUInt32 >>> ((16 : Int32) &&& 31).toUInt32).toInt32).toUInt32.toUInt16.toUInt32.toInt32)), (.int 1), (.ref b1)])) rfl rfl (hb hby at_19)
  have V3 : Arv Z h3 b1 k1 .char (4 : Int32) [(.int (nar .char (p1.toUInt32.toUInt16.toUInt32.toInt32))), (.int (nar .char (((p1.toUInt32 >>> ((16 : Int32) &&& 31).toUInt32).toInt32).toUInt32.toUInt16.toUInt32.toInt32))), (.int 0), (.int 0)] (.int 0) := Arv.set Ar3 q3 S3 M3 H3 Gz3 (fits_nar_char _) W3 1 rfl (Nat.le_of_ble_eq_true rfl)
  have N3 := Fr.snoc X3 N2 g_b1
  obtain ⟨c4, Ar4, q4, S4, M4, H4, Gz4⟩ := id V3
  obtain ⟨T4, h4, X4, e4, W4, st4⟩ := stC X3 hx hZ e3 Ar4 (j := (2 : Int32)) (inb_of S4 ⟨by decide, by decide⟩) (g := (mkF m 25 #[.val (.int p1), .val (.int p2), .val (.int p3), .val (.int p4), .val (.int p5), .val (.ref b1), .unset, .unset, .unset, .unset, .unset, .unset, .unset, .unset, .unset, .unset, .unset] [(.int (p2.toUInt32.toUInt16.toUInt32.toInt32)), (.int 2), (.ref b1)])) rfl rfl (hb hby at_25)
  have V4 : Arv Z h4 b1 k1 .char (4 : Int32) [(.int (nar .char (p1.toUInt32.toUInt16.toUInt32.toInt32))), (.int (nar .char (((p1.toUInt32 >>> ((16 : Int32) &&& 31).toUInt32).toInt32).toUInt32.toUInt16.toUInt32.toInt32))), (.int (nar .char (p2.toUInt32.toUInt16.toUInt32.toInt32))), (.int 0)] (.int 0) := Arv.set Ar4 q4 S4 M4 H4 Gz4 (fits_nar_char _) W4 2 rfl (Nat.le_of_ble_eq_true rfl)
  have N4 := Fr.snoc X4 N3 g_b1
  obtain ⟨c5, Ar5, q5, S5, M5, H5, Gz5⟩ := id V4
  obtain ⟨T5, h5, X5, e5, W5, st5⟩ := stC X4 hx hZ e4 Ar5 (j := (3 : Int32)) (inb_of S5 ⟨by decide, by decide⟩) (g := (mkF m 34 #[.val (.int p1), .val (.int p2), .val (.int p3), .val (.int p4), .val (.int p5), .val (.ref b1), .unset, .unset, .unset, .unset, .unset, .unset, .unset, .unset, .unset, .unset, .unset] [(.int (((p2.toUInt32 >>> ((16 : Int32) &&& 31).toUInt32).toInt32).toUInt32.toUInt16.toUInt32.toInt32)), (.int 3), (.ref b1)])) rfl rfl (hb hby at_34)
  have V5 : Arv Z h5 b1 k1 .char (4 : Int32) [(.int (nar .char (p1.toUInt32.toUInt16.toUInt32.toInt32))), (.int (nar .char (((p1.toUInt32 >>> ((16 : Int32) &&& 31).toUInt32).toInt32).toUInt32.toUInt16.toUInt32.toInt32))), (.int (nar .char (p2.toUInt32.toUInt16.toUInt32.toInt32))), (.int (nar .char (((p2.toUInt32 >>> ((16 : Int32) &&& 31).toUInt32).toInt32).toUInt32.toUInt16.toUInt32.toInt32)))] (.int 0) := Arv.set Ar5 q5 S5 M5 H5 Gz5 (fits_nar_char _) W5 3 rfl (Nat.le_of_ble_eq_true rfl)
  have N5 := Fr.snoc X5 N4 g_b1
  obtain ⟨as, has⟩ : ∃ z : List Int32, z = [(nar .char (p1.toUInt32.toUInt16.toUInt32.toInt32)), (nar .char (((p1.toUInt32 >>> ((16 : Int32) &&& 31).toUInt32).toInt32).toUInt32.toUInt16.toUInt32.toInt32)), (nar .char (p2.toUInt32.toUInt16.toUInt32.toInt32)), (nar .char (((p2.toUInt32 >>> ((16 : Int32) &&& 31).toUInt32).toInt32).toUInt32.toUInt16.toUInt32.toInt32))] := ⟨_, rfl⟩
  have Va : Arv Z h5 b1 k1 .char (Int32.ofNat as.length) (as.map Value.int) (.int 0) := by subst has; exact V5
  have hal : as.length = 4 := by subst has; rfl
  have hch : ∀ c ∈ as, own_ch c := by
    subst has
    intro c hc
    simp only [List.mem_cons, List.not_mem_nil, or_false] at hc
    rcases hc with rfl | rfl | rfl | rfl <;> exact own_narch _
  obtain ⟨T6, h6, X6, e6, E6, A6, D6, -, st6⟩ := newO X5 hx hZ hown (hw _ (tk 2 rfl)) (hw _ (tk 3 rfl)) (hw _ (tk 4 rfl)) e5 (g := (mkF m 97 #[.val (.int p1), .val (.int p2), .val (.int p3), .val (.int p4), .val (.int p5), .val (.ref b1), .val (.int (Int32.ofNat o)), .val (.int (Int32.ofNat n)), .val (.int 0), .val (.int 1), .val (.int (((p5.toUInt32 >>> ((2 : Int32) &&& 31).toUInt32).toInt32).toUInt32.toUInt16.toUInt32.toInt32)), .val (.int (((p5.toUInt32 >>> ((18 : Int32) &&& 31).toUInt32).toInt32).toUInt32.toUInt16.toUInt32.toInt32)), .unset, .unset, .unset, .unset, .unset] [])) rfl (hb hby at_97) (by decide) (by decide)
  obtain ⟨b6, g6⟩ : ∃ z, z = h5.size := ⟨_, rfl⟩
  rw [← g6] at A6 D6 st6
  have g_b6 : n0 ≤ b6 := Nat.le_trans (Nat.le_trans Z0 (Nat.le_trans (Nat.le_trans (Nat.le_trans (Nat.le_trans E1.1 (Keep.of_wr W2).1) (Keep.of_wr W3).1) (Keep.of_wr W4).1) (Keep.of_wr W5).1)) (Nat.le_of_eq g6.symm)
  have sz_b6 : h0.size ≤ b6 := Nat.le_trans (Nat.le_trans (Nat.le_trans (Nat.le_trans (Nat.le_trans E1.1 (Keep.of_wr W2).1) (Keep.of_wr W3).1) (Keep.of_wr W4).1) (Keep.of_wr W5).1) (Nat.le_of_eq g6.symm)
  have F6_lock : Fld Z h6 b6 "java/io/Writer" "lock" "Ljava/lang/Object;" .null := D6 (Or.inl (hw _ (tk 17 rfl))) (ty := (.object "java/lang/Object")) (by decide)
  have F6_text : Fld Z h6 b6 "com/example/hebelwerk/hebelwerk/core/Text" "text" "Ljava/lang/StringBuilder;" .null := D6 (Or.inr (hw _ (tk 39 rfl))) (ty := (.object "java/lang/StringBuilder")) (by decide)
  have f8 := ((((((X00.ext E1).wr W2 g_b1).wr W3 g_b1).wr W4 g_b1).wr W5 g_b1).ext E6)
  obtain ⟨_, _, ⟨T7, L7, k7, n7⟩, -, X7, ⟨Lc7, hQ7, l7, y7, z7⟩, st7⟩ := X6.specialBack hx (y := (⟨"com/example/hebelwerk/hebelwerk/core/Text", "<init>", "()V"⟩ : MethodName)) rfl hown (mvT hZ (hw _ (tk 5 rfl))) (mvT hZ (hw _ (tk 6 rfl))) (mvT hZ (hw _ (tk 7 rfl))) (by decide) (backOf (W := 1) (rmTXI l Z a0 hw [] G1 G3 G4 b6 h6 n0 (Nat.le_trans Z0 (Nat.le_trans (Nat.le_trans (Nat.le_trans (Nat.le_trans (Nat.le_trans E1.1 (Keep.of_wr W2).1) (Keep.of_wr W3).1) (Keep.of_wr W4).1) (Keep.of_wr W5).1) E6.1)) EN0 f8 A6 F6_lock F6_text g_b6) hZ (hw _ (tk 7 rfl)) (hw _ (tk 4 rfl)) (by decide) (by decide)) (g := (mkF m 101 #[.val (.int p1), .val (.int p2), .val (.int p3), .val (.int p4), .val (.int p5), .val (.ref b1), .val (.int (Int32.ofNat o)), .val (.int (Int32.ofNat n)), .val (.int 0), .val (.int 1), .val (.int (((p5.toUInt32 >>> ((2 : Int32) &&& 31).toUInt32).toInt32).toUInt32.toUInt16.toUInt32.toInt32)), .val (.int (((p5.toUInt32 >>> ((18 : Int32) &&& 31).toUInt32).toInt32).toUInt32.toUInt16.toUInt32.toInt32)), .unset, .unset, .unset, .unset, .unset] [(.ref b6), (.ref b6)])) rfl (by rw [hml]; rfl) (Steps.refl _) (a := b6) (argsL := []) (rest := [(.ref b6)]) (lenOf pd___V rfl) rfl (by show 2 * 0 + _ ≤ _; exact Nat.le_of_eq rfl) (hb hby at_101) (fun _ _ => ⟨rfl, e6, (by decide : 2 + 2 ≤ _), (by decide : 7 + 20 ≤ _)⟩)
  dsimp only [Pt.U, Pt.locs, Pt.cells, Pt.slots] at X7 l7 y7 z7 st7 hQ7
  subst l7 y7 z7
  obtain ⟨a7, t7, k7q, rfl, Nq7, ga7, gt7, sa7, sq7, Kq7, E7q, F7q, B7⟩ := hQ7
  have N7 := Fr.app N5 Nq7
  have f10 := (f8.keep Kq7 (allS g_b6 all0))
  have f11 := ((Va.ext E6).keep Kq7 (ninS (Nat.ne_of_lt (Nat.lt_of_lt_of_le (Nat.lt_of_lt_of_le V1.lt (Nat.le_trans (Nat.le_trans (Nat.le_trans (Keep.of_wr W2).1 (Keep.of_wr W3).1) (Keep.of_wr W4).1) (Keep.of_wr W5).1)) (Nat.le_of_eq g6.symm))) nin0))
  obtain ⟨cq9, kq9, q9a, q9b, q9c⟩ := isOf hZ rfl E7q
  obtain ⟨_, _, ⟨T9, L9, k9, n9⟩, -, X9, ⟨Lc9, hQ9, l9, y9, z9⟩, st9⟩ := X7.virtualBack hx (y := (⟨"com/example/hebelwerk/hebelwerk/core/Text", "write", "([CII)V"⟩ : MethodName)) (z := (⟨"com/example/hebelwerk/hebelwerk/core/Text", "write", "([CII)V"⟩ : MethodName)) hown (mvT hZ (hw _ (tk 40 rfl))) (mvT hZ (hw _ (tk 41 rfl))) (notFace_of_selects (args := #[]) (mvT hZ (hw _ (tk 43 rfl)))) (mvT hZ (hw _ (tk 43 rfl))) (mvT hZ (hw _ (tk 42 rfl))) (by decide) (backOf (W := 0) (rmTW l Z a0 hw [] G1 G3 G4 b6 a7 t7 k7q [] b1 k1 as o (o + n) n T7.heap n0 (Nat.le_trans Z0 (Nat.le_trans (Nat.le_trans (Nat.le_trans (Nat.le_trans (Nat.le_trans (Nat.le_trans E1.1 (Keep.of_wr W2).1) (Keep.of_wr W3).1) (Keep.of_wr W4).1) (Keep.of_wr W5).1) E6.1) Kq7.1)) EN0 f10 B7 ga7 gt7 f11 (Nat.ne_of_lt (Nat.lt_of_lt_of_le (Nat.lt_of_lt_of_le V1.lt (Nat.le_trans (Nat.le_trans (Nat.le_trans (Nat.le_trans (Keep.of_wr W2).1 (Keep.of_wr W3).1) (Keep.of_wr W4).1) (Keep.of_wr W5).1) E6.1)) sq7)) (Nat.ne_of_lt (Nat.lt_of_lt_of_le (Nat.lt_of_lt_of_le V1.lt (Nat.le_trans (Nat.le_trans (Nat.le_trans (Nat.le_trans (Keep.of_wr W2).1 (Keep.of_wr W3).1) (Keep.of_wr W4).1) (Keep.of_wr W5).1) E6.1)) sa7)) (by simp only [List.length_nil]; omega) rfl (by omega) (by omega) hch E7q F7q) hZ (hw _ (tk 44 rfl)) (hw _ (tk 4 rfl)) (by decide) (by decide)) q9a q9c (g := (mkF m 128 #[.val (.int p1), .val (.int p2), .val (.int p3), .val (.int p4), .val (.int p5), .val (.ref b1), .val (.int (Int32.ofNat o)), .val (.int (Int32.ofNat n)), .val (.int 0), .val (.int 1), .val (.int (((p5.toUInt32 >>> ((2 : Int32) &&& 31).toUInt32).toInt32).toUInt32.toUInt16.toUInt32.toInt32)), .val (.int (((p5.toUInt32 >>> ((18 : Int32) &&& 31).toUInt32).toInt32).toUInt32.toUInt16.toUInt32.toInt32)), .val (.ref b6), .unset, .unset, .unset, .unset] [(.int (Int32.ofNat n)), (.int (Int32.ofNat o)), (.ref b1), (.ref b6)])) rfl (by rw [hml]; rfl) (Steps.refl _) (argsL := [(.ref b1), (.int (Int32.ofNat o)), (.int (Int32.ofNat n))]) (rest := []) (lenOf pd___CII_V rfl) rfl (by show 2 * 0 + _ ≤ _; exact Nat.le_of_eq rfl) (hb hby at_128) (fun _ _ => ⟨rfl, rfl, (by decide : 4 + 1 ≤ _), (by decide : 27 + 32 ≤ _)⟩)
  dsimp only [Pt.U, Pt.locs, Pt.cells, Pt.slots] at X9 l9 y9 z9 st9 hQ9
  subst l9 y9 z9
  obtain ⟨rfl, Nq9, Kq9, t9, k9q, gt9, or9, B9⟩ := hQ9
  have N9 := Fr.app N7 Nq9
  have lb9 : h6.size ≤ t9 := or9.elim (fun q => by rw [q]; exact sq7) (fun q => Nat.le_trans Kq7.1 q)
  have f13 := (f10.keep Kq9 (allS ga7 (allS gt7 all0)))
  have f14 := (E7q.keep Kq9)
  have f15 := (F7q.keep Kq9 (ninS (Nat.ne_of_lt (Nat.lt_of_lt_of_le A6.lt sa7)) (ninS (Nat.ne_of_lt (Nat.lt_of_lt_of_le A6.lt sq7)) nin0)))
  obtain ⟨cq12, kq12, q12a, q12b, q12c⟩ := isOf hZ rfl f14
  obtain ⟨_, _, ⟨T12, L12, k12, n12⟩, -, X12, ⟨Lc12, hQ12, l12, y12, z12⟩, st12⟩ := X9.virtualBack hx (y := (⟨"com/example/hebelwerk/hebelwerk/core/Text", "write", "(I)V"⟩ : MethodName)) (z := (⟨"com/example/hebelwerk/hebelwerk/core/Text", "write", "(I)V"⟩ : MethodName)) hown (mvT hZ (hw _ (tk 169 rfl))) (mvT hZ (hw _ (tk 170 rfl))) (notFace_of_selects (args := #[]) (mvT hZ (hw _ (tk 172 rfl)))) (mvT hZ (hw _ (tk 172 rfl))) (mvT hZ (hw _ (tk 171 rfl))) (by decide) (backOf (W := 0) (rmTI l Z a0 hw [] G1 G3 G4 b6 ((p5.toUInt32 >>> ((18 : Int32) &&& 31).toUInt32).toInt32) a7 t9 k9q ([] ++ (as.drop o).take n) T9.heap n0 (Nat.le_trans Z0 (Nat.le_trans (Nat.le_trans (Nat.le_trans (Nat.le_trans (Nat.le_trans (Nat.le_trans (Nat.le_trans E1.1 (Keep.of_wr W2).1) (Keep.of_wr W3).1) (Keep.of_wr W4).1) (Keep.of_wr W5).1) E6.1) Kq7.1) Kq9.1)) EN0 f13 B9 ga7 gt9 (by have q := (own_cs [] as [] o n (by omega) ([] ++ (as.drop o).take n) (List.append_nil _).symm).1; simp only [List.length_append, List.length_nil, List.length_cons] at q ⊢; omega) f14 f15) hZ (hw _ (tk 173 rfl)) (hw _ (tk 4 rfl)) (by decide) (by decide)) q12a q12c (g := (mkF m 143 #[.val (.int p1), .val (.int p2), .val (.int p3), .val (.int p4), .val (.int p5), .val (.ref b1), .val (.int (Int32.ofNat o)), .val (.int (Int32.ofNat n)), .val (.int 0), .val (.int 1), .val (.int (((p5.toUInt32 >>> ((2 : Int32) &&& 31).toUInt32).toInt32).toUInt32.toUInt16.toUInt32.toInt32)), .val (.int (((p5.toUInt32 >>> ((18 : Int32) &&& 31).toUInt32).toInt32).toUInt32.toUInt16.toUInt32.toInt32)), .val (.ref b6), .unset, .unset, .unset, .unset] [(.int ((p5.toUInt32 >>> ((18 : Int32) &&& 31).toUInt32).toInt32)), (.ref b6)])) rfl (by rw [hml]; rfl) (Steps.refl _) (argsL := [(.int ((p5.toUInt32 >>> ((18 : Int32) &&& 31).toUInt32).toInt32))]) (rest := []) (lenOf pd__I_V rfl) rfl (by show 2 * 0 + _ ≤ _; exact Nat.le_of_eq rfl) (hb hby at_143) (fun _ _ => ⟨rfl, rfl, (by decide : 5 + 1 ≤ _), (by decide : 59 + 32 ≤ _)⟩)
  dsimp only [Pt.U, Pt.locs, Pt.cells, Pt.slots] at X12 l12 y12 z12 st12 hQ12
  subst l12 y12 z12
  obtain ⟨rfl, Nq12, Kq12, t12, k12q, gt12, or12, B12⟩ := hQ12
  have N12 := Fr.app N9 Nq12
  have lb12 : h6.size ≤ t12 := or12.elim (fun q => by rw [q]; exact lb9) (fun q => Nat.le_trans (Nat.le_trans Kq7.1 Kq9.1) q)
  have f17 := (f13.keep Kq12 (allS ga7 (allS gt9 all0)))
  have f18 := (f14.keep Kq12)
  have f19 := (f15.keep Kq12 (ninS (Nat.ne_of_lt (Nat.lt_of_lt_of_le A6.lt sa7)) (ninS (Nat.ne_of_lt (Nat.lt_of_lt_of_le A6.lt lb9)) nin0)))
  obtain ⟨cq16, kq16, q16a, q16b, q16c⟩ := isOf hZ rfl f18
  obtain ⟨_, _, ⟨T16, L16, k16, n16⟩, -, X16, ⟨Lc16, hQ16, l16, y16, z16⟩, st16⟩ := X12.virtualBack hx (y := (⟨"com/example/hebelwerk/hebelwerk/core/Text", "toString", "()Ljava/lang/String;"⟩ : MethodName)) (z := (⟨"com/example/hebelwerk/hebelwerk/core/Text", "toString", "()Ljava/lang/String;"⟩ : MethodName)) hown (mvT hZ (hw _ (tk 82 rfl))) (mvT hZ (hw _ (tk 83 rfl))) (notFace_of_selects (args := #[]) (mvT hZ (hw _ (tk 85 rfl)))) (mvT hZ (hw _ (tk 85 rfl))) (mvT hZ (hw _ (tk 84 rfl))) (by decide) (backOf (W := 0) (rmTTS l Z a0 hw [] G1 G3 G4 b6 a7 t12 k12q (([] ++ (as.drop o).take n) ++ [(((p5.toUInt32 >>> ((18 : Int32) &&& 31).toUInt32).toInt32).toUInt32.toUInt16.toUInt32.toInt32)]) T12.heap n0 (Nat.le_trans Z0 (Nat.le_trans (Nat.le_trans (Nat.le_trans (Nat.le_trans (Nat.le_trans (Nat.le_trans (Nat.le_trans (Nat.le_trans E1.1 (Keep.of_wr W2).1) (Keep.of_wr W3).1) (Keep.of_wr W4).1) (Keep.of_wr W5).1) E6.1) Kq7.1) Kq9.1) Kq12.1)) EN0 f17 B12 (by have q := (own_cs [] as [(((p5.toUInt32 >>> ((18 : Int32) &&& 31).toUInt32).toInt32).toUInt32.toUInt16.toUInt32.toInt32)] o n (by omega) (([] ++ (as.drop o).take n) ++ [(((p5.toUInt32 >>> ((18 : Int32) &&& 31).toUInt32).toInt32).toUInt32.toUInt16.toUInt32.toInt32)]) rfl).1; simp only [List.length_append, List.length_nil, List.length_cons] at q ⊢; omega) ga7 gt12 f18 f19) hZ (hw _ (tk 86 rfl)) (hw _ (tk 4 rfl)) (by decide) (by decide)) q16a q16c (g := (mkF m 148 #[.val (.int p1), .val (.int p2), .val (.int p3), .val (.int p4), .val (.int p5), .val (.ref b1), .val (.int (Int32.ofNat o)), .val (.int (Int32.ofNat n)), .val (.int 0), .val (.int 1), .val (.int (((p5.toUInt32 >>> ((2 : Int32) &&& 31).toUInt32).toInt32).toUInt32.toUInt16.toUInt32.toInt32)), .val (.int (((p5.toUInt32 >>> ((18 : Int32) &&& 31).toUInt32).toInt32).toUInt32.toUInt16.toUInt32.toInt32)), .val (.ref b6), .unset, .unset, .unset, .unset] [(.ref b6)])) rfl (by rw [hml]; rfl) (Steps.refl _) (argsL := []) (rest := []) (lenOf pd___Ljava_lang_String_ rfl) rfl (by show 2 * 0 + _ ≤ _; exact Nat.le_of_eq rfl) (hb hby at_148) (fun _ _ => ⟨rfl, rfl, (by decide : 6 + 2 ≤ _), (by decide : 91 + 36 ≤ _)⟩)
  dsimp only [Pt.U, Pt.locs, Pt.cells, Pt.slots] at X16 l16 y16 z16 st16 hQ16
  subst l16 y16 z16
  obtain ⟨x16, rfl, Nq16, sq16, Kq16, S16⟩ := hQ16
  have N16 := Fr.app N12 Nq16
  have E16q := S16.choose_spec.choose_spec.1
  obtain ⟨CS, hCS⟩ : ∃ z : List Int32, z = (([] ++ (as.drop o).take n) ++ [(((p5.toUInt32 >>> ((18 : Int32) &&& 31).toUInt32).toInt32).toUInt32.toUInt16.toUInt32.toInt32)]) := ⟨_, rfl⟩
  rw [← hCS] at S16
  obtain ⟨hL, hk, hpre, hsuf⟩ := own_cs [] as [(((p5.toUInt32 >>> ((18 : Int32) &&& 31).toUInt32).toInt32).toUInt32.toUInt16.toUInt32.toInt32)] o n (by omega) CS hCS
  have hCc : ∀ c ∈ CS, own_ch c := by rw [hCS]; exact own_cch own_nil hch (own_one (own_narch _))
  have hL' : CS.length = 0 + n + 1 := hL
  have f21 := (f17.keep Kq16 all0)
  obtain ⟨cq20, kq20, q20a, q20b, q20c⟩ := isOf hZ rfl E16q
  obtain ⟨_, _, ⟨T20, L20, k20, n20⟩, -, X20, ⟨Lc20, hQ20, l20, y20, z20⟩, st20⟩ := X16.virtualBack hx (y := (⟨"java/lang/String", "length", "()I"⟩ : MethodName)) (z := (⟨"java/lang/String", "length", "()I"⟩ : MethodName)) hown (mvT hZ (hw _ (tk 138 rfl))) (mvT hZ (hw _ (tk 139 rfl))) (notFace_of_selects (args := #[]) (mvT hZ (hw _ (tk 141 rfl)))) (mvT hZ (hw _ (tk 141 rfl))) (mvT hZ (hw _ (tk 140 rfl))) (by decide) (backOf (W := 0) (rmLE l Z a0 hw [] G1 G3 G4 x16 CS T16.heap n0 (Nat.le_trans Z0 (Nat.le_trans (Nat.le_trans (Nat.le_trans (Nat.le_trans (Nat.le_trans (Nat.le_trans (Nat.le_trans (Nat.le_trans (Nat.le_trans E1.1 (Keep.of_wr W2).1) (Keep.of_wr W3).1) (Keep.of_wr W4).1) (Keep.of_wr W5).1) E6.1) Kq7.1) Kq9.1) Kq12.1) Kq16.1)) EN0 f21 S16 (by omega)) hZ (hw _ (tk 142 rfl)) (hw _ (tk 32 rfl)) (by decide) (by decide)) q20a q20c (g := (mkF m 179 #[.val (.int p1), .val (.int p2), .val (.int p3), .val (.int p4), .val (.int p5), .val (.ref b1), .val (.int (Int32.ofNat o)), .val (.int (Int32.ofNat n)), .val (.int 0), .val (.int 1), .val (.int (((p5.toUInt32 >>> ((2 : Int32) &&& 31).toUInt32).toInt32).toUInt32.toUInt16.toUInt32.toInt32)), .val (.int (((p5.toUInt32 >>> ((18 : Int32) &&& 31).toUInt32).toInt32).toUInt32.toUInt16.toUInt32.toInt32)), .val (.ref b6), .val (.ref x16), .val (.int 0), .val (.int 1), .unset] [(.ref x16)])) rfl (by rw [hml]; rfl) (Steps.refl _) (argsL := []) (rest := []) (lenOf pd___I rfl) rfl (by show 2 * 0 + _ ≤ _; exact Nat.le_of_eq rfl) (hb hby at_179) (fun _ _ => ⟨rfl, rfl, (by decide : 8 + 0 ≤ _), (by decide : 127 + 0 ≤ _)⟩)
  dsimp only [Pt.U, Pt.locs, Pt.cells, Pt.slots] at X20 l20 y20 z20 st20 hQ20
  subst l20 y20 z20
  obtain ⟨rfl, Nq20, eq20⟩ := hQ20
  have N20 := Fr.app N16 Nq20
  have Xm : Stand p l e room_1 s m _ below meth c T20 _ 9 159 := { X20 with same := X20.same.mono (by decide) (by decide) }
  have f22 := (((f11.keep Kq9 (ninS (Nat.ne_of_lt (Nat.lt_of_lt_of_le (Nat.lt_of_lt_of_le V1.lt (Nat.le_trans (Nat.le_trans (Nat.le_trans (Nat.le_trans (Keep.of_wr W2).1 (Keep.of_wr W3).1) (Keep.of_wr W4).1) (Keep.of_wr W5).1) E6.1)) sa7)) (ninS (Nat.ne_of_lt (Nat.lt_of_lt_of_le (Nat.lt_of_lt_of_le V1.lt (Nat.le_trans (Nat.le_trans (Nat.le_trans (Nat.le_trans (Keep.of_wr W2).1 (Keep.of_wr W3).1) (Keep.of_wr W4).1) (Keep.of_wr W5).1) E6.1)) sq7)) nin0))).keep Kq12 (ninS (Nat.ne_of_lt (Nat.lt_of_lt_of_le (Nat.lt_of_lt_of_le V1.lt (Nat.le_trans (Nat.le_trans (Nat.le_trans (Nat.le_trans (Keep.of_wr W2).1 (Keep.of_wr W3).1) (Keep.of_wr W4).1) (Keep.of_wr W5).1) E6.1)) sa7)) (ninS (Nat.ne_of_lt (Nat.lt_of_lt_of_le (Nat.lt_of_lt_of_le V1.lt (Nat.le_trans (Nat.le_trans (Nat.le_trans (Nat.le_trans (Keep.of_wr W2).1 (Keep.of_wr W3).1) (Keep.of_wr W4).1) (Keep.of_wr W5).1) E6.1)) lb9)) nin0))).keep Kq16 nin0)
  obtain ⟨T23, h23, L23, X23, e23, N23, Z23, hh23, st23⟩ := bA0 G1 G3 G4 p1 p2 p3 p4 p5 (((p5.toUInt32 >>> ((2 : Int32) &&& 31).toUInt32).toInt32).toUInt32.toUInt16.toUInt32.toInt32) (((p5.toUInt32 >>> ((18 : Int32) &&& 31).toUInt32).toInt32).toUInt32.toUInt16.toUInt32.toInt32) b1 b6 x16 k1 as o n CS 0 (1 : Int32) T16.heap n0 Xm hx hZ hw hby hml hown eq20 N20 (Nat.le_trans Z0 (Nat.le_trans (Nat.le_trans (Nat.le_trans (Nat.le_trans (Nat.le_trans (Nat.le_trans (Nat.le_trans (Nat.le_trans (Nat.le_trans E1.1 (Keep.of_wr W2).1) (Keep.of_wr W3).1) (Keep.of_wr W4).1) (Keep.of_wr W5).1) E6.1) Kq7.1) Kq9.1) Kq12.1) Kq16.1)) EN0 f21 S16 (by omega) hCc f22 (by omega) (by omega)
  have e23b := e23.trans hh23
  obtain ⟨T24, h24, L24, X24, e24, N24, Z24, hh24, st24⟩ := (if hkk : 0 < n then bK0y G1 G3 G4 p1 p2 p3 p4 p5 (((p5.toUInt32 >>> ((2 : Int32) &&& 31).toUInt32).toInt32).toUInt32.toUInt16.toUInt32.toInt32) (((p5.toUInt32 >>> ((18 : Int32) &&& 31).toUInt32).toInt32).toUInt32.toUInt16.toUInt32.toInt32) b1 b6 x16 k1 as o n CS 0 (1 : Int32) T16.heap n0 X23 hx hZ hw hby hml hown e23b N23 (Nat.le_trans Z0 (Nat.le_trans (Nat.le_trans (Nat.le_trans (Nat.le_trans (Nat.le_trans (Nat.le_trans (Nat.le_trans (Nat.le_trans (Nat.le_trans E1.1 (Keep.of_wr W2).1) (Keep.of_wr W3).1) (Keep.of_wr W4).1) (Keep.of_wr W5).1) E6.1) Kq7.1) Kq9.1) Kq12.1) Kq16.1)) EN0 f21 S16 (by omega) hCc f22 (by omega) (by omega) hkk (hk 0 hkk) (by omega) else bK0n G1 G3 G4 p1 p2 p3 p4 p5 (((p5.toUInt32 >>> ((2 : Int32) &&& 31).toUInt32).toInt32).toUInt32.toUInt16.toUInt32.toInt32) (((p5.toUInt32 >>> ((18 : Int32) &&& 31).toUInt32).toInt32).toUInt32.toUInt16.toUInt32.toInt32) b1 b6 x16 k1 as o n CS 0 (1 : Int32) T16.heap n0 X23 hx hZ hw hby hml hown e23b N23 (Nat.le_trans Z0 (Nat.le_trans (Nat.le_trans (Nat.le_trans (Nat.le_trans (Nat.le_trans (Nat.le_trans (Nat.le_trans (Nat.le_trans (Nat.le_trans E1.1 (Keep.of_wr W2).1) (Keep.of_wr W3).1) (Keep.of_wr W4).1) (Keep.of_wr W5).1) E6.1) Kq7.1) Kq9.1) Kq12.1) Kq16.1)) EN0 f21 S16 (by omega) hCc f22 (by omega) (by omega) hkk (by omega))
  have e24b := e24.trans hh24
  obtain ⟨T25, h25, L25, X25, e25, N25, Z25, hh25, st25⟩ := (if hkk : 1 < n then bK1y G1 G3 G4 p1 p2 p3 p4 p5 (((p5.toUInt32 >>> ((2 : Int32) &&& 31).toUInt32).toInt32).toUInt32.toUInt16.toUInt32.toInt32) (((p5.toUInt32 >>> ((18 : Int32) &&& 31).toUInt32).toInt32).toUInt32.toUInt16.toUInt32.toInt32) b1 b6 x16 k1 as o n CS 0 (1 : Int32) T16.heap n0 X24 hx hZ hw hby hml hown e24b N24 (Nat.le_trans Z0 (Nat.le_trans (Nat.le_trans (Nat.le_trans (Nat.le_trans (Nat.le_trans (Nat.le_trans (Nat.le_trans (Nat.le_trans (Nat.le_trans E1.1 (Keep.of_wr W2).1) (Keep.of_wr W3).1) (Keep.of_wr W4).1) (Keep.of_wr W5).1) E6.1) Kq7.1) Kq9.1) Kq12.1) Kq16.1)) EN0 f21 S16 (by omega) hCc f22 (by omega) (by omega) hkk (hk 1 hkk) (by omega) else bK1n G1 G3 G4 p1 p2 p3 p4 p5 (((p5.toUInt32 >>> ((2 : Int32) &&& 31).toUInt32).toInt32).toUInt32.toUInt16.toUInt32.toInt32) (((p5.toUInt32 >>> ((18 : Int32) &&& 31).toUInt32).toInt32).toUInt32.toUInt16.toUInt32.toInt32) b1 b6 x16 k1 as o n CS 0 (1 : Int32) T16.heap n0 X24 hx hZ hw hby hml hown e24b N24 (Nat.le_trans Z0 (Nat.le_trans (Nat.le_trans (Nat.le_trans (Nat.le_trans (Nat.le_trans (Nat.le_trans (Nat.le_trans (Nat.le_trans (Nat.le_trans E1.1 (Keep.of_wr W2).1) (Keep.of_wr W3).1) (Keep.of_wr W4).1) (Keep.of_wr W5).1) E6.1) Kq7.1) Kq9.1) Kq12.1) Kq16.1)) EN0 f21 S16 (by omega) hCc f22 (by omega) (by omega) hkk (by omega))
  have e25b := e25.trans hh25
  obtain ⟨T26, h26, L26, X26, e26, N26, Z26, hh26, st26⟩ := (if hkk : 2 < n then bK2y G1 G3 G4 p1 p2 p3 p4 p5 (((p5.toUInt32 >>> ((2 : Int32) &&& 31).toUInt32).toInt32).toUInt32.toUInt16.toUInt32.toInt32) (((p5.toUInt32 >>> ((18 : Int32) &&& 31).toUInt32).toInt32).toUInt32.toUInt16.toUInt32.toInt32) b1 b6 x16 k1 as o n CS 0 (1 : Int32) T16.heap n0 X25 hx hZ hw hby hml hown e25b N25 (Nat.le_trans Z0 (Nat.le_trans (Nat.le_trans (Nat.le_trans (Nat.le_trans (Nat.le_trans (Nat.le_trans (Nat.le_trans (Nat.le_trans (Nat.le_trans E1.1 (Keep.of_wr W2).1) (Keep.of_wr W3).1) (Keep.of_wr W4).1) (Keep.of_wr W5).1) E6.1) Kq7.1) Kq9.1) Kq12.1) Kq16.1)) EN0 f21 S16 (by omega) hCc f22 (by omega) (by omega) hkk (hk 2 hkk) (by omega) else bK2n G1 G3 G4 p1 p2 p3 p4 p5 (((p5.toUInt32 >>> ((2 : Int32) &&& 31).toUInt32).toInt32).toUInt32.toUInt16.toUInt32.toInt32) (((p5.toUInt32 >>> ((18 : Int32) &&& 31).toUInt32).toInt32).toUInt32.toUInt16.toUInt32.toInt32) b1 b6 x16 k1 as o n CS 0 (1 : Int32) T16.heap n0 X25 hx hZ hw hby hml hown e25b N25 (Nat.le_trans Z0 (Nat.le_trans (Nat.le_trans (Nat.le_trans (Nat.le_trans (Nat.le_trans (Nat.le_trans (Nat.le_trans (Nat.le_trans (Nat.le_trans E1.1 (Keep.of_wr W2).1) (Keep.of_wr W3).1) (Keep.of_wr W4).1) (Keep.of_wr W5).1) E6.1) Kq7.1) Kq9.1) Kq12.1) Kq16.1)) EN0 f21 S16 (by omega) hCc f22 (by omega) (by omega) hkk (by omega))
  have e26b := e26.trans hh26
  obtain ⟨T27, h27, L27, X27, e27, N27, Z27, hh27, st27⟩ := (if hkk : 3 < n then bK3y G1 G3 G4 p1 p2 p3 p4 p5 (((p5.toUInt32 >>> ((2 : Int32) &&& 31).toUInt32).toInt32).toUInt32.toUInt16.toUInt32.toInt32) (((p5.toUInt32 >>> ((18 : Int32) &&& 31).toUInt32).toInt32).toUInt32.toUInt16.toUInt32.toInt32) b1 b6 x16 k1 as o n CS 0 (1 : Int32) T16.heap n0 X26 hx hZ hw hby hml hown e26b N26 (Nat.le_trans Z0 (Nat.le_trans (Nat.le_trans (Nat.le_trans (Nat.le_trans (Nat.le_trans (Nat.le_trans (Nat.le_trans (Nat.le_trans (Nat.le_trans E1.1 (Keep.of_wr W2).1) (Keep.of_wr W3).1) (Keep.of_wr W4).1) (Keep.of_wr W5).1) E6.1) Kq7.1) Kq9.1) Kq12.1) Kq16.1)) EN0 f21 S16 (by omega) hCc f22 (by omega) (by omega) hkk (hk 3 hkk) (by omega) else bK3n G1 G3 G4 p1 p2 p3 p4 p5 (((p5.toUInt32 >>> ((2 : Int32) &&& 31).toUInt32).toInt32).toUInt32.toUInt16.toUInt32.toInt32) (((p5.toUInt32 >>> ((18 : Int32) &&& 31).toUInt32).toInt32).toUInt32.toUInt16.toUInt32.toInt32) b1 b6 x16 k1 as o n CS 0 (1 : Int32) T16.heap n0 X26 hx hZ hw hby hml hown e26b N26 (Nat.le_trans Z0 (Nat.le_trans (Nat.le_trans (Nat.le_trans (Nat.le_trans (Nat.le_trans (Nat.le_trans (Nat.le_trans (Nat.le_trans (Nat.le_trans E1.1 (Keep.of_wr W2).1) (Keep.of_wr W3).1) (Keep.of_wr W4).1) (Keep.of_wr W5).1) E6.1) Kq7.1) Kq9.1) Kq12.1) Kq16.1)) EN0 f21 S16 (by omega) hCc f22 (by omega) (by omega) hkk (by omega))
  have e27b := e27.trans hh27
  obtain ⟨T28, h28, L28, X28, e28, N28, Z28, hh28, st28⟩ := bZ1 G1 G3 G4 p1 p2 p3 p4 p5 (((p5.toUInt32 >>> ((2 : Int32) &&& 31).toUInt32).toInt32).toUInt32.toUInt16.toUInt32.toInt32) (((p5.toUInt32 >>> ((18 : Int32) &&& 31).toUInt32).toInt32).toUInt32.toUInt16.toUInt32.toInt32) b1 b6 x16 k1 as o n CS 0 (1 : Int32) T16.heap n0 X27 hx hZ hw hby hml hown e27b N27 (Nat.le_trans Z0 (Nat.le_trans (Nat.le_trans (Nat.le_trans (Nat.le_trans (Nat.le_trans (Nat.le_trans (Nat.le_trans (Nat.le_trans (Nat.le_trans E1.1 (Keep.of_wr W2).1) (Keep.of_wr W3).1) (Keep.of_wr W4).1) (Keep.of_wr W5).1) E6.1) Kq7.1) Kq9.1) Kq12.1) Kq16.1)) EN0 f21 S16 (by omega) hCc f22 (by omega) (by omega) (hsuf 0 Nat.zero_lt_one) (by omega)
  have e28b := e28.trans hh28
  obtain ⟨fs, hr, hrun, hended, hW, hsame⟩ := X28.leave (v := some (.int 1)) (fun h => by rw [Bd.returns] at h; cases h)
  refine ⟨_, _, pre0 _ ?_, hrun, hended, _, _, rfl, ?_, ⟨_, rfl⟩, hW, hsame.mono (by decide) (by decide)⟩
  · show Steps p.tables e below (s₁.setTop (mkF m 0 #[.val (.int p1), .val (.int p2), .val (.int p3), .val (.int p4), .val (.int p5), .unset, .unset, .unset, .unset, .unset, .unset, .unset, .unset, .unset, .unset, .unset, .unset] [])) _
    refine XS.iconst X0.here hx rfl (hb hby at_0) ?_
    show Steps p.tables e below (s₁.setTop (mkF m 1 #[.val (.int p1), .val (.int p2), .val (.int p3), .val (.int p4), .val (.int p5), .unset, .unset, .unset, .unset, .unset, .unset, .unset, .unset, .unset, .unset, .unset, .unset] [(.int 4)])) _
    refine st1 _ ?_
    show Steps p.tables e below (T1.setTop (mkF m 3 #[.val (.int p1), .val (.int p2), .val (.int p3), .val (.int p4), .val (.int p5), .unset, .unset, .unset, .unset, .unset, .unset, .unset, .unset, .unset, .unset, .unset, .unset] [(.ref b1)])) _
    refine XS.astore X1.here hx rfl (hb hby at_3) rfl rfl (l' := #[.val (.int p1), .val (.int p2), .val (.int p3), .val (.int p4), .val (.int p5), .val (.ref b1), .unset, .unset, .unset, .unset, .unset, .unset, .unset, .unset, .unset, .unset, .unset]) rfl ?_
    refine XS.aload X1.here hx rfl (hb hby at_5) rfl rfl ?_
    refine XS.iconst X1.here hx rfl (hb hby at_7) ?_
    refine XS.iloadN X1.here hx rfl (hb hby at_8) rfl ?_
    refine XS.i2c X1.here hx rfl (hb hby at_9) rfl ?_
    show Steps p.tables e below (T1.setTop (mkF m 10 #[.val (.int p1), .val (.int p2), .val (.int p3), .val (.int p4), .val (.int p5), .val (.ref b1), .unset, .unset, .unset, .unset, .unset, .unset, .unset, .unset, .unset, .unset, .unset] [(.int (p1.toUInt32.toUInt16.toUInt32.toInt32)), (.int 0), (.ref b1)])) _
    refine st2 _ ?_
    show Steps p.tables e below (T2.setTop (mkF m 11 #[.val (.int p1), .val (.int p2), .val (.int p3), .val (.int p4), .val (.int p5), .val (.ref b1), .unset, .unset, .unset, .unset, .unset, .unset, .unset, .unset, .unset, .unset, .unset] [])) _
    refine XS.aload X2.here hx rfl (hb hby at_11) rfl rfl ?_
    refine XS.iconst X2.here hx rfl (hb hby at_13) ?_
    refine XS.iloadN X2.here hx rfl (hb hby at_14) rfl ?_
    refine XS.bipush X2.here hx rfl (hb hby at_15) ?_
    refine XS.iushr X2.here hx rfl (hb hby at_17) rfl ?_
    refine XS.i2c X2.here hx rfl (hb hby at_18) rfl ?_
    show Steps p.tables e below (T2.setTop (mkF m 19 #[.val (.int p1), .val (.int p2), .val (.int p3), .val (.int p4), .val (.int p5), .val (.ref b1), .unset, .unset, .unset, .unset, .unset, .unset, .unset, .unset, .unset, .unset, .unset] [(.int (((p1.toUInt32 >>> ((16 : Int32) &&& 31).toUInt32).toInt32).toUInt32.toUInt16.toUInt32.toInt32)), (.int 1), (.ref b1)])) _
    refine st3 _ ?_
    show Steps p.tables e below (T3.setTop (mkF m 20 #[.val (.int p1), .val (.int p2), .val (.int p3), .val (.int p4), .val (.int p5), .val (.ref b1), .unset, .unset, .unset, .unset, .unset, .unset, .unset, .unset, .unset, .unset, .unset] [])) _
    refine XS.aload X3.here hx rfl (hb hby at_20) rfl rfl ?_
    refine XS.iconst X3.here hx rfl (hb hby at_22) ?_
    refine XS.iloadN X3.here hx rfl (hb hby at_23) rfl ?_
    refine XS.i2c X3.here hx rfl (hb hby at_24) rfl ?_
    show Steps p.tables e below (T3.setTop (mkF m 25 #[.val (.int p1), .val (.int p2), .val (.int p3), .val (.int p4), .val (.int p5), .val (.ref b1), .unset, .unset, .unset, .unset, .unset, .unset, .unset, .unset, .unset, .unset, .unset] [(.int (p2.toUInt32.toUInt16.toUInt32.toInt32)), (.int 2), (.ref b1)])) _
    refine st4 _ ?_
    show Steps p.tables e below (T4.setTop (mkF m 26 #[.val (.int p1), .val (.int p2), .val (.int p3), .val (.int p4), .val (.int p5), .val (.ref b1), .unset, .unset, .unset, .unset, .unset, .unset, .unset, .unset, .unset, .unset, .unset] [])) _
    refine XS.aload X4.here hx rfl (hb hby at_26) rfl rfl ?_
    refine XS.iconst X4.here hx rfl (hb hby at_28) ?_
    refine XS.iloadN X4.here hx rfl (hb hby at_29) rfl ?_
    refine XS.bipush X4.here hx rfl (hb hby at_30) ?_
    refine XS.iushr X4.here hx rfl (hb hby at_32) rfl ?_
    refine XS.i2c X4.here hx rfl (hb hby at_33) rfl ?_
    show Steps p.tables e below (T4.setTop (mkF m 34 #[.val (.int p1), .val (.int p2), .val (.int p3), .val (.int p4), .val (.int p5), .val (.ref b1), .unset, .unset, .unset, .unset, .unset, .unset, .unset, .unset, .unset, .unset, .unset] [(.int (((p2.toUInt32 >>> ((16 : Int32) &&& 31).toUInt32).toInt32).toUInt32.toUInt16.toUInt32.toInt32)), (.int 3), (.ref b1)])) _
    refine st5 _ ?_
    show Steps p.tables e below (T5.setTop (mkF m 35 #[.val (.int p1), .val (.int p2), .val (.int p3), .val (.int p4), .val (.int p5), .val (.ref b1), .unset, .unset, .unset, .unset, .unset, .unset, .unset, .unset, .unset, .unset, .unset] [])) _
    refine XS.iloadN X5.here hx rfl (hb hby at_35) rfl ?_
    show Steps p.tables e below (T5.setTop (mkF m 36 #[.val (.int p1), .val (.int p2), .val (.int p3), .val (.int p4), .val (.int p5), .val (.ref b1), .unset, .unset, .unset, .unset, .unset, .unset, .unset, .unset, .unset, .unset, .unset] [(.int p3)])) _
    refine X5.ldcInt hx hown (mvT hZ (hw _ (tk 1 rfl))) (g := (mkF m 36 #[.val (.int p1), .val (.int p2), .val (.int p3), .val (.int p4), .val (.int p5), .val (.ref b1), .unset, .unset, .unset, .unset, .unset, .unset, .unset, .unset, .unset, .unset, .unset] [(.int p3)])) rfl (hb hby at_36) _ ?_
    show Steps p.tables e below (T5.setTop (mkF m 38 #[.val (.int p1), .val (.int p2), .val (.int p3), .val (.int p4), .val (.int p5), .val (.ref b1), .unset, .unset, .unset, .unset, .unset, .unset, .unset, .unset, .unset, .unset, .unset] [(.int 2147483647), (.int p3)])) _
    refine XS.iand X5.here hx rfl (hb hby at_38) rfl ?_
    refine XS.iconst X5.here hx rfl (hb hby at_39) ?_
    show Steps p.tables e below (T5.setTop (mkF m 40 #[.val (.int p1), .val (.int p2), .val (.int p3), .val (.int p4), .val (.int p5), .val (.ref b1), .unset, .unset, .unset, .unset, .unset, .unset, .unset, .unset, .unset, .unset, .unset] [(.int 5), (.int (p3 &&& (2147483647 : Int32)))])) _
    refine iremM X5 hx (g := (mkF m 40 #[.val (.int p1), .val (.int p2), .val (.int p3), .val (.int p4), .val (.int p5), .val (.ref b1), .unset, .unset, .unset, .unset, .unset, .unset, .unset, .unset, .unset, .unset, .unset] [(.int 5), (.int (p3 &&& (2147483647 : Int32)))])) rfl (hb hby at_40) rfl (by decide) ?_
    show Steps p.tables e below (T5.setTop (mkF m 41 #[.val (.int p1), .val (.int p2), .val (.int p3), .val (.int p4), .val (.int p5), .val (.ref b1), .unset, .unset, .unset, .unset, .unset, .unset, .unset, .unset, .unset, .unset, .unset] [(.int ((p3 &&& (2147483647 : Int32)) % (5 : Int32)))])) _
    rw [hr1]
    show Steps p.tables e below (T5.setTop (mkF m 41 #[.val (.int p1), .val (.int p2), .val (.int p3), .val (.int p4), .val (.int p5), .val (.ref b1), .unset, .unset, .unset, .unset, .unset, .unset, .unset, .unset, .unset, .unset, .unset] [(.int (Int32.ofNat o))])) _
    refine XS.istore X5.here hx rfl (hb hby at_41) rfl (l' := #[.val (.int p1), .val (.int p2), .val (.int p3), .val (.int p4), .val (.int p5), .val (.ref b1), .val (.int (Int32.ofNat o)), .unset, .unset, .unset, .unset, .unset, .unset, .unset, .unset, .unset, .unset]) rfl ?_
    refine XS.iloadN X5.here hx rfl (hb hby at_43) rfl ?_
    show Steps p.tables e below (T5.setTop (mkF m 44 #[.val (.int p1), .val (.int p2), .val (.int p3), .val (.int p4), .val (.int p5), .val (.ref b1), .val (.int (Int32.ofNat o)), .unset, .unset, .unset, .unset, .unset, .unset, .unset, .unset, .unset, .unset] [(.int p4)])) _
    refine X5.ldcInt hx hown (mvT hZ (hw _ (tk 1 rfl))) (g := (mkF m 44 #[.val (.int p1), .val (.int p2), .val (.int p3), .val (.int p4), .val (.int p5), .val (.ref b1), .val (.int (Int32.ofNat o)), .unset, .unset, .unset, .unset, .unset, .unset, .unset, .unset, .unset, .unset] [(.int p4)])) rfl (hb hby at_44) _ ?_
    show Steps p.tables e below (T5.setTop (mkF m 46 #[.val (.int p1), .val (.int p2), .val (.int p3), .val (.int p4), .val (.int p5), .val (.ref b1), .val (.int (Int32.ofNat o)), .unset, .unset, .unset, .unset, .unset, .unset, .unset, .unset, .unset, .unset] [(.int 2147483647), (.int p4)])) _
    refine XS.iand X5.here hx rfl (hb hby at_46) rfl ?_
    refine XS.iconst X5.here hx rfl (hb hby at_47) ?_
    refine XS.iload X5.here hx rfl (hb hby at_48) rfl ?_
    refine XS.isub X5.here hx rfl (hb hby at_50) rfl ?_
    show Steps p.tables e below (T5.setTop (mkF m 51 #[.val (.int p1), .val (.int p2), .val (.int p3), .val (.int p4), .val (.int p5), .val (.ref b1), .val (.int (Int32.ofNat o)), .unset, .unset, .unset, .unset, .unset, .unset, .unset, .unset, .unset, .unset] [(.int ((5 : Int32) - (Int32.ofNat o))), (.int (p4 &&& (2147483647 : Int32)))])) _
    rw [own_s5 ho5]
    show Steps p.tables e below (T5.setTop (mkF m 51 #[.val (.int p1), .val (.int p2), .val (.int p3), .val (.int p4), .val (.int p5), .val (.ref b1), .val (.int (Int32.ofNat o)), .unset, .unset, .unset, .unset, .unset, .unset, .unset, .unset, .unset, .unset] [(.int (Int32.ofNat (5 - o))), (.int (p4 &&& (2147483647 : Int32)))])) _
    refine iremM X5 hx (g := (mkF m 51 #[.val (.int p1), .val (.int p2), .val (.int p3), .val (.int p4), .val (.int p5), .val (.ref b1), .val (.int (Int32.ofNat o)), .unset, .unset, .unset, .unset, .unset, .unset, .unset, .unset, .unset, .unset] [(.int (Int32.ofNat (5 - o))), (.int (p4 &&& (2147483647 : Int32)))])) rfl (hb hby at_51) rfl (own_nz (by omega) (by omega)) ?_
    show Steps p.tables e below (T5.setTop (mkF m 52 #[.val (.int p1), .val (.int p2), .val (.int p3), .val (.int p4), .val (.int p5), .val (.ref b1), .val (.int (Int32.ofNat o)), .unset, .unset, .unset, .unset, .unset, .unset, .unset, .unset, .unset, .unset] [(.int ((p4 &&& (2147483647 : Int32)) % (Int32.ofNat (5 - o))))])) _
    rw [hr2]
    show Steps p.tables e below (T5.setTop (mkF m 52 #[.val (.int p1), .val (.int p2), .val (.int p3), .val (.int p4), .val (.int p5), .val (.ref b1), .val (.int (Int32.ofNat o)), .unset, .unset, .unset, .unset, .unset, .unset, .unset, .unset, .unset, .unset] [(.int (Int32.ofNat n))])) _
    refine XS.istore X5.here hx rfl (hb hby at_52) rfl (l' := #[.val (.int p1), .val (.int p2), .val (.int p3), .val (.int p4), .val (.int p5), .val (.ref b1), .val (.int (Int32.ofNat o)), .val (.int (Int32.ofNat n)), .unset, .unset, .unset, .unset, .unset, .unset, .unset, .unset, .unset]) rfl ?_
    refine XS.iload X5.here hx rfl (hb hby at_54) rfl ?_
    refine XS.iconst X5.here hx rfl (hb hby at_56) ?_
    refine XS.iand X5.here hx rfl (hb hby at_57) rfl ?_
    refine XS.ifYes X5.here hx rfl (pc0 := 58) (pc' := 65) rfl (hb hby at_58) rfl ((if0 _ _).trans (teq hb1).1) (by decide) (by decide) ?_
    refine XS.iconst X5.here hx rfl (hb hby at_65) ?_
    refine XS.istore X5.here hx rfl (hb hby at_66) rfl (l' := #[.val (.int p1), .val (.int p2), .val (.int p3), .val (.int p4), .val (.int p5), .val (.ref b1), .val (.int (Int32.ofNat o)), .val (.int (Int32.ofNat n)), .val (.int 0), .unset, .unset, .unset, .unset, .unset, .unset, .unset, .unset]) rfl ?_
    refine XS.iload X5.here hx rfl (hb hby at_68) rfl ?_
    refine XS.iconst X5.here hx rfl (hb hby at_70) ?_
    refine XS.iand X5.here hx rfl (hb hby at_71) rfl ?_
    refine XS.ifNo X5.here hx rfl (hb hby at_72) rfl ((if0 _ _).trans (feq hb2).1) ?_
    show Steps p.tables e below (T5.setTop (mkF m 75 #[.val (.int p1), .val (.int p2), .val (.int p3), .val (.int p4), .val (.int p5), .val (.ref b1), .val (.int (Int32.ofNat o)), .val (.int (Int32.ofNat n)), .val (.int 0), .unset, .unset, .unset, .unset, .unset, .unset, .unset, .unset] [])) _
    refine XS.iconst X5.here hx rfl (hb hby at_75) ?_
    refine XS.goto X5.here hx rfl (pc0 := 76) (pc' := 80) rfl (hb hby at_76) (by decide) (by decide) ?_
    refine XS.istore X5.here hx rfl (hb hby at_80) rfl (l' := #[.val (.int p1), .val (.int p2), .val (.int p3), .val (.int p4), .val (.int p5), .val (.ref b1), .val (.int (Int32.ofNat o)), .val (.int (Int32.ofNat n)), .val (.int 0), .val (.int 1), .unset, .unset, .unset, .unset, .unset, .unset, .unset]) rfl ?_
    refine XS.iload X5.here hx rfl (hb hby at_82) rfl ?_
    refine XS.iconst X5.here hx rfl (hb hby at_84) ?_
    refine XS.iushr X5.here hx rfl (hb hby at_85) rfl ?_
    refine XS.i2c X5.here hx rfl (hb hby at_86) rfl ?_
    refine XS.istore X5.here hx rfl (hb hby at_87) rfl (l' := #[.val (.int p1), .val (.int p2), .val (.int p3), .val (.int p4), .val (.int p5), .val (.ref b1), .val (.int (Int32.ofNat o)), .val (.int (Int32.ofNat n)), .val (.int 0), .val (.int 1), .val (.int (((p5.toUInt32 >>> ((2 : Int32) &&& 31).toUInt32).toInt32).toUInt32.toUInt16.toUInt32.toInt32)), .unset, .unset, .unset, .unset, .unset, .unset]) rfl ?_
    refine XS.iload X5.here hx rfl (hb hby at_89) rfl ?_
    refine XS.bipush X5.here hx rfl (hb hby at_91) ?_
    refine XS.iushr X5.here hx rfl (hb hby at_93) rfl ?_
    show Steps p.tables e below (T5.setTop (mkF m 94 #[.val (.int p1), .val (.int p2), .val (.int p3), .val (.int p4), .val (.int p5), .val (.ref b1), .val (.int (Int32.ofNat o)), .val (.int (Int32.ofNat n)), .val (.int 0), .val (.int 1), .val (.int (((p5.toUInt32 >>> ((2 : Int32) &&& 31).toUInt32).toInt32).toUInt32.toUInt16.toUInt32.toInt32)), .unset, .unset, .unset, .unset, .unset, .unset] [(.int ((p5.toUInt32 >>> ((18 : Int32) &&& 31).toUInt32).toInt32))])) _
    refine XS.i2c X5.here hx rfl (hb hby at_94) rfl ?_
    refine XS.istore X5.here hx rfl (hb hby at_95) rfl (l' := #[.val (.int p1), .val (.int p2), .val (.int p3), .val (.int p4), .val (.int p5), .val (.ref b1), .val (.int (Int32.ofNat o)), .val (.int (Int32.ofNat n)), .val (.int 0), .val (.int 1), .val (.int (((p5.toUInt32 >>> ((2 : Int32) &&& 31).toUInt32).toInt32).toUInt32.toUInt16.toUInt32.toInt32)), .val (.int (((p5.toUInt32 >>> ((18 : Int32) &&& 31).toUInt32).toInt32).toUInt32.toUInt16.toUInt32.toInt32)), .unset, .unset, .unset, .unset, .unset]) rfl ?_
    show Steps p.tables e below (T5.setTop (mkF m 97 #[.val (.int p1), .val (.int p2), .val (.int p3), .val (.int p4), .val (.int p5), .val (.ref b1), .val (.int (Int32.ofNat o)), .val (.int (Int32.ofNat n)), .val (.int 0), .val (.int 1), .val (.int (((p5.toUInt32 >>> ((2 : Int32) &&& 31).toUInt32).toInt32).toUInt32.toUInt16.toUInt32.toInt32)), .val (.int (((p5.toUInt32 >>> ((18 : Int32) &&& 31).toUInt32).toInt32).toUInt32.toUInt16.toUInt32.toInt32)), .unset, .unset, .unset, .unset, .unset] [])) _
    refine st6 _ ?_
    show Steps p.tables e below (T6.setTop (mkF m 100 #[.val (.int p1), .val (.int p2), .val (.int p3), .val (.int p4), .val (.int p5), .val (.ref b1), .val (.int (Int32.ofNat o)), .val (.int (Int32.ofNat n)), .val (.int 0), .val (.int 1), .val (.int (((p5.toUInt32 >>> ((2 : Int32) &&& 31).toUInt32).toInt32).toUInt32.toUInt16.toUInt32.toInt32)), .val (.int (((p5.toUInt32 >>> ((18 : Int32) &&& 31).toUInt32).toInt32).toUInt32.toUInt16.toUInt32.toInt32)), .unset, .unset, .unset, .unset, .unset] [(.ref b6)])) _
    refine XS.dup X6.here hx rfl (hb hby at_100) rfl rfl ?_
    show Steps p.tables e below (T6.setTop (mkF m 101 #[.val (.int p1), .val (.int p2), .val (.int p3), .val (.int p4), .val (.int p5), .val (.ref b1), .val (.int (Int32.ofNat o)), .val (.int (Int32.ofNat n)), .val (.int 0), .val (.int 1), .val (.int (((p5.toUInt32 >>> ((2 : Int32) &&& 31).toUInt32).toInt32).toUInt32.toUInt16.toUInt32.toInt32)), .val (.int (((p5.toUInt32 >>> ((18 : Int32) &&& 31).toUInt32).toInt32).toUInt32.toUInt16.toUInt32.toInt32)), .unset, .unset, .unset, .unset, .unset] [(.ref b6), (.ref b6)])) _
    refine st7.trans ?_
    show Steps p.tables e below (T7.setTop (mkF m 104 #[.val (.int p1), .val (.int p2), .val (.int p3), .val (.int p4), .val (.int p5), .val (.ref b1), .val (.int (Int32.ofNat o)), .val (.int (Int32.ofNat n)), .val (.int 0), .val (.int 1), .val (.int (((p5.toUInt32 >>> ((2 : Int32) &&& 31).toUInt32).toInt32).toUInt32.toUInt16.toUInt32.toInt32)), .val (.int (((p5.toUInt32 >>> ((18 : Int32) &&& 31).toUInt32).toInt32).toUInt32.toUInt16.toUInt32.toInt32)), .unset, .unset, .unset, .unset, .unset] [(.ref b6)])) _
    refine XS.astore X7.here hx rfl (hb hby at_104) rfl rfl (l' := #[.val (.int p1), .val (.int p2), .val (.int p3), .val (.int p4), .val (.int p5), .val (.ref b1), .val (.int (Int32.ofNat o)), .val (.int (Int32.ofNat n)), .val (.int 0), .val (.int 1), .val (.int (((p5.toUInt32 >>> ((2 : Int32) &&& 31).toUInt32).toInt32).toUInt32.toUInt16.toUInt32.toInt32)), .val (.int (((p5.toUInt32 >>> ((18 : Int32) &&& 31).toUInt32).toInt32).toUInt32.toUInt16.toUInt32.toInt32)), .val (.ref b6), .unset, .unset, .unset, .unset]) rfl ?_
    refine XS.iload X7.here hx rfl (hb hby at_106) rfl ?_
    refine XS.ifYes X7.here hx rfl (pc0 := 108) (pc' := 120) rfl (hb hby at_108) rfl ((if0 _ _).trans (teq (by decide : (0 : Int32) = (0 : Int32))).1) (by decide) (by decide) ?_
    refine XS.aload X7.here hx rfl (hb hby at_120) rfl rfl ?_
    refine XS.aload X7.here hx rfl (hb hby at_122) rfl rfl ?_
    refine XS.iload X7.here hx rfl (hb hby at_124) rfl ?_
    refine XS.iload X7.here hx rfl (hb hby at_126) rfl ?_
    show Steps p.tables e below (T7.setTop (mkF m 128 #[.val (.int p1), .val (.int p2), .val (.int p3), .val (.int p4), .val (.int p5), .val (.ref b1), .val (.int (Int32.ofNat o)), .val (.int (Int32.ofNat n)), .val (.int 0), .val (.int 1), .val (.int (((p5.toUInt32 >>> ((2 : Int32) &&& 31).toUInt32).toInt32).toUInt32.toUInt16.toUInt32.toInt32)), .val (.int (((p5.toUInt32 >>> ((18 : Int32) &&& 31).toUInt32).toInt32).toUInt32.toUInt16.toUInt32.toInt32)), .val (.ref b6), .unset, .unset, .unset, .unset] [(.int (Int32.ofNat n)), (.int (Int32.ofNat o)), (.ref b1), (.ref b6)])) _
    refine st9.trans ?_
    show Steps p.tables e below (T9.setTop (mkF m 131 #[.val (.int p1), .val (.int p2), .val (.int p3), .val (.int p4), .val (.int p5), .val (.ref b1), .val (.int (Int32.ofNat o)), .val (.int (Int32.ofNat n)), .val (.int 0), .val (.int 1), .val (.int (((p5.toUInt32 >>> ((2 : Int32) &&& 31).toUInt32).toInt32).toUInt32.toUInt16.toUInt32.toInt32)), .val (.int (((p5.toUInt32 >>> ((18 : Int32) &&& 31).toUInt32).toInt32).toUInt32.toUInt16.toUInt32.toInt32)), .val (.ref b6), .unset, .unset, .unset, .unset] [])) _
    refine XS.iload X9.here hx rfl (hb hby at_131) rfl ?_
    refine XS.ifNo X9.here hx rfl (hb hby at_133) rfl ((if0 _ _).trans (feq (by decide : ¬ ((1 : Int32) = (0 : Int32)))).1) ?_
    refine XS.aload X9.here hx rfl (hb hby at_136) rfl rfl ?_
    refine XS.iload X9.here hx rfl (hb hby at_138) rfl ?_
    refine XS.bipush X9.here hx rfl (hb hby at_140) ?_
    refine XS.iushr X9.here hx rfl (hb hby at_142) rfl ?_
    show Steps p.tables e below (T9.setTop (mkF m 143 #[.val (.int p1), .val (.int p2), .val (.int p3), .val (.int p4), .val (.int p5), .val (.ref b1), .val (.int (Int32.ofNat o)), .val (.int (Int32.ofNat n)), .val (.int 0), .val (.int 1), .val (.int (((p5.toUInt32 >>> ((2 : Int32) &&& 31).toUInt32).toInt32).toUInt32.toUInt16.toUInt32.toInt32)), .val (.int (((p5.toUInt32 >>> ((18 : Int32) &&& 31).toUInt32).toInt32).toUInt32.toUInt16.toUInt32.toInt32)), .val (.ref b6), .unset, .unset, .unset, .unset] [(.int ((p5.toUInt32 >>> ((18 : Int32) &&& 31).toUInt32).toInt32)), (.ref b6)])) _
    refine st12.trans ?_
    show Steps p.tables e below (T12.setTop (mkF m 146 #[.val (.int p1), .val (.int p2), .val (.int p3), .val (.int p4), .val (.int p5), .val (.ref b1), .val (.int (Int32.ofNat o)), .val (.int (Int32.ofNat n)), .val (.int 0), .val (.int 1), .val (.int (((p5.toUInt32 >>> ((2 : Int32) &&& 31).toUInt32).toInt32).toUInt32.toUInt16.toUInt32.toInt32)), .val (.int (((p5.toUInt32 >>> ((18 : Int32) &&& 31).toUInt32).toInt32).toUInt32.toUInt16.toUInt32.toInt32)), .val (.ref b6), .unset, .unset, .unset, .unset] [])) _
    refine XS.aload X12.here hx rfl (hb hby at_146) rfl rfl ?_
    show Steps p.tables e below (T12.setTop (mkF m 148 #[.val (.int p1), .val (.int p2), .val (.int p3), .val (.int p4), .val (.int p5), .val (.ref b1), .val (.int (Int32.ofNat o)), .val (.int (Int32.ofNat n)), .val (.int 0), .val (.int 1), .val (.int (((p5.toUInt32 >>> ((2 : Int32) &&& 31).toUInt32).toInt32).toUInt32.toUInt16.toUInt32.toInt32)), .val (.int (((p5.toUInt32 >>> ((18 : Int32) &&& 31).toUInt32).toInt32).toUInt32.toUInt16.toUInt32.toInt32)), .val (.ref b6), .unset, .unset, .unset, .unset] [(.ref b6)])) _
    refine st16.trans ?_
    show Steps p.tables e below (T16.setTop (mkF m 151 #[.val (.int p1), .val (.int p2), .val (.int p3), .val (.int p4), .val (.int p5), .val (.ref b1), .val (.int (Int32.ofNat o)), .val (.int (Int32.ofNat n)), .val (.int 0), .val (.int 1), .val (.int (((p5.toUInt32 >>> ((2 : Int32) &&& 31).toUInt32).toInt32).toUInt32.toUInt16.toUInt32.toInt32)), .val (.int (((p5.toUInt32 >>> ((18 : Int32) &&& 31).toUInt32).toInt32).toUInt32.toUInt16.toUInt32.toInt32)), .val (.ref b6), .unset, .unset, .unset, .unset] [(.ref x16)])) _
    refine XS.astore X16.here hx rfl (hb hby at_151) rfl rfl (l' := #[.val (.int p1), .val (.int p2), .val (.int p3), .val (.int p4), .val (.int p5), .val (.ref b1), .val (.int (Int32.ofNat o)), .val (.int (Int32.ofNat n)), .val (.int 0), .val (.int 1), .val (.int (((p5.toUInt32 >>> ((2 : Int32) &&& 31).toUInt32).toInt32).toUInt32.toUInt16.toUInt32.toInt32)), .val (.int (((p5.toUInt32 >>> ((18 : Int32) &&& 31).toUInt32).toInt32).toUInt32.toUInt16.toUInt32.toInt32)), .val (.ref b6), .val (.ref x16), .unset, .unset, .unset]) rfl ?_
    refine XS.iload X16.here hx rfl (hb hby at_153) rfl ?_
    refine XS.ifYes X16.here hx rfl (pc0 := 155) (pc' := 162) rfl (hb hby at_155) rfl ((if0 _ _).trans (teq (by decide : (0 : Int32) = (0 : Int32))).1) (by decide) (by decide) ?_
    refine XS.iconst X16.here hx rfl (hb hby at_162) ?_
    refine XS.istore X16.here hx rfl (hb hby at_163) rfl (l' := #[.val (.int p1), .val (.int p2), .val (.int p3), .val (.int p4), .val (.int p5), .val (.ref b1), .val (.int (Int32.ofNat o)), .val (.int (Int32.ofNat n)), .val (.int 0), .val (.int 1), .val (.int (((p5.toUInt32 >>> ((2 : Int32) &&& 31).toUInt32).toInt32).toUInt32.toUInt16.toUInt32.toInt32)), .val (.int (((p5.toUInt32 >>> ((18 : Int32) &&& 31).toUInt32).toInt32).toUInt32.toUInt16.toUInt32.toInt32)), .val (.ref b6), .val (.ref x16), .val (.int 0), .unset, .unset]) rfl ?_
    refine XS.iload X16.here hx rfl (hb hby at_165) rfl ?_
    refine XS.ifNo X16.here hx rfl (hb hby at_167) rfl ((if0 _ _).trans (feq (by decide : ¬ ((1 : Int32) = (0 : Int32)))).1) ?_
    refine XS.iconst X16.here hx rfl (hb hby at_170) ?_
    refine XS.goto X16.here hx rfl (pc0 := 171) (pc' := 175) rfl (hb hby at_171) (by decide) (by decide) ?_
    refine XS.istore X16.here hx rfl (hb hby at_175) rfl (l' := #[.val (.int p1), .val (.int p2), .val (.int p3), .val (.int p4), .val (.int p5), .val (.ref b1), .val (.int (Int32.ofNat o)), .val (.int (Int32.ofNat n)), .val (.int 0), .val (.int 1), .val (.int (((p5.toUInt32 >>> ((2 : Int32) &&& 31).toUInt32).toInt32).toUInt32.toUInt16.toUInt32.toInt32)), .val (.int (((p5.toUInt32 >>> ((18 : Int32) &&& 31).toUInt32).toInt32).toUInt32.toUInt16.toUInt32.toInt32)), .val (.ref b6), .val (.ref x16), .val (.int 0), .val (.int 1), .unset]) rfl ?_
    refine XS.aload X16.here hx rfl (hb hby at_177) rfl rfl ?_
    show Steps p.tables e below (T16.setTop (mkF m 179 #[.val (.int p1), .val (.int p2), .val (.int p3), .val (.int p4), .val (.int p5), .val (.ref b1), .val (.int (Int32.ofNat o)), .val (.int (Int32.ofNat n)), .val (.int 0), .val (.int 1), .val (.int (((p5.toUInt32 >>> ((2 : Int32) &&& 31).toUInt32).toInt32).toUInt32.toUInt16.toUInt32.toInt32)), .val (.int (((p5.toUInt32 >>> ((18 : Int32) &&& 31).toUInt32).toInt32).toUInt32.toUInt16.toUInt32.toInt32)), .val (.ref b6), .val (.ref x16), .val (.int 0), .val (.int 1), .unset] [(.ref x16)])) _
    refine st20.trans ?_
    show Steps p.tables e below (T20.setTop (mkF m 182 #[.val (.int p1), .val (.int p2), .val (.int p3), .val (.int p4), .val (.int p5), .val (.ref b1), .val (.int (Int32.ofNat o)), .val (.int (Int32.ofNat n)), .val (.int 0), .val (.int 1), .val (.int (((p5.toUInt32 >>> ((2 : Int32) &&& 31).toUInt32).toInt32).toUInt32.toUInt16.toUInt32.toInt32)), .val (.int (((p5.toUInt32 >>> ((18 : Int32) &&& 31).toUInt32).toInt32).toUInt32.toUInt16.toUInt32.toInt32)), .val (.ref b6), .val (.ref x16), .val (.int 0), .val (.int 1), .unset] [(.int (Int32.ofNat CS.length))])) _
    refine XS.iload X20.here hx rfl (hb hby at_182) rfl ?_
    refine XS.iload X20.here hx rfl (hb hby at_184) rfl ?_
    refine XS.iadd X20.here hx rfl (hb hby at_186) rfl ?_
    refine XS.iload X20.here hx rfl (hb hby at_187) rfl ?_
    refine XS.iadd X20.here hx rfl (hb hby at_189) rfl ?_
    refine XS.icmpYes X20.here hx rfl (pc0 := 190) (pc' := 195) rfl (hb hby at_190) rfl (teq (by rw [hL']; exact own_l3 0 n 1)).1 (by decide) (by decide) ?_
    refine XS.iconst X20.here hx rfl (hb hby at_195) ?_
    refine XS.istore X20.here hx rfl (hb hby at_196) rfl (l' := #[.val (.int p1), .val (.int p2), .val (.int p3), .val (.int p4), .val (.int p5), .val (.ref b1), .val (.int (Int32.ofNat o)), .val (.int (Int32.ofNat n)), .val (.int 0), .val (.int 1), .val (.int (((p5.toUInt32 >>> ((2 : Int32) &&& 31).toUInt32).toInt32).toUInt32.toUInt16.toUInt32.toInt32)), .val (.int (((p5.toUInt32 >>> ((18 : Int32) &&& 31).toUInt32).toInt32).toUInt32.toUInt16.toUInt32.toInt32)), .val (.ref b6), .val (.ref x16), .val (.int 0), .val (.int 1), .val (.int 1)]) rfl ?_
    show Steps p.tables e below (T20.setTop (mkF m 198 #[.val (.int p1), .val (.int p2), .val (.int p3), .val (.int p4), .val (.int p5), .val (.ref b1), .val (.int (Int32.ofNat o)), .val (.int (Int32.ofNat n)), .val (.int 0), .val (.int 1), .val (.int (((p5.toUInt32 >>> ((2 : Int32) &&& 31).toUInt32).toInt32).toUInt32.toUInt16.toUInt32.toInt32)), .val (.int (((p5.toUInt32 >>> ((18 : Int32) &&& 31).toUInt32).toInt32).toUInt32.toUInt16.toUInt32.toInt32)), .val (.ref b6), .val (.ref x16), .val (.int 0), .val (.int 1), .val (.int 1)] [])) _
    refine st23 _ ?_
    show Steps p.tables e below (T23.setTop (mkF m 226 #[.val (.int p1), .val (.int p2), .val (.int p3), .val (.int p4), .val (.int p5), .val (.ref b1), .val (.int (Int32.ofNat o)), .val (.int (Int32.ofNat n)), .val (.int 0), .val (.int 1), .val (.int (((p5.toUInt32 >>> ((2 : Int32) &&& 31).toUInt32).toInt32).toUInt32.toUInt16.toUInt32.toInt32)), .val (.int (((p5.toUInt32 >>> ((18 : Int32) &&& 31).toUInt32).toInt32).toUInt32.toUInt16.toUInt32.toInt32)), .val (.ref b6), .val (.ref x16), .val (.int 0), .val (.int 1), .val (.int 1)] [])) _
    refine st24 _ ?_
    show Steps p.tables e below (T24.setTop (mkF m 259 #[.val (.int p1), .val (.int p2), .val (.int p3), .val (.int p4), .val (.int p5), .val (.ref b1), .val (.int (Int32.ofNat o)), .val (.int (Int32.ofNat n)), .val (.int 0), .val (.int 1), .val (.int (((p5.toUInt32 >>> ((2 : Int32) &&& 31).toUInt32).toInt32).toUInt32.toUInt16.toUInt32.toInt32)), .val (.int (((p5.toUInt32 >>> ((18 : Int32) &&& 31).toUInt32).toInt32).toUInt32.toUInt16.toUInt32.toInt32)), .val (.ref b6), .val (.ref x16), .val (.int 0), .val (.int 1), .val (.int 1)] [])) _
    refine st25 _ ?_
    show Steps p.tables e below (T25.setTop (mkF m 296 #[.val (.int p1), .val (.int p2), .val (.int p3), .val (.int p4), .val (.int p5), .val (.ref b1), .val (.int (Int32.ofNat o)), .val (.int (Int32.ofNat n)), .val (.int 0), .val (.int 1), .val (.int (((p5.toUInt32 >>> ((2 : Int32) &&& 31).toUInt32).toInt32).toUInt32.toUInt16.toUInt32.toInt32)), .val (.int (((p5.toUInt32 >>> ((18 : Int32) &&& 31).toUInt32).toInt32).toUInt32.toUInt16.toUInt32.toInt32)), .val (.ref b6), .val (.ref x16), .val (.int 0), .val (.int 1), .val (.int 1)] [])) _
    refine st26 _ ?_
    show Steps p.tables e below (T26.setTop (mkF m 333 #[.val (.int p1), .val (.int p2), .val (.int p3), .val (.int p4), .val (.int p5), .val (.ref b1), .val (.int (Int32.ofNat o)), .val (.int (Int32.ofNat n)), .val (.int 0), .val (.int 1), .val (.int (((p5.toUInt32 >>> ((2 : Int32) &&& 31).toUInt32).toInt32).toUInt32.toUInt16.toUInt32.toInt32)), .val (.int (((p5.toUInt32 >>> ((18 : Int32) &&& 31).toUInt32).toInt32).toUInt32.toUInt16.toUInt32.toInt32)), .val (.ref b6), .val (.ref x16), .val (.int 0), .val (.int 1), .val (.int 1)] [])) _
    refine st27 _ ?_
    show Steps p.tables e below (T27.setTop (mkF m 370 #[.val (.int p1), .val (.int p2), .val (.int p3), .val (.int p4), .val (.int p5), .val (.ref b1), .val (.int (Int32.ofNat o)), .val (.int (Int32.ofNat n)), .val (.int 0), .val (.int 1), .val (.int (((p5.toUInt32 >>> ((2 : Int32) &&& 31).toUInt32).toInt32).toUInt32.toUInt16.toUInt32.toInt32)), .val (.int (((p5.toUInt32 >>> ((18 : Int32) &&& 31).toUInt32).toInt32).toUInt32.toUInt16.toUInt32.toInt32)), .val (.ref b6), .val (.ref x16), .val (.int 0), .val (.int 1), .val (.int 1)] [])) _
    refine st28 _ ?_
    show Steps p.tables e below (T28.setTop (mkF m 402 #[.val (.int p1), .val (.int p2), .val (.int p3), .val (.int p4), .val (.int p5), .val (.ref b1), .val (.int (Int32.ofNat o)), .val (.int (Int32.ofNat n)), .val (.int 0), .val (.int 1), .val (.int (((p5.toUInt32 >>> ((2 : Int32) &&& 31).toUInt32).toInt32).toUInt32.toUInt16.toUInt32.toInt32)), .val (.int (((p5.toUInt32 >>> ((18 : Int32) &&& 31).toUInt32).toInt32).toUInt32.toUInt16.toUInt32.toInt32)), .val (.ref b6), .val (.ref x16), .val (.int 0), .val (.int 1), .val (.int 1)] [])) _
    refine XS.iload X28.here hx rfl (hb hby at_402) rfl ?_
    show Steps p.tables e below (T28.setTop (mkF m 404 #[.val (.int p1), .val (.int p2), .val (.int p3), .val (.int p4), .val (.int p5), .val (.ref b1), .val (.int (Int32.ofNat o)), .val (.int (Int32.ofNat n)), .val (.int 0), .val (.int 1), .val (.int (((p5.toUInt32 >>> ((2 : Int32) &&& 31).toUInt32).toInt32).toUInt32.toUInt16.toUInt32.toInt32)), .val (.int (((p5.toUInt32 >>> ((18 : Int32) &&& 31).toUInt32).toInt32).toUInt32.toUInt16.toUInt32.toInt32)), .val (.ref b6), .val (.ref x16), .val (.int 0), .val (.int 1), .val (.int 1)] [(.int 1)])) _
    exact retN X28 hx (t := .boolean) Bd.returns (by simp) (hb hby at_404) hr
  · show Q0 Z  h0 n0 _ T28.heap _
    rw [e28b]
    exact ⟨rfl, N28⟩
set_option maxRecDepth 65536 in
set_option maxHeartbeats 40000000 in
theorem rm0_10 (l : Launch) (Z : State) (a0 : Array Value) (hw : ∀ d ∈ tables_1, d.before a0 Z = true) (ws : List Jvm.Cond) (G1 : Int32) (G3 : Value) (G4 : Value) (p1 : Int32) (p2 : Int32) (p3 : Int32) (p4 : Int32) (p5 : Int32) (o : Nat) (n : Nat) (h0 : Heap) (n0 : Nat) (Z0 : n0 ≤ h0.size) (EN : own_env Z G1 G3 G4) (X00 : Old Z n0 h0) (hr1 : ((p3 &&& (2147483647 : Int32)) % (5 : Int32)) = (Int32.ofNat o)) (ho5 : o < 5) (hr2 : ((p4 &&& (2147483647 : Int32)) % (Int32.ofNat (5 - o))) = (Int32.ofNat n)) (hn5 : n < 5 - o) (hb1 : ¬ ((p5 &&& (1 : Int32)) = (0 : Int32))) (hb2 : (p5 &&& (2 : Int32)) = (0 : Int32)) :
    MetFree l x (head1 (Jvm.Cond.code x code maxLocals ret :: ws) room_1) (fun a_ U_ => a_ = #[(.int p1), (.int p2), (.int p3), (.int p4), (.int p5)] ∧ Z.Warmed39 U_.vm ∧ U_.heap = h0) (fun _ _ _ _ _ => True) (fun _ U_ o_ U1_ => ∃ v_ L_, o_ = .returned v_ ∧ Q0 Z  h0 n0 v_ U1_.heap L_ ∧ FrameEnd U_ o_ U1_ L_ 24 256) := by
  refine MetFree.of_bodySF (plainFor_of_name pn_0) hisR ?_
  intro p e s m args below meth c s₁ Bd hml0 hP hK
  obtain ⟨rfl, hZ, hh⟩ := hP
  have hx := Bd.exec
  have hby := Bd.bytes
  have hml : c.maxLocals = 17 := hml0
  have hown : s.vm.findClass "com/example/hebelwerk/hebelwerk/core/TextWritePinLaw" = some m.cls := findClass_of_methodNamed Bd.named
  have hnm := (name_of_methodNamed Bd.named Bd.method).1
  have X0 : Stand p l e room_1 s m #[(.int p1), (.int p2), (.int p3), (.int p4), (.int p5)] below meth c s₁ [] 0 0 := Stand.of_body Bd
  have e0 : s₁.heap = h0 := by rw [← hh, Bd.state]; rfl
  have N0 := Fr.nil n0
  have pre0 : ∀ tt, Steps p.tables e below (s₁.setTop (mkF m 0 #[.val (.int p1), .val (.int p2), .val (.int p3), .val (.int p4), .val (.int p5), .unset, .unset, .unset, .unset, .unset, .unset, .unset, .unset, .unset, .unset, .unset, .unset] [])) tt → Steps p.tables e below (s₁.setTop (entryFrame m #[(.int p1), (.int p2), (.int p3), (.int p4), (.int p5)] maxLocals)) tt := fun tt kk => castTop (ef_0_rrrrr m p1 p2 p3 p4 p5) kk
  have EN0 := EN
  obtain ⟨O2, P5, O4, rG3, O5, rG4, O6, O7, O8⟩ := EN
  obtain ⟨T1, h1, k1, X1, e1, E1, A1, st1⟩ := newP X0 hx hZ (hw _ (tk 0 rfl)) e0 (g := (mkF m 1 #[.val (.int p1), .val (.int p2), .val (.int p3), .val (.int p4), .val (.int p5), .unset, .unset, .unset, .unset, .unset, .unset, .unset, .unset, .unset, .unset, .unset, .unset] [(.int 4)])) rfl (hb hby at_1) rfl (by decide) (cap := 4) (by decide) (by decide) (by decide) (by decide)
  obtain ⟨b1, g1⟩ : ∃ z, z = h0.size := ⟨_, rfl⟩
  rw [← g1] at A1 st1
  have g_b1 : n0 ≤ b1 := Nat.le_trans Z0 (Nat.le_of_eq g1.symm)
  have sz_b1 : h0.size ≤ b1 := Nat.le_trans (Nat.le_refl _) (Nat.le_of_eq g1.symm)
  have V1 : Arv Z h1 b1 k1 .char (4 : Int32) [(.int 0), (.int 0), (.int 0), (.int 0)] (.int 0) := (Arv.new A1 (by decide)).pad (pad_rep [] (.int 0) 4)
  obtain ⟨c2, Ar2, q2, S2, M2, H2, Gz2⟩ := id V1
  obtain ⟨T2, h2, X2, e2, W2, st2⟩ := stC X1 hx hZ e1 Ar2 (j := (0 : Int32)) (inb_of S2 ⟨by decide, by decide⟩) (g := (mkF m 10 #[.val (.int p1), .val (.int p2), .val (.int p3), .val (.int p4), .val (.int p5), .val (.ref b1), .unset, .unset, .unset, .unset, .unset, .unset, .unset, .unset, .unset, .unset, .unset] [(.int (p1.toUInt32.toUInt16.toUInt32.toInt32)), (.int 0), (.ref b1)])) rfl rfl (hb hby at_10)
  have V2 : Arv Z h2 b1 k1 .char (4 : Int32) [(.int (nar .char (p1.toUInt32.toUInt16.toUInt32.toInt32))), (.int 0), (.int 0), (.int 0)] (.int 0) := Arv.set Ar2 q2 S2 M2 H2 Gz2 (fits_nar_char _) W2 0 rfl (Nat.le_of_ble_eq_true rfl)
  have N2 := Fr.snoc X2 N0 g_b1
  obtain ⟨c3, Ar3, q3, S3, M3, H3, Gz3⟩ := id V2
  obtain ⟨T3, h3, X3, e3, W3, st3⟩ := stC X2 hx hZ e2 Ar3 (j := (1 : Int32)) (inb_of S3 ⟨by decide, by decide⟩) (g := (mkF m 19 #[.val (.int p1), .val (.int p2), .val (.int p3), .val (.int p4), .val (.int p5), .val (.ref b1), .unset, .unset, .unset, .unset, .unset, .unset, .unset, .unset, .unset, .unset, .unset] [(.int (((p1.toUInt32 >>> ((16 : Int32) &&& 31).toUInt32).toInt32).toUInt32.toUInt16.toUInt32.toInt32)), (.int 1), (.ref b1)])) rfl rfl (hb hby at_19)
  have V3 : Arv Z h3 b1 k1 .char (4 : Int32) [(.int (nar .char (p1.toUInt32.toUInt16.toUInt32.toInt32))), (.int (nar .char (((p1.toUInt32 >>> ((16 : Int32) &&& 31).toUInt32).toInt32).toUInt32.toUInt16.toUInt32.toInt32))), (.int 0), (.int 0)] (.int 0) := Arv.set Ar3 q3 S3 M3 H3 Gz3 (fits_nar_char _) W3 1 rfl (Nat.le_of_ble_eq_true rfl)
  have N3 := Fr.snoc X3 N2 g_b1
  obtain ⟨c4, Ar4, q4, S4, M4, H4, Gz4⟩ := id V3
  obtain ⟨T4, h4, X4, e4, W4, st4⟩ := stC X3 hx hZ e3 Ar4 (j := (2 : Int32)) (inb_of S4 ⟨by decide, by decide⟩) (g := (mkF m 25 #[.val (.int p1), .val (.int p2), .val (.int p3), .val (.int p4), .val (.int p5), .val (.ref b1), .unset, .unset, .unset, .unset, .unset, .unset, .unset, .unset, .unset, .unset, .unset] [(.int (p2.toUInt32.toUInt16.toUInt32.toInt32)), (.int 2), (.ref b1)])) rfl rfl (hb hby at_25)
  have V4 : Arv Z h4 b1 k1 .char (4 : Int32) [(.int (nar .char (p1.toUInt32.toUInt16.toUInt32.toInt32))), (.int (nar .char (((p1.toUInt32 >>> ((16 : Int32) &&& 31).toUInt32).toInt32).toUInt32.toUInt16.toUInt32.toInt32))), (.int (nar .char (p2.toUInt32.toUInt16.toUInt32.toInt32))), (.int 0)] (.int 0) := Arv.set Ar4 q4 S4 M4 H4 Gz4 (fits_nar_char _) W4 2 rfl (Nat.le_of_ble_eq_true rfl)
  have N4 := Fr.snoc X4 N3 g_b1
  obtain ⟨c5, Ar5, q5, S5, M5, H5, Gz5⟩ := id V4
  obtain ⟨T5, h5, X5, e5, W5, st5⟩ := stC X4 hx hZ e4 Ar5 (j := (3 : Int32)) (inb_of S5 ⟨by decide, by decide⟩) (g := (mkF m 34 #[.val (.int p1), .val (.int p2), .val (.int p3), .val (.int p4), .val (.int p5), .val (.ref b1), .unset, .unset, .unset, .unset, .unset, .unset, .unset, .unset, .unset, .unset, .unset] [(.int (((p2.toUInt32 >>> ((16 : Int32) &&& 31).toUInt32).toInt32).toUInt32.toUInt16.toUInt32.toInt32)), (.int 3), (.ref b1)])) rfl rfl (hb hby at_34)
  have V5 : Arv Z h5 b1 k1 .char (4 : Int32) [(.int (nar .char (p1.toUInt32.toUInt16.toUInt32.toInt32))), (.int (nar .char (((p1.toUInt32 >>> ((16 : Int32) &&& 31).toUInt32).toInt32).toUInt32.toUInt16.toUInt32.toInt32))), (.int (nar .char (p2.toUInt32.toUInt16.toUInt32.toInt32))), (.int (nar .char (((p2.toUInt32 >>> ((16 : Int32) &&& 31).toUInt32).toInt32).toUInt32.toUInt16.toUInt32.toInt32)))] (.int 0) := Arv.set Ar5 q5 S5 M5 H5 Gz5 (fits_nar_char _) W5 3 rfl (Nat.le_of_ble_eq_true rfl)
  have N5 := Fr.snoc X5 N4 g_b1
  obtain ⟨as, has⟩ : ∃ z : List Int32, z = [(nar .char (p1.toUInt32.toUInt16.toUInt32.toInt32)), (nar .char (((p1.toUInt32 >>> ((16 : Int32) &&& 31).toUInt32).toInt32).toUInt32.toUInt16.toUInt32.toInt32)), (nar .char (p2.toUInt32.toUInt16.toUInt32.toInt32)), (nar .char (((p2.toUInt32 >>> ((16 : Int32) &&& 31).toUInt32).toInt32).toUInt32.toUInt16.toUInt32.toInt32))] := ⟨_, rfl⟩
  have Va : Arv Z h5 b1 k1 .char (Int32.ofNat as.length) (as.map Value.int) (.int 0) := by subst has; exact V5
  have hal : as.length = 4 := by subst has; rfl
  have hch : ∀ c ∈ as, own_ch c := by
    subst has
    intro c hc
    simp only [List.mem_cons, List.not_mem_nil, or_false] at hc
    rcases hc with rfl | rfl | rfl | rfl <;> exact own_narch _
  obtain ⟨T6, h6, X6, e6, E6, A6, D6, -, st6⟩ := newO X5 hx hZ hown (hw _ (tk 2 rfl)) (hw _ (tk 3 rfl)) (hw _ (tk 4 rfl)) e5 (g := (mkF m 97 #[.val (.int p1), .val (.int p2), .val (.int p3), .val (.int p4), .val (.int p5), .val (.ref b1), .val (.int (Int32.ofNat o)), .val (.int (Int32.ofNat n)), .val (.int 1), .val (.int 0), .val (.int (((p5.toUInt32 >>> ((2 : Int32) &&& 31).toUInt32).toInt32).toUInt32.toUInt16.toUInt32.toInt32)), .val (.int (((p5.toUInt32 >>> ((18 : Int32) &&& 31).toUInt32).toInt32).toUInt32.toUInt16.toUInt32.toInt32)), .unset, .unset, .unset, .unset, .unset] [])) rfl (hb hby at_97) (by decide) (by decide)
  obtain ⟨b6, g6⟩ : ∃ z, z = h5.size := ⟨_, rfl⟩
  rw [← g6] at A6 D6 st6
  have g_b6 : n0 ≤ b6 := Nat.le_trans (Nat.le_trans Z0 (Nat.le_trans (Nat.le_trans (Nat.le_trans (Nat.le_trans E1.1 (Keep.of_wr W2).1) (Keep.of_wr W3).1) (Keep.of_wr W4).1) (Keep.of_wr W5).1)) (Nat.le_of_eq g6.symm)
  have sz_b6 : h0.size ≤ b6 := Nat.le_trans (Nat.le_trans (Nat.le_trans (Nat.le_trans (Nat.le_trans E1.1 (Keep.of_wr W2).1) (Keep.of_wr W3).1) (Keep.of_wr W4).1) (Keep.of_wr W5).1) (Nat.le_of_eq g6.symm)
  have F6_lock : Fld Z h6 b6 "java/io/Writer" "lock" "Ljava/lang/Object;" .null := D6 (Or.inl (hw _ (tk 17 rfl))) (ty := (.object "java/lang/Object")) (by decide)
  have F6_text : Fld Z h6 b6 "com/example/hebelwerk/hebelwerk/core/Text" "text" "Ljava/lang/StringBuilder;" .null := D6 (Or.inr (hw _ (tk 39 rfl))) (ty := (.object "java/lang/StringBuilder")) (by decide)
  have f8 := ((((((X00.ext E1).wr W2 g_b1).wr W3 g_b1).wr W4 g_b1).wr W5 g_b1).ext E6)
  obtain ⟨_, _, ⟨T7, L7, k7, n7⟩, -, X7, ⟨Lc7, hQ7, l7, y7, z7⟩, st7⟩ := X6.specialBack hx (y := (⟨"com/example/hebelwerk/hebelwerk/core/Text", "<init>", "()V"⟩ : MethodName)) rfl hown (mvT hZ (hw _ (tk 5 rfl))) (mvT hZ (hw _ (tk 6 rfl))) (mvT hZ (hw _ (tk 7 rfl))) (by decide) (backOf (W := 1) (rmTXI l Z a0 hw [] G1 G3 G4 b6 h6 n0 (Nat.le_trans Z0 (Nat.le_trans (Nat.le_trans (Nat.le_trans (Nat.le_trans (Nat.le_trans E1.1 (Keep.of_wr W2).1) (Keep.of_wr W3).1) (Keep.of_wr W4).1) (Keep.of_wr W5).1) E6.1)) EN0 f8 A6 F6_lock F6_text g_b6) hZ (hw _ (tk 7 rfl)) (hw _ (tk 4 rfl)) (by decide) (by decide)) (g := (mkF m 101 #[.val (.int p1), .val (.int p2), .val (.int p3), .val (.int p4), .val (.int p5), .val (.ref b1), .val (.int (Int32.ofNat o)), .val (.int (Int32.ofNat n)), .val (.int 1), .val (.int 0), .val (.int (((p5.toUInt32 >>> ((2 : Int32) &&& 31).toUInt32).toInt32).toUInt32.toUInt16.toUInt32.toInt32)), .val (.int (((p5.toUInt32 >>> ((18 : Int32) &&& 31).toUInt32).toInt32).toUInt32.toUInt16.toUInt32.toInt32)), .unset, .unset, .unset, .unset, .unset] [(.ref b6), (.ref b6)])) rfl (by rw [hml]; rfl) (Steps.refl _) (a := b6) (argsL := []) (rest := [(.ref b6)]) (lenOf pd___V rfl) rfl (by show 2 * 0 + _ ≤ _; exact Nat.le_of_eq rfl) (hb hby at_101) (fun _ _ => ⟨rfl, e6, (by decide : 2 + 2 ≤ _), (by decide : 7 + 20 ≤ _)⟩)
  dsimp only [Pt.U, Pt.locs, Pt.cells, Pt.slots] at X7 l7 y7 z7 st7 hQ7
  subst l7 y7 z7
  obtain ⟨a7, t7, k7q, rfl, Nq7, ga7, gt7, sa7, sq7, Kq7, E7q, F7q, B7⟩ := hQ7
  have N7 := Fr.app N5 Nq7
  have f10 := (f8.keep Kq7 (allS g_b6 all0))
  obtain ⟨cq9, kq9, q9a, q9b, q9c⟩ := isOf hZ rfl E7q
  obtain ⟨_, _, ⟨T9, L9, k9, n9⟩, -, X9, ⟨Lc9, hQ9, l9, y9, z9⟩, st9⟩ := X7.virtualBack hx (y := (⟨"com/example/hebelwerk/hebelwerk/core/Text", "write", "(I)V"⟩ : MethodName)) (z := (⟨"com/example/hebelwerk/hebelwerk/core/Text", "write", "(I)V"⟩ : MethodName)) hown (mvT hZ (hw _ (tk 169 rfl))) (mvT hZ (hw _ (tk 170 rfl))) (notFace_of_selects (args := #[]) (mvT hZ (hw _ (tk 172 rfl)))) (mvT hZ (hw _ (tk 172 rfl))) (mvT hZ (hw _ (tk 171 rfl))) (by decide) (backOf (W := 0) (rmTI l Z a0 hw [] G1 G3 G4 b6 ((p5.toUInt32 >>> ((2 : Int32) &&& 31).toUInt32).toInt32) a7 t7 k7q [] T7.heap n0 (Nat.le_trans Z0 (Nat.le_trans (Nat.le_trans (Nat.le_trans (Nat.le_trans (Nat.le_trans (Nat.le_trans E1.1 (Keep.of_wr W2).1) (Keep.of_wr W3).1) (Keep.of_wr W4).1) (Keep.of_wr W5).1) E6.1) Kq7.1)) EN0 f10 B7 ga7 gt7 (by decide) E7q F7q) hZ (hw _ (tk 173 rfl)) (hw _ (tk 4 rfl)) (by decide) (by decide)) q9a q9c (g := (mkF m 117 #[.val (.int p1), .val (.int p2), .val (.int p3), .val (.int p4), .val (.int p5), .val (.ref b1), .val (.int (Int32.ofNat o)), .val (.int (Int32.ofNat n)), .val (.int 1), .val (.int 0), .val (.int (((p5.toUInt32 >>> ((2 : Int32) &&& 31).toUInt32).toInt32).toUInt32.toUInt16.toUInt32.toInt32)), .val (.int (((p5.toUInt32 >>> ((18 : Int32) &&& 31).toUInt32).toInt32).toUInt32.toUInt16.toUInt32.toInt32)), .val (.ref b6), .unset, .unset, .unset, .unset] [(.int ((p5.toUInt32 >>> ((2 : Int32) &&& 31).toUInt32).toInt32)), (.ref b6)])) rfl (by rw [hml]; rfl) (Steps.refl _) (argsL := [(.int ((p5.toUInt32 >>> ((2 : Int32) &&& 31).toUInt32).toInt32))]) (rest := []) (lenOf pd__I_V rfl) rfl (by show 2 * 0 + _ ≤ _; exact Nat.le_of_eq rfl) (hb hby at_117) (fun _ _ => ⟨rfl, rfl, (by decide : 4 + 1 ≤ _), (by decide : 27 + 32 ≤ _)⟩)
  dsimp only [Pt.U, Pt.locs, Pt.cells, Pt.slots] at X9 l9 y9 z9 st9 hQ9
  subst l9 y9 z9
  obtain ⟨rfl, Nq9, Kq9, t9, k9q, gt9, or9, B9⟩ := hQ9
  have N9 := Fr.app N7 Nq9
  have lb9 : h6.size ≤ t9 := or9.elim (fun q => by rw [q]; exact sq7) (fun q => Nat.le_trans Kq7.1 q)
  have f12 := (f10.keep Kq9 (allS ga7 (allS gt7 all0)))
  have f13 := (((Va.ext E6).keep Kq7 (ninS (Nat.ne_of_lt (Nat.lt_of_lt_of_le (Nat.lt_of_lt_of_le V1.lt (Nat.le_trans (Nat.le_trans (Nat.le_trans (Keep.of_wr W2).1 (Keep.of_wr W3).1) (Keep.of_wr W4).1) (Keep.of_wr W5).1)) (Nat.le_of_eq g6.symm))) nin0)).keep Kq9 (ninS (Nat.ne_of_lt (Nat.lt_of_lt_of_le (Nat.lt_of_lt_of_le V1.lt (Nat.le_trans (Nat.le_trans (Nat.le_trans (Nat.le_trans (Keep.of_wr W2).1 (Keep.of_wr W3).1) (Keep.of_wr W4).1) (Keep.of_wr W5).1) E6.1)) sa7)) (ninS (Nat.ne_of_lt (Nat.lt_of_lt_of_le (Nat.lt_of_lt_of_le V1.lt (Nat.le_trans (Nat.le_trans (Nat.le_trans (Nat.le_trans (Keep.of_wr W2).1 (Keep.of_wr W3).1) (Keep.of_wr W4).1) (Keep.of_wr W5).1) E6.1)) sq7)) nin0)))
  have f14 := (E7q.keep Kq9)
  have f15 := (F7q.keep Kq9 (ninS (Nat.ne_of_lt (Nat.lt_of_lt_of_le A6.lt sa7)) (ninS (Nat.ne_of_lt (Nat.lt_of_lt_of_le A6.lt sq7)) nin0)))
  obtain ⟨cq11, kq11, q11a, q11b, q11c⟩ := isOf hZ rfl f14
  obtain ⟨_, _, ⟨T11, L11, k11, n11⟩, -, X11, ⟨Lc11, hQ11, l11, y11, z11⟩, st11⟩ := X9.virtualBack hx (y := (⟨"com/example/hebelwerk/hebelwerk/core/Text", "write", "([CII)V"⟩ : MethodName)) (z := (⟨"com/example/hebelwerk/hebelwerk/core/Text", "write", "([CII)V"⟩ : MethodName)) hown (mvT hZ (hw _ (tk 40 rfl))) (mvT hZ (hw _ (tk 41 rfl))) (notFace_of_selects (args := #[]) (mvT hZ (hw _ (tk 43 rfl)))) (mvT hZ (hw _ (tk 43 rfl))) (mvT hZ (hw _ (tk 42 rfl))) (by decide) (backOf (W := 0) (rmTW l Z a0 hw [] G1 G3 G4 b6 a7 t9 k9q ([] ++ [(((p5.toUInt32 >>> ((2 : Int32) &&& 31).toUInt32).toInt32).toUInt32.toUInt16.toUInt32.toInt32)]) b1 k1 as o (o + n) n T9.heap n0 (Nat.le_trans Z0 (Nat.le_trans (Nat.le_trans (Nat.le_trans (Nat.le_trans (Nat.le_trans (Nat.le_trans (Nat.le_trans E1.1 (Keep.of_wr W2).1) (Keep.of_wr W3).1) (Keep.of_wr W4).1) (Keep.of_wr W5).1) E6.1) Kq7.1) Kq9.1)) EN0 f12 B9 ga7 gt9 f13 (Nat.ne_of_lt (Nat.lt_of_lt_of_le (Nat.lt_of_lt_of_le V1.lt (Nat.le_trans (Nat.le_trans (Nat.le_trans (Nat.le_trans (Keep.of_wr W2).1 (Keep.of_wr W3).1) (Keep.of_wr W4).1) (Keep.of_wr W5).1) E6.1)) lb9)) (Nat.ne_of_lt (Nat.lt_of_lt_of_le (Nat.lt_of_lt_of_le V1.lt (Nat.le_trans (Nat.le_trans (Nat.le_trans (Nat.le_trans (Keep.of_wr W2).1 (Keep.of_wr W3).1) (Keep.of_wr W4).1) (Keep.of_wr W5).1) E6.1)) sa7)) (by simp only [List.length_append, List.length_nil, List.length_cons]; omega) rfl (by omega) (by omega) hch f14 f15) hZ (hw _ (tk 44 rfl)) (hw _ (tk 4 rfl)) (by decide) (by decide)) q11a q11c (g := (mkF m 128 #[.val (.int p1), .val (.int p2), .val (.int p3), .val (.int p4), .val (.int p5), .val (.ref b1), .val (.int (Int32.ofNat o)), .val (.int (Int32.ofNat n)), .val (.int 1), .val (.int 0), .val (.int (((p5.toUInt32 >>> ((2 : Int32) &&& 31).toUInt32).toInt32).toUInt32.toUInt16.toUInt32.toInt32)), .val (.int (((p5.toUInt32 >>> ((18 : Int32) &&& 31).toUInt32).toInt32).toUInt32.toUInt16.toUInt32.toInt32)), .val (.ref b6), .unset, .unset, .unset, .unset] [(.int (Int32.ofNat n)), (.int (Int32.ofNat o)), (.ref b1), (.ref b6)])) rfl (by rw [hml]; rfl) (Steps.refl _) (argsL := [(.ref b1), (.int (Int32.ofNat o)), (.int (Int32.ofNat n))]) (rest := []) (lenOf pd___CII_V rfl) rfl (by show 2 * 0 + _ ≤ _; exact Nat.le_of_eq rfl) (hb hby at_128) (fun _ _ => ⟨rfl, rfl, (by decide : 5 + 1 ≤ _), (by decide : 59 + 32 ≤ _)⟩)
  dsimp only [Pt.U, Pt.locs, Pt.cells, Pt.slots] at X11 l11 y11 z11 st11 hQ11
  subst l11 y11 z11
  obtain ⟨rfl, Nq11, Kq11, t11, k11q, gt11, or11, B11⟩ := hQ11
  have N11 := Fr.app N9 Nq11
  have lb11 : h6.size ≤ t11 := or11.elim (fun q => by rw [q]; exact lb9) (fun q => Nat.le_trans (Nat.le_trans Kq7.1 Kq9.1) q)
  have f17 := (f12.keep Kq11 (allS ga7 (allS gt9 all0)))
  have f18 := (f14.keep Kq11)
  have f19 := (f15.keep Kq11 (ninS (Nat.ne_of_lt (Nat.lt_of_lt_of_le A6.lt sa7)) (ninS (Nat.ne_of_lt (Nat.lt_of_lt_of_le A6.lt lb9)) nin0)))
  obtain ⟨cq16, kq16, q16a, q16b, q16c⟩ := isOf hZ rfl f18
  obtain ⟨_, _, ⟨T16, L16, k16, n16⟩, -, X16, ⟨Lc16, hQ16, l16, y16, z16⟩, st16⟩ := X11.virtualBack hx (y := (⟨"com/example/hebelwerk/hebelwerk/core/Text", "toString", "()Ljava/lang/String;"⟩ : MethodName)) (z := (⟨"com/example/hebelwerk/hebelwerk/core/Text", "toString", "()Ljava/lang/String;"⟩ : MethodName)) hown (mvT hZ (hw _ (tk 82 rfl))) (mvT hZ (hw _ (tk 83 rfl))) (notFace_of_selects (args := #[]) (mvT hZ (hw _ (tk 85 rfl)))) (mvT hZ (hw _ (tk 85 rfl))) (mvT hZ (hw _ (tk 84 rfl))) (by decide) (backOf (W := 0) (rmTTS l Z a0 hw [] G1 G3 G4 b6 a7 t11 k11q (([] ++ [(((p5.toUInt32 >>> ((2 : Int32) &&& 31).toUInt32).toInt32).toUInt32.toUInt16.toUInt32.toInt32)]) ++ (as.drop o).take n) T11.heap n0 (Nat.le_trans Z0 (Nat.le_trans (Nat.le_trans (Nat.le_trans (Nat.le_trans (Nat.le_trans (Nat.le_trans (Nat.le_trans (Nat.le_trans E1.1 (Keep.of_wr W2).1) (Keep.of_wr W3).1) (Keep.of_wr W4).1) (Keep.of_wr W5).1) E6.1) Kq7.1) Kq9.1) Kq11.1)) EN0 f17 B11 (by have q := (own_cs ([] ++ [(((p5.toUInt32 >>> ((2 : Int32) &&& 31).toUInt32).toInt32).toUInt32.toUInt16.toUInt32.toInt32)]) as [] o n (by omega) (([] ++ [(((p5.toUInt32 >>> ((2 : Int32) &&& 31).toUInt32).toInt32).toUInt32.toUInt16.toUInt32.toInt32)]) ++ (as.drop o).take n) (List.append_nil _).symm).1; simp only [List.length_append, List.length_nil, List.length_cons] at q ⊢; omega) ga7 gt11 f18 f19) hZ (hw _ (tk 86 rfl)) (hw _ (tk 4 rfl)) (by decide) (by decide)) q16a q16c (g := (mkF m 148 #[.val (.int p1), .val (.int p2), .val (.int p3), .val (.int p4), .val (.int p5), .val (.ref b1), .val (.int (Int32.ofNat o)), .val (.int (Int32.ofNat n)), .val (.int 1), .val (.int 0), .val (.int (((p5.toUInt32 >>> ((2 : Int32) &&& 31).toUInt32).toInt32).toUInt32.toUInt16.toUInt32.toInt32)), .val (.int (((p5.toUInt32 >>> ((18 : Int32) &&& 31).toUInt32).toInt32).toUInt32.toUInt16.toUInt32.toInt32)), .val (.ref b6), .unset, .unset, .unset, .unset] [(.ref b6)])) rfl (by rw [hml]; rfl) (Steps.refl _) (argsL := []) (rest := []) (lenOf pd___Ljava_lang_String_ rfl) rfl (by show 2 * 0 + _ ≤ _; exact Nat.le_of_eq rfl) (hb hby at_148) (fun _ _ => ⟨rfl, rfl, (by decide : 6 + 2 ≤ _), (by decide : 91 + 36 ≤ _)⟩)
  dsimp only [Pt.U, Pt.locs, Pt.cells, Pt.slots] at X16 l16 y16 z16 st16 hQ16
  subst l16 y16 z16
  obtain ⟨x16, rfl, Nq16, sq16, Kq16, S16⟩ := hQ16
  have N16 := Fr.app N11 Nq16
  have E16q := S16.choose_spec.choose_spec.1
  obtain ⟨CS, hCS⟩ : ∃ z : List Int32, z = (([] ++ [(((p5.toUInt32 >>> ((2 : Int32) &&& 31).toUInt32).toInt32).toUInt32.toUInt16.toUInt32.toInt32)]) ++ (as.drop o).take n) := ⟨_, rfl⟩
  rw [← hCS] at S16
  obtain ⟨hL, hk, hpre, hsuf⟩ := own_cs ([] ++ [(((p5.toUInt32 >>> ((2 : Int32) &&& 31).toUInt32).toInt32).toUInt32.toUInt16.toUInt32.toInt32)]) as [] o n (by omega) CS (hCS.trans (List.append_nil _).symm)
  have hCc : ∀ c ∈ CS, own_ch c := by rw [(hCS.trans (List.append_nil _).symm)]; exact own_cch (own_one (own_narch _)) hch own_nil
  have hL' : CS.length = 1 + n + 0 := hL
  have f21 := (f17.keep Kq16 all0)
  obtain ⟨cq20, kq20, q20a, q20b, q20c⟩ := isOf hZ rfl E16q
  obtain ⟨_, _, ⟨T20, L20, k20, n20⟩, -, X20, ⟨Lc20, hQ20, l20, y20, z20⟩, st20⟩ := X16.virtualBack hx (y := (⟨"java/lang/String", "length", "()I"⟩ : MethodName)) (z := (⟨"java/lang/String", "length", "()I"⟩ : MethodName)) hown (mvT hZ (hw _ (tk 138 rfl))) (mvT hZ (hw _ (tk 139 rfl))) (notFace_of_selects (args := #[]) (mvT hZ (hw _ (tk 141 rfl)))) (mvT hZ (hw _ (tk 141 rfl))) (mvT hZ (hw _ (tk 140 rfl))) (by decide) (backOf (W := 0) (rmLE l Z a0 hw [] G1 G3 G4 x16 CS T16.heap n0 (Nat.le_trans Z0 (Nat.le_trans (Nat.le_trans (Nat.le_trans (Nat.le_trans (Nat.le_trans (Nat.le_trans (Nat.le_trans (Nat.le_trans (Nat.le_trans E1.1 (Keep.of_wr W2).1) (Keep.of_wr W3).1) (Keep.of_wr W4).1) (Keep.of_wr W5).1) E6.1) Kq7.1) Kq9.1) Kq11.1) Kq16.1)) EN0 f21 S16 (by omega)) hZ (hw _ (tk 142 rfl)) (hw _ (tk 32 rfl)) (by decide) (by decide)) q20a q20c (g := (mkF m 179 #[.val (.int p1), .val (.int p2), .val (.int p3), .val (.int p4), .val (.int p5), .val (.ref b1), .val (.int (Int32.ofNat o)), .val (.int (Int32.ofNat n)), .val (.int 1), .val (.int 0), .val (.int (((p5.toUInt32 >>> ((2 : Int32) &&& 31).toUInt32).toInt32).toUInt32.toUInt16.toUInt32.toInt32)), .val (.int (((p5.toUInt32 >>> ((18 : Int32) &&& 31).toUInt32).toInt32).toUInt32.toUInt16.toUInt32.toInt32)), .val (.ref b6), .val (.ref x16), .val (.int 1), .val (.int 0), .unset] [(.ref x16)])) rfl (by rw [hml]; rfl) (Steps.refl _) (argsL := []) (rest := []) (lenOf pd___I rfl) rfl (by show 2 * 0 + _ ≤ _; exact Nat.le_of_eq rfl) (hb hby at_179) (fun _ _ => ⟨rfl, rfl, (by decide : 8 + 0 ≤ _), (by decide : 127 + 0 ≤ _)⟩)
  dsimp only [Pt.U, Pt.locs, Pt.cells, Pt.slots] at X20 l20 y20 z20 st20 hQ20
  subst l20 y20 z20
  obtain ⟨rfl, Nq20, eq20⟩ := hQ20
  have N20 := Fr.app N16 Nq20
  have Xm : Stand p l e room_1 s m _ below meth c T20 _ 9 159 := { X20 with same := X20.same.mono (by decide) (by decide) }
  have f22 := ((f13.keep Kq11 (ninS (Nat.ne_of_lt (Nat.lt_of_lt_of_le (Nat.lt_of_lt_of_le V1.lt (Nat.le_trans (Nat.le_trans (Nat.le_trans (Nat.le_trans (Keep.of_wr W2).1 (Keep.of_wr W3).1) (Keep.of_wr W4).1) (Keep.of_wr W5).1) E6.1)) sa7)) (ninS (Nat.ne_of_lt (Nat.lt_of_lt_of_le (Nat.lt_of_lt_of_le V1.lt (Nat.le_trans (Nat.le_trans (Nat.le_trans (Nat.le_trans (Keep.of_wr W2).1 (Keep.of_wr W3).1) (Keep.of_wr W4).1) (Keep.of_wr W5).1) E6.1)) lb9)) nin0))).keep Kq16 nin0)
  obtain ⟨T23, h23, L23, X23, e23, N23, Z23, hh23, st23⟩ := bA1 G1 G3 G4 p1 p2 p3 p4 p5 (((p5.toUInt32 >>> ((2 : Int32) &&& 31).toUInt32).toInt32).toUInt32.toUInt16.toUInt32.toInt32) (((p5.toUInt32 >>> ((18 : Int32) &&& 31).toUInt32).toInt32).toUInt32.toUInt16.toUInt32.toInt32) b1 b6 x16 k1 as o n CS 1 (0 : Int32) T16.heap n0 Xm hx hZ hw hby hml hown eq20 N20 (Nat.le_trans Z0 (Nat.le_trans (Nat.le_trans (Nat.le_trans (Nat.le_trans (Nat.le_trans (Nat.le_trans (Nat.le_trans (Nat.le_trans (Nat.le_trans E1.1 (Keep.of_wr W2).1) (Keep.of_wr W3).1) (Keep.of_wr W4).1) (Keep.of_wr W5).1) E6.1) Kq7.1) Kq9.1) Kq11.1) Kq16.1)) EN0 f21 S16 (by omega) hCc f22 (by omega) (by omega) (hpre 0 Nat.zero_lt_one) (by omega)
  have e23b := e23.trans hh23
  obtain ⟨T24, h24, L24, X24, e24, N24, Z24, hh24, st24⟩ := (if hkk : 0 < n then bK0y G1 G3 G4 p1 p2 p3 p4 p5 (((p5.toUInt32 >>> ((2 : Int32) &&& 31).toUInt32).toInt32).toUInt32.toUInt16.toUInt32.toInt32) (((p5.toUInt32 >>> ((18 : Int32) &&& 31).toUInt32).toInt32).toUInt32.toUInt16.toUInt32.toInt32) b1 b6 x16 k1 as o n CS 1 (0 : Int32) T16.heap n0 X23 hx hZ hw hby hml hown e23b N23 (Nat.le_trans Z0 (Nat.le_trans (Nat.le_trans (Nat.le_trans (Nat.le_trans (Nat.le_trans (Nat.le_trans (Nat.le_trans (Nat.le_trans (Nat.le_trans E1.1 (Keep.of_wr W2).1) (Keep.of_wr W3).1) (Keep.of_wr W4).1) (Keep.of_wr W5).1) E6.1) Kq7.1) Kq9.1) Kq11.1) Kq16.1)) EN0 f21 S16 (by omega) hCc f22 (by omega) (by omega) hkk (hk 0 hkk) (by omega) else bK0n G1 G3 G4 p1 p2 p3 p4 p5 (((p5.toUInt32 >>> ((2 : Int32) &&& 31).toUInt32).toInt32).toUInt32.toUInt16.toUInt32.toInt32) (((p5.toUInt32 >>> ((18 : Int32) &&& 31).toUInt32).toInt32).toUInt32.toUInt16.toUInt32.toInt32) b1 b6 x16 k1 as o n CS 1 (0 : Int32) T16.heap n0 X23 hx hZ hw hby hml hown e23b N23 (Nat.le_trans Z0 (Nat.le_trans (Nat.le_trans (Nat.le_trans (Nat.le_trans (Nat.le_trans (Nat.le_trans (Nat.le_trans (Nat.le_trans (Nat.le_trans E1.1 (Keep.of_wr W2).1) (Keep.of_wr W3).1) (Keep.of_wr W4).1) (Keep.of_wr W5).1) E6.1) Kq7.1) Kq9.1) Kq11.1) Kq16.1)) EN0 f21 S16 (by omega) hCc f22 (by omega) (by omega) hkk (by omega))
  have e24b := e24.trans hh24
  obtain ⟨T25, h25, L25, X25, e25, N25, Z25, hh25, st25⟩ := (if hkk : 1 < n then bK1y G1 G3 G4 p1 p2 p3 p4 p5 (((p5.toUInt32 >>> ((2 : Int32) &&& 31).toUInt32).toInt32).toUInt32.toUInt16.toUInt32.toInt32) (((p5.toUInt32 >>> ((18 : Int32) &&& 31).toUInt32).toInt32).toUInt32.toUInt16.toUInt32.toInt32) b1 b6 x16 k1 as o n CS 1 (0 : Int32) T16.heap n0 X24 hx hZ hw hby hml hown e24b N24 (Nat.le_trans Z0 (Nat.le_trans (Nat.le_trans (Nat.le_trans (Nat.le_trans (Nat.le_trans (Nat.le_trans (Nat.le_trans (Nat.le_trans (Nat.le_trans E1.1 (Keep.of_wr W2).1) (Keep.of_wr W3).1) (Keep.of_wr W4).1) (Keep.of_wr W5).1) E6.1) Kq7.1) Kq9.1) Kq11.1) Kq16.1)) EN0 f21 S16 (by omega) hCc f22 (by omega) (by omega) hkk (hk 1 hkk) (by omega) else bK1n G1 G3 G4 p1 p2 p3 p4 p5 (((p5.toUInt32 >>> ((2 : Int32) &&& 31).toUInt32).toInt32).toUInt32.toUInt16.toUInt32.toInt32) (((p5.toUInt32 >>> ((18 : Int32) &&& 31).toUInt32).toInt32).toUInt32.toUInt16.toUInt32.toInt32) b1 b6 x16 k1 as o n CS 1 (0 : Int32) T16.heap n0 X24 hx hZ hw hby hml hown e24b N24 (Nat.le_trans Z0 (Nat.le_trans (Nat.le_trans (Nat.le_trans (Nat.le_trans (Nat.le_trans (Nat.le_trans (Nat.le_trans (Nat.le_trans (Nat.le_trans E1.1 (Keep.of_wr W2).1) (Keep.of_wr W3).1) (Keep.of_wr W4).1) (Keep.of_wr W5).1) E6.1) Kq7.1) Kq9.1) Kq11.1) Kq16.1)) EN0 f21 S16 (by omega) hCc f22 (by omega) (by omega) hkk (by omega))
  have e25b := e25.trans hh25
  obtain ⟨T26, h26, L26, X26, e26, N26, Z26, hh26, st26⟩ := (if hkk : 2 < n then bK2y G1 G3 G4 p1 p2 p3 p4 p5 (((p5.toUInt32 >>> ((2 : Int32) &&& 31).toUInt32).toInt32).toUInt32.toUInt16.toUInt32.toInt32) (((p5.toUInt32 >>> ((18 : Int32) &&& 31).toUInt32).toInt32).toUInt32.toUInt16.toUInt32.toInt32) b1 b6 x16 k1 as o n CS 1 (0 : Int32) T16.heap n0 X25 hx hZ hw hby hml hown e25b N25 (Nat.le_trans Z0 (Nat.le_trans (Nat.le_trans (Nat.le_trans (Nat.le_trans (Nat.le_trans (Nat.le_trans (Nat.le_trans (Nat.le_trans (Nat.le_trans E1.1 (Keep.of_wr W2).1) (Keep.of_wr W3).1) (Keep.of_wr W4).1) (Keep.of_wr W5).1) E6.1) Kq7.1) Kq9.1) Kq11.1) Kq16.1)) EN0 f21 S16 (by omega) hCc f22 (by omega) (by omega) hkk (hk 2 hkk) (by omega) else bK2n G1 G3 G4 p1 p2 p3 p4 p5 (((p5.toUInt32 >>> ((2 : Int32) &&& 31).toUInt32).toInt32).toUInt32.toUInt16.toUInt32.toInt32) (((p5.toUInt32 >>> ((18 : Int32) &&& 31).toUInt32).toInt32).toUInt32.toUInt16.toUInt32.toInt32) b1 b6 x16 k1 as o n CS 1 (0 : Int32) T16.heap n0 X25 hx hZ hw hby hml hown e25b N25 (Nat.le_trans Z0 (Nat.le_trans (Nat.le_trans (Nat.le_trans (Nat.le_trans (Nat.le_trans (Nat.le_trans (Nat.le_trans (Nat.le_trans (Nat.le_trans E1.1 (Keep.of_wr W2).1) (Keep.of_wr W3).1) (Keep.of_wr W4).1) (Keep.of_wr W5).1) E6.1) Kq7.1) Kq9.1) Kq11.1) Kq16.1)) EN0 f21 S16 (by omega) hCc f22 (by omega) (by omega) hkk (by omega))
  have e26b := e26.trans hh26
  obtain ⟨T27, h27, L27, X27, e27, N27, Z27, hh27, st27⟩ := (if hkk : 3 < n then bK3y G1 G3 G4 p1 p2 p3 p4 p5 (((p5.toUInt32 >>> ((2 : Int32) &&& 31).toUInt32).toInt32).toUInt32.toUInt16.toUInt32.toInt32) (((p5.toUInt32 >>> ((18 : Int32) &&& 31).toUInt32).toInt32).toUInt32.toUInt16.toUInt32.toInt32) b1 b6 x16 k1 as o n CS 1 (0 : Int32) T16.heap n0 X26 hx hZ hw hby hml hown e26b N26 (Nat.le_trans Z0 (Nat.le_trans (Nat.le_trans (Nat.le_trans (Nat.le_trans (Nat.le_trans (Nat.le_trans (Nat.le_trans (Nat.le_trans (Nat.le_trans E1.1 (Keep.of_wr W2).1) (Keep.of_wr W3).1) (Keep.of_wr W4).1) (Keep.of_wr W5).1) E6.1) Kq7.1) Kq9.1) Kq11.1) Kq16.1)) EN0 f21 S16 (by omega) hCc f22 (by omega) (by omega) hkk (hk 3 hkk) (by omega) else bK3n G1 G3 G4 p1 p2 p3 p4 p5 (((p5.toUInt32 >>> ((2 : Int32) &&& 31).toUInt32).toInt32).toUInt32.toUInt16.toUInt32.toInt32) (((p5.toUInt32 >>> ((18 : Int32) &&& 31).toUInt32).toInt32).toUInt32.toUInt16.toUInt32.toInt32) b1 b6 x16 k1 as o n CS 1 (0 : Int32) T16.heap n0 X26 hx hZ hw hby hml hown e26b N26 (Nat.le_trans Z0 (Nat.le_trans (Nat.le_trans (Nat.le_trans (Nat.le_trans (Nat.le_trans (Nat.le_trans (Nat.le_trans (Nat.le_trans (Nat.le_trans E1.1 (Keep.of_wr W2).1) (Keep.of_wr W3).1) (Keep.of_wr W4).1) (Keep.of_wr W5).1) E6.1) Kq7.1) Kq9.1) Kq11.1) Kq16.1)) EN0 f21 S16 (by omega) hCc f22 (by omega) (by omega) hkk (by omega))
  have e27b := e27.trans hh27
  obtain ⟨T28, h28, L28, X28, e28, N28, Z28, hh28, st28⟩ := bZ0 G1 G3 G4 p1 p2 p3 p4 p5 (((p5.toUInt32 >>> ((2 : Int32) &&& 31).toUInt32).toInt32).toUInt32.toUInt16.toUInt32.toInt32) (((p5.toUInt32 >>> ((18 : Int32) &&& 31).toUInt32).toInt32).toUInt32.toUInt16.toUInt32.toInt32) b1 b6 x16 k1 as o n CS 1 (0 : Int32) T16.heap n0 X27 hx hZ hw hby hml hown e27b N27 (Nat.le_trans Z0 (Nat.le_trans (Nat.le_trans (Nat.le_trans (Nat.le_trans (Nat.le_trans (Nat.le_trans (Nat.le_trans (Nat.le_trans (Nat.le_trans E1.1 (Keep.of_wr W2).1) (Keep.of_wr W3).1) (Keep.of_wr W4).1) (Keep.of_wr W5).1) E6.1) Kq7.1) Kq9.1) Kq11.1) Kq16.1)) EN0 f21 S16 (by omega) hCc f22 (by omega) (by omega)
  have e28b := e28.trans hh28
  obtain ⟨fs, hr, hrun, hended, hW, hsame⟩ := X28.leave (v := some (.int 1)) (fun h => by rw [Bd.returns] at h; cases h)
  refine ⟨_, _, pre0 _ ?_, hrun, hended, _, _, rfl, ?_, ⟨_, rfl⟩, hW, hsame.mono (by decide) (by decide)⟩
  · show Steps p.tables e below (s₁.setTop (mkF m 0 #[.val (.int p1), .val (.int p2), .val (.int p3), .val (.int p4), .val (.int p5), .unset, .unset, .unset, .unset, .unset, .unset, .unset, .unset, .unset, .unset, .unset, .unset] [])) _
    refine XS.iconst X0.here hx rfl (hb hby at_0) ?_
    show Steps p.tables e below (s₁.setTop (mkF m 1 #[.val (.int p1), .val (.int p2), .val (.int p3), .val (.int p4), .val (.int p5), .unset, .unset, .unset, .unset, .unset, .unset, .unset, .unset, .unset, .unset, .unset, .unset] [(.int 4)])) _
    refine st1 _ ?_
    show Steps p.tables e below (T1.setTop (mkF m 3 #[.val (.int p1), .val (.int p2), .val (.int p3), .val (.int p4), .val (.int p5), .unset, .unset, .unset, .unset, .unset, .unset, .unset, .unset, .unset, .unset, .unset, .unset] [(.ref b1)])) _
    refine XS.astore X1.here hx rfl (hb hby at_3) rfl rfl (l' := #[.val (.int p1), .val (.int p2), .val (.int p3), .val (.int p4), .val (.int p5), .val (.ref b1), .unset, .unset, .unset, .unset, .unset, .unset, .unset, .unset, .unset, .unset, .unset]) rfl ?_
    refine XS.aload X1.here hx rfl (hb hby at_5) rfl rfl ?_
    refine XS.iconst X1.here hx rfl (hb hby at_7) ?_
    refine XS.iloadN X1.here hx rfl (hb hby at_8) rfl ?_
    refine XS.i2c X1.here hx rfl (hb hby at_9) rfl ?_
    show Steps p.tables e below (T1.setTop (mkF m 10 #[.val (.int p1), .val (.int p2), .val (.int p3), .val (.int p4), .val (.int p5), .val (.ref b1), .unset, .unset, .unset, .unset, .unset, .unset, .unset, .unset, .unset, .unset, .unset] [(.int (p1.toUInt32.toUInt16.toUInt32.toInt32)), (.int 0), (.ref b1)])) _
    refine st2 _ ?_
    show Steps p.tables e below (T2.setTop (mkF m 11 #[.val (.int p1), .val (.int p2), .val (.int p3), .val (.int p4), .val (.int p5), .val (.ref b1), .unset, .unset, .unset, .unset, .unset, .unset, .unset, .unset, .unset, .unset, .unset] [])) _
    refine XS.aload X2.here hx rfl (hb hby at_11) rfl rfl ?_
    refine XS.iconst X2.here hx rfl (hb hby at_13) ?_
    refine XS.iloadN X2.here hx rfl (hb hby at_14) rfl ?_
    refine XS.bipush X2.here hx rfl (hb hby at_15) ?_
    refine XS.iushr X2.here hx rfl (hb hby at_17) rfl ?_
    refine XS.i2c X2.here hx rfl (hb hby at_18) rfl ?_
    show Steps p.tables e below (T2.setTop (mkF m 19 #[.val (.int p1), .val (.int p2), .val (.int p3), .val (.int p4), .val (.int p5), .val (.ref b1), .unset, .unset, .unset, .unset, .unset, .unset, .unset, .unset, .unset, .unset, .unset] [(.int (((p1.toUInt32 >>> ((16 : Int32) &&& 31).toUInt32).toInt32).toUInt32.toUInt16.toUInt32.toInt32)), (.int 1), (.ref b1)])) _
    refine st3 _ ?_
    show Steps p.tables e below (T3.setTop (mkF m 20 #[.val (.int p1), .val (.int p2), .val (.int p3), .val (.int p4), .val (.int p5), .val (.ref b1), .unset, .unset, .unset, .unset, .unset, .unset, .unset, .unset, .unset, .unset, .unset] [])) _
    refine XS.aload X3.here hx rfl (hb hby at_20) rfl rfl ?_
    refine XS.iconst X3.here hx rfl (hb hby at_22) ?_
    refine XS.iloadN X3.here hx rfl (hb hby at_23) rfl ?_
    refine XS.i2c X3.here hx rfl (hb hby at_24) rfl ?_
    show Steps p.tables e below (T3.setTop (mkF m 25 #[.val (.int p1), .val (.int p2), .val (.int p3), .val (.int p4), .val (.int p5), .val (.ref b1), .unset, .unset, .unset, .unset, .unset, .unset, .unset, .unset, .unset, .unset, .unset] [(.int (p2.toUInt32.toUInt16.toUInt32.toInt32)), (.int 2), (.ref b1)])) _
    refine st4 _ ?_
    show Steps p.tables e below (T4.setTop (mkF m 26 #[.val (.int p1), .val (.int p2), .val (.int p3), .val (.int p4), .val (.int p5), .val (.ref b1), .unset, .unset, .unset, .unset, .unset, .unset, .unset, .unset, .unset, .unset, .unset] [])) _
    refine XS.aload X4.here hx rfl (hb hby at_26) rfl rfl ?_
    refine XS.iconst X4.here hx rfl (hb hby at_28) ?_
    refine XS.iloadN X4.here hx rfl (hb hby at_29) rfl ?_
    refine XS.bipush X4.here hx rfl (hb hby at_30) ?_
    refine XS.iushr X4.here hx rfl (hb hby at_32) rfl ?_
    refine XS.i2c X4.here hx rfl (hb hby at_33) rfl ?_
    show Steps p.tables e below (T4.setTop (mkF m 34 #[.val (.int p1), .val (.int p2), .val (.int p3), .val (.int p4), .val (.int p5), .val (.ref b1), .unset, .unset, .unset, .unset, .unset, .unset, .unset, .unset, .unset, .unset, .unset] [(.int (((p2.toUInt32 >>> ((16 : Int32) &&& 31).toUInt32).toInt32).toUInt32.toUInt16.toUInt32.toInt32)), (.int 3), (.ref b1)])) _
    refine st5 _ ?_
    show Steps p.tables e below (T5.setTop (mkF m 35 #[.val (.int p1), .val (.int p2), .val (.int p3), .val (.int p4), .val (.int p5), .val (.ref b1), .unset, .unset, .unset, .unset, .unset, .unset, .unset, .unset, .unset, .unset, .unset] [])) _
    refine XS.iloadN X5.here hx rfl (hb hby at_35) rfl ?_
    show Steps p.tables e below (T5.setTop (mkF m 36 #[.val (.int p1), .val (.int p2), .val (.int p3), .val (.int p4), .val (.int p5), .val (.ref b1), .unset, .unset, .unset, .unset, .unset, .unset, .unset, .unset, .unset, .unset, .unset] [(.int p3)])) _
    refine X5.ldcInt hx hown (mvT hZ (hw _ (tk 1 rfl))) (g := (mkF m 36 #[.val (.int p1), .val (.int p2), .val (.int p3), .val (.int p4), .val (.int p5), .val (.ref b1), .unset, .unset, .unset, .unset, .unset, .unset, .unset, .unset, .unset, .unset, .unset] [(.int p3)])) rfl (hb hby at_36) _ ?_
    show Steps p.tables e below (T5.setTop (mkF m 38 #[.val (.int p1), .val (.int p2), .val (.int p3), .val (.int p4), .val (.int p5), .val (.ref b1), .unset, .unset, .unset, .unset, .unset, .unset, .unset, .unset, .unset, .unset, .unset] [(.int 2147483647), (.int p3)])) _
    refine XS.iand X5.here hx rfl (hb hby at_38) rfl ?_
    refine XS.iconst X5.here hx rfl (hb hby at_39) ?_
    show Steps p.tables e below (T5.setTop (mkF m 40 #[.val (.int p1), .val (.int p2), .val (.int p3), .val (.int p4), .val (.int p5), .val (.ref b1), .unset, .unset, .unset, .unset, .unset, .unset, .unset, .unset, .unset, .unset, .unset] [(.int 5), (.int (p3 &&& (2147483647 : Int32)))])) _
    refine iremM X5 hx (g := (mkF m 40 #[.val (.int p1), .val (.int p2), .val (.int p3), .val (.int p4), .val (.int p5), .val (.ref b1), .unset, .unset, .unset, .unset, .unset, .unset, .unset, .unset, .unset, .unset, .unset] [(.int 5), (.int (p3 &&& (2147483647 : Int32)))])) rfl (hb hby at_40) rfl (by decide) ?_
    show Steps p.tables e below (T5.setTop (mkF m 41 #[.val (.int p1), .val (.int p2), .val (.int p3), .val (.int p4), .val (.int p5), .val (.ref b1), .unset, .unset, .unset, .unset, .unset, .unset, .unset, .unset, .unset, .unset, .unset] [(.int ((p3 &&& (2147483647 : Int32)) % (5 : Int32)))])) _
    rw [hr1]
    show Steps p.tables e below (T5.setTop (mkF m 41 #[.val (.int p1), .val (.int p2), .val (.int p3), .val (.int p4), .val (.int p5), .val (.ref b1), .unset, .unset, .unset, .unset, .unset, .unset, .unset, .unset, .unset, .unset, .unset] [(.int (Int32.ofNat o))])) _
    refine XS.istore X5.here hx rfl (hb hby at_41) rfl (l' := #[.val (.int p1), .val (.int p2), .val (.int p3), .val (.int p4), .val (.int p5), .val (.ref b1), .val (.int (Int32.ofNat o)), .unset, .unset, .unset, .unset, .unset, .unset, .unset, .unset, .unset, .unset]) rfl ?_
    refine XS.iloadN X5.here hx rfl (hb hby at_43) rfl ?_
    show Steps p.tables e below (T5.setTop (mkF m 44 #[.val (.int p1), .val (.int p2), .val (.int p3), .val (.int p4), .val (.int p5), .val (.ref b1), .val (.int (Int32.ofNat o)), .unset, .unset, .unset, .unset, .unset, .unset, .unset, .unset, .unset, .unset] [(.int p4)])) _
    refine X5.ldcInt hx hown (mvT hZ (hw _ (tk 1 rfl))) (g := (mkF m 44 #[.val (.int p1), .val (.int p2), .val (.int p3), .val (.int p4), .val (.int p5), .val (.ref b1), .val (.int (Int32.ofNat o)), .unset, .unset, .unset, .unset, .unset, .unset, .unset, .unset, .unset, .unset] [(.int p4)])) rfl (hb hby at_44) _ ?_
    show Steps p.tables e below (T5.setTop (mkF m 46 #[.val (.int p1), .val (.int p2), .val (.int p3), .val (.int p4), .val (.int p5), .val (.ref b1), .val (.int (Int32.ofNat o)), .unset, .unset, .unset, .unset, .unset, .unset, .unset, .unset, .unset, .unset] [(.int 2147483647), (.int p4)])) _
    refine XS.iand X5.here hx rfl (hb hby at_46) rfl ?_
    refine XS.iconst X5.here hx rfl (hb hby at_47) ?_
    refine XS.iload X5.here hx rfl (hb hby at_48) rfl ?_
    refine XS.isub X5.here hx rfl (hb hby at_50) rfl ?_
    show Steps p.tables e below (T5.setTop (mkF m 51 #[.val (.int p1), .val (.int p2), .val (.int p3), .val (.int p4), .val (.int p5), .val (.ref b1), .val (.int (Int32.ofNat o)), .unset, .unset, .unset, .unset, .unset, .unset, .unset, .unset, .unset, .unset] [(.int ((5 : Int32) - (Int32.ofNat o))), (.int (p4 &&& (2147483647 : Int32)))])) _
    rw [own_s5 ho5]
    show Steps p.tables e below (T5.setTop (mkF m 51 #[.val (.int p1), .val (.int p2), .val (.int p3), .val (.int p4), .val (.int p5), .val (.ref b1), .val (.int (Int32.ofNat o)), .unset, .unset, .unset, .unset, .unset, .unset, .unset, .unset, .unset, .unset] [(.int (Int32.ofNat (5 - o))), (.int (p4 &&& (2147483647 : Int32)))])) _
    refine iremM X5 hx (g := (mkF m 51 #[.val (.int p1), .val (.int p2), .val (.int p3), .val (.int p4), .val (.int p5), .val (.ref b1), .val (.int (Int32.ofNat o)), .unset, .unset, .unset, .unset, .unset, .unset, .unset, .unset, .unset, .unset] [(.int (Int32.ofNat (5 - o))), (.int (p4 &&& (2147483647 : Int32)))])) rfl (hb hby at_51) rfl (own_nz (by omega) (by omega)) ?_
    show Steps p.tables e below (T5.setTop (mkF m 52 #[.val (.int p1), .val (.int p2), .val (.int p3), .val (.int p4), .val (.int p5), .val (.ref b1), .val (.int (Int32.ofNat o)), .unset, .unset, .unset, .unset, .unset, .unset, .unset, .unset, .unset, .unset] [(.int ((p4 &&& (2147483647 : Int32)) % (Int32.ofNat (5 - o))))])) _
    rw [hr2]
    show Steps p.tables e below (T5.setTop (mkF m 52 #[.val (.int p1), .val (.int p2), .val (.int p3), .val (.int p4), .val (.int p5), .val (.ref b1), .val (.int (Int32.ofNat o)), .unset, .unset, .unset, .unset, .unset, .unset, .unset, .unset, .unset, .unset] [(.int (Int32.ofNat n))])) _
    refine XS.istore X5.here hx rfl (hb hby at_52) rfl (l' := #[.val (.int p1), .val (.int p2), .val (.int p3), .val (.int p4), .val (.int p5), .val (.ref b1), .val (.int (Int32.ofNat o)), .val (.int (Int32.ofNat n)), .unset, .unset, .unset, .unset, .unset, .unset, .unset, .unset, .unset]) rfl ?_
    refine XS.iload X5.here hx rfl (hb hby at_54) rfl ?_
    refine XS.iconst X5.here hx rfl (hb hby at_56) ?_
    refine XS.iand X5.here hx rfl (hb hby at_57) rfl ?_
    refine XS.ifNo X5.here hx rfl (hb hby at_58) rfl ((if0 _ _).trans (feq hb1).1) ?_
    refine XS.iconst X5.here hx rfl (hb hby at_61) ?_
    refine XS.goto X5.here hx rfl (pc0 := 62) (pc' := 66) rfl (hb hby at_62) (by decide) (by decide) ?_
    refine XS.istore X5.here hx rfl (hb hby at_66) rfl (l' := #[.val (.int p1), .val (.int p2), .val (.int p3), .val (.int p4), .val (.int p5), .val (.ref b1), .val (.int (Int32.ofNat o)), .val (.int (Int32.ofNat n)), .val (.int 1), .unset, .unset, .unset, .unset, .unset, .unset, .unset, .unset]) rfl ?_
    refine XS.iload X5.here hx rfl (hb hby at_68) rfl ?_
    refine XS.iconst X5.here hx rfl (hb hby at_70) ?_
    refine XS.iand X5.here hx rfl (hb hby at_71) rfl ?_
    show Steps p.tables e below (T5.setTop (mkF m 72 #[.val (.int p1), .val (.int p2), .val (.int p3), .val (.int p4), .val (.int p5), .val (.ref b1), .val (.int (Int32.ofNat o)), .val (.int (Int32.ofNat n)), .val (.int 1), .unset, .unset, .unset, .unset, .unset, .unset, .unset, .unset] [(.int (p5 &&& (2 : Int32)))])) _
    refine XS.ifYes X5.here hx rfl (pc0 := 72) (pc' := 79) rfl (hb hby at_72) rfl ((if0 _ _).trans (teq hb2).1) (by decide) (by decide) ?_
    refine XS.iconst X5.here hx rfl (hb hby at_79) ?_
    refine XS.istore X5.here hx rfl (hb hby at_80) rfl (l' := #[.val (.int p1), .val (.int p2), .val (.int p3), .val (.int p4), .val (.int p5), .val (.ref b1), .val (.int (Int32.ofNat o)), .val (.int (Int32.ofNat n)), .val (.int 1), .val (.int 0), .unset, .unset, .unset, .unset, .unset, .unset, .unset]) rfl ?_
    refine XS.iload X5.here hx rfl (hb hby at_82) rfl ?_
    refine XS.iconst X5.here hx rfl (hb hby at_84) ?_
    refine XS.iushr X5.here hx rfl (hb hby at_85) rfl ?_
    refine XS.i2c X5.here hx rfl (hb hby at_86) rfl ?_
    refine XS.istore X5.here hx rfl (hb hby at_87) rfl (l' := #[.val (.int p1), .val (.int p2), .val (.int p3), .val (.int p4), .val (.int p5), .val (.ref b1), .val (.int (Int32.ofNat o)), .val (.int (Int32.ofNat n)), .val (.int 1), .val (.int 0), .val (.int (((p5.toUInt32 >>> ((2 : Int32) &&& 31).toUInt32).toInt32).toUInt32.toUInt16.toUInt32.toInt32)), .unset, .unset, .unset, .unset, .unset, .unset]) rfl ?_
    refine XS.iload X5.here hx rfl (hb hby at_89) rfl ?_
    refine XS.bipush X5.here hx rfl (hb hby at_91) ?_
    refine XS.iushr X5.here hx rfl (hb hby at_93) rfl ?_
    show Steps p.tables e below (T5.setTop (mkF m 94 #[.val (.int p1), .val (.int p2), .val (.int p3), .val (.int p4), .val (.int p5), .val (.ref b1), .val (.int (Int32.ofNat o)), .val (.int (Int32.ofNat n)), .val (.int 1), .val (.int 0), .val (.int (((p5.toUInt32 >>> ((2 : Int32) &&& 31).toUInt32).toInt32).toUInt32.toUInt16.toUInt32.toInt32)), .unset, .unset, .unset, .unset, .unset, .unset] [(.int ((p5.toUInt32 >>> ((18 : Int32) &&& 31).toUInt32).toInt32))])) _
    refine XS.i2c X5.here hx rfl (hb hby at_94) rfl ?_
    refine XS.istore X5.here hx rfl (hb hby at_95) rfl (l' := #[.val (.int p1), .val (.int p2), .val (.int p3), .val (.int p4), .val (.int p5), .val (.ref b1), .val (.int (Int32.ofNat o)), .val (.int (Int32.ofNat n)), .val (.int 1), .val (.int 0), .val (.int (((p5.toUInt32 >>> ((2 : Int32) &&& 31).toUInt32).toInt32).toUInt32.toUInt16.toUInt32.toInt32)), .val (.int (((p5.toUInt32 >>> ((18 : Int32) &&& 31).toUInt32).toInt32).toUInt32.toUInt16.toUInt32.toInt32)), .unset, .unset, .unset, .unset, .unset]) rfl ?_
    show Steps p.tables e below (T5.setTop (mkF m 97 #[.val (.int p1), .val (.int p2), .val (.int p3), .val (.int p4), .val (.int p5), .val (.ref b1), .val (.int (Int32.ofNat o)), .val (.int (Int32.ofNat n)), .val (.int 1), .val (.int 0), .val (.int (((p5.toUInt32 >>> ((2 : Int32) &&& 31).toUInt32).toInt32).toUInt32.toUInt16.toUInt32.toInt32)), .val (.int (((p5.toUInt32 >>> ((18 : Int32) &&& 31).toUInt32).toInt32).toUInt32.toUInt16.toUInt32.toInt32)), .unset, .unset, .unset, .unset, .unset] [])) _
    refine st6 _ ?_
    show Steps p.tables e below (T6.setTop (mkF m 100 #[.val (.int p1), .val (.int p2), .val (.int p3), .val (.int p4), .val (.int p5), .val (.ref b1), .val (.int (Int32.ofNat o)), .val (.int (Int32.ofNat n)), .val (.int 1), .val (.int 0), .val (.int (((p5.toUInt32 >>> ((2 : Int32) &&& 31).toUInt32).toInt32).toUInt32.toUInt16.toUInt32.toInt32)), .val (.int (((p5.toUInt32 >>> ((18 : Int32) &&& 31).toUInt32).toInt32).toUInt32.toUInt16.toUInt32.toInt32)), .unset, .unset, .unset, .unset, .unset] [(.ref b6)])) _
    refine XS.dup X6.here hx rfl (hb hby at_100) rfl rfl ?_
    show Steps p.tables e below (T6.setTop (mkF m 101 #[.val (.int p1), .val (.int p2), .val (.int p3), .val (.int p4), .val (.int p5), .val (.ref b1), .val (.int (Int32.ofNat o)), .val (.int (Int32.ofNat n)), .val (.int 1), .val (.int 0), .val (.int (((p5.toUInt32 >>> ((2 : Int32) &&& 31).toUInt32).toInt32).toUInt32.toUInt16.toUInt32.toInt32)), .val (.int (((p5.toUInt32 >>> ((18 : Int32) &&& 31).toUInt32).toInt32).toUInt32.toUInt16.toUInt32.toInt32)), .unset, .unset, .unset, .unset, .unset] [(.ref b6), (.ref b6)])) _
    refine st7.trans ?_
    show Steps p.tables e below (T7.setTop (mkF m 104 #[.val (.int p1), .val (.int p2), .val (.int p3), .val (.int p4), .val (.int p5), .val (.ref b1), .val (.int (Int32.ofNat o)), .val (.int (Int32.ofNat n)), .val (.int 1), .val (.int 0), .val (.int (((p5.toUInt32 >>> ((2 : Int32) &&& 31).toUInt32).toInt32).toUInt32.toUInt16.toUInt32.toInt32)), .val (.int (((p5.toUInt32 >>> ((18 : Int32) &&& 31).toUInt32).toInt32).toUInt32.toUInt16.toUInt32.toInt32)), .unset, .unset, .unset, .unset, .unset] [(.ref b6)])) _
    refine XS.astore X7.here hx rfl (hb hby at_104) rfl rfl (l' := #[.val (.int p1), .val (.int p2), .val (.int p3), .val (.int p4), .val (.int p5), .val (.ref b1), .val (.int (Int32.ofNat o)), .val (.int (Int32.ofNat n)), .val (.int 1), .val (.int 0), .val (.int (((p5.toUInt32 >>> ((2 : Int32) &&& 31).toUInt32).toInt32).toUInt32.toUInt16.toUInt32.toInt32)), .val (.int (((p5.toUInt32 >>> ((18 : Int32) &&& 31).toUInt32).toInt32).toUInt32.toUInt16.toUInt32.toInt32)), .val (.ref b6), .unset, .unset, .unset, .unset]) rfl ?_
    refine XS.iload X7.here hx rfl (hb hby at_106) rfl ?_
    refine XS.ifNo X7.here hx rfl (hb hby at_108) rfl ((if0 _ _).trans (feq (by decide : ¬ ((1 : Int32) = (0 : Int32)))).1) ?_
    refine XS.aload X7.here hx rfl (hb hby at_111) rfl rfl ?_
    refine XS.iload X7.here hx rfl (hb hby at_113) rfl ?_
    refine XS.iconst X7.here hx rfl (hb hby at_115) ?_
    refine XS.iushr X7.here hx rfl (hb hby at_116) rfl ?_
    show Steps p.tables e below (T7.setTop (mkF m 117 #[.val (.int p1), .val (.int p2), .val (.int p3), .val (.int p4), .val (.int p5), .val (.ref b1), .val (.int (Int32.ofNat o)), .val (.int (Int32.ofNat n)), .val (.int 1), .val (.int 0), .val (.int (((p5.toUInt32 >>> ((2 : Int32) &&& 31).toUInt32).toInt32).toUInt32.toUInt16.toUInt32.toInt32)), .val (.int (((p5.toUInt32 >>> ((18 : Int32) &&& 31).toUInt32).toInt32).toUInt32.toUInt16.toUInt32.toInt32)), .val (.ref b6), .unset, .unset, .unset, .unset] [(.int ((p5.toUInt32 >>> ((2 : Int32) &&& 31).toUInt32).toInt32)), (.ref b6)])) _
    refine st9.trans ?_
    show Steps p.tables e below (T9.setTop (mkF m 120 #[.val (.int p1), .val (.int p2), .val (.int p3), .val (.int p4), .val (.int p5), .val (.ref b1), .val (.int (Int32.ofNat o)), .val (.int (Int32.ofNat n)), .val (.int 1), .val (.int 0), .val (.int (((p5.toUInt32 >>> ((2 : Int32) &&& 31).toUInt32).toInt32).toUInt32.toUInt16.toUInt32.toInt32)), .val (.int (((p5.toUInt32 >>> ((18 : Int32) &&& 31).toUInt32).toInt32).toUInt32.toUInt16.toUInt32.toInt32)), .val (.ref b6), .unset, .unset, .unset, .unset] [])) _
    refine XS.aload X9.here hx rfl (hb hby at_120) rfl rfl ?_
    refine XS.aload X9.here hx rfl (hb hby at_122) rfl rfl ?_
    refine XS.iload X9.here hx rfl (hb hby at_124) rfl ?_
    refine XS.iload X9.here hx rfl (hb hby at_126) rfl ?_
    show Steps p.tables e below (T9.setTop (mkF m 128 #[.val (.int p1), .val (.int p2), .val (.int p3), .val (.int p4), .val (.int p5), .val (.ref b1), .val (.int (Int32.ofNat o)), .val (.int (Int32.ofNat n)), .val (.int 1), .val (.int 0), .val (.int (((p5.toUInt32 >>> ((2 : Int32) &&& 31).toUInt32).toInt32).toUInt32.toUInt16.toUInt32.toInt32)), .val (.int (((p5.toUInt32 >>> ((18 : Int32) &&& 31).toUInt32).toInt32).toUInt32.toUInt16.toUInt32.toInt32)), .val (.ref b6), .unset, .unset, .unset, .unset] [(.int (Int32.ofNat n)), (.int (Int32.ofNat o)), (.ref b1), (.ref b6)])) _
    refine st11.trans ?_
    show Steps p.tables e below (T11.setTop (mkF m 131 #[.val (.int p1), .val (.int p2), .val (.int p3), .val (.int p4), .val (.int p5), .val (.ref b1), .val (.int (Int32.ofNat o)), .val (.int (Int32.ofNat n)), .val (.int 1), .val (.int 0), .val (.int (((p5.toUInt32 >>> ((2 : Int32) &&& 31).toUInt32).toInt32).toUInt32.toUInt16.toUInt32.toInt32)), .val (.int (((p5.toUInt32 >>> ((18 : Int32) &&& 31).toUInt32).toInt32).toUInt32.toUInt16.toUInt32.toInt32)), .val (.ref b6), .unset, .unset, .unset, .unset] [])) _
    refine XS.iload X11.here hx rfl (hb hby at_131) rfl ?_
    refine XS.ifYes X11.here hx rfl (pc0 := 133) (pc' := 146) rfl (hb hby at_133) rfl ((if0 _ _).trans (teq (by decide : (0 : Int32) = (0 : Int32))).1) (by decide) (by decide) ?_
    refine XS.aload X11.here hx rfl (hb hby at_146) rfl rfl ?_
    show Steps p.tables e below (T11.setTop (mkF m 148 #[.val (.int p1), .val (.int p2), .val (.int p3), .val (.int p4), .val (.int p5), .val (.ref b1), .val (.int (Int32.ofNat o)), .val (.int (Int32.ofNat n)), .val (.int 1), .val (.int 0), .val (.int (((p5.toUInt32 >>> ((2 : Int32) &&& 31).toUInt32).toInt32).toUInt32.toUInt16.toUInt32.toInt32)), .val (.int (((p5.toUInt32 >>> ((18 : Int32) &&& 31).toUInt32).toInt32).toUInt32.toUInt16.toUInt32.toInt32)), .val (.ref b6), .unset, .unset, .unset, .unset] [(.ref b6)])) _
    refine st16.trans ?_
    show Steps p.tables e below (T16.setTop (mkF m 151 #[.val (.int p1), .val (.int p2), .val (.int p3), .val (.int p4), .val (.int p5), .val (.ref b1), .val (.int (Int32.ofNat o)), .val (.int (Int32.ofNat n)), .val (.int 1), .val (.int 0), .val (.int (((p5.toUInt32 >>> ((2 : Int32) &&& 31).toUInt32).toInt32).toUInt32.toUInt16.toUInt32.toInt32)), .val (.int (((p5.toUInt32 >>> ((18 : Int32) &&& 31).toUInt32).toInt32).toUInt32.toUInt16.toUInt32.toInt32)), .val (.ref b6), .unset, .unset, .unset, .unset] [(.ref x16)])) _
    refine XS.astore X16.here hx rfl (hb hby at_151) rfl rfl (l' := #[.val (.int p1), .val (.int p2), .val (.int p3), .val (.int p4), .val (.int p5), .val (.ref b1), .val (.int (Int32.ofNat o)), .val (.int (Int32.ofNat n)), .val (.int 1), .val (.int 0), .val (.int (((p5.toUInt32 >>> ((2 : Int32) &&& 31).toUInt32).toInt32).toUInt32.toUInt16.toUInt32.toInt32)), .val (.int (((p5.toUInt32 >>> ((18 : Int32) &&& 31).toUInt32).toInt32).toUInt32.toUInt16.toUInt32.toInt32)), .val (.ref b6), .val (.ref x16), .unset, .unset, .unset]) rfl ?_
    refine XS.iload X16.here hx rfl (hb hby at_153) rfl ?_
    refine XS.ifNo X16.here hx rfl (hb hby at_155) rfl ((if0 _ _).trans (feq (by decide : ¬ ((1 : Int32) = (0 : Int32)))).1) ?_
    refine XS.iconst X16.here hx rfl (hb hby at_158) ?_
    refine XS.goto X16.here hx rfl (pc0 := 159) (pc' := 163) rfl (hb hby at_159) (by decide) (by decide) ?_
    refine XS.istore X16.here hx rfl (hb hby at_163) rfl (l' := #[.val (.int p1), .val (.int p2), .val (.int p3), .val (.int p4), .val (.int p5), .val (.ref b1), .val (.int (Int32.ofNat o)), .val (.int (Int32.ofNat n)), .val (.int 1), .val (.int 0), .val (.int (((p5.toUInt32 >>> ((2 : Int32) &&& 31).toUInt32).toInt32).toUInt32.toUInt16.toUInt32.toInt32)), .val (.int (((p5.toUInt32 >>> ((18 : Int32) &&& 31).toUInt32).toInt32).toUInt32.toUInt16.toUInt32.toInt32)), .val (.ref b6), .val (.ref x16), .val (.int 1), .unset, .unset]) rfl ?_
    refine XS.iload X16.here hx rfl (hb hby at_165) rfl ?_
    refine XS.ifYes X16.here hx rfl (pc0 := 167) (pc' := 174) rfl (hb hby at_167) rfl ((if0 _ _).trans (teq (by decide : (0 : Int32) = (0 : Int32))).1) (by decide) (by decide) ?_
    refine XS.iconst X16.here hx rfl (hb hby at_174) ?_
    refine XS.istore X16.here hx rfl (hb hby at_175) rfl (l' := #[.val (.int p1), .val (.int p2), .val (.int p3), .val (.int p4), .val (.int p5), .val (.ref b1), .val (.int (Int32.ofNat o)), .val (.int (Int32.ofNat n)), .val (.int 1), .val (.int 0), .val (.int (((p5.toUInt32 >>> ((2 : Int32) &&& 31).toUInt32).toInt32).toUInt32.toUInt16.toUInt32.toInt32)), .val (.int (((p5.toUInt32 >>> ((18 : Int32) &&& 31).toUInt32).toInt32).toUInt32.toUInt16.toUInt32.toInt32)), .val (.ref b6), .val (.ref x16), .val (.int 1), .val (.int 0), .unset]) rfl ?_
    refine XS.aload X16.here hx rfl (hb hby at_177) rfl rfl ?_
    show Steps p.tables e below (T16.setTop (mkF m 179 #[.val (.int p1), .val (.int p2), .val (.int p3), .val (.int p4), .val (.int p5), .val (.ref b1), .val (.int (Int32.ofNat o)), .val (.int (Int32.ofNat n)), .val (.int 1), .val (.int 0), .val (.int (((p5.toUInt32 >>> ((2 : Int32) &&& 31).toUInt32).toInt32).toUInt32.toUInt16.toUInt32.toInt32)), .val (.int (((p5.toUInt32 >>> ((18 : Int32) &&& 31).toUInt32).toInt32).toUInt32.toUInt16.toUInt32.toInt32)), .val (.ref b6), .val (.ref x16), .val (.int 1), .val (.int 0), .unset] [(.ref x16)])) _
    refine st20.trans ?_
    show Steps p.tables e below (T20.setTop (mkF m 182 #[.val (.int p1), .val (.int p2), .val (.int p3), .val (.int p4), .val (.int p5), .val (.ref b1), .val (.int (Int32.ofNat o)), .val (.int (Int32.ofNat n)), .val (.int 1), .val (.int 0), .val (.int (((p5.toUInt32 >>> ((2 : Int32) &&& 31).toUInt32).toInt32).toUInt32.toUInt16.toUInt32.toInt32)), .val (.int (((p5.toUInt32 >>> ((18 : Int32) &&& 31).toUInt32).toInt32).toUInt32.toUInt16.toUInt32.toInt32)), .val (.ref b6), .val (.ref x16), .val (.int 1), .val (.int 0), .unset] [(.int (Int32.ofNat CS.length))])) _
    refine XS.iload X20.here hx rfl (hb hby at_182) rfl ?_
    refine XS.iload X20.here hx rfl (hb hby at_184) rfl ?_
    refine XS.iadd X20.here hx rfl (hb hby at_186) rfl ?_
    refine XS.iload X20.here hx rfl (hb hby at_187) rfl ?_
    refine XS.iadd X20.here hx rfl (hb hby at_189) rfl ?_
    refine XS.icmpYes X20.here hx rfl (pc0 := 190) (pc' := 195) rfl (hb hby at_190) rfl (teq (by rw [hL']; exact own_l3 1 n 0)).1 (by decide) (by decide) ?_
    refine XS.iconst X20.here hx rfl (hb hby at_195) ?_
    refine XS.istore X20.here hx rfl (hb hby at_196) rfl (l' := #[.val (.int p1), .val (.int p2), .val (.int p3), .val (.int p4), .val (.int p5), .val (.ref b1), .val (.int (Int32.ofNat o)), .val (.int (Int32.ofNat n)), .val (.int 1), .val (.int 0), .val (.int (((p5.toUInt32 >>> ((2 : Int32) &&& 31).toUInt32).toInt32).toUInt32.toUInt16.toUInt32.toInt32)), .val (.int (((p5.toUInt32 >>> ((18 : Int32) &&& 31).toUInt32).toInt32).toUInt32.toUInt16.toUInt32.toInt32)), .val (.ref b6), .val (.ref x16), .val (.int 1), .val (.int 0), .val (.int 1)]) rfl ?_
    show Steps p.tables e below (T20.setTop (mkF m 198 #[.val (.int p1), .val (.int p2), .val (.int p3), .val (.int p4), .val (.int p5), .val (.ref b1), .val (.int (Int32.ofNat o)), .val (.int (Int32.ofNat n)), .val (.int 1), .val (.int 0), .val (.int (((p5.toUInt32 >>> ((2 : Int32) &&& 31).toUInt32).toInt32).toUInt32.toUInt16.toUInt32.toInt32)), .val (.int (((p5.toUInt32 >>> ((18 : Int32) &&& 31).toUInt32).toInt32).toUInt32.toUInt16.toUInt32.toInt32)), .val (.ref b6), .val (.ref x16), .val (.int 1), .val (.int 0), .val (.int 1)] [])) _
    refine st23 _ ?_
    show Steps p.tables e below (T23.setTop (mkF m 226 #[.val (.int p1), .val (.int p2), .val (.int p3), .val (.int p4), .val (.int p5), .val (.ref b1), .val (.int (Int32.ofNat o)), .val (.int (Int32.ofNat n)), .val (.int 1), .val (.int 0), .val (.int (((p5.toUInt32 >>> ((2 : Int32) &&& 31).toUInt32).toInt32).toUInt32.toUInt16.toUInt32.toInt32)), .val (.int (((p5.toUInt32 >>> ((18 : Int32) &&& 31).toUInt32).toInt32).toUInt32.toUInt16.toUInt32.toInt32)), .val (.ref b6), .val (.ref x16), .val (.int 1), .val (.int 0), .val (.int 1)] [])) _
    refine st24 _ ?_
    show Steps p.tables e below (T24.setTop (mkF m 259 #[.val (.int p1), .val (.int p2), .val (.int p3), .val (.int p4), .val (.int p5), .val (.ref b1), .val (.int (Int32.ofNat o)), .val (.int (Int32.ofNat n)), .val (.int 1), .val (.int 0), .val (.int (((p5.toUInt32 >>> ((2 : Int32) &&& 31).toUInt32).toInt32).toUInt32.toUInt16.toUInt32.toInt32)), .val (.int (((p5.toUInt32 >>> ((18 : Int32) &&& 31).toUInt32).toInt32).toUInt32.toUInt16.toUInt32.toInt32)), .val (.ref b6), .val (.ref x16), .val (.int 1), .val (.int 0), .val (.int 1)] [])) _
    refine st25 _ ?_
    show Steps p.tables e below (T25.setTop (mkF m 296 #[.val (.int p1), .val (.int p2), .val (.int p3), .val (.int p4), .val (.int p5), .val (.ref b1), .val (.int (Int32.ofNat o)), .val (.int (Int32.ofNat n)), .val (.int 1), .val (.int 0), .val (.int (((p5.toUInt32 >>> ((2 : Int32) &&& 31).toUInt32).toInt32).toUInt32.toUInt16.toUInt32.toInt32)), .val (.int (((p5.toUInt32 >>> ((18 : Int32) &&& 31).toUInt32).toInt32).toUInt32.toUInt16.toUInt32.toInt32)), .val (.ref b6), .val (.ref x16), .val (.int 1), .val (.int 0), .val (.int 1)] [])) _
    refine st26 _ ?_
    show Steps p.tables e below (T26.setTop (mkF m 333 #[.val (.int p1), .val (.int p2), .val (.int p3), .val (.int p4), .val (.int p5), .val (.ref b1), .val (.int (Int32.ofNat o)), .val (.int (Int32.ofNat n)), .val (.int 1), .val (.int 0), .val (.int (((p5.toUInt32 >>> ((2 : Int32) &&& 31).toUInt32).toInt32).toUInt32.toUInt16.toUInt32.toInt32)), .val (.int (((p5.toUInt32 >>> ((18 : Int32) &&& 31).toUInt32).toInt32).toUInt32.toUInt16.toUInt32.toInt32)), .val (.ref b6), .val (.ref x16), .val (.int 1), .val (.int 0), .val (.int 1)] [])) _
    refine st27 _ ?_
    show Steps p.tables e below (T27.setTop (mkF m 370 #[.val (.int p1), .val (.int p2), .val (.int p3), .val (.int p4), .val (.int p5), .val (.ref b1), .val (.int (Int32.ofNat o)), .val (.int (Int32.ofNat n)), .val (.int 1), .val (.int 0), .val (.int (((p5.toUInt32 >>> ((2 : Int32) &&& 31).toUInt32).toInt32).toUInt32.toUInt16.toUInt32.toInt32)), .val (.int (((p5.toUInt32 >>> ((18 : Int32) &&& 31).toUInt32).toInt32).toUInt32.toUInt16.toUInt32.toInt32)), .val (.ref b6), .val (.ref x16), .val (.int 1), .val (.int 0), .val (.int 1)] [])) _
    refine st28 _ ?_
    show Steps p.tables e below (T28.setTop (mkF m 402 #[.val (.int p1), .val (.int p2), .val (.int p3), .val (.int p4), .val (.int p5), .val (.ref b1), .val (.int (Int32.ofNat o)), .val (.int (Int32.ofNat n)), .val (.int 1), .val (.int 0), .val (.int (((p5.toUInt32 >>> ((2 : Int32) &&& 31).toUInt32).toInt32).toUInt32.toUInt16.toUInt32.toInt32)), .val (.int (((p5.toUInt32 >>> ((18 : Int32) &&& 31).toUInt32).toInt32).toUInt32.toUInt16.toUInt32.toInt32)), .val (.ref b6), .val (.ref x16), .val (.int 1), .val (.int 0), .val (.int 1)] [])) _
    refine XS.iload X28.here hx rfl (hb hby at_402) rfl ?_
    show Steps p.tables e below (T28.setTop (mkF m 404 #[.val (.int p1), .val (.int p2), .val (.int p3), .val (.int p4), .val (.int p5), .val (.ref b1), .val (.int (Int32.ofNat o)), .val (.int (Int32.ofNat n)), .val (.int 1), .val (.int 0), .val (.int (((p5.toUInt32 >>> ((2 : Int32) &&& 31).toUInt32).toInt32).toUInt32.toUInt16.toUInt32.toInt32)), .val (.int (((p5.toUInt32 >>> ((18 : Int32) &&& 31).toUInt32).toInt32).toUInt32.toUInt16.toUInt32.toInt32)), .val (.ref b6), .val (.ref x16), .val (.int 1), .val (.int 0), .val (.int 1)] [(.int 1)])) _
    exact retN X28 hx (t := .boolean) Bd.returns (by simp) (hb hby at_404) hr
  · show Q0 Z  h0 n0 _ T28.heap _
    rw [e28b]
    exact ⟨rfl, N28⟩
set_option maxRecDepth 65536 in
set_option maxHeartbeats 40000000 in
theorem rm0_11 (l : Launch) (Z : State) (a0 : Array Value) (hw : ∀ d ∈ tables_1, d.before a0 Z = true) (ws : List Jvm.Cond) (G1 : Int32) (G3 : Value) (G4 : Value) (p1 : Int32) (p2 : Int32) (p3 : Int32) (p4 : Int32) (p5 : Int32) (o : Nat) (n : Nat) (h0 : Heap) (n0 : Nat) (Z0 : n0 ≤ h0.size) (EN : own_env Z G1 G3 G4) (X00 : Old Z n0 h0) (hr1 : ((p3 &&& (2147483647 : Int32)) % (5 : Int32)) = (Int32.ofNat o)) (ho5 : o < 5) (hr2 : ((p4 &&& (2147483647 : Int32)) % (Int32.ofNat (5 - o))) = (Int32.ofNat n)) (hn5 : n < 5 - o) (hb1 : ¬ ((p5 &&& (1 : Int32)) = (0 : Int32))) (hb2 : ¬ ((p5 &&& (2 : Int32)) = (0 : Int32))) :
    MetFree l x (head1 (Jvm.Cond.code x code maxLocals ret :: ws) room_1) (fun a_ U_ => a_ = #[(.int p1), (.int p2), (.int p3), (.int p4), (.int p5)] ∧ Z.Warmed39 U_.vm ∧ U_.heap = h0) (fun _ _ _ _ _ => True) (fun _ U_ o_ U1_ => ∃ v_ L_, o_ = .returned v_ ∧ Q0 Z  h0 n0 v_ U1_.heap L_ ∧ FrameEnd U_ o_ U1_ L_ 24 256) := by
  refine MetFree.of_bodySF (plainFor_of_name pn_0) hisR ?_
  intro p e s m args below meth c s₁ Bd hml0 hP hK
  obtain ⟨rfl, hZ, hh⟩ := hP
  have hx := Bd.exec
  have hby := Bd.bytes
  have hml : c.maxLocals = 17 := hml0
  have hown : s.vm.findClass "com/example/hebelwerk/hebelwerk/core/TextWritePinLaw" = some m.cls := findClass_of_methodNamed Bd.named
  have hnm := (name_of_methodNamed Bd.named Bd.method).1
  have X0 : Stand p l e room_1 s m #[(.int p1), (.int p2), (.int p3), (.int p4), (.int p5)] below meth c s₁ [] 0 0 := Stand.of_body Bd
  have e0 : s₁.heap = h0 := by rw [← hh, Bd.state]; rfl
  have N0 := Fr.nil n0
  have pre0 : ∀ tt, Steps p.tables e below (s₁.setTop (mkF m 0 #[.val (.int p1), .val (.int p2), .val (.int p3), .val (.int p4), .val (.int p5), .unset, .unset, .unset, .unset, .unset, .unset, .unset, .unset, .unset, .unset, .unset, .unset] [])) tt → Steps p.tables e below (s₁.setTop (entryFrame m #[(.int p1), (.int p2), (.int p3), (.int p4), (.int p5)] maxLocals)) tt := fun tt kk => castTop (ef_0_rrrrr m p1 p2 p3 p4 p5) kk
  have EN0 := EN
  obtain ⟨O2, P5, O4, rG3, O5, rG4, O6, O7, O8⟩ := EN
  obtain ⟨T1, h1, k1, X1, e1, E1, A1, st1⟩ := newP X0 hx hZ (hw _ (tk 0 rfl)) e0 (g := (mkF m 1 #[.val (.int p1), .val (.int p2), .val (.int p3), .val (.int p4), .val (.int p5), .unset, .unset, .unset, .unset, .unset, .unset, .unset, .unset, .unset, .unset, .unset, .unset] [(.int 4)])) rfl (hb hby at_1) rfl (by decide) (cap := 4) (by decide) (by decide) (by decide) (by decide)
  obtain ⟨b1, g1⟩ : ∃ z, z = h0.size := ⟨_, rfl⟩
  rw [← g1] at A1 st1
  have g_b1 : n0 ≤ b1 := Nat.le_trans Z0 (Nat.le_of_eq g1.symm)
  have sz_b1 : h0.size ≤ b1 := Nat.le_trans (Nat.le_refl _) (Nat.le_of_eq g1.symm)
  have V1 : Arv Z h1 b1 k1 .char (4 : Int32) [(.int 0), (.int 0), (.int 0), (.int 0)] (.int 0) := (Arv.new A1 (by decide)).pad (pad_rep [] (.int 0) 4)
  obtain ⟨c2, Ar2, q2, S2, M2, H2, Gz2⟩ := id V1
  obtain ⟨T2, h2, X2, e2, W2, st2⟩ := stC X1 hx hZ e1 Ar2 (j := (0 : Int32)) (inb_of S2 ⟨by decide, by decide⟩) (g := (mkF m 10 #[.val (.int p1), .val (.int p2), .val (.int p3), .val (.int p4), .val (.int p5), .val (.ref b1), .unset, .unset, .unset, .unset, .unset, .unset, .unset, .unset, .unset, .unset, .unset] [(.int (p1.toUInt32.toUInt16.toUInt32.toInt32)), (.int 0), (.ref b1)])) rfl rfl (hb hby at_10)
  have V2 : Arv Z h2 b1 k1 .char (4 : Int32) [(.int (nar .char (p1.toUInt32.toUInt16.toUInt32.toInt32))), (.int 0), (.int 0), (.int 0)] (.int 0) := Arv.set Ar2 q2 S2 M2 H2 Gz2 (fits_nar_char _) W2 0 rfl (Nat.le_of_ble_eq_true rfl)
  have N2 := Fr.snoc X2 N0 g_b1
  obtain ⟨c3, Ar3, q3, S3, M3, H3, Gz3⟩ := id V2
  obtain ⟨T3, h3, X3, e3, W3, st3⟩ := stC X2 hx hZ e2 Ar3 (j := (1 : Int32)) (inb_of S3 ⟨by decide, by decide⟩) (g := (mkF m 19 #[.val (.int p1), .val (.int p2), .val (.int p3), .val (.int p4), .val (.int p5), .val (.ref b1), .unset, .unset, .unset, .unset, .unset, .unset, .unset, .unset, .unset, .unset, .unset] [(.int (((p1.toUInt32 >>> ((16 : Int32) &&& 31).toUInt32).toInt32).toUInt32.toUInt16.toUInt32.toInt32)), (.int 1), (.ref b1)])) rfl rfl (hb hby at_19)
  have V3 : Arv Z h3 b1 k1 .char (4 : Int32) [(.int (nar .char (p1.toUInt32.toUInt16.toUInt32.toInt32))), (.int (nar .char (((p1.toUInt32 >>> ((16 : Int32) &&& 31).toUInt32).toInt32).toUInt32.toUInt16.toUInt32.toInt32))), (.int 0), (.int 0)] (.int 0) := Arv.set Ar3 q3 S3 M3 H3 Gz3 (fits_nar_char _) W3 1 rfl (Nat.le_of_ble_eq_true rfl)
  have N3 := Fr.snoc X3 N2 g_b1
  obtain ⟨c4, Ar4, q4, S4, M4, H4, Gz4⟩ := id V3
  obtain ⟨T4, h4, X4, e4, W4, st4⟩ := stC X3 hx hZ e3 Ar4 (j := (2 : Int32)) (inb_of S4 ⟨by decide, by decide⟩) (g := (mkF m 25 #[.val (.int p1), .val (.int p2), .val (.int p3), .val (.int p4), .val (.int p5), .val (.ref b1), .unset, .unset, .unset, .unset, .unset, .unset, .unset, .unset, .unset, .unset, .unset] [(.int (p2.toUInt32.toUInt16.toUInt32.toInt32)), (.int 2), (.ref b1)])) rfl rfl (hb hby at_25)
  have V4 : Arv Z h4 b1 k1 .char (4 : Int32) [(.int (nar .char (p1.toUInt32.toUInt16.toUInt32.toInt32))), (.int (nar .char (((p1.toUInt32 >>> ((16 : Int32) &&& 31).toUInt32).toInt32).toUInt32.toUInt16.toUInt32.toInt32))), (.int (nar .char (p2.toUInt32.toUInt16.toUInt32.toInt32))), (.int 0)] (.int 0) := Arv.set Ar4 q4 S4 M4 H4 Gz4 (fits_nar_char _) W4 2 rfl (Nat.le_of_ble_eq_true rfl)
  have N4 := Fr.snoc X4 N3 g_b1
  obtain ⟨c5, Ar5, q5, S5, M5, H5, Gz5⟩ := id V4
  obtain ⟨T5, h5, X5, e5, W5, st5⟩ := stC X4 hx hZ e4 Ar5 (j := (3 : Int32)) (inb_of S5 ⟨by decide, by decide⟩) (g := (mkF m 34 #[.val (.int p1), .val (.int p2), .val (.int p3), .val (.int p4), .val (.int p5), .val (.ref b1), .unset, .unset, .unset, .unset, .unset, .unset, .unset, .unset, .unset, .unset, .unset] [(.int (((p2.toUInt32 >>> ((16 : Int32) &&& 31).toUInt32).toInt32).toUInt32.toUInt16.toUInt32.toInt32)), (.int 3), (.ref b1)])) rfl rfl (hb hby at_34)
  have V5 : Arv Z h5 b1 k1 .char (4 : Int32) [(.int (nar .char (p1.toUInt32.toUInt16.toUInt32.toInt32))), (.int (nar .char (((p1.toUInt32 >>> ((16 : Int32) &&& 31).toUInt32).toInt32).toUInt32.toUInt16.toUInt32.toInt32))), (.int (nar .char (p2.toUInt32.toUInt16.toUInt32.toInt32))), (.int (nar .char (((p2.toUInt32 >>> ((16 : Int32) &&& 31).toUInt32).toInt32).toUInt32.toUInt16.toUInt32.toInt32)))] (.int 0) := Arv.set Ar5 q5 S5 M5 H5 Gz5 (fits_nar_char _) W5 3 rfl (Nat.le_of_ble_eq_true rfl)
  have N5 := Fr.snoc X5 N4 g_b1
  obtain ⟨as, has⟩ : ∃ z : List Int32, z = [(nar .char (p1.toUInt32.toUInt16.toUInt32.toInt32)), (nar .char (((p1.toUInt32 >>> ((16 : Int32) &&& 31).toUInt32).toInt32).toUInt32.toUInt16.toUInt32.toInt32)), (nar .char (p2.toUInt32.toUInt16.toUInt32.toInt32)), (nar .char (((p2.toUInt32 >>> ((16 : Int32) &&& 31).toUInt32).toInt32).toUInt32.toUInt16.toUInt32.toInt32))] := ⟨_, rfl⟩
  have Va : Arv Z h5 b1 k1 .char (Int32.ofNat as.length) (as.map Value.int) (.int 0) := by subst has; exact V5
  have hal : as.length = 4 := by subst has; rfl
  have hch : ∀ c ∈ as, own_ch c := by
    subst has
    intro c hc
    simp only [List.mem_cons, List.not_mem_nil, or_false] at hc
    rcases hc with rfl | rfl | rfl | rfl <;> exact own_narch _
  obtain ⟨T6, h6, X6, e6, E6, A6, D6, -, st6⟩ := newO X5 hx hZ hown (hw _ (tk 2 rfl)) (hw _ (tk 3 rfl)) (hw _ (tk 4 rfl)) e5 (g := (mkF m 97 #[.val (.int p1), .val (.int p2), .val (.int p3), .val (.int p4), .val (.int p5), .val (.ref b1), .val (.int (Int32.ofNat o)), .val (.int (Int32.ofNat n)), .val (.int 1), .val (.int 1), .val (.int (((p5.toUInt32 >>> ((2 : Int32) &&& 31).toUInt32).toInt32).toUInt32.toUInt16.toUInt32.toInt32)), .val (.int (((p5.toUInt32 >>> ((18 : Int32) &&& 31).toUInt32).toInt32).toUInt32.toUInt16.toUInt32.toInt32)), .unset, .unset, .unset, .unset, .unset] [])) rfl (hb hby at_97) (by decide) (by decide)
  obtain ⟨b6, g6⟩ : ∃ z, z = h5.size := ⟨_, rfl⟩
  rw [← g6] at A6 D6 st6
  have g_b6 : n0 ≤ b6 := Nat.le_trans (Nat.le_trans Z0 (Nat.le_trans (Nat.le_trans (Nat.le_trans (Nat.le_trans E1.1 (Keep.of_wr W2).1) (Keep.of_wr W3).1) (Keep.of_wr W4).1) (Keep.of_wr W5).1)) (Nat.le_of_eq g6.symm)
  have sz_b6 : h0.size ≤ b6 := Nat.le_trans (Nat.le_trans (Nat.le_trans (Nat.le_trans (Nat.le_trans E1.1 (Keep.of_wr W2).1) (Keep.of_wr W3).1) (Keep.of_wr W4).1) (Keep.of_wr W5).1) (Nat.le_of_eq g6.symm)
  have F6_lock : Fld Z h6 b6 "java/io/Writer" "lock" "Ljava/lang/Object;" .null := D6 (Or.inl (hw _ (tk 17 rfl))) (ty := (.object "java/lang/Object")) (by decide)
  have F6_text : Fld Z h6 b6 "com/example/hebelwerk/hebelwerk/core/Text" "text" "Ljava/lang/StringBuilder;" .null := D6 (Or.inr (hw _ (tk 39 rfl))) (ty := (.object "java/lang/StringBuilder")) (by decide)
  have f8 := ((((((X00.ext E1).wr W2 g_b1).wr W3 g_b1).wr W4 g_b1).wr W5 g_b1).ext E6)
  obtain ⟨_, _, ⟨T7, L7, k7, n7⟩, -, X7, ⟨Lc7, hQ7, l7, y7, z7⟩, st7⟩ := X6.specialBack hx (y := (⟨"com/example/hebelwerk/hebelwerk/core/Text", "<init>", "()V"⟩ : MethodName)) rfl hown (mvT hZ (hw _ (tk 5 rfl))) (mvT hZ (hw _ (tk 6 rfl))) (mvT hZ (hw _ (tk 7 rfl))) (by decide) (backOf (W := 1) (rmTXI l Z a0 hw [] G1 G3 G4 b6 h6 n0 (Nat.le_trans Z0 (Nat.le_trans (Nat.le_trans (Nat.le_trans (Nat.le_trans (Nat.le_trans E1.1 (Keep.of_wr W2).1) (Keep.of_wr W3).1) (Keep.of_wr W4).1) (Keep.of_wr W5).1) E6.1)) EN0 f8 A6 F6_lock F6_text g_b6) hZ (hw _ (tk 7 rfl)) (hw _ (tk 4 rfl)) (by decide) (by decide)) (g := (mkF m 101 #[.val (.int p1), .val (.int p2), .val (.int p3), .val (.int p4), .val (.int p5), .val (.ref b1), .val (.int (Int32.ofNat o)), .val (.int (Int32.ofNat n)), .val (.int 1), .val (.int 1), .val (.int (((p5.toUInt32 >>> ((2 : Int32) &&& 31).toUInt32).toInt32).toUInt32.toUInt16.toUInt32.toInt32)), .val (.int (((p5.toUInt32 >>> ((18 : Int32) &&& 31).toUInt32).toInt32).toUInt32.toUInt16.toUInt32.toInt32)), .unset, .unset, .unset, .unset, .unset] [(.ref b6), (.ref b6)])) rfl (by rw [hml]; rfl) (Steps.refl _) (a := b6) (argsL := []) (rest := [(.ref b6)]) (lenOf pd___V rfl) rfl (by show 2 * 0 + _ ≤ _; exact Nat.le_of_eq rfl) (hb hby at_101) (fun _ _ => ⟨rfl, e6, (by decide : 2 + 2 ≤ _), (by decide : 7 + 20 ≤ _)⟩)
  dsimp only [Pt.U, Pt.locs, Pt.cells, Pt.slots] at X7 l7 y7 z7 st7 hQ7
  subst l7 y7 z7
  obtain ⟨a7, t7, k7q, rfl, Nq7, ga7, gt7, sa7, sq7, Kq7, E7q, F7q, B7⟩ := hQ7
  have N7 := Fr.app N5 Nq7
  have f10 := (f8.keep Kq7 (allS g_b6 all0))
  obtain ⟨cq9, kq9, q9a, q9b, q9c⟩ := isOf hZ rfl E7q
  obtain ⟨_, _, ⟨T9, L9, k9, n9⟩, -, X9, ⟨Lc9, hQ9, l9, y9, z9⟩, st9⟩ := X7.virtualBack hx (y := (⟨"com/example/hebelwerk/hebelwerk/core/Text", "write", "(I)V"⟩ : MethodName)) (z := (⟨"com/example/hebelwerk/hebelwerk/core/Text", "write", "(I)V"⟩ : MethodName)) hown (mvT hZ (hw _ (tk 169 rfl))) (mvT hZ (hw _ (tk 170 rfl))) (notFace_of_selects (args := #[]) (mvT hZ (hw _ (tk 172 rfl)))) (mvT hZ (hw _ (tk 172 rfl))) (mvT hZ (hw _ (tk 171 rfl))) (by decide) (backOf (W := 0) (rmTI l Z a0 hw [] G1 G3 G4 b6 ((p5.toUInt32 >>> ((2 : Int32) &&& 31).toUInt32).toInt32) a7 t7 k7q [] T7.heap n0 (Nat.le_trans Z0 (Nat.le_trans (Nat.le_trans (Nat.le_trans (Nat.le_trans (Nat.le_trans (Nat.le_trans E1.1 (Keep.of_wr W2).1) (Keep.of_wr W3).1) (Keep.of_wr W4).1) (Keep.of_wr W5).1) E6.1) Kq7.1)) EN0 f10 B7 ga7 gt7 (by decide) E7q F7q) hZ (hw _ (tk 173 rfl)) (hw _ (tk 4 rfl)) (by decide) (by decide)) q9a q9c (g := (mkF m 117 #[.val (.int p1), .val (.int p2), .val (.int p3), .val (.int p4), .val (.int p5), .val (.ref b1), .val (.int (Int32.ofNat o)), .val (.int (Int32.ofNat n)), .val (.int 1), .val (.int 1), .val (.int (((p5.toUInt32 >>> ((2 : Int32) &&& 31).toUInt32).toInt32).toUInt32.toUInt16.toUInt32.toInt32)), .val (.int (((p5.toUInt32 >>> ((18 : Int32) &&& 31).toUInt32).toInt32).toUInt32.toUInt16.toUInt32.toInt32)), .val (.ref b6), .unset, .unset, .unset, .unset] [(.int ((p5.toUInt32 >>> ((2 : Int32) &&& 31).toUInt32).toInt32)), (.ref b6)])) rfl (by rw [hml]; rfl) (Steps.refl _) (argsL := [(.int ((p5.toUInt32 >>> ((2 : Int32) &&& 31).toUInt32).toInt32))]) (rest := []) (lenOf pd__I_V rfl) rfl (by show 2 * 0 + _ ≤ _; exact Nat.le_of_eq rfl) (hb hby at_117) (fun _ _ => ⟨rfl, rfl, (by decide : 4 + 1 ≤ _), (by decide : 27 + 32 ≤ _)⟩)
  dsimp only [Pt.U, Pt.locs, Pt.cells, Pt.slots] at X9 l9 y9 z9 st9 hQ9
  subst l9 y9 z9
  obtain ⟨rfl, Nq9, Kq9, t9, k9q, gt9, or9, B9⟩ := hQ9
  have N9 := Fr.app N7 Nq9
  have lb9 : h6.size ≤ t9 := or9.elim (fun q => by rw [q]; exact sq7) (fun q => Nat.le_trans Kq7.1 q)
  have f12 := (f10.keep Kq9 (allS ga7 (allS gt7 all0)))
  have f13 := (((Va.ext E6).keep Kq7 (ninS (Nat.ne_of_lt (Nat.lt_of_lt_of_le (Nat.lt_of_lt_of_le V1.lt (Nat.le_trans (Nat.le_trans (Nat.le_trans (Keep.of_wr W2).1 (Keep.of_wr W3).1) (Keep.of_wr W4).1) (Keep.of_wr W5).1)) (Nat.le_of_eq g6.symm))) nin0)).keep Kq9 (ninS (Nat.ne_of_lt (Nat.lt_of_lt_of_le (Nat.lt_of_lt_of_le V1.lt (Nat.le_trans (Nat.le_trans (Nat.le_trans (Nat.le_trans (Keep.of_wr W2).1 (Keep.of_wr W3).1) (Keep.of_wr W4).1) (Keep.of_wr W5).1) E6.1)) sa7)) (ninS (Nat.ne_of_lt (Nat.lt_of_lt_of_le (Nat.lt_of_lt_of_le V1.lt (Nat.le_trans (Nat.le_trans (Nat.le_trans (Nat.le_trans (Keep.of_wr W2).1 (Keep.of_wr W3).1) (Keep.of_wr W4).1) (Keep.of_wr W5).1) E6.1)) sq7)) nin0)))
  have f14 := (E7q.keep Kq9)
  have f15 := (F7q.keep Kq9 (ninS (Nat.ne_of_lt (Nat.lt_of_lt_of_le A6.lt sa7)) (ninS (Nat.ne_of_lt (Nat.lt_of_lt_of_le A6.lt sq7)) nin0)))
  obtain ⟨cq11, kq11, q11a, q11b, q11c⟩ := isOf hZ rfl f14
  obtain ⟨_, _, ⟨T11, L11, k11, n11⟩, -, X11, ⟨Lc11, hQ11, l11, y11, z11⟩, st11⟩ := X9.virtualBack hx (y := (⟨"com/example/hebelwerk/hebelwerk/core/Text", "write", "([CII)V"⟩ : MethodName)) (z := (⟨"com/example/hebelwerk/hebelwerk/core/Text", "write", "([CII)V"⟩ : MethodName)) hown (mvT hZ (hw _ (tk 40 rfl))) (mvT hZ (hw _ (tk 41 rfl))) (notFace_of_selects (args := #[]) (mvT hZ (hw _ (tk 43 rfl)))) (mvT hZ (hw _ (tk 43 rfl))) (mvT hZ (hw _ (tk 42 rfl))) (by decide) (backOf (W := 0) (rmTW l Z a0 hw [] G1 G3 G4 b6 a7 t9 k9q ([] ++ [(((p5.toUInt32 >>> ((2 : Int32) &&& 31).toUInt32).toInt32).toUInt32.toUInt16.toUInt32.toInt32)]) b1 k1 as o (o + n) n T9.heap n0 (Nat.le_trans Z0 (Nat.le_trans (Nat.le_trans (Nat.le_trans (Nat.le_trans (Nat.le_trans (Nat.le_trans (Nat.le_trans E1.1 (Keep.of_wr W2).1) (Keep.of_wr W3).1) (Keep.of_wr W4).1) (Keep.of_wr W5).1) E6.1) Kq7.1) Kq9.1)) EN0 f12 B9 ga7 gt9 f13 (Nat.ne_of_lt (Nat.lt_of_lt_of_le (Nat.lt_of_lt_of_le V1.lt (Nat.le_trans (Nat.le_trans (Nat.le_trans (Nat.le_trans (Keep.of_wr W2).1 (Keep.of_wr W3).1) (Keep.of_wr W4).1) (Keep.of_wr W5).1) E6.1)) lb9)) (Nat.ne_of_lt (Nat.lt_of_lt_of_le (Nat.lt_of_lt_of_le V1.lt (Nat.le_trans (Nat.le_trans (Nat.le_trans (Nat.le_trans (Keep.of_wr W2).1 (Keep.of_wr W3).1) (Keep.of_wr W4).1) (Keep.of_wr W5).1) E6.1)) sa7)) (by simp only [List.length_append, List.length_nil, List.length_cons]; omega) rfl (by omega) (by omega) hch f14 f15) hZ (hw _ (tk 44 rfl)) (hw _ (tk 4 rfl)) (by decide) (by decide)) q11a q11c (g := (mkF m 128 #[.val (.int p1), .val (.int p2), .val (.int p3), .val (.int p4), .val (.int p5), .val (.ref b1), .val (.int (Int32.ofNat o)), .val (.int (Int32.ofNat n)), .val (.int 1), .val (.int 1), .val (.int (((p5.toUInt32 >>> ((2 : Int32) &&& 31).toUInt32).toInt32).toUInt32.toUInt16.toUInt32.toInt32)), .val (.int (((p5.toUInt32 >>> ((18 : Int32) &&& 31).toUInt32).toInt32).toUInt32.toUInt16.toUInt32.toInt32)), .val (.ref b6), .unset, .unset, .unset, .unset] [(.int (Int32.ofNat n)), (.int (Int32.ofNat o)), (.ref b1), (.ref b6)])) rfl (by rw [hml]; rfl) (Steps.refl _) (argsL := [(.ref b1), (.int (Int32.ofNat o)), (.int (Int32.ofNat n))]) (rest := []) (lenOf pd___CII_V rfl) rfl (by show 2 * 0 + _ ≤ _; exact Nat.le_of_eq rfl) (hb hby at_128) (fun _ _ => ⟨rfl, rfl, (by decide : 5 + 1 ≤ _), (by decide : 59 + 32 ≤ _)⟩)
  dsimp only [Pt.U, Pt.locs, Pt.cells, Pt.slots] at X11 l11 y11 z11 st11 hQ11
  subst l11 y11 z11
  obtain ⟨rfl, Nq11, Kq11, t11, k11q, gt11, or11, B11⟩ := hQ11
  have N11 := Fr.app N9 Nq11
  have lb11 : h6.size ≤ t11 := or11.elim (fun q => by rw [q]; exact lb9) (fun q => Nat.le_trans (Nat.le_trans Kq7.1 Kq9.1) q)
  have f17 := (f12.keep Kq11 (allS ga7 (allS gt9 all0)))
  have f18 := (f14.keep Kq11)
  have f19 := (f15.keep Kq11 (ninS (Nat.ne_of_lt (Nat.lt_of_lt_of_le A6.lt sa7)) (ninS (Nat.ne_of_lt (Nat.lt_of_lt_of_le A6.lt lb9)) nin0)))
  obtain ⟨cq16, kq16, q16a, q16b, q16c⟩ := isOf hZ rfl f18
  obtain ⟨_, _, ⟨T16, L16, k16, n16⟩, -, X16, ⟨Lc16, hQ16, l16, y16, z16⟩, st16⟩ := X11.virtualBack hx (y := (⟨"com/example/hebelwerk/hebelwerk/core/Text", "write", "(I)V"⟩ : MethodName)) (z := (⟨"com/example/hebelwerk/hebelwerk/core/Text", "write", "(I)V"⟩ : MethodName)) hown (mvT hZ (hw _ (tk 169 rfl))) (mvT hZ (hw _ (tk 170 rfl))) (notFace_of_selects (args := #[]) (mvT hZ (hw _ (tk 172 rfl)))) (mvT hZ (hw _ (tk 172 rfl))) (mvT hZ (hw _ (tk 171 rfl))) (by decide) (backOf (W := 0) (rmTI l Z a0 hw [] G1 G3 G4 b6 ((p5.toUInt32 >>> ((18 : Int32) &&& 31).toUInt32).toInt32) a7 t11 k11q (([] ++ [(((p5.toUInt32 >>> ((2 : Int32) &&& 31).toUInt32).toInt32).toUInt32.toUInt16.toUInt32.toInt32)]) ++ (as.drop o).take n) T11.heap n0 (Nat.le_trans Z0 (Nat.le_trans (Nat.le_trans (Nat.le_trans (Nat.le_trans (Nat.le_trans (Nat.le_trans (Nat.le_trans (Nat.le_trans E1.1 (Keep.of_wr W2).1) (Keep.of_wr W3).1) (Keep.of_wr W4).1) (Keep.of_wr W5).1) E6.1) Kq7.1) Kq9.1) Kq11.1)) EN0 f17 B11 ga7 gt11 (by have q := (own_cs ([] ++ [(((p5.toUInt32 >>> ((2 : Int32) &&& 31).toUInt32).toInt32).toUInt32.toUInt16.toUInt32.toInt32)]) as [] o n (by omega) (([] ++ [(((p5.toUInt32 >>> ((2 : Int32) &&& 31).toUInt32).toInt32).toUInt32.toUInt16.toUInt32.toInt32)]) ++ (as.drop o).take n) (List.append_nil _).symm).1; simp only [List.length_append, List.length_nil, List.length_cons] at q ⊢; omega) f18 f19) hZ (hw _ (tk 173 rfl)) (hw _ (tk 4 rfl)) (by decide) (by decide)) q16a q16c (g := (mkF m 143 #[.val (.int p1), .val (.int p2), .val (.int p3), .val (.int p4), .val (.int p5), .val (.ref b1), .val (.int (Int32.ofNat o)), .val (.int (Int32.ofNat n)), .val (.int 1), .val (.int 1), .val (.int (((p5.toUInt32 >>> ((2 : Int32) &&& 31).toUInt32).toInt32).toUInt32.toUInt16.toUInt32.toInt32)), .val (.int (((p5.toUInt32 >>> ((18 : Int32) &&& 31).toUInt32).toInt32).toUInt32.toUInt16.toUInt32.toInt32)), .val (.ref b6), .unset, .unset, .unset, .unset] [(.int ((p5.toUInt32 >>> ((18 : Int32) &&& 31).toUInt32).toInt32)), (.ref b6)])) rfl (by rw [hml]; rfl) (Steps.refl _) (argsL := [(.int ((p5.toUInt32 >>> ((18 : Int32) &&& 31).toUInt32).toInt32))]) (rest := []) (lenOf pd__I_V rfl) rfl (by show 2 * 0 + _ ≤ _; exact Nat.le_of_eq rfl) (hb hby at_143) (fun _ _ => ⟨rfl, rfl, (by decide : 6 + 1 ≤ _), (by decide : 91 + 32 ≤ _)⟩)
  dsimp only [Pt.U, Pt.locs, Pt.cells, Pt.slots] at X16 l16 y16 z16 st16 hQ16
  subst l16 y16 z16
  obtain ⟨rfl, Nq16, Kq16, t16, k16q, gt16, or16, B16⟩ := hQ16
  have N16 := Fr.app N11 Nq16
  have lb16 : h6.size ≤ t16 := or16.elim (fun q => by rw [q]; exact lb11) (fun q => Nat.le_trans (Nat.le_trans (Nat.le_trans Kq7.1 Kq9.1) Kq11.1) q)
  have f21 := (f17.keep Kq16 (allS ga7 (allS gt11 all0)))
  have f22 := (f18.keep Kq16)
  have f23 := (f19.keep Kq16 (ninS (Nat.ne_of_lt (Nat.lt_of_lt_of_le A6.lt sa7)) (ninS (Nat.ne_of_lt (Nat.lt_of_lt_of_le A6.lt lb11)) nin0)))
  obtain ⟨cq20, kq20, q20a, q20b, q20c⟩ := isOf hZ rfl f22
  obtain ⟨_, _, ⟨T20, L20, k20, n20⟩, -, X20, ⟨Lc20, hQ20, l20, y20, z20⟩, st20⟩ := X16.virtualBack hx (y := (⟨"com/example/hebelwerk/hebelwerk/core/Text", "toString", "()Ljava/lang/String;"⟩ : MethodName)) (z := (⟨"com/example/hebelwerk/hebelwerk/core/Text", "toString", "()Ljava/lang/String;"⟩ : MethodName)) hown (mvT hZ (hw _ (tk 82 rfl))) (mvT hZ (hw _ (tk 83 rfl))) (notFace_of_selects (args := #[]) (mvT hZ (hw _ (tk 85 rfl)))) (mvT hZ (hw _ (tk 85 rfl))) (mvT hZ (hw _ (tk 84 rfl))) (by decide) (backOf (W := 0) (rmTTS l Z a0 hw [] G1 G3 G4 b6 a7 t16 k16q ((([] ++ [(((p5.toUInt32 >>> ((2 : Int32) &&& 31).toUInt32).toInt32).toUInt32.toUInt16.toUInt32.toInt32)]) ++ (as.drop o).take n) ++ [(((p5.toUInt32 >>> ((18 : Int32) &&& 31).toUInt32).toInt32).toUInt32.toUInt16.toUInt32.toInt32)]) T16.heap n0 (Nat.le_trans Z0 (Nat.le_trans (Nat.le_trans (Nat.le_trans (Nat.le_trans (Nat.le_trans (Nat.le_trans (Nat.le_trans (Nat.le_trans (Nat.le_trans E1.1 (Keep.of_wr W2).1) (Keep.of_wr W3).1) (Keep.of_wr W4).1) (Keep.of_wr W5).1) E6.1) Kq7.1) Kq9.1) Kq11.1) Kq16.1)) EN0 f21 B16 (by have q := (own_cs ([] ++ [(((p5.toUInt32 >>> ((2 : Int32) &&& 31).toUInt32).toInt32).toUInt32.toUInt16.toUInt32.toInt32)]) as [(((p5.toUInt32 >>> ((18 : Int32) &&& 31).toUInt32).toInt32).toUInt32.toUInt16.toUInt32.toInt32)] o n (by omega) ((([] ++ [(((p5.toUInt32 >>> ((2 : Int32) &&& 31).toUInt32).toInt32).toUInt32.toUInt16.toUInt32.toInt32)]) ++ (as.drop o).take n) ++ [(((p5.toUInt32 >>> ((18 : Int32) &&& 31).toUInt32).toInt32).toUInt32.toUInt16.toUInt32.toInt32)]) rfl).1; simp only [List.length_append, List.length_nil, List.length_cons] at q ⊢; omega) ga7 gt16 f22 f23) hZ (hw _ (tk 86 rfl)) (hw _ (tk 4 rfl)) (by decide) (by decide)) q20a q20c (g := (mkF m 148 #[.val (.int p1), .val (.int p2), .val (.int p3), .val (.int p4), .val (.int p5), .val (.ref b1), .val (.int (Int32.ofNat o)), .val (.int (Int32.ofNat n)), .val (.int 1), .val (.int 1), .val (.int (((p5.toUInt32 >>> ((2 : Int32) &&& 31).toUInt32).toInt32).toUInt32.toUInt16.toUInt32.toInt32)), .val (.int (((p5.toUInt32 >>> ((18 : Int32) &&& 31).toUInt32).toInt32).toUInt32.toUInt16.toUInt32.toInt32)), .val (.ref b6), .unset, .unset, .unset, .unset] [(.ref b6)])) rfl (by rw [hml]; rfl) (Steps.refl _) (argsL := []) (rest := []) (lenOf pd___Ljava_lang_String_ rfl) rfl (by show 2 * 0 + _ ≤ _; exact Nat.le_of_eq rfl) (hb hby at_148) (fun _ _ => ⟨rfl, rfl, (by decide : 7 + 2 ≤ _), (by decide : 123 + 36 ≤ _)⟩)
  dsimp only [Pt.U, Pt.locs, Pt.cells, Pt.slots] at X20 l20 y20 z20 st20 hQ20
  subst l20 y20 z20
  obtain ⟨x20, rfl, Nq20, sq20, Kq20, S20⟩ := hQ20
  have N20 := Fr.app N16 Nq20
  have E20q := S20.choose_spec.choose_spec.1
  obtain ⟨CS, hCS⟩ : ∃ z : List Int32, z = ((([] ++ [(((p5.toUInt32 >>> ((2 : Int32) &&& 31).toUInt32).toInt32).toUInt32.toUInt16.toUInt32.toInt32)]) ++ (as.drop o).take n) ++ [(((p5.toUInt32 >>> ((18 : Int32) &&& 31).toUInt32).toInt32).toUInt32.toUInt16.toUInt32.toInt32)]) := ⟨_, rfl⟩
  rw [← hCS] at S20
  obtain ⟨hL, hk, hpre, hsuf⟩ := own_cs ([] ++ [(((p5.toUInt32 >>> ((2 : Int32) &&& 31).toUInt32).toInt32).toUInt32.toUInt16.toUInt32.toInt32)]) as [(((p5.toUInt32 >>> ((18 : Int32) &&& 31).toUInt32).toInt32).toUInt32.toUInt16.toUInt32.toInt32)] o n (by omega) CS hCS
  have hCc : ∀ c ∈ CS, own_ch c := by rw [hCS]; exact own_cch (own_one (own_narch _)) hch (own_one (own_narch _))
  have hL' : CS.length = 1 + n + 1 := hL
  have f25 := (f21.keep Kq20 all0)
  obtain ⟨cq24, kq24, q24a, q24b, q24c⟩ := isOf hZ rfl E20q
  obtain ⟨_, _, ⟨T24, L24, k24, n24⟩, -, X24, ⟨Lc24, hQ24, l24, y24, z24⟩, st24⟩ := X20.virtualBack hx (y := (⟨"java/lang/String", "length", "()I"⟩ : MethodName)) (z := (⟨"java/lang/String", "length", "()I"⟩ : MethodName)) hown (mvT hZ (hw _ (tk 138 rfl))) (mvT hZ (hw _ (tk 139 rfl))) (notFace_of_selects (args := #[]) (mvT hZ (hw _ (tk 141 rfl)))) (mvT hZ (hw _ (tk 141 rfl))) (mvT hZ (hw _ (tk 140 rfl))) (by decide) (backOf (W := 0) (rmLE l Z a0 hw [] G1 G3 G4 x20 CS T20.heap n0 (Nat.le_trans Z0 (Nat.le_trans (Nat.le_trans (Nat.le_trans (Nat.le_trans (Nat.le_trans (Nat.le_trans (Nat.le_trans (Nat.le_trans (Nat.le_trans (Nat.le_trans E1.1 (Keep.of_wr W2).1) (Keep.of_wr W3).1) (Keep.of_wr W4).1) (Keep.of_wr W5).1) E6.1) Kq7.1) Kq9.1) Kq11.1) Kq16.1) Kq20.1)) EN0 f25 S20 (by omega)) hZ (hw _ (tk 142 rfl)) (hw _ (tk 32 rfl)) (by decide) (by decide)) q24a q24c (g := (mkF m 179 #[.val (.int p1), .val (.int p2), .val (.int p3), .val (.int p4), .val (.int p5), .val (.ref b1), .val (.int (Int32.ofNat o)), .val (.int (Int32.ofNat n)), .val (.int 1), .val (.int 1), .val (.int (((p5.toUInt32 >>> ((2 : Int32) &&& 31).toUInt32).toInt32).toUInt32.toUInt16.toUInt32.toInt32)), .val (.int (((p5.toUInt32 >>> ((18 : Int32) &&& 31).toUInt32).toInt32).toUInt32.toUInt16.toUInt32.toInt32)), .val (.ref b6), .val (.ref x20), .val (.int 1), .val (.int 1), .unset] [(.ref x20)])) rfl (by rw [hml]; rfl) (Steps.refl _) (argsL := []) (rest := []) (lenOf pd___I rfl) rfl (by show 2 * 0 + _ ≤ _; exact Nat.le_of_eq rfl) (hb hby at_179) (fun _ _ => ⟨rfl, rfl, (by decide : 9 + 0 ≤ _), (by decide : 159 + 0 ≤ _)⟩)
  dsimp only [Pt.U, Pt.locs, Pt.cells, Pt.slots] at X24 l24 y24 z24 st24 hQ24
  subst l24 y24 z24
  obtain ⟨rfl, Nq24, eq24⟩ := hQ24
  have N24 := Fr.app N20 Nq24
  have Xm : Stand p l e room_1 s m _ below meth c T24 _ 9 159 := { X24 with same := X24.same.mono (by decide) (by decide) }
  have f26 := (((f13.keep Kq11 (ninS (Nat.ne_of_lt (Nat.lt_of_lt_of_le (Nat.lt_of_lt_of_le V1.lt (Nat.le_trans (Nat.le_trans (Nat.le_trans (Nat.le_trans (Keep.of_wr W2).1 (Keep.of_wr W3).1) (Keep.of_wr W4).1) (Keep.of_wr W5).1) E6.1)) sa7)) (ninS (Nat.ne_of_lt (Nat.lt_of_lt_of_le (Nat.lt_of_lt_of_le V1.lt (Nat.le_trans (Nat.le_trans (Nat.le_trans (Nat.le_trans (Keep.of_wr W2).1 (Keep.of_wr W3).1) (Keep.of_wr W4).1) (Keep.of_wr W5).1) E6.1)) lb9)) nin0))).keep Kq16 (ninS (Nat.ne_of_lt (Nat.lt_of_lt_of_le (Nat.lt_of_lt_of_le V1.lt (Nat.le_trans (Nat.le_trans (Nat.le_trans (Nat.le_trans (Keep.of_wr W2).1 (Keep.of_wr W3).1) (Keep.of_wr W4).1) (Keep.of_wr W5).1) E6.1)) sa7)) (ninS (Nat.ne_of_lt (Nat.lt_of_lt_of_le (Nat.lt_of_lt_of_le V1.lt (Nat.le_trans (Nat.le_trans (Nat.le_trans (Nat.le_trans (Keep.of_wr W2).1 (Keep.of_wr W3).1) (Keep.of_wr W4).1) (Keep.of_wr W5).1) E6.1)) lb11)) nin0))).keep Kq20 nin0)
  obtain ⟨T27, h27, L27, X27, e27, N27, Z27, hh27, st27⟩ := bA1 G1 G3 G4 p1 p2 p3 p4 p5 (((p5.toUInt32 >>> ((2 : Int32) &&& 31).toUInt32).toInt32).toUInt32.toUInt16.toUInt32.toInt32) (((p5.toUInt32 >>> ((18 : Int32) &&& 31).toUInt32).toInt32).toUInt32.toUInt16.toUInt32.toInt32) b1 b6 x20 k1 as o n CS 1 (1 : Int32) T20.heap n0 Xm hx hZ hw hby hml hown eq24 N24 (Nat.le_trans Z0 (Nat.le_trans (Nat.le_trans (Nat.le_trans (Nat.le_trans (Nat.le_trans (Nat.le_trans (Nat.le_trans (Nat.le_trans (Nat.le_trans (Nat.le_trans E1.1 (Keep.of_wr W2).1) (Keep.of_wr W3).1) (Keep.of_wr W4).1) (Keep.of_wr W5).1) E6.1) Kq7.1) Kq9.1) Kq11.1) Kq16.1) Kq20.1)) EN0 f25 S20 (by omega) hCc f26 (by omega) (by omega) (hpre 0 Nat.zero_lt_one) (by omega)
  have e27b := e27.trans hh27
  obtain ⟨T28, h28, L28, X28, e28, N28, Z28, hh28, st28⟩ := (if hkk : 0 < n then bK0y G1 G3 G4 p1 p2 p3 p4 p5 (((p5.toUInt32 >>> ((2 : Int32) &&& 31).toUInt32).toInt32).toUInt32.toUInt16.toUInt32.toInt32) (((p5.toUInt32 >>> ((18 : Int32) &&& 31).toUInt32).toInt32).toUInt32.toUInt16.toUInt32.toInt32) b1 b6 x20 k1 as o n CS 1 (1 : Int32) T20.heap n0 X27 hx hZ hw hby hml hown e27b N27 (Nat.le_trans Z0 (Nat.le_trans (Nat.le_trans (Nat.le_trans (Nat.le_trans (Nat.le_trans (Nat.le_trans (Nat.le_trans (Nat.le_trans (Nat.le_trans (Nat.le_trans E1.1 (Keep.of_wr W2).1) (Keep.of_wr W3).1) (Keep.of_wr W4).1) (Keep.of_wr W5).1) E6.1) Kq7.1) Kq9.1) Kq11.1) Kq16.1) Kq20.1)) EN0 f25 S20 (by omega) hCc f26 (by omega) (by omega) hkk (hk 0 hkk) (by omega) else bK0n G1 G3 G4 p1 p2 p3 p4 p5 (((p5.toUInt32 >>> ((2 : Int32) &&& 31).toUInt32).toInt32).toUInt32.toUInt16.toUInt32.toInt32) (((p5.toUInt32 >>> ((18 : Int32) &&& 31).toUInt32).toInt32).toUInt32.toUInt16.toUInt32.toInt32) b1 b6 x20 k1 as o n CS 1 (1 : Int32) T20.heap n0 X27 hx hZ hw hby hml hown e27b N27 (Nat.le_trans Z0 (Nat.le_trans (Nat.le_trans (Nat.le_trans (Nat.le_trans (Nat.le_trans (Nat.le_trans (Nat.le_trans (Nat.le_trans (Nat.le_trans (Nat.le_trans E1.1 (Keep.of_wr W2).1) (Keep.of_wr W3).1) (Keep.of_wr W4).1) (Keep.of_wr W5).1) E6.1) Kq7.1) Kq9.1) Kq11.1) Kq16.1) Kq20.1)) EN0 f25 S20 (by omega) hCc f26 (by omega) (by omega) hkk (by omega))
  have e28b := e28.trans hh28
  obtain ⟨T29, h29, L29, X29, e29, N29, Z29, hh29, st29⟩ := (if hkk : 1 < n then bK1y G1 G3 G4 p1 p2 p3 p4 p5 (((p5.toUInt32 >>> ((2 : Int32) &&& 31).toUInt32).toInt32).toUInt32.toUInt16.toUInt32.toInt32) (((p5.toUInt32 >>> ((18 : Int32) &&& 31).toUInt32).toInt32).toUInt32.toUInt16.toUInt32.toInt32) b1 b6 x20 k1 as o n CS 1 (1 : Int32) T20.heap n0 X28 hx hZ hw hby hml hown e28b N28 (Nat.le_trans Z0 (Nat.le_trans (Nat.le_trans (Nat.le_trans (Nat.le_trans (Nat.le_trans (Nat.le_trans (Nat.le_trans (Nat.le_trans (Nat.le_trans (Nat.le_trans E1.1 (Keep.of_wr W2).1) (Keep.of_wr W3).1) (Keep.of_wr W4).1) (Keep.of_wr W5).1) E6.1) Kq7.1) Kq9.1) Kq11.1) Kq16.1) Kq20.1)) EN0 f25 S20 (by omega) hCc f26 (by omega) (by omega) hkk (hk 1 hkk) (by omega) else bK1n G1 G3 G4 p1 p2 p3 p4 p5 (((p5.toUInt32 >>> ((2 : Int32) &&& 31).toUInt32).toInt32).toUInt32.toUInt16.toUInt32.toInt32) (((p5.toUInt32 >>> ((18 : Int32) &&& 31).toUInt32).toInt32).toUInt32.toUInt16.toUInt32.toInt32) b1 b6 x20 k1 as o n CS 1 (1 : Int32) T20.heap n0 X28 hx hZ hw hby hml hown e28b N28 (Nat.le_trans Z0 (Nat.le_trans (Nat.le_trans (Nat.le_trans (Nat.le_trans (Nat.le_trans (Nat.le_trans (Nat.le_trans (Nat.le_trans (Nat.le_trans (Nat.le_trans E1.1 (Keep.of_wr W2).1) (Keep.of_wr W3).1) (Keep.of_wr W4).1) (Keep.of_wr W5).1) E6.1) Kq7.1) Kq9.1) Kq11.1) Kq16.1) Kq20.1)) EN0 f25 S20 (by omega) hCc f26 (by omega) (by omega) hkk (by omega))
  have e29b := e29.trans hh29
  obtain ⟨T30, h30, L30, X30, e30, N30, Z30, hh30, st30⟩ := (if hkk : 2 < n then bK2y G1 G3 G4 p1 p2 p3 p4 p5 (((p5.toUInt32 >>> ((2 : Int32) &&& 31).toUInt32).toInt32).toUInt32.toUInt16.toUInt32.toInt32) (((p5.toUInt32 >>> ((18 : Int32) &&& 31).toUInt32).toInt32).toUInt32.toUInt16.toUInt32.toInt32) b1 b6 x20 k1 as o n CS 1 (1 : Int32) T20.heap n0 X29 hx hZ hw hby hml hown e29b N29 (Nat.le_trans Z0 (Nat.le_trans (Nat.le_trans (Nat.le_trans (Nat.le_trans (Nat.le_trans (Nat.le_trans (Nat.le_trans (Nat.le_trans (Nat.le_trans (Nat.le_trans E1.1 (Keep.of_wr W2).1) (Keep.of_wr W3).1) (Keep.of_wr W4).1) (Keep.of_wr W5).1) E6.1) Kq7.1) Kq9.1) Kq11.1) Kq16.1) Kq20.1)) EN0 f25 S20 (by omega) hCc f26 (by omega) (by omega) hkk (hk 2 hkk) (by omega) else bK2n G1 G3 G4 p1 p2 p3 p4 p5 (((p5.toUInt32 >>> ((2 : Int32) &&& 31).toUInt32).toInt32).toUInt32.toUInt16.toUInt32.toInt32) (((p5.toUInt32 >>> ((18 : Int32) &&& 31).toUInt32).toInt32).toUInt32.toUInt16.toUInt32.toInt32) b1 b6 x20 k1 as o n CS 1 (1 : Int32) T20.heap n0 X29 hx hZ hw hby hml hown e29b N29 (Nat.le_trans Z0 (Nat.le_trans (Nat.le_trans (Nat.le_trans (Nat.le_trans (Nat.le_trans (Nat.le_trans (Nat.le_trans (Nat.le_trans (Nat.le_trans (Nat.le_trans E1.1 (Keep.of_wr W2).1) (Keep.of_wr W3).1) (Keep.of_wr W4).1) (Keep.of_wr W5).1) E6.1) Kq7.1) Kq9.1) Kq11.1) Kq16.1) Kq20.1)) EN0 f25 S20 (by omega) hCc f26 (by omega) (by omega) hkk (by omega))
  have e30b := e30.trans hh30
  obtain ⟨T31, h31, L31, X31, e31, N31, Z31, hh31, st31⟩ := (if hkk : 3 < n then bK3y G1 G3 G4 p1 p2 p3 p4 p5 (((p5.toUInt32 >>> ((2 : Int32) &&& 31).toUInt32).toInt32).toUInt32.toUInt16.toUInt32.toInt32) (((p5.toUInt32 >>> ((18 : Int32) &&& 31).toUInt32).toInt32).toUInt32.toUInt16.toUInt32.toInt32) b1 b6 x20 k1 as o n CS 1 (1 : Int32) T20.heap n0 X30 hx hZ hw hby hml hown e30b N30 (Nat.le_trans Z0 (Nat.le_trans (Nat.le_trans (Nat.le_trans (Nat.le_trans (Nat.le_trans (Nat.le_trans (Nat.le_trans (Nat.le_trans (Nat.le_trans (Nat.le_trans E1.1 (Keep.of_wr W2).1) (Keep.of_wr W3).1) (Keep.of_wr W4).1) (Keep.of_wr W5).1) E6.1) Kq7.1) Kq9.1) Kq11.1) Kq16.1) Kq20.1)) EN0 f25 S20 (by omega) hCc f26 (by omega) (by omega) hkk (hk 3 hkk) (by omega) else bK3n G1 G3 G4 p1 p2 p3 p4 p5 (((p5.toUInt32 >>> ((2 : Int32) &&& 31).toUInt32).toInt32).toUInt32.toUInt16.toUInt32.toInt32) (((p5.toUInt32 >>> ((18 : Int32) &&& 31).toUInt32).toInt32).toUInt32.toUInt16.toUInt32.toInt32) b1 b6 x20 k1 as o n CS 1 (1 : Int32) T20.heap n0 X30 hx hZ hw hby hml hown e30b N30 (Nat.le_trans Z0 (Nat.le_trans (Nat.le_trans (Nat.le_trans (Nat.le_trans (Nat.le_trans (Nat.le_trans (Nat.le_trans (Nat.le_trans (Nat.le_trans (Nat.le_trans E1.1 (Keep.of_wr W2).1) (Keep.of_wr W3).1) (Keep.of_wr W4).1) (Keep.of_wr W5).1) E6.1) Kq7.1) Kq9.1) Kq11.1) Kq16.1) Kq20.1)) EN0 f25 S20 (by omega) hCc f26 (by omega) (by omega) hkk (by omega))
  have e31b := e31.trans hh31
  obtain ⟨T32, h32, L32, X32, e32, N32, Z32, hh32, st32⟩ := bZ1 G1 G3 G4 p1 p2 p3 p4 p5 (((p5.toUInt32 >>> ((2 : Int32) &&& 31).toUInt32).toInt32).toUInt32.toUInt16.toUInt32.toInt32) (((p5.toUInt32 >>> ((18 : Int32) &&& 31).toUInt32).toInt32).toUInt32.toUInt16.toUInt32.toInt32) b1 b6 x20 k1 as o n CS 1 (1 : Int32) T20.heap n0 X31 hx hZ hw hby hml hown e31b N31 (Nat.le_trans Z0 (Nat.le_trans (Nat.le_trans (Nat.le_trans (Nat.le_trans (Nat.le_trans (Nat.le_trans (Nat.le_trans (Nat.le_trans (Nat.le_trans (Nat.le_trans E1.1 (Keep.of_wr W2).1) (Keep.of_wr W3).1) (Keep.of_wr W4).1) (Keep.of_wr W5).1) E6.1) Kq7.1) Kq9.1) Kq11.1) Kq16.1) Kq20.1)) EN0 f25 S20 (by omega) hCc f26 (by omega) (by omega) (hsuf 0 Nat.zero_lt_one) (by omega)
  have e32b := e32.trans hh32
  obtain ⟨fs, hr, hrun, hended, hW, hsame⟩ := X32.leave (v := some (.int 1)) (fun h => by rw [Bd.returns] at h; cases h)
  refine ⟨_, _, pre0 _ ?_, hrun, hended, _, _, rfl, ?_, ⟨_, rfl⟩, hW, hsame.mono (by decide) (by decide)⟩
  · show Steps p.tables e below (s₁.setTop (mkF m 0 #[.val (.int p1), .val (.int p2), .val (.int p3), .val (.int p4), .val (.int p5), .unset, .unset, .unset, .unset, .unset, .unset, .unset, .unset, .unset, .unset, .unset, .unset] [])) _
    refine XS.iconst X0.here hx rfl (hb hby at_0) ?_
    show Steps p.tables e below (s₁.setTop (mkF m 1 #[.val (.int p1), .val (.int p2), .val (.int p3), .val (.int p4), .val (.int p5), .unset, .unset, .unset, .unset, .unset, .unset, .unset, .unset, .unset, .unset, .unset, .unset] [(.int 4)])) _
    refine st1 _ ?_
    show Steps p.tables e below (T1.setTop (mkF m 3 #[.val (.int p1), .val (.int p2), .val (.int p3), .val (.int p4), .val (.int p5), .unset, .unset, .unset, .unset, .unset, .unset, .unset, .unset, .unset, .unset, .unset, .unset] [(.ref b1)])) _
    refine XS.astore X1.here hx rfl (hb hby at_3) rfl rfl (l' := #[.val (.int p1), .val (.int p2), .val (.int p3), .val (.int p4), .val (.int p5), .val (.ref b1), .unset, .unset, .unset, .unset, .unset, .unset, .unset, .unset, .unset, .unset, .unset]) rfl ?_
    refine XS.aload X1.here hx rfl (hb hby at_5) rfl rfl ?_
    refine XS.iconst X1.here hx rfl (hb hby at_7) ?_
    refine XS.iloadN X1.here hx rfl (hb hby at_8) rfl ?_
    refine XS.i2c X1.here hx rfl (hb hby at_9) rfl ?_
    show Steps p.tables e below (T1.setTop (mkF m 10 #[.val (.int p1), .val (.int p2), .val (.int p3), .val (.int p4), .val (.int p5), .val (.ref b1), .unset, .unset, .unset, .unset, .unset, .unset, .unset, .unset, .unset, .unset, .unset] [(.int (p1.toUInt32.toUInt16.toUInt32.toInt32)), (.int 0), (.ref b1)])) _
    refine st2 _ ?_
    show Steps p.tables e below (T2.setTop (mkF m 11 #[.val (.int p1), .val (.int p2), .val (.int p3), .val (.int p4), .val (.int p5), .val (.ref b1), .unset, .unset, .unset, .unset, .unset, .unset, .unset, .unset, .unset, .unset, .unset] [])) _
    refine XS.aload X2.here hx rfl (hb hby at_11) rfl rfl ?_
    refine XS.iconst X2.here hx rfl (hb hby at_13) ?_
    refine XS.iloadN X2.here hx rfl (hb hby at_14) rfl ?_
    refine XS.bipush X2.here hx rfl (hb hby at_15) ?_
    refine XS.iushr X2.here hx rfl (hb hby at_17) rfl ?_
    refine XS.i2c X2.here hx rfl (hb hby at_18) rfl ?_
    show Steps p.tables e below (T2.setTop (mkF m 19 #[.val (.int p1), .val (.int p2), .val (.int p3), .val (.int p4), .val (.int p5), .val (.ref b1), .unset, .unset, .unset, .unset, .unset, .unset, .unset, .unset, .unset, .unset, .unset] [(.int (((p1.toUInt32 >>> ((16 : Int32) &&& 31).toUInt32).toInt32).toUInt32.toUInt16.toUInt32.toInt32)), (.int 1), (.ref b1)])) _
    refine st3 _ ?_
    show Steps p.tables e below (T3.setTop (mkF m 20 #[.val (.int p1), .val (.int p2), .val (.int p3), .val (.int p4), .val (.int p5), .val (.ref b1), .unset, .unset, .unset, .unset, .unset, .unset, .unset, .unset, .unset, .unset, .unset] [])) _
    refine XS.aload X3.here hx rfl (hb hby at_20) rfl rfl ?_
    refine XS.iconst X3.here hx rfl (hb hby at_22) ?_
    refine XS.iloadN X3.here hx rfl (hb hby at_23) rfl ?_
    refine XS.i2c X3.here hx rfl (hb hby at_24) rfl ?_
    show Steps p.tables e below (T3.setTop (mkF m 25 #[.val (.int p1), .val (.int p2), .val (.int p3), .val (.int p4), .val (.int p5), .val (.ref b1), .unset, .unset, .unset, .unset, .unset, .unset, .unset, .unset, .unset, .unset, .unset] [(.int (p2.toUInt32.toUInt16.toUInt32.toInt32)), (.int 2), (.ref b1)])) _
    refine st4 _ ?_
    show Steps p.tables e below (T4.setTop (mkF m 26 #[.val (.int p1), .val (.int p2), .val (.int p3), .val (.int p4), .val (.int p5), .val (.ref b1), .unset, .unset, .unset, .unset, .unset, .unset, .unset, .unset, .unset, .unset, .unset] [])) _
    refine XS.aload X4.here hx rfl (hb hby at_26) rfl rfl ?_
    refine XS.iconst X4.here hx rfl (hb hby at_28) ?_
    refine XS.iloadN X4.here hx rfl (hb hby at_29) rfl ?_
    refine XS.bipush X4.here hx rfl (hb hby at_30) ?_
    refine XS.iushr X4.here hx rfl (hb hby at_32) rfl ?_
    refine XS.i2c X4.here hx rfl (hb hby at_33) rfl ?_
    show Steps p.tables e below (T4.setTop (mkF m 34 #[.val (.int p1), .val (.int p2), .val (.int p3), .val (.int p4), .val (.int p5), .val (.ref b1), .unset, .unset, .unset, .unset, .unset, .unset, .unset, .unset, .unset, .unset, .unset] [(.int (((p2.toUInt32 >>> ((16 : Int32) &&& 31).toUInt32).toInt32).toUInt32.toUInt16.toUInt32.toInt32)), (.int 3), (.ref b1)])) _
    refine st5 _ ?_
    show Steps p.tables e below (T5.setTop (mkF m 35 #[.val (.int p1), .val (.int p2), .val (.int p3), .val (.int p4), .val (.int p5), .val (.ref b1), .unset, .unset, .unset, .unset, .unset, .unset, .unset, .unset, .unset, .unset, .unset] [])) _
    refine XS.iloadN X5.here hx rfl (hb hby at_35) rfl ?_
    show Steps p.tables e below (T5.setTop (mkF m 36 #[.val (.int p1), .val (.int p2), .val (.int p3), .val (.int p4), .val (.int p5), .val (.ref b1), .unset, .unset, .unset, .unset, .unset, .unset, .unset, .unset, .unset, .unset, .unset] [(.int p3)])) _
    refine X5.ldcInt hx hown (mvT hZ (hw _ (tk 1 rfl))) (g := (mkF m 36 #[.val (.int p1), .val (.int p2), .val (.int p3), .val (.int p4), .val (.int p5), .val (.ref b1), .unset, .unset, .unset, .unset, .unset, .unset, .unset, .unset, .unset, .unset, .unset] [(.int p3)])) rfl (hb hby at_36) _ ?_
    show Steps p.tables e below (T5.setTop (mkF m 38 #[.val (.int p1), .val (.int p2), .val (.int p3), .val (.int p4), .val (.int p5), .val (.ref b1), .unset, .unset, .unset, .unset, .unset, .unset, .unset, .unset, .unset, .unset, .unset] [(.int 2147483647), (.int p3)])) _
    refine XS.iand X5.here hx rfl (hb hby at_38) rfl ?_
    refine XS.iconst X5.here hx rfl (hb hby at_39) ?_
    show Steps p.tables e below (T5.setTop (mkF m 40 #[.val (.int p1), .val (.int p2), .val (.int p3), .val (.int p4), .val (.int p5), .val (.ref b1), .unset, .unset, .unset, .unset, .unset, .unset, .unset, .unset, .unset, .unset, .unset] [(.int 5), (.int (p3 &&& (2147483647 : Int32)))])) _
    refine iremM X5 hx (g := (mkF m 40 #[.val (.int p1), .val (.int p2), .val (.int p3), .val (.int p4), .val (.int p5), .val (.ref b1), .unset, .unset, .unset, .unset, .unset, .unset, .unset, .unset, .unset, .unset, .unset] [(.int 5), (.int (p3 &&& (2147483647 : Int32)))])) rfl (hb hby at_40) rfl (by decide) ?_
    show Steps p.tables e below (T5.setTop (mkF m 41 #[.val (.int p1), .val (.int p2), .val (.int p3), .val (.int p4), .val (.int p5), .val (.ref b1), .unset, .unset, .unset, .unset, .unset, .unset, .unset, .unset, .unset, .unset, .unset] [(.int ((p3 &&& (2147483647 : Int32)) % (5 : Int32)))])) _
    rw [hr1]
    show Steps p.tables e below (T5.setTop (mkF m 41 #[.val (.int p1), .val (.int p2), .val (.int p3), .val (.int p4), .val (.int p5), .val (.ref b1), .unset, .unset, .unset, .unset, .unset, .unset, .unset, .unset, .unset, .unset, .unset] [(.int (Int32.ofNat o))])) _
    refine XS.istore X5.here hx rfl (hb hby at_41) rfl (l' := #[.val (.int p1), .val (.int p2), .val (.int p3), .val (.int p4), .val (.int p5), .val (.ref b1), .val (.int (Int32.ofNat o)), .unset, .unset, .unset, .unset, .unset, .unset, .unset, .unset, .unset, .unset]) rfl ?_
    refine XS.iloadN X5.here hx rfl (hb hby at_43) rfl ?_
    show Steps p.tables e below (T5.setTop (mkF m 44 #[.val (.int p1), .val (.int p2), .val (.int p3), .val (.int p4), .val (.int p5), .val (.ref b1), .val (.int (Int32.ofNat o)), .unset, .unset, .unset, .unset, .unset, .unset, .unset, .unset, .unset, .unset] [(.int p4)])) _
    refine X5.ldcInt hx hown (mvT hZ (hw _ (tk 1 rfl))) (g := (mkF m 44 #[.val (.int p1), .val (.int p2), .val (.int p3), .val (.int p4), .val (.int p5), .val (.ref b1), .val (.int (Int32.ofNat o)), .unset, .unset, .unset, .unset, .unset, .unset, .unset, .unset, .unset, .unset] [(.int p4)])) rfl (hb hby at_44) _ ?_
    show Steps p.tables e below (T5.setTop (mkF m 46 #[.val (.int p1), .val (.int p2), .val (.int p3), .val (.int p4), .val (.int p5), .val (.ref b1), .val (.int (Int32.ofNat o)), .unset, .unset, .unset, .unset, .unset, .unset, .unset, .unset, .unset, .unset] [(.int 2147483647), (.int p4)])) _
    refine XS.iand X5.here hx rfl (hb hby at_46) rfl ?_
    refine XS.iconst X5.here hx rfl (hb hby at_47) ?_
    refine XS.iload X5.here hx rfl (hb hby at_48) rfl ?_
    refine XS.isub X5.here hx rfl (hb hby at_50) rfl ?_
    show Steps p.tables e below (T5.setTop (mkF m 51 #[.val (.int p1), .val (.int p2), .val (.int p3), .val (.int p4), .val (.int p5), .val (.ref b1), .val (.int (Int32.ofNat o)), .unset, .unset, .unset, .unset, .unset, .unset, .unset, .unset, .unset, .unset] [(.int ((5 : Int32) - (Int32.ofNat o))), (.int (p4 &&& (2147483647 : Int32)))])) _
    rw [own_s5 ho5]
    show Steps p.tables e below (T5.setTop (mkF m 51 #[.val (.int p1), .val (.int p2), .val (.int p3), .val (.int p4), .val (.int p5), .val (.ref b1), .val (.int (Int32.ofNat o)), .unset, .unset, .unset, .unset, .unset, .unset, .unset, .unset, .unset, .unset] [(.int (Int32.ofNat (5 - o))), (.int (p4 &&& (2147483647 : Int32)))])) _
    refine iremM X5 hx (g := (mkF m 51 #[.val (.int p1), .val (.int p2), .val (.int p3), .val (.int p4), .val (.int p5), .val (.ref b1), .val (.int (Int32.ofNat o)), .unset, .unset, .unset, .unset, .unset, .unset, .unset, .unset, .unset, .unset] [(.int (Int32.ofNat (5 - o))), (.int (p4 &&& (2147483647 : Int32)))])) rfl (hb hby at_51) rfl (own_nz (by omega) (by omega)) ?_
    show Steps p.tables e below (T5.setTop (mkF m 52 #[.val (.int p1), .val (.int p2), .val (.int p3), .val (.int p4), .val (.int p5), .val (.ref b1), .val (.int (Int32.ofNat o)), .unset, .unset, .unset, .unset, .unset, .unset, .unset, .unset, .unset, .unset] [(.int ((p4 &&& (2147483647 : Int32)) % (Int32.ofNat (5 - o))))])) _
    rw [hr2]
    show Steps p.tables e below (T5.setTop (mkF m 52 #[.val (.int p1), .val (.int p2), .val (.int p3), .val (.int p4), .val (.int p5), .val (.ref b1), .val (.int (Int32.ofNat o)), .unset, .unset, .unset, .unset, .unset, .unset, .unset, .unset, .unset, .unset] [(.int (Int32.ofNat n))])) _
    refine XS.istore X5.here hx rfl (hb hby at_52) rfl (l' := #[.val (.int p1), .val (.int p2), .val (.int p3), .val (.int p4), .val (.int p5), .val (.ref b1), .val (.int (Int32.ofNat o)), .val (.int (Int32.ofNat n)), .unset, .unset, .unset, .unset, .unset, .unset, .unset, .unset, .unset]) rfl ?_
    refine XS.iload X5.here hx rfl (hb hby at_54) rfl ?_
    refine XS.iconst X5.here hx rfl (hb hby at_56) ?_
    refine XS.iand X5.here hx rfl (hb hby at_57) rfl ?_
    refine XS.ifNo X5.here hx rfl (hb hby at_58) rfl ((if0 _ _).trans (feq hb1).1) ?_
    refine XS.iconst X5.here hx rfl (hb hby at_61) ?_
    refine XS.goto X5.here hx rfl (pc0 := 62) (pc' := 66) rfl (hb hby at_62) (by decide) (by decide) ?_
    refine XS.istore X5.here hx rfl (hb hby at_66) rfl (l' := #[.val (.int p1), .val (.int p2), .val (.int p3), .val (.int p4), .val (.int p5), .val (.ref b1), .val (.int (Int32.ofNat o)), .val (.int (Int32.ofNat n)), .val (.int 1), .unset, .unset, .unset, .unset, .unset, .unset, .unset, .unset]) rfl ?_
    refine XS.iload X5.here hx rfl (hb hby at_68) rfl ?_
    refine XS.iconst X5.here hx rfl (hb hby at_70) ?_
    refine XS.iand X5.here hx rfl (hb hby at_71) rfl ?_
    show Steps p.tables e below (T5.setTop (mkF m 72 #[.val (.int p1), .val (.int p2), .val (.int p3), .val (.int p4), .val (.int p5), .val (.ref b1), .val (.int (Int32.ofNat o)), .val (.int (Int32.ofNat n)), .val (.int 1), .unset, .unset, .unset, .unset, .unset, .unset, .unset, .unset] [(.int (p5 &&& (2 : Int32)))])) _
    refine XS.ifNo X5.here hx rfl (hb hby at_72) rfl ((if0 _ _).trans (feq hb2).1) ?_
    refine XS.iconst X5.here hx rfl (hb hby at_75) ?_
    refine XS.goto X5.here hx rfl (pc0 := 76) (pc' := 80) rfl (hb hby at_76) (by decide) (by decide) ?_
    refine XS.istore X5.here hx rfl (hb hby at_80) rfl (l' := #[.val (.int p1), .val (.int p2), .val (.int p3), .val (.int p4), .val (.int p5), .val (.ref b1), .val (.int (Int32.ofNat o)), .val (.int (Int32.ofNat n)), .val (.int 1), .val (.int 1), .unset, .unset, .unset, .unset, .unset, .unset, .unset]) rfl ?_
    refine XS.iload X5.here hx rfl (hb hby at_82) rfl ?_
    refine XS.iconst X5.here hx rfl (hb hby at_84) ?_
    refine XS.iushr X5.here hx rfl (hb hby at_85) rfl ?_
    refine XS.i2c X5.here hx rfl (hb hby at_86) rfl ?_
    refine XS.istore X5.here hx rfl (hb hby at_87) rfl (l' := #[.val (.int p1), .val (.int p2), .val (.int p3), .val (.int p4), .val (.int p5), .val (.ref b1), .val (.int (Int32.ofNat o)), .val (.int (Int32.ofNat n)), .val (.int 1), .val (.int 1), .val (.int (((p5.toUInt32 >>> ((2 : Int32) &&& 31).toUInt32).toInt32).toUInt32.toUInt16.toUInt32.toInt32)), .unset, .unset, .unset, .unset, .unset, .unset]) rfl ?_
    refine XS.iload X5.here hx rfl (hb hby at_89) rfl ?_
    refine XS.bipush X5.here hx rfl (hb hby at_91) ?_
    show Steps p.tables e below (T5.setTop (mkF m 93 #[.val (.int p1), .val (.int p2), .val (.int p3), .val (.int p4), .val (.int p5), .val (.ref b1), .val (.int (Int32.ofNat o)), .val (.int (Int32.ofNat n)), .val (.int 1), .val (.int 1), .val (.int (((p5.toUInt32 >>> ((2 : Int32) &&& 31).toUInt32).toInt32).toUInt32.toUInt16.toUInt32.toInt32)), .unset, .unset, .unset, .unset, .unset, .unset] [(.int 18), (.int p5)])) _
    refine XS.iushr X5.here hx rfl (hb hby at_93) rfl ?_
    refine XS.i2c X5.here hx rfl (hb hby at_94) rfl ?_
    refine XS.istore X5.here hx rfl (hb hby at_95) rfl (l' := #[.val (.int p1), .val (.int p2), .val (.int p3), .val (.int p4), .val (.int p5), .val (.ref b1), .val (.int (Int32.ofNat o)), .val (.int (Int32.ofNat n)), .val (.int 1), .val (.int 1), .val (.int (((p5.toUInt32 >>> ((2 : Int32) &&& 31).toUInt32).toInt32).toUInt32.toUInt16.toUInt32.toInt32)), .val (.int (((p5.toUInt32 >>> ((18 : Int32) &&& 31).toUInt32).toInt32).toUInt32.toUInt16.toUInt32.toInt32)), .unset, .unset, .unset, .unset, .unset]) rfl ?_
    show Steps p.tables e below (T5.setTop (mkF m 97 #[.val (.int p1), .val (.int p2), .val (.int p3), .val (.int p4), .val (.int p5), .val (.ref b1), .val (.int (Int32.ofNat o)), .val (.int (Int32.ofNat n)), .val (.int 1), .val (.int 1), .val (.int (((p5.toUInt32 >>> ((2 : Int32) &&& 31).toUInt32).toInt32).toUInt32.toUInt16.toUInt32.toInt32)), .val (.int (((p5.toUInt32 >>> ((18 : Int32) &&& 31).toUInt32).toInt32).toUInt32.toUInt16.toUInt32.toInt32)), .unset, .unset, .unset, .unset, .unset] [])) _
    refine st6 _ ?_
    show Steps p.tables e below (T6.setTop (mkF m 100 #[.val (.int p1), .val (.int p2), .val (.int p3), .val (.int p4), .val (.int p5), .val (.ref b1), .val (.int (Int32.ofNat o)), .val (.int (Int32.ofNat n)), .val (.int 1), .val (.int 1), .val (.int (((p5.toUInt32 >>> ((2 : Int32) &&& 31).toUInt32).toInt32).toUInt32.toUInt16.toUInt32.toInt32)), .val (.int (((p5.toUInt32 >>> ((18 : Int32) &&& 31).toUInt32).toInt32).toUInt32.toUInt16.toUInt32.toInt32)), .unset, .unset, .unset, .unset, .unset] [(.ref b6)])) _
    refine XS.dup X6.here hx rfl (hb hby at_100) rfl rfl ?_
    show Steps p.tables e below (T6.setTop (mkF m 101 #[.val (.int p1), .val (.int p2), .val (.int p3), .val (.int p4), .val (.int p5), .val (.ref b1), .val (.int (Int32.ofNat o)), .val (.int (Int32.ofNat n)), .val (.int 1), .val (.int 1), .val (.int (((p5.toUInt32 >>> ((2 : Int32) &&& 31).toUInt32).toInt32).toUInt32.toUInt16.toUInt32.toInt32)), .val (.int (((p5.toUInt32 >>> ((18 : Int32) &&& 31).toUInt32).toInt32).toUInt32.toUInt16.toUInt32.toInt32)), .unset, .unset, .unset, .unset, .unset] [(.ref b6), (.ref b6)])) _
    refine st7.trans ?_
    show Steps p.tables e below (T7.setTop (mkF m 104 #[.val (.int p1), .val (.int p2), .val (.int p3), .val (.int p4), .val (.int p5), .val (.ref b1), .val (.int (Int32.ofNat o)), .val (.int (Int32.ofNat n)), .val (.int 1), .val (.int 1), .val (.int (((p5.toUInt32 >>> ((2 : Int32) &&& 31).toUInt32).toInt32).toUInt32.toUInt16.toUInt32.toInt32)), .val (.int (((p5.toUInt32 >>> ((18 : Int32) &&& 31).toUInt32).toInt32).toUInt32.toUInt16.toUInt32.toInt32)), .unset, .unset, .unset, .unset, .unset] [(.ref b6)])) _
    refine XS.astore X7.here hx rfl (hb hby at_104) rfl rfl (l' := #[.val (.int p1), .val (.int p2), .val (.int p3), .val (.int p4), .val (.int p5), .val (.ref b1), .val (.int (Int32.ofNat o)), .val (.int (Int32.ofNat n)), .val (.int 1), .val (.int 1), .val (.int (((p5.toUInt32 >>> ((2 : Int32) &&& 31).toUInt32).toInt32).toUInt32.toUInt16.toUInt32.toInt32)), .val (.int (((p5.toUInt32 >>> ((18 : Int32) &&& 31).toUInt32).toInt32).toUInt32.toUInt16.toUInt32.toInt32)), .val (.ref b6), .unset, .unset, .unset, .unset]) rfl ?_
    refine XS.iload X7.here hx rfl (hb hby at_106) rfl ?_
    refine XS.ifNo X7.here hx rfl (hb hby at_108) rfl ((if0 _ _).trans (feq (by decide : ¬ ((1 : Int32) = (0 : Int32)))).1) ?_
    refine XS.aload X7.here hx rfl (hb hby at_111) rfl rfl ?_
    refine XS.iload X7.here hx rfl (hb hby at_113) rfl ?_
    refine XS.iconst X7.here hx rfl (hb hby at_115) ?_
    refine XS.iushr X7.here hx rfl (hb hby at_116) rfl ?_
    show Steps p.tables e below (T7.setTop (mkF m 117 #[.val (.int p1), .val (.int p2), .val (.int p3), .val (.int p4), .val (.int p5), .val (.ref b1), .val (.int (Int32.ofNat o)), .val (.int (Int32.ofNat n)), .val (.int 1), .val (.int 1), .val (.int (((p5.toUInt32 >>> ((2 : Int32) &&& 31).toUInt32).toInt32).toUInt32.toUInt16.toUInt32.toInt32)), .val (.int (((p5.toUInt32 >>> ((18 : Int32) &&& 31).toUInt32).toInt32).toUInt32.toUInt16.toUInt32.toInt32)), .val (.ref b6), .unset, .unset, .unset, .unset] [(.int ((p5.toUInt32 >>> ((2 : Int32) &&& 31).toUInt32).toInt32)), (.ref b6)])) _
    refine st9.trans ?_
    show Steps p.tables e below (T9.setTop (mkF m 120 #[.val (.int p1), .val (.int p2), .val (.int p3), .val (.int p4), .val (.int p5), .val (.ref b1), .val (.int (Int32.ofNat o)), .val (.int (Int32.ofNat n)), .val (.int 1), .val (.int 1), .val (.int (((p5.toUInt32 >>> ((2 : Int32) &&& 31).toUInt32).toInt32).toUInt32.toUInt16.toUInt32.toInt32)), .val (.int (((p5.toUInt32 >>> ((18 : Int32) &&& 31).toUInt32).toInt32).toUInt32.toUInt16.toUInt32.toInt32)), .val (.ref b6), .unset, .unset, .unset, .unset] [])) _
    refine XS.aload X9.here hx rfl (hb hby at_120) rfl rfl ?_
    refine XS.aload X9.here hx rfl (hb hby at_122) rfl rfl ?_
    refine XS.iload X9.here hx rfl (hb hby at_124) rfl ?_
    refine XS.iload X9.here hx rfl (hb hby at_126) rfl ?_
    show Steps p.tables e below (T9.setTop (mkF m 128 #[.val (.int p1), .val (.int p2), .val (.int p3), .val (.int p4), .val (.int p5), .val (.ref b1), .val (.int (Int32.ofNat o)), .val (.int (Int32.ofNat n)), .val (.int 1), .val (.int 1), .val (.int (((p5.toUInt32 >>> ((2 : Int32) &&& 31).toUInt32).toInt32).toUInt32.toUInt16.toUInt32.toInt32)), .val (.int (((p5.toUInt32 >>> ((18 : Int32) &&& 31).toUInt32).toInt32).toUInt32.toUInt16.toUInt32.toInt32)), .val (.ref b6), .unset, .unset, .unset, .unset] [(.int (Int32.ofNat n)), (.int (Int32.ofNat o)), (.ref b1), (.ref b6)])) _
    refine st11.trans ?_
    show Steps p.tables e below (T11.setTop (mkF m 131 #[.val (.int p1), .val (.int p2), .val (.int p3), .val (.int p4), .val (.int p5), .val (.ref b1), .val (.int (Int32.ofNat o)), .val (.int (Int32.ofNat n)), .val (.int 1), .val (.int 1), .val (.int (((p5.toUInt32 >>> ((2 : Int32) &&& 31).toUInt32).toInt32).toUInt32.toUInt16.toUInt32.toInt32)), .val (.int (((p5.toUInt32 >>> ((18 : Int32) &&& 31).toUInt32).toInt32).toUInt32.toUInt16.toUInt32.toInt32)), .val (.ref b6), .unset, .unset, .unset, .unset] [])) _
    refine XS.iload X11.here hx rfl (hb hby at_131) rfl ?_
    refine XS.ifNo X11.here hx rfl (hb hby at_133) rfl ((if0 _ _).trans (feq (by decide : ¬ ((1 : Int32) = (0 : Int32)))).1) ?_
    refine XS.aload X11.here hx rfl (hb hby at_136) rfl rfl ?_
    refine XS.iload X11.here hx rfl (hb hby at_138) rfl ?_
    refine XS.bipush X11.here hx rfl (hb hby at_140) ?_
    refine XS.iushr X11.here hx rfl (hb hby at_142) rfl ?_
    show Steps p.tables e below (T11.setTop (mkF m 143 #[.val (.int p1), .val (.int p2), .val (.int p3), .val (.int p4), .val (.int p5), .val (.ref b1), .val (.int (Int32.ofNat o)), .val (.int (Int32.ofNat n)), .val (.int 1), .val (.int 1), .val (.int (((p5.toUInt32 >>> ((2 : Int32) &&& 31).toUInt32).toInt32).toUInt32.toUInt16.toUInt32.toInt32)), .val (.int (((p5.toUInt32 >>> ((18 : Int32) &&& 31).toUInt32).toInt32).toUInt32.toUInt16.toUInt32.toInt32)), .val (.ref b6), .unset, .unset, .unset, .unset] [(.int ((p5.toUInt32 >>> ((18 : Int32) &&& 31).toUInt32).toInt32)), (.ref b6)])) _
    refine st16.trans ?_
    show Steps p.tables e below (T16.setTop (mkF m 146 #[.val (.int p1), .val (.int p2), .val (.int p3), .val (.int p4), .val (.int p5), .val (.ref b1), .val (.int (Int32.ofNat o)), .val (.int (Int32.ofNat n)), .val (.int 1), .val (.int 1), .val (.int (((p5.toUInt32 >>> ((2 : Int32) &&& 31).toUInt32).toInt32).toUInt32.toUInt16.toUInt32.toInt32)), .val (.int (((p5.toUInt32 >>> ((18 : Int32) &&& 31).toUInt32).toInt32).toUInt32.toUInt16.toUInt32.toInt32)), .val (.ref b6), .unset, .unset, .unset, .unset] [])) _
    refine XS.aload X16.here hx rfl (hb hby at_146) rfl rfl ?_
    show Steps p.tables e below (T16.setTop (mkF m 148 #[.val (.int p1), .val (.int p2), .val (.int p3), .val (.int p4), .val (.int p5), .val (.ref b1), .val (.int (Int32.ofNat o)), .val (.int (Int32.ofNat n)), .val (.int 1), .val (.int 1), .val (.int (((p5.toUInt32 >>> ((2 : Int32) &&& 31).toUInt32).toInt32).toUInt32.toUInt16.toUInt32.toInt32)), .val (.int (((p5.toUInt32 >>> ((18 : Int32) &&& 31).toUInt32).toInt32).toUInt32.toUInt16.toUInt32.toInt32)), .val (.ref b6), .unset, .unset, .unset, .unset] [(.ref b6)])) _
    refine st20.trans ?_
    show Steps p.tables e below (T20.setTop (mkF m 151 #[.val (.int p1), .val (.int p2), .val (.int p3), .val (.int p4), .val (.int p5), .val (.ref b1), .val (.int (Int32.ofNat o)), .val (.int (Int32.ofNat n)), .val (.int 1), .val (.int 1), .val (.int (((p5.toUInt32 >>> ((2 : Int32) &&& 31).toUInt32).toInt32).toUInt32.toUInt16.toUInt32.toInt32)), .val (.int (((p5.toUInt32 >>> ((18 : Int32) &&& 31).toUInt32).toInt32).toUInt32.toUInt16.toUInt32.toInt32)), .val (.ref b6), .unset, .unset, .unset, .unset] [(.ref x20)])) _
    refine XS.astore X20.here hx rfl (hb hby at_151) rfl rfl (l' := #[.val (.int p1), .val (.int p2), .val (.int p3), .val (.int p4), .val (.int p5), .val (.ref b1), .val (.int (Int32.ofNat o)), .val (.int (Int32.ofNat n)), .val (.int 1), .val (.int 1), .val (.int (((p5.toUInt32 >>> ((2 : Int32) &&& 31).toUInt32).toInt32).toUInt32.toUInt16.toUInt32.toInt32)), .val (.int (((p5.toUInt32 >>> ((18 : Int32) &&& 31).toUInt32).toInt32).toUInt32.toUInt16.toUInt32.toInt32)), .val (.ref b6), .val (.ref x20), .unset, .unset, .unset]) rfl ?_
    refine XS.iload X20.here hx rfl (hb hby at_153) rfl ?_
    refine XS.ifNo X20.here hx rfl (hb hby at_155) rfl ((if0 _ _).trans (feq (by decide : ¬ ((1 : Int32) = (0 : Int32)))).1) ?_
    refine XS.iconst X20.here hx rfl (hb hby at_158) ?_
    refine XS.goto X20.here hx rfl (pc0 := 159) (pc' := 163) rfl (hb hby at_159) (by decide) (by decide) ?_
    refine XS.istore X20.here hx rfl (hb hby at_163) rfl (l' := #[.val (.int p1), .val (.int p2), .val (.int p3), .val (.int p4), .val (.int p5), .val (.ref b1), .val (.int (Int32.ofNat o)), .val (.int (Int32.ofNat n)), .val (.int 1), .val (.int 1), .val (.int (((p5.toUInt32 >>> ((2 : Int32) &&& 31).toUInt32).toInt32).toUInt32.toUInt16.toUInt32.toInt32)), .val (.int (((p5.toUInt32 >>> ((18 : Int32) &&& 31).toUInt32).toInt32).toUInt32.toUInt16.toUInt32.toInt32)), .val (.ref b6), .val (.ref x20), .val (.int 1), .unset, .unset]) rfl ?_
    refine XS.iload X20.here hx rfl (hb hby at_165) rfl ?_
    refine XS.ifNo X20.here hx rfl (hb hby at_167) rfl ((if0 _ _).trans (feq (by decide : ¬ ((1 : Int32) = (0 : Int32)))).1) ?_
    refine XS.iconst X20.here hx rfl (hb hby at_170) ?_
    refine XS.goto X20.here hx rfl (pc0 := 171) (pc' := 175) rfl (hb hby at_171) (by decide) (by decide) ?_
    refine XS.istore X20.here hx rfl (hb hby at_175) rfl (l' := #[.val (.int p1), .val (.int p2), .val (.int p3), .val (.int p4), .val (.int p5), .val (.ref b1), .val (.int (Int32.ofNat o)), .val (.int (Int32.ofNat n)), .val (.int 1), .val (.int 1), .val (.int (((p5.toUInt32 >>> ((2 : Int32) &&& 31).toUInt32).toInt32).toUInt32.toUInt16.toUInt32.toInt32)), .val (.int (((p5.toUInt32 >>> ((18 : Int32) &&& 31).toUInt32).toInt32).toUInt32.toUInt16.toUInt32.toInt32)), .val (.ref b6), .val (.ref x20), .val (.int 1), .val (.int 1), .unset]) rfl ?_
    show Steps p.tables e below (T20.setTop (mkF m 177 #[.val (.int p1), .val (.int p2), .val (.int p3), .val (.int p4), .val (.int p5), .val (.ref b1), .val (.int (Int32.ofNat o)), .val (.int (Int32.ofNat n)), .val (.int 1), .val (.int 1), .val (.int (((p5.toUInt32 >>> ((2 : Int32) &&& 31).toUInt32).toInt32).toUInt32.toUInt16.toUInt32.toInt32)), .val (.int (((p5.toUInt32 >>> ((18 : Int32) &&& 31).toUInt32).toInt32).toUInt32.toUInt16.toUInt32.toInt32)), .val (.ref b6), .val (.ref x20), .val (.int 1), .val (.int 1), .unset] [])) _
    refine XS.aload X20.here hx rfl (hb hby at_177) rfl rfl ?_
    show Steps p.tables e below (T20.setTop (mkF m 179 #[.val (.int p1), .val (.int p2), .val (.int p3), .val (.int p4), .val (.int p5), .val (.ref b1), .val (.int (Int32.ofNat o)), .val (.int (Int32.ofNat n)), .val (.int 1), .val (.int 1), .val (.int (((p5.toUInt32 >>> ((2 : Int32) &&& 31).toUInt32).toInt32).toUInt32.toUInt16.toUInt32.toInt32)), .val (.int (((p5.toUInt32 >>> ((18 : Int32) &&& 31).toUInt32).toInt32).toUInt32.toUInt16.toUInt32.toInt32)), .val (.ref b6), .val (.ref x20), .val (.int 1), .val (.int 1), .unset] [(.ref x20)])) _
    refine st24.trans ?_
    show Steps p.tables e below (T24.setTop (mkF m 182 #[.val (.int p1), .val (.int p2), .val (.int p3), .val (.int p4), .val (.int p5), .val (.ref b1), .val (.int (Int32.ofNat o)), .val (.int (Int32.ofNat n)), .val (.int 1), .val (.int 1), .val (.int (((p5.toUInt32 >>> ((2 : Int32) &&& 31).toUInt32).toInt32).toUInt32.toUInt16.toUInt32.toInt32)), .val (.int (((p5.toUInt32 >>> ((18 : Int32) &&& 31).toUInt32).toInt32).toUInt32.toUInt16.toUInt32.toInt32)), .val (.ref b6), .val (.ref x20), .val (.int 1), .val (.int 1), .unset] [(.int (Int32.ofNat CS.length))])) _
    refine XS.iload X24.here hx rfl (hb hby at_182) rfl ?_
    refine XS.iload X24.here hx rfl (hb hby at_184) rfl ?_
    refine XS.iadd X24.here hx rfl (hb hby at_186) rfl ?_
    refine XS.iload X24.here hx rfl (hb hby at_187) rfl ?_
    refine XS.iadd X24.here hx rfl (hb hby at_189) rfl ?_
    refine XS.icmpYes X24.here hx rfl (pc0 := 190) (pc' := 195) rfl (hb hby at_190) rfl (teq (by rw [hL']; exact own_l3 1 n 1)).1 (by decide) (by decide) ?_
    refine XS.iconst X24.here hx rfl (hb hby at_195) ?_
    refine XS.istore X24.here hx rfl (hb hby at_196) rfl (l' := #[.val (.int p1), .val (.int p2), .val (.int p3), .val (.int p4), .val (.int p5), .val (.ref b1), .val (.int (Int32.ofNat o)), .val (.int (Int32.ofNat n)), .val (.int 1), .val (.int 1), .val (.int (((p5.toUInt32 >>> ((2 : Int32) &&& 31).toUInt32).toInt32).toUInt32.toUInt16.toUInt32.toInt32)), .val (.int (((p5.toUInt32 >>> ((18 : Int32) &&& 31).toUInt32).toInt32).toUInt32.toUInt16.toUInt32.toInt32)), .val (.ref b6), .val (.ref x20), .val (.int 1), .val (.int 1), .val (.int 1)]) rfl ?_
    show Steps p.tables e below (T24.setTop (mkF m 198 #[.val (.int p1), .val (.int p2), .val (.int p3), .val (.int p4), .val (.int p5), .val (.ref b1), .val (.int (Int32.ofNat o)), .val (.int (Int32.ofNat n)), .val (.int 1), .val (.int 1), .val (.int (((p5.toUInt32 >>> ((2 : Int32) &&& 31).toUInt32).toInt32).toUInt32.toUInt16.toUInt32.toInt32)), .val (.int (((p5.toUInt32 >>> ((18 : Int32) &&& 31).toUInt32).toInt32).toUInt32.toUInt16.toUInt32.toInt32)), .val (.ref b6), .val (.ref x20), .val (.int 1), .val (.int 1), .val (.int 1)] [])) _
    refine st27 _ ?_
    show Steps p.tables e below (T27.setTop (mkF m 226 #[.val (.int p1), .val (.int p2), .val (.int p3), .val (.int p4), .val (.int p5), .val (.ref b1), .val (.int (Int32.ofNat o)), .val (.int (Int32.ofNat n)), .val (.int 1), .val (.int 1), .val (.int (((p5.toUInt32 >>> ((2 : Int32) &&& 31).toUInt32).toInt32).toUInt32.toUInt16.toUInt32.toInt32)), .val (.int (((p5.toUInt32 >>> ((18 : Int32) &&& 31).toUInt32).toInt32).toUInt32.toUInt16.toUInt32.toInt32)), .val (.ref b6), .val (.ref x20), .val (.int 1), .val (.int 1), .val (.int 1)] [])) _
    refine st28 _ ?_
    show Steps p.tables e below (T28.setTop (mkF m 259 #[.val (.int p1), .val (.int p2), .val (.int p3), .val (.int p4), .val (.int p5), .val (.ref b1), .val (.int (Int32.ofNat o)), .val (.int (Int32.ofNat n)), .val (.int 1), .val (.int 1), .val (.int (((p5.toUInt32 >>> ((2 : Int32) &&& 31).toUInt32).toInt32).toUInt32.toUInt16.toUInt32.toInt32)), .val (.int (((p5.toUInt32 >>> ((18 : Int32) &&& 31).toUInt32).toInt32).toUInt32.toUInt16.toUInt32.toInt32)), .val (.ref b6), .val (.ref x20), .val (.int 1), .val (.int 1), .val (.int 1)] [])) _
    refine st29 _ ?_
    show Steps p.tables e below (T29.setTop (mkF m 296 #[.val (.int p1), .val (.int p2), .val (.int p3), .val (.int p4), .val (.int p5), .val (.ref b1), .val (.int (Int32.ofNat o)), .val (.int (Int32.ofNat n)), .val (.int 1), .val (.int 1), .val (.int (((p5.toUInt32 >>> ((2 : Int32) &&& 31).toUInt32).toInt32).toUInt32.toUInt16.toUInt32.toInt32)), .val (.int (((p5.toUInt32 >>> ((18 : Int32) &&& 31).toUInt32).toInt32).toUInt32.toUInt16.toUInt32.toInt32)), .val (.ref b6), .val (.ref x20), .val (.int 1), .val (.int 1), .val (.int 1)] [])) _
    refine st30 _ ?_
    show Steps p.tables e below (T30.setTop (mkF m 333 #[.val (.int p1), .val (.int p2), .val (.int p3), .val (.int p4), .val (.int p5), .val (.ref b1), .val (.int (Int32.ofNat o)), .val (.int (Int32.ofNat n)), .val (.int 1), .val (.int 1), .val (.int (((p5.toUInt32 >>> ((2 : Int32) &&& 31).toUInt32).toInt32).toUInt32.toUInt16.toUInt32.toInt32)), .val (.int (((p5.toUInt32 >>> ((18 : Int32) &&& 31).toUInt32).toInt32).toUInt32.toUInt16.toUInt32.toInt32)), .val (.ref b6), .val (.ref x20), .val (.int 1), .val (.int 1), .val (.int 1)] [])) _
    refine st31 _ ?_
    show Steps p.tables e below (T31.setTop (mkF m 370 #[.val (.int p1), .val (.int p2), .val (.int p3), .val (.int p4), .val (.int p5), .val (.ref b1), .val (.int (Int32.ofNat o)), .val (.int (Int32.ofNat n)), .val (.int 1), .val (.int 1), .val (.int (((p5.toUInt32 >>> ((2 : Int32) &&& 31).toUInt32).toInt32).toUInt32.toUInt16.toUInt32.toInt32)), .val (.int (((p5.toUInt32 >>> ((18 : Int32) &&& 31).toUInt32).toInt32).toUInt32.toUInt16.toUInt32.toInt32)), .val (.ref b6), .val (.ref x20), .val (.int 1), .val (.int 1), .val (.int 1)] [])) _
    refine st32 _ ?_
    show Steps p.tables e below (T32.setTop (mkF m 402 #[.val (.int p1), .val (.int p2), .val (.int p3), .val (.int p4), .val (.int p5), .val (.ref b1), .val (.int (Int32.ofNat o)), .val (.int (Int32.ofNat n)), .val (.int 1), .val (.int 1), .val (.int (((p5.toUInt32 >>> ((2 : Int32) &&& 31).toUInt32).toInt32).toUInt32.toUInt16.toUInt32.toInt32)), .val (.int (((p5.toUInt32 >>> ((18 : Int32) &&& 31).toUInt32).toInt32).toUInt32.toUInt16.toUInt32.toInt32)), .val (.ref b6), .val (.ref x20), .val (.int 1), .val (.int 1), .val (.int 1)] [])) _
    refine XS.iload X32.here hx rfl (hb hby at_402) rfl ?_
    show Steps p.tables e below (T32.setTop (mkF m 404 #[.val (.int p1), .val (.int p2), .val (.int p3), .val (.int p4), .val (.int p5), .val (.ref b1), .val (.int (Int32.ofNat o)), .val (.int (Int32.ofNat n)), .val (.int 1), .val (.int 1), .val (.int (((p5.toUInt32 >>> ((2 : Int32) &&& 31).toUInt32).toInt32).toUInt32.toUInt16.toUInt32.toInt32)), .val (.int (((p5.toUInt32 >>> ((18 : Int32) &&& 31).toUInt32).toInt32).toUInt32.toUInt16.toUInt32.toInt32)), .val (.ref b6), .val (.ref x20), .val (.int 1), .val (.int 1), .val (.int 1)] [(.int 1)])) _
    exact retN X32 hx (t := .boolean) Bd.returns (by simp) (hb hby at_404) hr
  · show Q0 Z  h0 n0 _ T32.heap _
    rw [e32b]
    exact ⟨rfl, N32⟩
theorem own_pos (x : Int32) : 0 ≤ (x &&& (2147483647 : Int32)).toInt := by
  have h : (x &&& 2147483647).toBitVec.toNat < 2147483648 := by
    simp only [Int32.toBitVec_and, BitVec.toNat_and]
    exact Nat.lt_succ_of_le Nat.and_le_right
  show 0 ≤ (x &&& 2147483647).toBitVec.toInt
  rw [BitVec.toInt_eq_toNat_cond, if_pos (by omega)]
  omega
theorem own_rem (x : Int32) (n : Int32) (k : Nat) (hn : n.toInt = k) (hk : 0 < k) (hb : k ≤ 8) : ∃ j : Nat, j < k ∧ ((x &&& (2147483647 : Int32)) % n) = Int32.ofNat j := by
  have h0 := own_pos x
  have e : ((x &&& (2147483647 : Int32)) % n).toInt = (x &&& (2147483647 : Int32)).toInt % k := by
    rw [Int32.toInt_mod, hn, Int.tmod_eq_emod_of_nonneg h0]
  have l1 := Int.emod_nonneg (x &&& (2147483647 : Int32)).toInt (b := k) (by omega)
  have l2 := Int.emod_lt_of_pos (x &&& (2147483647 : Int32)).toInt (b := k) (by omega)
  refine ⟨((x &&& (2147483647 : Int32)).toInt % k).toNat, by omega, Int32.toInt_inj.mp ?_⟩
  rw [e, Int32.toInt_ofNat_of_lt (by omega)]
  omega
theorem rm0 (l : Launch) (Z : State) (a0 : Array Value) (hw : ∀ d ∈ tables_1, d.before a0 Z = true) (ws : List Jvm.Cond) (G1 : Int32) (G3 : Value) (G4 : Value) (p1 p2 p3 p4 p5 : Int32) (h0 : Heap) (n0 : Nat) (Z0 : n0 ≤ h0.size) (EN : own_env Z G1 G3 G4) (X00 : Old Z n0 h0) :
    MetFree l x (head1 (Jvm.Cond.code x code maxLocals ret :: ws) room_1) (fun a_ U_ => a_ = #[(.int p1), (.int p2), (.int p3), (.int p4), (.int p5)] ∧ Z.Warmed39 U_.vm ∧ U_.heap = h0) (fun _ _ _ _ _ => True) (fun _ U_ o_ U1_ => ∃ v_ L_, o_ = .returned v_ ∧ Q0 Z h0 n0 v_ U1_.heap L_ ∧ FrameEnd U_ o_ U1_ L_ 24 256) := by
  obtain ⟨o, ho5, hr1⟩ := own_rem p3 (5 : Int32) 5 (by decide) (by decide) (by decide)
  obtain ⟨n, hn5, hr2⟩ := own_rem p4 (Int32.ofNat (5 - o)) (5 - o) (Int32.toInt_ofNat_of_lt (by omega)) (by omega) (by omega)
  by_cases hb1 : (p5 &&& (1 : Int32)) = (0 : Int32)
  · by_cases hb2 : (p5 &&& (2 : Int32)) = (0 : Int32)
    · exact rm0_00 l Z a0 hw ws G1 G3 G4 p1 p2 p3 p4 p5 o n h0 n0 Z0 EN X00 hr1 ho5 hr2 hn5 hb1 hb2
    · exact rm0_01 l Z a0 hw ws G1 G3 G4 p1 p2 p3 p4 p5 o n h0 n0 Z0 EN X00 hr1 ho5 hr2 hn5 hb1 hb2
  · by_cases hb2 : (p5 &&& (2 : Int32)) = (0 : Int32)
    · exact rm0_10 l Z a0 hw ws G1 G3 G4 p1 p2 p3 p4 p5 o n h0 n0 Z0 EN X00 hr1 ho5 hr2 hn5 hb1 hb2
    · exact rm0_11 l Z a0 hw ws G1 G3 G4 p1 p2 p3 p4 p5 o n h0 n0 Z0 EN X00 hr1 ho5 hr2 hn5 hb1 hb2
theorem pd_ioobe : parseFieldDescriptor "Ljava/util/function/BiFunction;" = some (.object "java/util/function/BiFunction") := by decide +kernel
set_option maxRecDepth 65536 in
set_option maxHeartbeats 40000000 in
theorem comes_1 {Post : Tables → Env → Array Value → State → Outcome → State → Prop} (hpost : ∀ tb e args s v u, (limb_1_1.after args s (.returned v) u = true ∧ limb_1_2.after args s (.returned v) u = true ∧ True) → FrameEnd s (.returned v) u (Jvm.fieldLocs frame_1_writes args s ++ Jvm.arrayLocs frame_1_arrays args s ++ Jvm.staticLocs frame_1_statics s) 24 256 → Post tb e args s (.returned v) u) :
    ArmFor flags0 classFile x code maxLocals ret World_1 tables_1 room_1 Calls_1 rest_1 Pre_1 Post := by
  intro l hfl _ _ p e ha hc hk s m args below hf hA hF happ hP
  obtain ⟨hcalls, hrest, hpre⟩ := hP
  obtain ⟨-, -, -, hnamed, -, -, -, hat⟩ := (Spec.applies_iff hf).mp happ
  obtain ⟨hg, hn⟩ := and_e (Cond.before_iff.mp (show (Jvm.Cond.and given_1 narrow_1).before args s = true from hpre))
  obtain ⟨g1, g2⟩ := and_e hg
  obtain ⟨ga0, gb0⟩ := and_e g2
  obtain ⟨ga1, gb1⟩ := and_e gb0
  obtain ⟨ga2, gb2⟩ := and_e gb1
  obtain ⟨ga3, gb3⟩ := and_e gb2
  obtain ⟨w0, w1, w2, w3, w4, rfl⟩ : ∃ w0 w1 w2 w3 w4 : Value, args = #[w0, w1, w2, w3, w4] := by
    have hs : args.size = 5 := by simpa [Cond.value, given_1] using g1
    obtain ⟨L⟩ := args
    match L, hs with
    | [w0, w1, w2, w3, w4], _ => exact ⟨w0, w1, w2, w3, w4, rfl⟩
  have hw := fun d (hd : d ∈ tables_1) => atoms_spec (ws := Jvm.Cond.code x code maxLocals ret :: tables_1) hat d (List.mem_cons_of_mem _ hd)
  have hfit : Fit s := fun {y c} hc i hi => by
    obtain ⟨ha, rfl⟩ := Array.getElem?_eq_some_iff.mp hc
    have q := List.all_eq_true.mp ((Array.all_eq_true_iff_forall_mem.mp hF) _ (Array.getElem_mem ha)) i (List.mem_range.mpr hi)
    simpa [Array.getElem?_eq_getElem hi] using q
  obtain ⟨hsets, hown0⟩ := atoms_of _ (rest_1_c_eq ▸ (show rest_1_c.before _ s = true from hrest))
  obtain ⟨i0, ei0⟩ := is_v ga0
  obtain rfl : w0 = (.int i0) := Option.some.inj ei0
  obtain ⟨i1, ei1⟩ := is_v ga1
  obtain rfl : w1 = (.int i1) := Option.some.inj ei1
  obtain ⟨i2, ei2⟩ := is_v ga2
  obtain rfl : w2 = (.int i2) := Option.some.inj ei2
  obtain ⟨i3, ei3⟩ := is_v ga3
  obtain rfl : w3 = (.int i3) := Option.some.inj ei3
  obtain ⟨i4, ei4⟩ := is_v gb3
  obtain rfl : w4 = (.int i4) := Option.some.inj ei4
  obtain ⟨G1, eG1⟩ := is_v (Cond.before_iff.mp (hsets _ (tk 1 rfl)))
  have O2 := Sta.start eG1 (Or.inl (hsets _ (tk 0 rfl)))
  have P5 : ¬ (G1 = (0 : Int32)) := gotF (Cond.eq_ints eG1 (Term.int_eval (0))) (not_v (Cond.before_iff.mp (hsets _ (tk 2 rfl))))
  obtain ⟨G3, eG3, rG3⟩ := isR_v (Cond.before_iff.mp (hsets _ (tk 8 rfl)))
  have O4 := Sta.start eG3 (Or.inl (hsets _ (tk 7 rfl)))
  obtain ⟨G4, eG4, fG4⟩ := static_fit hfit (hw _ (tk 57 rfl)) pd_ioobe
  have O5 := Sta.start eG4 (Or.inr ⟨hw _ (tk 56 rfl), hw _ (tk 57 rfl)⟩)
  have O6 := Sta.start (Cond.eq_int (hsets _ (tk 12 rfl)) rfl) (Or.inl (hsets _ (tk 11 rfl)))
  have O7 := Sta.start (Cond.eq_int (hsets _ (tk 15 rfl)) rfl) (Or.inl (hsets _ (tk 14 rfl)))
  have O8 := Sta.start (Cond.eq_int (hsets _ (tk 18 rfl)) rfl) (Or.inl (hsets _ (tk 17 rfl)))
  obtain ⟨n, o, h1, h2, h3, _, L, rfl, ⟨rfl, N⟩, hq⟩ := rm0 l s _ hw tables_1 G1 G3 G4 i0 i1 i2 i3 i4 s.heap s.heap.size (Nat.le_refl _) ⟨O2, P5, O4, rG3, O5, fit_R fG4 rfl, O6, O7, O8⟩ (Old.start s) p e ha hc hk s m _ below hf ((Spec.applies_iff_loose hf).mp happ).1 ⟨rfl, State.Warmed39.refl s, rfl⟩ trivial
  refine ⟨n, _, h1, h2, h3, hpost _ _ _ _ _ _ ⟨Cond.after_iff.mpr rfl, Cond.after_iff.mpr (eq_i res_at (Term.int_eval (1)) rfl), trivial⟩ ⟨hq.1, hq.2.1, (hq.2.2.sift fun y hy => Or.inr (N y hy)).mono (by decide) (by decide)⟩⟩
theorem main_1_1 : Claimed_1_1 := comes_1 fun _ _ _ _ _ _ h hF => ⟨h.1, hF⟩
theorem main_1_2 : Claimed_1_2 := comes_1 fun _ _ _ _ _ _ h hF => ⟨h.2.1, hF⟩
end Jvm.Pilot.@@N@@
namespace Jvm.Pilot.@@N@@
open Jvm Jvm.ClassFile Sem Op Lib Jvm.Free Jvm.Stand Jvm.Pilot.@@N@@.Jvm.D
/-! MADE BY PROGRAM (witnessworld.py) out of the Statement's table words and the real class files: 30 classes; the members and pool entries that the words name. The judged class is class 1, her method 1. -/
namespace start1
open Jvm.ClassFile
def u (s : String) : CpInfo := .utf8 (stringToUtf16 s)
/-- a pool by its gaps: so many unusable entries, then the entry; so many at the end -/
def gap : Nat → List CpInfo → List CpInfo
  | 0, r => r
  | n + 1, r => .unusable :: gap n r
def poolList (es : List (Nat × CpInfo)) (last : Nat) : List CpInfo := es.foldr (fun e r => gap e.1 (e.2 :: r)) (gap last [])
def pool (es : List (Nat × CpInfo)) (last : Nat) : Array CpInfo := ⟨poolList es last⟩
def fileOf (pool : Array CpInfo) (this : Nat) (attrs : Array Attribute := #[]) (ms : Array MethodInfo := #[]) (fl : Nat := 33) (sup : Nat := 0) (ifs : Array Nat := #[]) (fds : Array FieldInfo := #[]) : ClassFile where
  minorVersion := 0
  majorVersion := 65
  constantPool := pool
  accessFlags := fl
  thisClass := this
  superClass := sup
  interfaces := ifs
  fields := fds
  methods := ms
  attributes := attrs
def plain (name : String) (sup : Option ClassId) : Class where
  name := name
  kind := .ordinary
  loader := none
  accessFlags := 33
  super := sup
  interfaces := #[]
  cf := none
  fields := #[]
  methods := #[]
  instanceTypes := #[]
  staticTypes := #[]
  resolved := #[]
  callSites := []
  init := .initialized
  statics := none
  mirror := none

def pool0 : Array CpInfo := pool [(5, u "<init>"), (0, u "()V"), (1, .class_ 10), (1, u "java/lang/Object")] 113

def k0c0 : Code := { maxStack := 0, maxLocals := 1, code := object_method_1_code, exceptionTable := #[], attributes := #[] }
def k0m0 : Method := { name := "<init>", desc := "()V", sig := { parameters := [], returnType := none }, accessFlags := 1, code := some k0c0 }
/-- java/lang/Object -/
def k0 : Class := { plain "java/lang/Object" none with
  accessFlags := 33
  interfaces := #[]
  cf := some (fileOf pool0 8 #[] #[{ accessFlags := 1, nameIndex := 5, descriptorIndex := 6, attributes := #[] }] 33 0 #[] #[])
  fields := #[]
  methods := #[k0m0]
  instanceTypes := #[]
  staticTypes := #[]
  resolved := Array.replicate 124 none
  statics := none }

def pool1 : Array CpInfo := pool [(2, .class_ 4), (0, .nameAndType 5 6), (0, u "java/lang/Object"), (0, u "<init>"), (0, u "()V"), (0, .integer 2147483647), (0, .class_ 9), (0, u "com/example/hebelwerk/hebelwerk/core/Text"), (0, .methodref 8 3), (0, .methodref 8 12), (0, .nameAndType 13 14), (0, u "write"), (0, u "(I)V"), (0, .methodref 8 16), (0, .nameAndType 13 17), (0, u "([CII)V"), (0, .methodref 8 19), (0, .nameAndType 20 21), (0, u "toString"), (0, u "()Ljava/lang/String;"), (0, .methodref 23 24), (0, .class_ 25), (0, .nameAndType 26 27), (0, u "java/lang/String"), (0, u "length"), (0, u "()I"), (0, .methodref 23 29), (0, .nameAndType 30 31), (0, u "charAt"), (0, u "(I)C"), (0, .class_ 33), (0, u "com/example/hebelwerk/hebelwerk/core/TextWritePinLaw"), (2, u "law"), (0, u "(IIIII)Z")] 5

def k1m0 : Method := { name := "<init>", desc := "()V", sig := { parameters := [], returnType := none }, accessFlags := 1, code := none }
def k1c1 : Code := { maxStack := 4, maxLocals := 17, code := code, exceptionTable := #[], attributes := #[] }
def k1m1 : Method := { name := "law", desc := "(IIIII)Z", sig := { parameters := [.int, .int, .int, .int, .int], returnType := some .boolean }, accessFlags := 9, code := some k1c1 }
/-- com/example/hebelwerk/hebelwerk/core/TextWritePinLaw -/
def k1 : Class := { plain "com/example/hebelwerk/hebelwerk/core/TextWritePinLaw" (some 0) with
  accessFlags := 49
  interfaces := #[]
  cf := some (fileOf pool1 32 #[] #[{ accessFlags := 1, nameIndex := 5, descriptorIndex := 6, attributes := #[] }, { accessFlags := 9, nameIndex := 36, descriptorIndex := 37, attributes := #[] }] 49 2 #[] #[])
  fields := #[]
  methods := #[k1m0, k1m1]
  instanceTypes := #[]
  staticTypes := #[]
  resolved := Array.replicate 43 none
  statics := none }

def pool2 : Array CpInfo := pool [(1, .class_ 2), (0, u "java/lang/Appendable"), (0, .class_ 4), (0, u "java/lang/Object")] 9

/-- java/lang/Appendable -/
def k2 : Class := { plain "java/lang/Appendable" (some 0) with
  accessFlags := 1537
  interfaces := #[]
  cf := some (fileOf pool2 1 #[] #[] 1537 3 #[] #[])
  fields := #[]
  methods := #[]
  instanceTypes := #[]
  staticTypes := #[]
  resolved := Array.replicate 14 none
  statics := none }

def pool3 : Array CpInfo := pool [(1, .class_ 2), (0, u "java/lang/AutoCloseable"), (0, .class_ 4), (0, u "java/lang/Object")] 7

/-- java/lang/AutoCloseable -/
def k3 : Class := { plain "java/lang/AutoCloseable" (some 0) with
  accessFlags := 1537
  interfaces := #[]
  cf := some (fileOf pool3 1 #[] #[] 1537 3 #[] #[])
  fields := #[]
  methods := #[]
  instanceTypes := #[]
  staticTypes := #[]
  resolved := Array.replicate 12 none
  statics := none }

def pool4 : Array CpInfo := pool [(1, .class_ 2), (0, u "java/io/Closeable"), (0, .class_ 4), (0, u "java/lang/Object"), (0, .class_ 6), (0, u "java/lang/AutoCloseable")] 7

/-- java/io/Closeable -/
def k4 : Class := { plain "java/io/Closeable" (some 0) with
  accessFlags := 1537
  interfaces := #[3]
  cf := some (fileOf pool4 1 #[] #[] 1537 3 #[5] #[])
  fields := #[]
  methods := #[]
  instanceTypes := #[]
  staticTypes := #[]
  resolved := Array.replicate 14 none
  statics := none }

def pool5 : Array CpInfo := pool [(1, .class_ 2), (0, u "java/io/Flushable"), (0, .class_ 4), (0, u "java/lang/Object")] 7

/-- java/io/Flushable -/
def k5 : Class := { plain "java/io/Flushable" (some 0) with
  accessFlags := 1537
  interfaces := #[]
  cf := some (fileOf pool5 1 #[] #[] 1537 3 #[] #[])
  fields := #[]
  methods := #[]
  instanceTypes := #[]
  staticTypes := #[]
  resolved := Array.replicate 12 none
  statics := none }

def pool6 : Array CpInfo := pool [(1, .class_ 2), (0, u "java/io/Writer$1"), (1, .nameAndType 5 6), (0, u "<init>"), (0, u "()V"), (0, .methodref 8 4), (0, .class_ 9), (0, u "java/lang/Object"), (0, .fieldref 11 12), (0, .class_ 13), (0, .nameAndType 14 15), (0, u "java/io/Writer"), (0, u "lock"), (0, u "Ljava/lang/Object;"), (30, u "writeBuffer"), (0, u "[C"), (46, .class_ 95), (0, u "java/lang/Appendable"), (0, .class_ 97), (0, u "java/io/Closeable"), (0, .class_ 99), (0, u "java/io/Flushable"), (0, u "WRITE_BUFFER_SIZE"), (0, u "I")] 49

def k6c0 : Code := { maxStack := 2, maxLocals := 1, code := jdk_2052_method_2_code, exceptionTable := #[], attributes := #[] }
def k6m0 : Method := { name := "<init>", desc := "()V", sig := { parameters := [], returnType := none }, accessFlags := 4, code := some k6c0 }
/-- java/io/Writer -/
def k6 : Class := { plain "java/io/Writer" (some 0) with
  accessFlags := 1057
  interfaces := #[2, 4, 5]
  cf := some (fileOf pool6 11 #[.nestMembers #[1]] #[{ accessFlags := 4, nameIndex := 5, descriptorIndex := 6, attributes := #[] }] 1057 8 #[94, 96, 98] #[{ accessFlags := 2, nameIndex := 46, descriptorIndex := 47, attributes := #[] }, { accessFlags := 26, nameIndex := 100, descriptorIndex := 101, attributes := #[] }, { accessFlags := 4, nameIndex := 14, descriptorIndex := 15, attributes := #[] }])
  fields := #[{ name := "writeBuffer", type := (.array .char), accessFlags := 2, slot := 0, constantValue := 0 }, { name := "WRITE_BUFFER_SIZE", type := .int, accessFlags := 26, slot := 0, constantValue := 0 }, { name := "lock", type := (.object "java/lang/Object"), accessFlags := 4, slot := 1, constantValue := 0 }]
  methods := #[k6m0]
  instanceTypes := #[(.array .char), (.object "java/lang/Object")]
  staticTypes := #[.int]
  resolved := Array.replicate 151 none
  statics := none }

def pool7 : Array CpInfo := pool [(1, .methodref 2 3), (0, .class_ 4), (0, .nameAndType 5 6), (0, u "java/io/Writer"), (0, u "<init>"), (0, u "()V"), (0, .class_ 8), (0, u "java/lang/StringBuilder"), (0, .methodref 7 3), (0, .fieldref 11 12), (0, .class_ 13), (0, .nameAndType 14 15), (0, u "com/example/hebelwerk/hebelwerk/core/Text"), (0, u "text"), (0, u "Ljava/lang/StringBuilder;"), (2, .class_ 20), (1, u "com/example/hebelwerk/hebelwerk/core/Text$Form"), (12, .nameAndType 34 35), (0, u "toString"), (0, u "()Ljava/lang/String;"), (0, .methodref 7 37), (0, .nameAndType 38 39), (0, u "append"), (0, u "(C)Ljava/lang/StringBuilder;"), (0, .methodref 7 41), (0, .nameAndType 38 42), (0, u "([CII)Ljava/lang/StringBuilder;"), (3, .methodref 7 33), (5, u "write"), (0, u "(I)V"), (0, u "([CII)V")] 8

def k7c0 : Code := { maxStack := 3, maxLocals := 1, code := prog_16_method_1_code, exceptionTable := #[], attributes := #[] }
def k7m0 : Method := { name := "<init>", desc := "()V", sig := { parameters := [], returnType := none }, accessFlags := 0, code := some k7c0 }
def k7c1 : Code := { maxStack := 2, maxLocals := 2, code := prog_16_method_3_code, exceptionTable := #[], attributes := #[] }
def k7m1 : Method := { name := "write", desc := "(I)V", sig := { parameters := [.int], returnType := none }, accessFlags := 1, code := some k7c1 }
def k7c2 : Code := { maxStack := 4, maxLocals := 4, code := prog_16_method_4_code, exceptionTable := #[], attributes := #[] }
def k7m2 : Method := { name := "write", desc := "([CII)V", sig := { parameters := [(.array .char), .int, .int], returnType := none }, accessFlags := 1, code := some k7c2 }
def k7c3 : Code := { maxStack := 1, maxLocals := 1, code := prog_16_method_8_code, exceptionTable := #[], attributes := #[] }
def k7m3 : Method := { name := "toString", desc := "()Ljava/lang/String;", sig := { parameters := [], returnType := some (.object "java/lang/String") }, accessFlags := 1, code := some k7c3 }
/-- com/example/hebelwerk/hebelwerk/core/Text -/
def k7 : Class := { plain "com/example/hebelwerk/hebelwerk/core/Text" (some 6) with
  accessFlags := 48
  interfaces := #[]
  cf := some (fileOf pool7 11 #[.nestMembers #[18]] #[{ accessFlags := 0, nameIndex := 5, descriptorIndex := 6, attributes := #[] }, { accessFlags := 1, nameIndex := 52, descriptorIndex := 53, attributes := #[] }, { accessFlags := 1, nameIndex := 52, descriptorIndex := 54, attributes := #[] }, { accessFlags := 1, nameIndex := 34, descriptorIndex := 35, attributes := #[] }] 48 2 #[] #[{ accessFlags := 18, nameIndex := 14, descriptorIndex := 15, attributes := #[] }])
  fields := #[{ name := "text", type := (.object "java/lang/StringBuilder"), accessFlags := 18, slot := 2, constantValue := 0 }]
  methods := #[k7m0, k7m1, k7m2, k7m3]
  instanceTypes := #[(.array .char), (.object "java/lang/Object"), (.object "java/lang/StringBuilder")]
  staticTypes := #[]
  resolved := Array.replicate 63 none
  statics := none }

def pool8 : Array CpInfo := pool [(2, .class_ 4), (1, u "java/lang/CharSequence"), (42, .class_ 48), (0, u "java/lang/CharSequence$1CodePointIterator"), (10, .class_ 60), (0, u "java/lang/CharSequence$1CharIterator"), (5, .class_ 67), (0, u "java/lang/Object")] 63

/-- java/lang/CharSequence -/
def k8 : Class := { plain "java/lang/CharSequence" (some 0) with
  accessFlags := 1537
  interfaces := #[]
  cf := some (fileOf pool8 2 #[.nestMembers #[47, 59]] #[] 1537 66 #[] #[])
  fields := #[]
  methods := #[]
  instanceTypes := #[]
  staticTypes := #[]
  resolved := Array.replicate 131 none
  statics := none }

def pool9 : Array CpInfo := pool [(1, .class_ 2), (0, u "java/lang/String"), (0, .methodref 4 5), (0, .class_ 6), (0, .nameAndType 7 8), (0, u "java/lang/Object"), (0, u "<init>"), (0, u "()V"), (1, .class_ 12), (1, u "java/lang/AbstractStringBuilder"), (0, u "EMPTYVALUE"), (0, u "[B"), (0, .fieldref 10 16), (0, .nameAndType 17 14), (0, u "value"), (0, .fieldref 1 19), (0, .nameAndType 20 21), (0, u "COMPACT_STRINGS"), (0, u "Z"), (0, .fieldref 10 23), (0, .nameAndType 24 25), (0, u "coder"), (0, u "B"), (0, .methodref 27 28), (0, .class_ 29), (0, .nameAndType 30 31), (0, u "java/lang/StringUTF16"), (0, u "newBytesFor"), (0, u "(I)[B"), (2, u "length"), (0, u "()I"), (9, u "append"), (2, .class_ 49), (0, u "java/lang/CharSequence"), (25, u "maybeLatin1"), (3, .fieldref 10 80), (0, .nameAndType 81 82), (0, u "count"), (0, u "I"), (0, .methodref 10 84), (0, .nameAndType 85 86), (0, u "isLatin1"), (0, u "()Z"), (1, .class_ 90), (1, u "java/lang/StringLatin1"), (9, .methodref 10 101), (0, .nameAndType 102 103), (0, u "ensureCapacityInternal"), (0, u "(I)V"), (21, .methodref 88 126), (0, .nameAndType 127 128), (0, u "inflate"), (0, u "([BI[BII)V"), (7, u "([BII)V"), (24, .methodref 162 163), (0, .class_ 164), (0, .nameAndType 165 166), (0, u "jdk/internal/util/Preconditions"), (0, u "checkFromToIndex"), (0, u "(IIILjava/util/function/BiFunction;)I"), (15, u "Ljava/util/function/BiFunction;"), (0, .fieldref 162 184), (0, .nameAndType 185 182), (0, u "IOOBE_FORMATTER"), (5, .methodref 88 192), (0, .nameAndType 193 194), (0, u "canEncode"), (0, u "(C)Z"), (0, .methodref 10 196), (0, .nameAndType 127 8), (0, .methodref 27 198), (0, .nameAndType 199 136), (0, u "putCharSB"), (34, u "appendChars"), (4, .methodref 10 240), (0, .nameAndType 234 241), (0, u "([CII)V"), (50, u "(C)Ljava/lang/AbstractStringBuilder;"), (93, .methodref 27 387), (0, .nameAndType 388 389), (0, u "putCharsSB"), (0, u "([BI[CII)V"), (13, u "()[B"), (40, .class_ 445), (0, u "java/lang/Appendable"), (60, u "([CII)Ljava/lang/AbstractStringBuilder;"), (45, u "getValue")] 56

def k9m0 : Method := { name := "<init>", desc := "()V", sig := { parameters := [], returnType := none }, accessFlags := 0, code := none }
def k9c1 : Code := { maxStack := 2, maxLocals := 2, code := jdk_68_method_2_code, exceptionTable := #[], attributes := #[] }
def k9m1 : Method := { name := "<init>", desc := "(I)V", sig := { parameters := [.int], returnType := none }, accessFlags := 0, code := some k9c1 }
def k9c2 : Code := { maxStack := 1, maxLocals := 1, code := jdk_68_method_6_code, exceptionTable := #[], attributes := #[] }
def k9m2 : Method := { name := "length", desc := "()I", sig := { parameters := [], returnType := some .int }, accessFlags := 1, code := some k9c2 }
def k9c3 : Code := { maxStack := 4, maxLocals := 3, code := jdk_68_method_9_code, exceptionTable := #[], attributes := #[] }
def k9m3 : Method := { name := "ensureCapacityInternal", desc := "(I)V", sig := { parameters := [.int], returnType := none }, accessFlags := 2, code := some k9c3 }
def k9c4 : Code := { maxStack := 5, maxLocals := 2, code := jdk_68_method_11_code, exceptionTable := #[], attributes := #[] }
def k9m4 : Method := { name := "inflate", desc := "()V", sig := { parameters := [], returnType := none }, accessFlags := 2, code := some k9c4 }
def k9c5 : Code := { maxStack := 4, maxLocals := 5, code := jdk_68_method_29_code, exceptionTable := #[], attributes := #[] }
def k9m5 : Method := { name := "append", desc := "([CII)Ljava/lang/AbstractStringBuilder;", sig := { parameters := [(.array .char), .int, .int], returnType := some (.object "java/lang/AbstractStringBuilder") }, accessFlags := 1, code := some k9c5 }
def k9c6 : Code := { maxStack := 5, maxLocals := 2, code := jdk_68_method_31_code, exceptionTable := #[], attributes := #[] }
def k9m6 : Method := { name := "append", desc := "(C)Ljava/lang/AbstractStringBuilder;", sig := { parameters := [.char], returnType := some (.object "java/lang/AbstractStringBuilder") }, accessFlags := 1, code := some k9c6 }
def k9c7 : Code := { maxStack := 1, maxLocals := 1, code := jdk_68_method_64_code, exceptionTable := #[], attributes := #[] }
def k9m7 : Method := { name := "getValue", desc := "()[B", sig := { parameters := [], returnType := some (.array .byte) }, accessFlags := 16, code := some k9c7 }
def k9c8 : Code := { maxStack := 1, maxLocals := 1, code := jdk_68_method_68_code, exceptionTable := #[], attributes := #[] }
def k9m8 : Method := { name := "isLatin1", desc := "()Z", sig := { parameters := [], returnType := some .boolean }, accessFlags := 16, code := some k9c8 }
def k9c9 : Code := { maxStack := 5, maxLocals := 9, code := jdk_68_method_74_code, exceptionTable := #[], attributes := #[] }
def k9m9 : Method := { name := "appendChars", desc := "([CII)V", sig := { parameters := [(.array .char), .int, .int], returnType := none }, accessFlags := 18, code := some k9c9 }
/-- java/lang/AbstractStringBuilder -/
def k9 : Class := { plain "java/lang/AbstractStringBuilder" (some 0) with
  accessFlags := 1056
  interfaces := #[2, 8]
  cf := some (fileOf pool9 10 #[] #[{ accessFlags := 0, nameIndex := 7, descriptorIndex := 8, attributes := #[] }, { accessFlags := 0, nameIndex := 7, descriptorIndex := 103, attributes := #[] }, { accessFlags := 1, nameIndex := 34, descriptorIndex := 35, attributes := #[] }, { accessFlags := 2, nameIndex := 102, descriptorIndex := 103, attributes := #[] }, { accessFlags := 2, nameIndex := 127, descriptorIndex := 8, attributes := #[] }, { accessFlags := 1, nameIndex := 45, descriptorIndex := 506, attributes := #[] }, { accessFlags := 1, nameIndex := 45, descriptorIndex := 292, attributes := #[] }, { accessFlags := 16, nameIndex := 552, descriptorIndex := 403, attributes := #[] }, { accessFlags := 16, nameIndex := 85, descriptorIndex := 86, attributes := #[] }, { accessFlags := 18, nameIndex := 234, descriptorIndex := 241, attributes := #[] }] 1056 4 #[444, 48] #[{ accessFlags := 0, nameIndex := 17, descriptorIndex := 14, attributes := #[] }, { accessFlags := 0, nameIndex := 24, descriptorIndex := 25, attributes := #[] }, { accessFlags := 0, nameIndex := 75, descriptorIndex := 21, attributes := #[] }, { accessFlags := 0, nameIndex := 81, descriptorIndex := 82, attributes := #[] }, { accessFlags := 26, nameIndex := 13, descriptorIndex := 14, attributes := #[] }])
  fields := #[{ name := "value", type := (.array .byte), accessFlags := 0, slot := 0, constantValue := 0 }, { name := "coder", type := .byte, accessFlags := 0, slot := 1, constantValue := 0 }, { name := "maybeLatin1", type := .boolean, accessFlags := 0, slot := 2, constantValue := 0 }, { name := "count", type := .int, accessFlags := 0, slot := 3, constantValue := 0 }, { name := "EMPTYVALUE", type := (.array .byte), accessFlags := 26, slot := 0, constantValue := 0 }]
  methods := #[k9m0, k9m1, k9m2, k9m3, k9m4, k9m5, k9m6, k9m7, k9m8, k9m9]
  instanceTypes := #[(.array .byte), .byte, .boolean, .int]
  staticTypes := #[(.array .byte)]
  resolved := Array.replicate 609 none
  statics := none }

def pool10 : Array CpInfo := pool [(1, .class_ 2), (0, u "java/io/Serializable"), (0, .class_ 4), (0, u "java/lang/Object")] 2

/-- java/io/Serializable -/
def k10 : Class := { plain "java/io/Serializable" (some 0) with
  accessFlags := 1537
  interfaces := #[]
  cf := some (fileOf pool10 1 #[] #[] 1537 3 #[] #[])
  fields := #[]
  methods := #[]
  instanceTypes := #[]
  staticTypes := #[]
  resolved := Array.replicate 7 none
  statics := none }

def pool11 : Array CpInfo := pool [(1, .class_ 2), (0, u "java/lang/Comparable"), (0, .class_ 4), (0, u "java/lang/Object")] 7

/-- java/lang/Comparable -/
def k11 : Class := { plain "java/lang/Comparable" (some 0) with
  accessFlags := 1537
  interfaces := #[]
  cf := some (fileOf pool11 1 #[] #[] 1537 3 #[] #[])
  fields := #[]
  methods := #[]
  instanceTypes := #[]
  staticTypes := #[]
  resolved := Array.replicate 12 none
  statics := none }

def pool12 : Array CpInfo := pool [(1, .methodref 2 3), (0, .class_ 4), (0, .nameAndType 5 6), (0, u "java/lang/AbstractStringBuilder"), (0, u "<init>"), (0, u "(I)V"), (11, .class_ 20), (1, u "java/lang/String"), (3, .class_ 26), (1, u "java/lang/StringBuilder"), (0, u "append"), (16, .methodref 2 45), (0, .nameAndType 27 46), (0, u "([CII)Ljava/lang/AbstractStringBuilder;"), (3, .methodref 2 51), (0, .nameAndType 27 52), (0, u "(C)Ljava/lang/AbstractStringBuilder;"), (84, .methodref 18 138), (0, .nameAndType 5 139), (0, u "(Ljava/lang/StringBuilder;)V"), (5, u "()V"), (10, u "()I"), (129, u "(C)Ljava/lang/StringBuilder;"), (5, u "([CII)Ljava/lang/StringBuilder;"), (50, .methodref 2 344), (0, .nameAndType 345 156), (0, u "length"), (3, .class_ 350), (0, u "java/lang/Appendable"), (0, .class_ 352), (0, u "java/io/Serializable"), (0, .class_ 354), (0, u "java/lang/Comparable"), (0, .class_ 356), (0, u "java/lang/CharSequence"), (0, u "serialVersionUID"), (0, u "J"), (40, u "toString"), (0, u "()Ljava/lang/String;")] 21

def k12c0 : Code := { maxStack := 2, maxLocals := 1, code := jdk_67_method_1_code, exceptionTable := #[], attributes := #[] }
def k12m0 : Method := { name := "<init>", desc := "()V", sig := { parameters := [], returnType := none }, accessFlags := 1, code := some k12c0 }
def k12c1 : Code := { maxStack := 4, maxLocals := 4, code := jdk_67_method_12_code, exceptionTable := #[], attributes := #[] }
def k12m1 : Method := { name := "append", desc := "([CII)Ljava/lang/StringBuilder;", sig := { parameters := [(.array .char), .int, .int], returnType := some (.object "java/lang/StringBuilder") }, accessFlags := 1, code := some k12c1 }
def k12c2 : Code := { maxStack := 2, maxLocals := 2, code := jdk_67_method_14_code, exceptionTable := #[], attributes := #[] }
def k12m2 : Method := { name := "append", desc := "(C)Ljava/lang/StringBuilder;", sig := { parameters := [.char], returnType := some (.object "java/lang/StringBuilder") }, accessFlags := 1, code := some k12c2 }
def k12c3 : Code := { maxStack := 3, maxLocals := 1, code := jdk_67_method_42_code, exceptionTable := #[], attributes := #[] }
def k12m3 : Method := { name := "toString", desc := "()Ljava/lang/String;", sig := { parameters := [], returnType := some (.object "java/lang/String") }, accessFlags := 1, code := some k12c3 }
def k12c4 : Code := { maxStack := 1, maxLocals := 1, code := jdk_67_method_93_code, exceptionTable := #[], attributes := #[] }
def k12m4 : Method := { name := "length", desc := "()I", sig := { parameters := [], returnType := some .int }, accessFlags := 4161, code := some k12c4 }
/-- java/lang/StringBuilder -/
def k12 : Class := { plain "java/lang/StringBuilder" (some 9) with
  accessFlags := 49
  interfaces := #[2, 10, 11, 8]
  cf := some (fileOf pool12 24 #[] #[{ accessFlags := 1, nameIndex := 5, descriptorIndex := 145, attributes := #[] }, { accessFlags := 1, nameIndex := 27, descriptorIndex := 292, attributes := #[] }, { accessFlags := 1, nameIndex := 27, descriptorIndex := 286, attributes := #[] }, { accessFlags := 1, nameIndex := 399, descriptorIndex := 400, attributes := #[] }, { accessFlags := 4161, nameIndex := 345, descriptorIndex := 156, attributes := #[] }] 49 2 #[349, 351, 353, 355] #[{ accessFlags := 24, nameIndex := 357, descriptorIndex := 358, attributes := #[] }])
  fields := #[{ name := "serialVersionUID", type := .long, accessFlags := 24, slot := 0, constantValue := 0 }]
  methods := #[k12m0, k12m1, k12m2, k12m3, k12m4]
  instanceTypes := #[(.array .byte), .byte, .boolean, .int]
  staticTypes := #[.long]
  resolved := Array.replicate 422 none
  statics := none }

def pool13 : Array CpInfo := pool [(1, .class_ 2), (0, u "java/lang/constant/Constable"), (0, .class_ 4), (0, u "java/lang/Object")] 6

/-- java/lang/constant/Constable -/
def k13 : Class := { plain "java/lang/constant/Constable" (some 0) with
  accessFlags := 1537
  interfaces := #[]
  cf := some (fileOf pool13 1 #[] #[] 1537 3 #[] #[])
  fields := #[]
  methods := #[]
  instanceTypes := #[]
  staticTypes := #[]
  resolved := Array.replicate 11 none
  statics := none }

def pool14 : Array CpInfo := pool [(1, .class_ 2), (0, u "java/lang/constant/ConstantDesc"), (0, .class_ 4), (0, u "java/lang/Object")] 32

/-- java/lang/constant/ConstantDesc -/
def k14 : Class := { plain "java/lang/constant/ConstantDesc" (some 0) with
  accessFlags := 1537
  interfaces := #[]
  cf := some (fileOf pool14 1 #[] #[] 1537 3 #[] #[])
  fields := #[]
  methods := #[]
  instanceTypes := #[]
  staticTypes := #[]
  resolved := Array.replicate 37 none
  statics := none }

def pool15 : Array CpInfo := pool [(1, .methodref 2 3), (0, .class_ 4), (0, .nameAndType 5 6), (0, u "java/lang/Object"), (0, u "<init>"), (0, u "()V"), (2, .fieldref 10 11), (0, .class_ 12), (0, .nameAndType 13 14), (0, u "java/lang/String"), (0, u "value"), (0, u "[B"), (0, .fieldref 10 16), (0, .nameAndType 17 18), (0, u "coder"), (0, u "B"), (2, u "hash"), (0, u "I"), (2, u "hashIsZero"), (0, u "Z"), (9, u "checkBoundsOffCount"), (0, u "(III)I"), (0, .fieldref 10 39), (0, .nameAndType 40 26), (0, u "COMPACT_STRINGS"), (1, .class_ 44), (1, u "java/lang/StringUTF16"), (9, .methodref 55 56), (0, .class_ 57), (0, .nameAndType 58 59), (0, u "java/util/Arrays"), (0, u "copyOfRange"), (0, u "([BII)[B"), (47, .class_ 109), (1, u "java/lang/StringLatin1"), (32, u "()Z"), (191, u "()I"), (0, .methodref 10 336), (0, .nameAndType 17 337), (0, u "()B"), (2, u "()[B"), (22, u "([BI)C"), (27, u "(II)V"), (35, u "(I)C"), (61, .methodref 10 490), (0, .nameAndType 5 491), (0, u "(Ljava/lang/AbstractStringBuilder;Ljava/lang/Void;)V"), (0, .methodref 10 493), (0, .nameAndType 494 142), (0, u "isLatin1"), (0, .methodref 107 496), (0, .nameAndType 497 363), (0, u "charAt"), (0, .methodref 42 496), (2, u "checkIndex"), (4, .nameAndType 507 334), (0, u "length"), (5, u "checkFromToIndex"), (9, u "checkBoundsBeginEnd"), (0, u "(III)V"), (24, .methodref 550 506), (0, .class_ 551), (0, u "java/lang/AbstractStringBuilder"), (0, .methodref 550 553), (0, .nameAndType 554 340), (0, u "getValue"), (20, .class_ 576), (0, u "java/lang/CharSequence"), (22, u "CASE_INSENSITIVE_ORDER"), (0, u "Ljava/util/Comparator;"), (446, .methodref 550 493), (0, .fieldref 550 1049), (0, .nameAndType 1050 26), (0, u "maybeLatin1"), (2, .fieldref 1054 1055), (0, .class_ 1056), (0, .nameAndType 1057 1058), (0, u "jdk/internal/util/Preconditions"), (0, u "SIOOBE_FORMATTER"), (0, u "Ljava/util/function/BiFunction;"), (0, .methodref 1054 1060), (0, .nameAndType 501 1061), (0, u "(IILjava/util/function/BiFunction;)I"), (0, .methodref 1054 1063), (0, .nameAndType 513 1064), (0, u "(IIILjava/util/function/BiFunction;)I"), (0, .methodref 1054 1066), (0, .nameAndType 1067 1064), (0, u "checkFromIndexSize"), (33, u "serialPersistentFields"), (0, u "[Ljava/io/ObjectStreamField;"), (0, .class_ 1104), (0, u "java/lang/String$CaseInsensitiveComparator"), (1, .class_ 1107), (0, u "java/io/Serializable"), (0, .class_ 1109), (0, u "java/lang/Comparable"), (0, .class_ 1111), (0, u "java/lang/constant/Constable"), (0, .class_ 1113), (0, u "java/lang/constant/ConstantDesc"), (2, u "serialVersionUID"), (0, u "J"), (3, u "REPL"), (0, u "C"), (2, u "LATIN1"), (1, u "UTF16"), (105, u "(Ljava/lang/StringBuilder;)V")] 217

def k15m0 : Method := { name := "<init>", desc := "()V", sig := { parameters := [], returnType := none }, accessFlags := 1, code := none }
def k15c1 : Code := { maxStack := 3, maxLocals := 2, code := jdk_42_method_53_code, exceptionTable := #[], attributes := #[] }
def k15m1 : Method := { name := "<init>", desc := "(Ljava/lang/StringBuilder;)V", sig := { parameters := [(.object "java/lang/StringBuilder")], returnType := none }, accessFlags := 1, code := some k15c1 }
def k15c2 : Code := { maxStack := 2, maxLocals := 1, code := jdk_42_method_54_code, exceptionTable := #[], attributes := #[] }
def k15m2 : Method := { name := "length", desc := "()I", sig := { parameters := [], returnType := some .int }, accessFlags := 1, code := some k15c2 }
def k15c3 : Code := { maxStack := 2, maxLocals := 2, code := jdk_42_method_56_code, exceptionTable := #[], attributes := #[] }
def k15m3 : Method := { name := "charAt", desc := "(I)C", sig := { parameters := [.int], returnType := some .char }, accessFlags := 1, code := some k15c3 }
def k15c4 : Code := { maxStack := 5, maxLocals := 5, code := jdk_42_method_150_code, exceptionTable := #[], attributes := #[] }
def k15m4 : Method := { name := "<init>", desc := "(Ljava/lang/AbstractStringBuilder;Ljava/lang/Void;)V", sig := { parameters := [(.object "java/lang/AbstractStringBuilder"), (.object "java/lang/Void")], returnType := none }, accessFlags := 0, code := some k15c4 }
def k15c5 : Code := { maxStack := 1, maxLocals := 1, code := jdk_42_method_152_code, exceptionTable := #[], attributes := #[] }
def k15m5 : Method := { name := "coder", desc := "()B", sig := { parameters := [], returnType := some .byte }, accessFlags := 0, code := some k15c5 }
def k15c6 : Code := { maxStack := 1, maxLocals := 1, code := jdk_42_method_154_code, exceptionTable := #[], attributes := #[] }
def k15m6 : Method := { name := "isLatin1", desc := "()Z", sig := { parameters := [], returnType := some .boolean }, accessFlags := 0, code := some k15c6 }
def k15c7 : Code := { maxStack := 3, maxLocals := 2, code := jdk_42_method_155_code, exceptionTable := #[], attributes := #[] }
def k15m7 : Method := { name := "checkIndex", desc := "(II)V", sig := { parameters := [.int, .int], returnType := none }, accessFlags := 8, code := some k15c7 }
def k15c8 : Code := { maxStack := 4, maxLocals := 3, code := jdk_42_method_157_code, exceptionTable := #[], attributes := #[] }
def k15m8 : Method := { name := "checkBoundsOffCount", desc := "(III)I", sig := { parameters := [.int, .int, .int], returnType := some .int }, accessFlags := 8, code := some k15c8 }
def k15c9 : Code := { maxStack := 4, maxLocals := 3, code := jdk_42_method_158_code, exceptionTable := #[], attributes := #[] }
def k15m9 : Method := { name := "checkBoundsBeginEnd", desc := "(III)V", sig := { parameters := [.int, .int, .int], returnType := none }, accessFlags := 8, code := some k15c9 }
/-- java/lang/String -/
def k15 : Class := { plain "java/lang/String" (some 0) with
  accessFlags := 49
  interfaces := #[10, 11, 8, 13, 14]
  cf := some (fileOf pool15 10 #[.nestMembers #[1103]] #[{ accessFlags := 1, nameIndex := 5, descriptorIndex := 6, attributes := #[] }, { accessFlags := 1, nameIndex := 5, descriptorIndex := 1233, attributes := #[] }, { accessFlags := 1, nameIndex := 507, descriptorIndex := 334, attributes := #[] }, { accessFlags := 1, nameIndex := 497, descriptorIndex := 427, attributes := #[] }, { accessFlags := 0, nameIndex := 5, descriptorIndex := 491, attributes := #[] }, { accessFlags := 0, nameIndex := 17, descriptorIndex := 337, attributes := #[] }, { accessFlags := 0, nameIndex := 494, descriptorIndex := 142, attributes := #[] }, { accessFlags := 8, nameIndex := 501, descriptorIndex := 391, attributes := #[] }, { accessFlags := 8, nameIndex := 36, descriptorIndex := 37, attributes := #[] }, { accessFlags := 8, nameIndex := 523, descriptorIndex := 524, attributes := #[] }] 49 2 #[1106, 1108, 575, 1110, 1112] #[{ accessFlags := 18, nameIndex := 13, descriptorIndex := 14, attributes := #[] }, { accessFlags := 18, nameIndex := 17, descriptorIndex := 18, attributes := #[] }, { accessFlags := 2, nameIndex := 21, descriptorIndex := 22, attributes := #[] }, { accessFlags := 2, nameIndex := 25, descriptorIndex := 26, attributes := #[] }, { accessFlags := 26, nameIndex := 1116, descriptorIndex := 1117, attributes := #[] }, { accessFlags := 24, nameIndex := 40, descriptorIndex := 26, attributes := #[] }, { accessFlags := 26, nameIndex := 1101, descriptorIndex := 1102, attributes := #[] }, { accessFlags := 26, nameIndex := 1121, descriptorIndex := 1122, attributes := #[] }, { accessFlags := 25, nameIndex := 599, descriptorIndex := 600, attributes := #[] }, { accessFlags := 24, nameIndex := 1125, descriptorIndex := 18, attributes := #[] }, { accessFlags := 24, nameIndex := 1127, descriptorIndex := 18, attributes := #[] }])
  fields := #[{ name := "value", type := (.array .byte), accessFlags := 18, slot := 0, constantValue := 0 }, { name := "coder", type := .byte, accessFlags := 18, slot := 1, constantValue := 0 }, { name := "hash", type := .int, accessFlags := 2, slot := 2, constantValue := 0 }, { name := "hashIsZero", type := .boolean, accessFlags := 2, slot := 3, constantValue := 0 }, { name := "serialVersionUID", type := .long, accessFlags := 26, slot := 0, constantValue := 0 }, { name := "COMPACT_STRINGS", type := .boolean, accessFlags := 24, slot := 1, constantValue := 0 }, { name := "serialPersistentFields", type := (.array (.object "java/io/ObjectStreamField")), accessFlags := 26, slot := 2, constantValue := 0 }, { name := "REPL", type := .char, accessFlags := 26, slot := 3, constantValue := 0 }, { name := "CASE_INSENSITIVE_ORDER", type := (.object "java/util/Comparator"), accessFlags := 25, slot := 4, constantValue := 0 }, { name := "LATIN1", type := .byte, accessFlags := 24, slot := 5, constantValue := 0 }, { name := "UTF16", type := .byte, accessFlags := 24, slot := 6, constantValue := 0 }]
  methods := #[k15m0, k15m1, k15m2, k15m3, k15m4, k15m5, k15m6, k15m7, k15m8, k15m9]
  instanceTypes := #[(.array .byte), .byte, .int, .boolean]
  staticTypes := #[.long, .boolean, (.array (.object "java/io/ObjectStreamField")), .char, (.object "java/util/Comparator"), .byte, .byte]
  resolved := Array.replicate 1451 none
  statics := some 0 }

def pool16 : Array CpInfo := pool [(2, .class_ 4), (1, u "java/lang/Object"), (0, u "<init>"), (0, u "()V"), (17, .class_ 26), (1, u "jdk/internal/util/Preconditions"), (6, u "checkIndex"), (13, u "checkFromToIndex"), (1, u "checkFromIndexSize"), (5, .class_ 56), (0, u "jdk/internal/util/Preconditions$4"), (57, .class_ 115), (0, u "jdk/internal/util/Preconditions$1"), (7, u "SIOOBE_FORMATTER"), (0, u "Ljava/util/function/BiFunction;"), (0, .class_ 126), (0, u "jdk/internal/util/Preconditions$2"), (3, u "AIOOBE_FORMATTER"), (0, .class_ 132), (0, u "jdk/internal/util/Preconditions$3"), (3, u "IOOBE_FORMATTER"), (41, u "(IILjava/util/function/BiFunction;)I"), (4, u "(IIILjava/util/function/BiFunction;)I")] 10

def k16m0 : Method := { name := "<init>", desc := "()V", sig := { parameters := [], returnType := none }, accessFlags := 1, code := none }
def k16c1 : Code := { maxStack := 3, maxLocals := 3, code := jdk_41_method_11_code, exceptionTable := #[], attributes := #[] }
def k16m1 : Method := { name := "checkIndex", desc := "(IILjava/util/function/BiFunction;)I", sig := { parameters := [.int, .int, (.object "java/util/function/BiFunction")], returnType := some .int }, accessFlags := 9, code := some k16c1 }
def k16c2 : Code := { maxStack := 4, maxLocals := 4, code := jdk_41_method_12_code, exceptionTable := #[], attributes := #[] }
def k16m2 : Method := { name := "checkFromToIndex", desc := "(IIILjava/util/function/BiFunction;)I", sig := { parameters := [.int, .int, .int, (.object "java/util/function/BiFunction")], returnType := some .int }, accessFlags := 9, code := some k16c2 }
def k16c3 : Code := { maxStack := 4, maxLocals := 4, code := jdk_41_method_13_code, exceptionTable := #[], attributes := #[] }
def k16m3 : Method := { name := "checkFromIndexSize", desc := "(IIILjava/util/function/BiFunction;)I", sig := { parameters := [.int, .int, .int, (.object "java/util/function/BiFunction")], returnType := some .int }, accessFlags := 9, code := some k16c3 }
/-- jdk/internal/util/Preconditions -/
def k16 : Class := { plain "jdk/internal/util/Preconditions" (some 0) with
  accessFlags := 33
  interfaces := #[]
  cf := some (fileOf pool16 24 #[.nestMembers #[55, 131, 125, 114]] #[{ accessFlags := 1, nameIndex := 5, descriptorIndex := 6, attributes := #[] }, { accessFlags := 9, nameIndex := 33, descriptorIndex := 178, attributes := #[] }, { accessFlags := 9, nameIndex := 47, descriptorIndex := 183, attributes := #[] }, { accessFlags := 9, nameIndex := 49, descriptorIndex := 183, attributes := #[] }] 33 2 #[] #[{ accessFlags := 25, nameIndex := 123, descriptorIndex := 124, attributes := #[] }, { accessFlags := 25, nameIndex := 130, descriptorIndex := 124, attributes := #[] }, { accessFlags := 25, nameIndex := 136, descriptorIndex := 124, attributes := #[] }])
  fields := #[{ name := "SIOOBE_FORMATTER", type := (.object "java/util/function/BiFunction"), accessFlags := 25, slot := 0, constantValue := 0 }, { name := "AIOOBE_FORMATTER", type := (.object "java/util/function/BiFunction"), accessFlags := 25, slot := 1, constantValue := 0 }, { name := "IOOBE_FORMATTER", type := (.object "java/util/function/BiFunction"), accessFlags := 25, slot := 2, constantValue := 0 }]
  methods := #[k16m0, k16m1, k16m2, k16m3]
  instanceTypes := #[]
  staticTypes := #[(.object "java/util/function/BiFunction"), (.object "java/util/function/BiFunction"), (.object "java/util/function/BiFunction")]
  resolved := Array.replicate 194 none
  statics := some 1 }

def pool17 : Array CpInfo := pool [(1, .class_ 2), (0, u "java/lang/String"), (1, .class_ 6), (1, u "java/lang/Object"), (0, u "<init>"), (0, u "()V"), (0, .methodref 1 10), (0, .nameAndType 11 12), (0, u "checkIndex"), (0, u "(II)V"), (1, .class_ 16), (1, u "java/lang/StringLatin1"), (0, u "inflate"), (2, .class_ 22), (1, u "java/lang/StringUTF16"), (3, .nameAndType 17 27), (0, u "([BI[BII)V"), (25, u "([BI)C"), (36, u "canEncode"), (14, u "(C)Z"), (15, u "$assertionsDisabled"), (0, u "Z"), (98, .class_ 223), (1, u "java/lang/StringLatin1$LinesSpliterator"), (16, .methodref 20 26), (11, u "charAt"), (137, .class_ 391), (0, u "java/lang/StringLatin1$CharsSpliterator")] 3

def k17m0 : Method := { name := "<init>", desc := "()V", sig := { parameters := [], returnType := none }, accessFlags := 0, code := none }
def k17c1 : Code := { maxStack := 2, maxLocals := 2, code := jdk_43_method_2_code, exceptionTable := #[], attributes := #[] }
def k17m1 : Method := { name := "charAt", desc := "([BI)C", sig := { parameters := [(.array .byte), .int], returnType := some .char }, accessFlags := 9, code := some k17c1 }
def k17c2 : Code := { maxStack := 2, maxLocals := 1, code := jdk_43_method_3_code, exceptionTable := #[], attributes := #[] }
def k17m2 : Method := { name := "canEncode", desc := "(C)Z", sig := { parameters := [.char], returnType := some .boolean }, accessFlags := 9, code := some k17c2 }
def k17c3 : Code := { maxStack := 5, maxLocals := 5, code := jdk_43_method_50_code, exceptionTable := #[], attributes := #[] }
def k17m3 : Method := { name := "inflate", desc := "([BI[BII)V", sig := { parameters := [(.array .byte), .int, (.array .byte), .int, .int], returnType := none }, accessFlags := 9, code := some k17c3 }
/-- java/lang/StringLatin1 -/
def k17 : Class := { plain "java/lang/StringLatin1" (some 0) with
  accessFlags := 48
  interfaces := #[]
  cf := some (fileOf pool17 14 #[.nestMembers #[390, 221]] #[{ accessFlags := 0, nameIndex := 7, descriptorIndex := 8, attributes := #[] }, { accessFlags := 9, nameIndex := 252, descriptorIndex := 53, attributes := #[] }, { accessFlags := 9, nameIndex := 90, descriptorIndex := 105, attributes := #[] }, { accessFlags := 9, nameIndex := 17, descriptorIndex := 27, attributes := #[] }] 48 4 #[] #[{ accessFlags := 4120, nameIndex := 121, descriptorIndex := 122, attributes := #[] }])
  fields := #[{ name := "$assertionsDisabled", type := .boolean, accessFlags := 4120, slot := 0, constantValue := 0 }]
  methods := #[k17m0, k17m1, k17m2, k17m3]
  instanceTypes := #[]
  staticTypes := #[.boolean]
  resolved := Array.replicate 395 none
  statics := none }

def pool18 : Array CpInfo := pool [(2, .class_ 4), (1, u "java/lang/Object"), (0, u "<init>"), (0, u "()V"), (7, .class_ 16), (1, u "java/util/Arrays"), (57, .class_ 76), (1, u "java/util/Arrays$NaturalOrder"), (36, .class_ 115), (1, u "java/util/Arrays$LegacyMergeSort"), (1, u "Z"), (21, u "copyOfRange"), (10, .methodref 151 152), (0, .class_ 153), (0, .nameAndType 154 155), (0, u "java/lang/System"), (0, u "arraycopy"), (0, u "(Ljava/lang/Object;ILjava/lang/Object;II)V"), (148, .methodref 305 306), (0, .class_ 307), (0, .nameAndType 308 309), (0, u "java/lang/Math"), (0, u "min"), (0, u "(II)I"), (29, .methodref 14 340), (0, .nameAndType 341 342), (0, u "copyOfRangeByte"), (0, u "([BII)[B"), (0, .methodref 14 344), (0, .nameAndType 345 346), (0, u "checkLength"), (0, u "(II)V"), (28, .class_ 376), (0, u "java/util/Arrays$ArrayList"), (68, u "$assertionsDisabled"), (269, u "MIN_ARRAY_SORT_GRAN"), (0, u "I"), (2, u "INSERTIONSORT_THRESHOLD"), (255, .class_ 976), (0, u "java/util/Arrays$ArrayItr")] 52

def k18m0 : Method := { name := "<init>", desc := "()V", sig := { parameters := [], returnType := none }, accessFlags := 2, code := none }
def k18c1 : Code := { maxStack := 4, maxLocals := 2, code := jdk_65_method_131_code, exceptionTable := #[], attributes := #[] }
def k18m1 : Method := { name := "checkLength", desc := "(II)V", sig := { parameters := [.int, .int], returnType := none }, accessFlags := 10, code := some k18c1 }
def k18c2 : Code := { maxStack := 3, maxLocals := 3, code := jdk_65_method_132_code, exceptionTable := #[], attributes := #[] }
def k18m2 : Method := { name := "copyOfRange", desc := "([BII)[B", sig := { parameters := [(.array .byte), .int, .int], returnType := some (.array .byte) }, accessFlags := 9, code := some k18c2 }
def k18c3 : Code := { maxStack := 6, maxLocals := 5, code := jdk_65_method_133_code, exceptionTable := #[], attributes := #[] }
def k18m3 : Method := { name := "copyOfRangeByte", desc := "([BII)[B", sig := { parameters := [(.array .byte), .int, .int], returnType := some (.array .byte) }, accessFlags := 10, code := some k18c3 }
/-- java/util/Arrays -/
def k18 : Class := { plain "java/util/Arrays" (some 0) with
  accessFlags := 49
  interfaces := #[]
  cf := some (fileOf pool18 14 #[.nestMembers #[975, 375, 113, 74]] #[{ accessFlags := 2, nameIndex := 5, descriptorIndex := 6, attributes := #[] }, { accessFlags := 10, nameIndex := 345, descriptorIndex := 346, attributes := #[] }, { accessFlags := 9, nameIndex := 139, descriptorIndex := 342, attributes := #[] }, { accessFlags := 10, nameIndex := 341, descriptorIndex := 342, attributes := #[] }] 49 2 #[] #[{ accessFlags := 26, nameIndex := 715, descriptorIndex := 716, attributes := #[] }, { accessFlags := 26, nameIndex := 719, descriptorIndex := 716, attributes := #[] }, { accessFlags := 4120, nameIndex := 445, descriptorIndex := 117, attributes := #[] }])
  fields := #[{ name := "MIN_ARRAY_SORT_GRAN", type := .int, accessFlags := 26, slot := 0, constantValue := 0 }, { name := "INSERTIONSORT_THRESHOLD", type := .int, accessFlags := 26, slot := 1, constantValue := 0 }, { name := "$assertionsDisabled", type := .boolean, accessFlags := 4120, slot := 2, constantValue := 0 }]
  methods := #[k18m0, k18m1, k18m2, k18m3]
  instanceTypes := #[]
  staticTypes := #[.int, .int, .boolean]
  resolved := Array.replicate 1029 none
  statics := none }

def pool19 : Array CpInfo := pool [(1, .class_ 2), (0, u "java/lang/Math"), (1, .class_ 6), (1, u "java/lang/Object"), (0, u "<init>"), (0, u "()V"), (89, .class_ 100), (1, u "java/lang/Math$RandomNumberGeneratorHolder"), (71, u "negativeZeroFloatBits"), (0, u "J"), (2, u "negativeZeroDoubleBits"), (24, u "min"), (43, u "$assertionsDisabled"), (0, u "Z"), (88, u "(II)I"), (2, u "twoToTheDoubleScaleDown"), (0, u "D"), (4, u "twoToTheDoubleScaleUp"), (9, u "E"), (3, u "PI"), (2, u "TAU"), (2, u "DEGREES_TO_RADIANS"), (0, u "RADIANS_TO_DEGREES")] 94

def k19m0 : Method := { name := "<init>", desc := "()V", sig := { parameters := [], returnType := none }, accessFlags := 2, code := none }
def k19c1 : Code := { maxStack := 2, maxLocals := 2, code := jdk_29_method_69_code, exceptionTable := #[], attributes := #[] }
def k19m1 : Method := { name := "min", desc := "(II)I", sig := { parameters := [.int, .int], returnType := some .int }, accessFlags := 9, code := some k19c1 }
/-- java/lang/Math -/
def k19 : Class := { plain "java/lang/Math" (some 0) with
  accessFlags := 49
  interfaces := #[]
  cf := some (fileOf pool19 1 #[.nestMembers #[98]] #[{ accessFlags := 2, nameIndex := 7, descriptorIndex := 8, attributes := #[] }, { accessFlags := 9, nameIndex := 201, descriptorIndex := 335, attributes := #[] }] 49 4 #[] #[{ accessFlags := 25, nameIndex := 354, descriptorIndex := 339, attributes := #[] }, { accessFlags := 25, nameIndex := 358, descriptorIndex := 339, attributes := #[] }, { accessFlags := 25, nameIndex := 361, descriptorIndex := 339, attributes := #[] }, { accessFlags := 26, nameIndex := 364, descriptorIndex := 339, attributes := #[] }, { accessFlags := 26, nameIndex := 365, descriptorIndex := 339, attributes := #[] }, { accessFlags := 26, nameIndex := 172, descriptorIndex := 173, attributes := #[] }, { accessFlags := 26, nameIndex := 176, descriptorIndex := 173, attributes := #[] }, { accessFlags := 8, nameIndex := 344, descriptorIndex := 339, attributes := #[] }, { accessFlags := 8, nameIndex := 338, descriptorIndex := 339, attributes := #[] }, { accessFlags := 4120, nameIndex := 245, descriptorIndex := 246, attributes := #[] }])
  fields := #[{ name := "E", type := .double, accessFlags := 25, slot := 0, constantValue := 0 }, { name := "PI", type := .double, accessFlags := 25, slot := 1, constantValue := 0 }, { name := "TAU", type := .double, accessFlags := 25, slot := 2, constantValue := 0 }, { name := "DEGREES_TO_RADIANS", type := .double, accessFlags := 26, slot := 3, constantValue := 0 }, { name := "RADIANS_TO_DEGREES", type := .double, accessFlags := 26, slot := 4, constantValue := 0 }, { name := "negativeZeroFloatBits", type := .long, accessFlags := 26, slot := 5, constantValue := 0 }, { name := "negativeZeroDoubleBits", type := .long, accessFlags := 26, slot := 6, constantValue := 0 }, { name := "twoToTheDoubleScaleUp", type := .double, accessFlags := 8, slot := 7, constantValue := 0 }, { name := "twoToTheDoubleScaleDown", type := .double, accessFlags := 8, slot := 8, constantValue := 0 }, { name := "$assertionsDisabled", type := .boolean, accessFlags := 4120, slot := 9, constantValue := 0 }]
  methods := #[k19m0, k19m1]
  instanceTypes := #[]
  staticTypes := #[.double, .double, .double, .double, .double, .long, .long, .double, .double, .boolean]
  resolved := Array.replicate 460 none
  statics := none }

def pool20 : Array CpInfo := pool [(2, .class_ 4), (1, u "java/lang/Object"), (0, u "<init>"), (0, u "()V"), (1, .class_ 10), (1, u "java/lang/System"), (0, u "allowSecurityManager"), (0, u "I"), (16, u "cons"), (0, u "Ljava/io/Console;"), (77, .class_ 110), (1, u "java/lang/System$CallersHolder"), (43, u "initialErrStream"), (0, u "Ljava/io/PrintStream;"), (19, u "security"), (0, u "Ljava/lang/SecurityManager;"), (31, .class_ 209), (0, u "java/lang/System$1"), (7, u "props"), (0, u "Ljava/util/Properties;"), (2, u "lineSeparator"), (0, u "Ljava/lang/String;"), (96, .class_ 321), (1, u "java/lang/System$LoggerFinder"), (5, .class_ 328), (0, u "java/lang/System$Logger"), (67, u "err"), (2, u "out"), (91, u "notSupportedJnuEncoding"), (15, u "in"), (17, u "initialIn"), (0, u "Ljava/io/InputStream;"), (35, u "bootLayer"), (0, u "Ljava/lang/ModuleLayer;"), (99, .class_ 664), (0, u "java/lang/System$2"), (9, u "NEVER"), (2, u "MAYBE"), (49, u "arraycopy"), (0, u "(Ljava/lang/Object;ILjava/lang/Object;II)V"), (72, .class_ 802), (0, u "java/lang/System$Logger$Level")] 31

def k20m0 : Method := { name := "<init>", desc := "()V", sig := { parameters := [], returnType := none }, accessFlags := 2, code := none }
def k20m1 : Method := { name := "arraycopy", desc := "(Ljava/lang/Object;ILjava/lang/Object;II)V", sig := { parameters := [(.object "java/lang/Object"), .int, (.object "java/lang/Object"), .int, .int], returnType := none }, accessFlags := 265, code := none }
/-- java/lang/System -/
def k20 : Class := { plain "java/lang/System" (some 0) with
  accessFlags := 49
  interfaces := #[]
  cf := some (fileOf pool20 8 #[.nestMembers #[319, 327, 801, 108, 663, 208]] #[{ accessFlags := 2, nameIndex := 5, descriptorIndex := 6, attributes := #[] }, { accessFlags := 265, nameIndex := 727, descriptorIndex := 728, attributes := #[] }] 49 2 #[] #[{ accessFlags := 25, nameIndex := 507, descriptorIndex := 526, attributes := #[] }, { accessFlags := 25, nameIndex := 399, descriptorIndex := 155, attributes := #[] }, { accessFlags := 25, nameIndex := 396, descriptorIndex := 155, attributes := #[] }, { accessFlags := 10, nameIndex := 525, descriptorIndex := 526, attributes := #[] }, { accessFlags := 26, nameIndex := 674, descriptorIndex := 12, attributes := #[] }, { accessFlags := 26, nameIndex := 677, descriptorIndex := 12, attributes := #[] }, { accessFlags := 10, nameIndex := 11, descriptorIndex := 12, attributes := #[] }, { accessFlags := 74, nameIndex := 175, descriptorIndex := 176, attributes := #[] }, { accessFlags := 10, nameIndex := 491, descriptorIndex := 222, attributes := #[] }, { accessFlags := 74, nameIndex := 29, descriptorIndex := 30, attributes := #[] }, { accessFlags := 74, nameIndex := 154, descriptorIndex := 155, attributes := #[] }, { accessFlags := 10, nameIndex := 217, descriptorIndex := 218, attributes := #[] }, { accessFlags := 10, nameIndex := 221, descriptorIndex := 222, attributes := #[] }, { accessFlags := 8, nameIndex := 562, descriptorIndex := 563, attributes := #[] }])
  fields := #[{ name := "in", type := (.object "java/io/InputStream"), accessFlags := 25, slot := 0, constantValue := 0 }, { name := "out", type := (.object "java/io/PrintStream"), accessFlags := 25, slot := 1, constantValue := 0 }, { name := "err", type := (.object "java/io/PrintStream"), accessFlags := 25, slot := 2, constantValue := 0 }, { name := "initialIn", type := (.object "java/io/InputStream"), accessFlags := 10, slot := 3, constantValue := 0 }, { name := "NEVER", type := .int, accessFlags := 26, slot := 4, constantValue := 0 }, { name := "MAYBE", type := .int, accessFlags := 26, slot := 5, constantValue := 0 }, { name := "allowSecurityManager", type := .int, accessFlags := 10, slot := 6, constantValue := 0 }, { name := "security", type := (.object "java/lang/SecurityManager"), accessFlags := 74, slot := 7, constantValue := 0 }, { name := "notSupportedJnuEncoding", type := (.object "java/lang/String"), accessFlags := 10, slot := 8, constantValue := 0 }, { name := "cons", type := (.object "java/io/Console"), accessFlags := 74, slot := 9, constantValue := 0 }, { name := "initialErrStream", type := (.object "java/io/PrintStream"), accessFlags := 74, slot := 10, constantValue := 0 }, { name := "props", type := (.object "java/util/Properties"), accessFlags := 10, slot := 11, constantValue := 0 }, { name := "lineSeparator", type := (.object "java/lang/String"), accessFlags := 10, slot := 12, constantValue := 0 }, { name := "bootLayer", type := (.object "java/lang/ModuleLayer"), accessFlags := 8, slot := 13, constantValue := 0 }]
  methods := #[k20m0, k20m1]
  instanceTypes := #[]
  staticTypes := #[(.object "java/io/InputStream"), (.object "java/io/PrintStream"), (.object "java/io/PrintStream"), (.object "java/io/InputStream"), .int, .int, .int, (.object "java/lang/SecurityManager"), (.object "java/lang/String"), (.object "java/io/Console"), (.object "java/io/PrintStream"), (.object "java/util/Properties"), (.object "java/lang/String"), (.object "java/lang/ModuleLayer")]
  resolved := Array.replicate 834 none
  statics := none }

def pool21 : Array CpInfo := pool [(3, .class_ 4), (0, u "java/lang/String"), (1, .class_ 8), (1, u "java/lang/Object"), (0, u "<init>"), (0, u "()V"), (0, .methodref 12 13), (0, .class_ 14), (0, .nameAndType 15 16), (0, u "java/lang/StringUTF16"), (0, u "newBytesLength"), (0, u "(I)I"), (3, .integer 1073741823), (23, .fieldref 12 45), (0, .nameAndType 46 47), (0, u "$assertionsDisabled"), (0, u "Z"), (0, .methodref 12 49), (0, .nameAndType 50 51), (0, u "length"), (0, u "([B)I"), (7, .fieldref 12 60), (0, .nameAndType 61 62), (0, u "HI_BYTE_SHIFT"), (0, u "I"), (0, .fieldref 12 64), (0, .nameAndType 65 62), (0, u "LO_BYTE_SHIFT"), (1, .methodref 12 68), (0, .nameAndType 69 70), (0, u "checkIndex"), (0, u "(I[B)V"), (0, .methodref 12 72), (0, .nameAndType 73 74), (0, u "getChar"), (0, u "([BI)C"), (21, .methodref 12 97), (0, .nameAndType 98 99), (0, u "checkBoundsBeginEnd"), (0, u "(II[B)V"), (9, u "newBytesFor"), (0, u "(I)[B"), (0, .methodref 12 112), (0, .nameAndType 113 114), (0, u "putChar"), (0, u "([BII)V"), (25, u "inflate"), (0, u "([BI[BII)V"), (31, .methodref 12 174), (0, .nameAndType 175 99), (0, u "checkBoundsOffCount"), (65, .methodref 3 242), (0, .nameAndType 98 243), (0, u "(III)V"), (37, u "(III)I"), (87, .class_ 371), (1, u "java/lang/StringUTF16$LinesSpliterator"), (12, .methodref 12 385), (0, .nameAndType 386 387), (0, u "putChars"), (0, u "([BI[CII)V"), (4, u "charAt"), (21, .methodref 3 415), (0, .nameAndType 69 416), (0, u "(II)V"), (2, .methodref 3 420), (0, .nameAndType 175 281), (9, u "MAX_LENGTH"), (155, u "putCharSB"), (0, u "putCharsSB"), (39, .class_ 628), (0, u "java/lang/StringUTF16$CodePointsSpliterator"), (0, .class_ 630), (0, u "java/lang/StringUTF16$CharsSpliterator")] 4

def k21m0 : Method := { name := "<init>", desc := "()V", sig := { parameters := [], returnType := none }, accessFlags := 0, code := none }
def k21c1 : Code := { maxStack := 1, maxLocals := 1, code := jdk_52_method_2_code, exceptionTable := #[], attributes := #[] }
def k21m1 : Method := { name := "newBytesFor", desc := "(I)[B", sig := { parameters := [.int], returnType := some (.array .byte) }, accessFlags := 9, code := some k21c1 }
def k21c2 : Code := { maxStack := 4, maxLocals := 1, code := jdk_52_method_3_code, exceptionTable := #[], attributes := #[] }
def k21m2 : Method := { name := "newBytesLength", desc := "(I)I", sig := { parameters := [.int], returnType := some .int }, accessFlags := 9, code := some k21c2 }
def k21c3 : Code := { maxStack := 4, maxLocals := 3, code := jdk_52_method_4_code, exceptionTable := #[], attributes := #[] }
def k21m3 : Method := { name := "putChar", desc := "([BII)V", sig := { parameters := [(.array .byte), .int, .int], returnType := none }, accessFlags := 8, code := some k21c3 }
def k21c4 : Code := { maxStack := 3, maxLocals := 2, code := jdk_52_method_5_code, exceptionTable := #[], attributes := #[] }
def k21m4 : Method := { name := "getChar", desc := "([BI)C", sig := { parameters := [(.array .byte), .int], returnType := some .char }, accessFlags := 8, code := some k21c4 }
def k21c5 : Code := { maxStack := 2, maxLocals := 1, code := jdk_52_method_6_code, exceptionTable := #[], attributes := #[] }
def k21m5 : Method := { name := "length", desc := "([B)I", sig := { parameters := [(.array .byte)], returnType := some .int }, accessFlags := 9, code := some k21c5 }
def k21c6 : Code := { maxStack := 4, maxLocals := 5, code := jdk_52_method_68_code, exceptionTable := #[], attributes := #[] }
def k21m6 : Method := { name := "putChars", desc := "([BI[CII)V", sig := { parameters := [(.array .byte), .int, (.array .char), .int, .int], returnType := none }, accessFlags := 10, code := some k21c6 }
def k21c7 : Code := { maxStack := 3, maxLocals := 3, code := jdk_52_method_71_code, exceptionTable := #[], attributes := #[] }
def k21m7 : Method := { name := "putCharSB", desc := "([BII)V", sig := { parameters := [(.array .byte), .int, .int], returnType := none }, accessFlags := 9, code := some k21c7 }
def k21c8 : Code := { maxStack := 5, maxLocals := 5, code := jdk_52_method_72_code, exceptionTable := #[], attributes := #[] }
def k21m8 : Method := { name := "putCharsSB", desc := "([BI[CII)V", sig := { parameters := [(.array .byte), .int, (.array .char), .int, .int], returnType := none }, accessFlags := 9, code := some k21c8 }
def k21c9 : Code := { maxStack := 2, maxLocals := 2, code := jdk_52_method_83_code, exceptionTable := #[], attributes := #[] }
def k21m9 : Method := { name := "charAt", desc := "([BI)C", sig := { parameters := [(.array .byte), .int], returnType := some .char }, accessFlags := 9, code := some k21c9 }
def k21c10 : Code := { maxStack := 4, maxLocals := 6, code := jdk_52_method_86_code, exceptionTable := #[], attributes := #[] }
def k21m10 : Method := { name := "inflate", desc := "([BI[BII)V", sig := { parameters := [(.array .byte), .int, (.array .byte), .int, .int], returnType := none }, accessFlags := 9, code := some k21c10 }
def k21c11 : Code := { maxStack := 2, maxLocals := 2, code := jdk_52_method_91_code, exceptionTable := #[], attributes := #[] }
def k21m11 : Method := { name := "checkIndex", desc := "(I[B)V", sig := { parameters := [.int, (.array .byte)], returnType := none }, accessFlags := 9, code := some k21c11 }
def k21c12 : Code := { maxStack := 3, maxLocals := 3, code := jdk_52_method_93_code, exceptionTable := #[], attributes := #[] }
def k21m12 : Method := { name := "checkBoundsBeginEnd", desc := "(II[B)V", sig := { parameters := [.int, .int, (.array .byte)], returnType := none }, accessFlags := 9, code := some k21c12 }
def k21c13 : Code := { maxStack := 3, maxLocals := 3, code := jdk_52_method_94_code, exceptionTable := #[], attributes := #[] }
def k21m13 : Method := { name := "checkBoundsOffCount", desc := "(II[B)V", sig := { parameters := [.int, .int, (.array .byte)], returnType := none }, accessFlags := 9, code := some k21c13 }
/-- java/lang/StringUTF16 -/
def k21 : Class := { plain "java/lang/StringUTF16" (some 0) with
  accessFlags := 48
  interfaces := #[]
  cf := some (fileOf pool21 12 #[.nestMembers #[627, 629, 369]] #[{ accessFlags := 0, nameIndex := 9, descriptorIndex := 10, attributes := #[] }, { accessFlags := 9, nameIndex := 109, descriptorIndex := 110, attributes := #[] }, { accessFlags := 9, nameIndex := 15, descriptorIndex := 16, attributes := #[] }, { accessFlags := 8, nameIndex := 113, descriptorIndex := 114, attributes := #[] }, { accessFlags := 8, nameIndex := 73, descriptorIndex := 74, attributes := #[] }, { accessFlags := 9, nameIndex := 50, descriptorIndex := 51, attributes := #[] }, { accessFlags := 10, nameIndex := 386, descriptorIndex := 387, attributes := #[] }, { accessFlags := 9, nameIndex := 586, descriptorIndex := 114, attributes := #[] }, { accessFlags := 9, nameIndex := 587, descriptorIndex := 387, attributes := #[] }, { accessFlags := 9, nameIndex := 392, descriptorIndex := 74, attributes := #[] }, { accessFlags := 9, nameIndex := 140, descriptorIndex := 141, attributes := #[] }, { accessFlags := 9, nameIndex := 69, descriptorIndex := 70, attributes := #[] }, { accessFlags := 9, nameIndex := 98, descriptorIndex := 99, attributes := #[] }, { accessFlags := 9, nameIndex := 175, descriptorIndex := 99, attributes := #[] }] 48 6 #[] #[{ accessFlags := 26, nameIndex := 61, descriptorIndex := 62, attributes := #[] }, { accessFlags := 26, nameIndex := 65, descriptorIndex := 62, attributes := #[] }, { accessFlags := 24, nameIndex := 430, descriptorIndex := 62, attributes := #[] }, { accessFlags := 4120, nameIndex := 46, descriptorIndex := 47, attributes := #[] }])
  fields := #[{ name := "HI_BYTE_SHIFT", type := .int, accessFlags := 26, slot := 0, constantValue := 0 }, { name := "LO_BYTE_SHIFT", type := .int, accessFlags := 26, slot := 1, constantValue := 0 }, { name := "MAX_LENGTH", type := .int, accessFlags := 24, slot := 2, constantValue := 0 }, { name := "$assertionsDisabled", type := .boolean, accessFlags := 4120, slot := 3, constantValue := 0 }]
  methods := #[k21m0, k21m1, k21m2, k21m3, k21m4, k21m5, k21m6, k21m7, k21m8, k21m9, k21m10, k21m11, k21m12, k21m13]
  instanceTypes := #[]
  staticTypes := #[.int, .int, .int, .boolean]
  resolved := Array.replicate 635 none
  statics := some 2 }

def pool22 : Array CpInfo := pool [(9, u "<init>"), (6, .class_ 18), (1, u "java/lang/Object"), (0, u "()V"), (1, .class_ 23), (1, u "jdk/internal/util/ArraysSupport"), (0, u "LOG2_ARRAY_LONG_INDEX_SCALE"), (0, u "I"), (2, u "U"), (0, u "Ljdk/internal/misc/Unsafe;"), (8, u "BIG_ENDIAN"), (0, u "Z"), (8, u "LOG2_BYTE_BIT_SIZE"), (4, u "LOG2_ARRAY_INT_INDEX_SCALE"), (54, u "JLA"), (0, u "Ljdk/internal/access/JavaLangAccess;"), (11, u "LOG2_ARRAY_BOOLEAN_INDEX_SCALE"), (9, u "LOG2_ARRAY_BYTE_INDEX_SCALE"), (5, u "LOG2_ARRAY_CHAR_INDEX_SCALE"), (5, u "LOG2_ARRAY_SHORT_INDEX_SCALE"), (18, u "LOG2_ARRAY_FLOAT_INDEX_SCALE"), (24, u "LOG2_ARRAY_DOUBLE_INDEX_SCALE"), (89, u "T_BOOLEAN"), (2, u "T_CHAR"), (1, u "T_FLOAT"), (1, u "T_DOUBLE"), (1, u "T_BYTE"), (1, u "T_SHORT"), (1, u "T_INT"), (1, u "T_LONG"), (1, u "SOFT_MAX_ARRAY_LENGTH")] 83

def k22m0 : Method := { name := "<init>", desc := "()V", sig := { parameters := [], returnType := none }, accessFlags := 2, code := none }
/-- jdk/internal/util/ArraysSupport -/
def k22 : Class := { plain "jdk/internal/util/ArraysSupport" (some 0) with
  accessFlags := 33
  interfaces := #[]
  cf := some (fileOf pool22 21 #[] #[{ accessFlags := 2, nameIndex := 9, descriptorIndex := 19, attributes := #[] }] 33 16 #[] #[{ accessFlags := 24, nameIndex := 28, descriptorIndex := 29, attributes := #[] }, { accessFlags := 26, nameIndex := 38, descriptorIndex := 39, attributes := #[] }, { accessFlags := 25, nameIndex := 121, descriptorIndex := 25, attributes := #[] }, { accessFlags := 25, nameIndex := 131, descriptorIndex := 25, attributes := #[] }, { accessFlags := 25, nameIndex := 137, descriptorIndex := 25, attributes := #[] }, { accessFlags := 25, nameIndex := 143, descriptorIndex := 25, attributes := #[] }, { accessFlags := 25, nameIndex := 53, descriptorIndex := 25, attributes := #[] }, { accessFlags := 25, nameIndex := 24, descriptorIndex := 25, attributes := #[] }, { accessFlags := 25, nameIndex := 162, descriptorIndex := 25, attributes := #[] }, { accessFlags := 25, nameIndex := 187, descriptorIndex := 25, attributes := #[] }, { accessFlags := 26, nameIndex := 48, descriptorIndex := 25, attributes := #[] }, { accessFlags := 25, nameIndex := 277, descriptorIndex := 25, attributes := #[] }, { accessFlags := 25, nameIndex := 280, descriptorIndex := 25, attributes := #[] }, { accessFlags := 25, nameIndex := 282, descriptorIndex := 25, attributes := #[] }, { accessFlags := 25, nameIndex := 284, descriptorIndex := 25, attributes := #[] }, { accessFlags := 25, nameIndex := 286, descriptorIndex := 25, attributes := #[] }, { accessFlags := 25, nameIndex := 288, descriptorIndex := 25, attributes := #[] }, { accessFlags := 25, nameIndex := 290, descriptorIndex := 25, attributes := #[] }, { accessFlags := 25, nameIndex := 292, descriptorIndex := 25, attributes := #[] }, { accessFlags := 26, nameIndex := 108, descriptorIndex := 109, attributes := #[] }, { accessFlags := 25, nameIndex := 294, descriptorIndex := 25, attributes := #[] }])
  fields := #[{ name := "U", type := (.object "jdk/internal/misc/Unsafe"), accessFlags := 24, slot := 0, constantValue := 0 }, { name := "BIG_ENDIAN", type := .boolean, accessFlags := 26, slot := 1, constantValue := 0 }, { name := "LOG2_ARRAY_BOOLEAN_INDEX_SCALE", type := .int, accessFlags := 25, slot := 2, constantValue := 0 }, { name := "LOG2_ARRAY_BYTE_INDEX_SCALE", type := .int, accessFlags := 25, slot := 3, constantValue := 0 }, { name := "LOG2_ARRAY_CHAR_INDEX_SCALE", type := .int, accessFlags := 25, slot := 4, constantValue := 0 }, { name := "LOG2_ARRAY_SHORT_INDEX_SCALE", type := .int, accessFlags := 25, slot := 5, constantValue := 0 }, { name := "LOG2_ARRAY_INT_INDEX_SCALE", type := .int, accessFlags := 25, slot := 6, constantValue := 0 }, { name := "LOG2_ARRAY_LONG_INDEX_SCALE", type := .int, accessFlags := 25, slot := 7, constantValue := 0 }, { name := "LOG2_ARRAY_FLOAT_INDEX_SCALE", type := .int, accessFlags := 25, slot := 8, constantValue := 0 }, { name := "LOG2_ARRAY_DOUBLE_INDEX_SCALE", type := .int, accessFlags := 25, slot := 9, constantValue := 0 }, { name := "LOG2_BYTE_BIT_SIZE", type := .int, accessFlags := 26, slot := 10, constantValue := 0 }, { name := "T_BOOLEAN", type := .int, accessFlags := 25, slot := 11, constantValue := 0 }, { name := "T_CHAR", type := .int, accessFlags := 25, slot := 12, constantValue := 0 }, { name := "T_FLOAT", type := .int, accessFlags := 25, slot := 13, constantValue := 0 }, { name := "T_DOUBLE", type := .int, accessFlags := 25, slot := 14, constantValue := 0 }, { name := "T_BYTE", type := .int, accessFlags := 25, slot := 15, constantValue := 0 }, { name := "T_SHORT", type := .int, accessFlags := 25, slot := 16, constantValue := 0 }, { name := "T_INT", type := .int, accessFlags := 25, slot := 17, constantValue := 0 }, { name := "T_LONG", type := .int, accessFlags := 25, slot := 18, constantValue := 0 }, { name := "JLA", type := (.object "jdk/internal/access/JavaLangAccess"), accessFlags := 26, slot := 19, constantValue := 0 }, { name := "SOFT_MAX_ARRAY_LENGTH", type := .int, accessFlags := 25, slot := 20, constantValue := 0 }]
  methods := #[k22m0]
  instanceTypes := #[]
  staticTypes := #[(.object "jdk/internal/misc/Unsafe"), .boolean, .int, .int, .int, .int, .int, .int, .int, .int, .int, .int, .int, .int, .int, .int, .int, .int, .int, (.object "jdk/internal/access/JavaLangAccess"), .int]
  resolved := Array.replicate 378 none
  statics := none }

def pool23 : Array CpInfo := pool [(1, u "java/lang/Cloneable"), (0, .class_ 1), (0, u "java/lang/Object"), (0, .class_ 3)] 3

/-- java/lang/Cloneable -/
def k23 : Class := { plain "java/lang/Cloneable" (some 0) with
  accessFlags := 1537
  interfaces := #[]
  cf := some (fileOf pool23 2 #[] #[] 1537 4 #[] #[])
  fields := #[]
  methods := #[]
  instanceTypes := #[]
  staticTypes := #[]
  resolved := Array.replicate 8 none
  statics := none }

/-- the primitive byte -/
def k24 : Class := { plain "byte" none with kind := .primitive 'B', accessFlags := 0x411 }
/-- [B -/
def k25 : Class := { plain "[B" (some 0) with kind := .array 24 .byte, interfaces := #[23, 10], accessFlags := 1041 }

/-- the primitive char -/
def k26 : Class := { plain "char" none with kind := .primitive 'C', accessFlags := 0x411 }
/-- [C -/
def k27 : Class := { plain "[C" (some 0) with kind := .array 26 .char, interfaces := #[23, 10], accessFlags := 1041 }

/-- the primitive int -/
def k28 : Class := { plain "int" none with kind := .primitive 'I', accessFlags := 0x411 }
/-- [I -/
def k29 : Class := { plain "[I" (some 0) with kind := .array 28 .int, interfaces := #[23, 10], accessFlags := 1041 }

def heap : Heap := #[{ cls := 15, slots := #[.long 0, .int 1, .null, .int 0, .null, .int 0, .int 0], vm := .statics 15 },
  { cls := 16, slots := #[.null, .null, .null], vm := .statics 16 },
  { cls := 21, slots := #[.int 0, .int 8, .int 0, .int 1], vm := .statics 21 }]
def classes : Array Class := #[k0, k1, k2, k3, k4, k5, k6, k7, k8, k9, k10, k11, k12, k13, k14, k15, k16, k17, k18, k19, k20, k21, k22, k23, k24, k25, k26, k27, k28, k29]
def interned : List (Array UInt16 × Addr) := []
def slotsUsed : Nat := 14
def theMethod : MethodId := ⟨1, 1⟩
def args0 : Array Value := #[.int 5, .int 5, .int 5, .int 5, .int 5]
def aboutOver (below : List Frame) : State where
  vm := { classes := classes, interned := interned.toArray }
  heap := heap
  slotsUsed := slotsUsed
  threads := #[{ frames := .invoking theMethod args0 :: below }]
def below0 : List Frame := [.native { method := ⟨0, 0⟩, args := #[] }]
def about1 : State := aboutOver below0
def p0 : Program := .bare "" "" ""
def e0 : Env := launch0.env 0 0 0
theorem w_frames : about1.frames = Frame.invoking theMethod args0 :: below0 := rfl
set_option maxRecDepth 65536 in
theorem w_args : argsFit about1.vm theMethod args0 = true := by decide +kernel
set_option maxRecDepth 65536 in
theorem w_heap : heapFits about1 = true := by decide +kernel
set_option maxRecDepth 65536 in
theorem w_runnable : about1.curStatus? = some .runnable := by decide +kernel
set_option maxRecDepth 65536 in
theorem w_alone : about1.alone = true := by decide +kernel
set_option maxRecDepth 65536 in
theorem w_named : about1.methodNamed? x = some theMethod := by decide +kernel
set_option maxRecDepth 65536 in
theorem w_hears : about1.hears theMethod below0 = true := by decide +kernel
set_option maxRecDepth 65536 in
theorem w_ripe : about1.ripe theMethod args0 below0 = true := by decide +kernel
theorem w_running : about1.status = .running := rfl
set_option maxRecDepth 65536 in
theorem w_room : about1.hasRoom e0.platform room_1 = true :=
  launch0.hasRoom_least _ room_1 (by decide +kernel) (by decide +kernel) (by decide +kernel) (by decide +kernel) (by decide +kernel) (by decide +kernel)
theorem allAtoms_all (ts : List Jvm.Cond) (a : Array Jvm.Value) (st : Jvm.State) : (allAtoms ts).before a st = ts.all (fun c => c.before a st) := by
  induction ts with
  | nil => rfl
  | cons c t ih =>
    show (Jvm.Cond.and c (allAtoms t)).before a st = _
    rw [Jvm.Cond.before_and, ih, List.all_cons]
def words1 : List Jvm.Cond := Jvm.Cond.code x code maxLocals ret :: tables_1
/-- a 'code' word, met by the world's own term for the bytes: nothing is compared byte by byte -/
theorem code_word {y : MethodName} {bytes : ByteArray} {mx : Nat} {rt : Option FieldType} {a : Array Value} {s : State} {m : MethodId} {meth : Method} {c : Code} (h1 : s.methodNamed? y = some m) (h2 : s.vm.method? m = some meth) (h3 : meth.code = some c) (h4 : c.code = bytes)
    (h5 : (c.maxLocals == mx && c.exceptionTable.isEmpty && decide (c.maxStack ≤ mostOperands) && decide (meth.sig.returnType = rt) && !meth.locks && decide (parseMethodDescriptor y.desc = some meth.sig)) = true) : (Jvm.Cond.code y bytes mx rt).before a s = true := by
  simp only [Bool.and_eq_true, beq_iff_eq, Bool.not_eq_true', decide_eq_true_eq] at h5
  obtain ⟨⟨⟨⟨⟨g1, g2⟩, g3⟩, g4⟩, g5⟩, g6⟩ := h5
  simp [Cond.before, Cond.holds, Cond.value, h1, h2, h3, h4, g1, g2, g3, g4, g5, g6]
def isCode : Jvm.Cond → Bool
  | .code _ _ _ _ => true
  | _ => false
theorem all_split {L : List Jvm.Cond} {P : Jvm.Cond → Bool} (h1 : L.all (fun c => isCode c || P c) = true) (h2 : ∀ c ∈ L.filter isCode, P c = true) : L.all P = true := by
  refine List.all_eq_true.mpr fun c hc => ?_
  have h := List.all_eq_true.mp h1 c hc
  rcases Bool.eq_false_or_eq_true (isCode c) with hi | hi
  · exact h2 c (List.mem_filter.mpr ⟨hc, hi⟩)
  · simpa [hi] using h
set_option maxRecDepth 65536 in
theorem w_c0 : (Jvm.Cond.code x code maxLocals ret).before args0 about1 = true := code_word (m := ⟨1, 1⟩) (meth := k1m1) (c := k1c1) (by decide +kernel) rfl rfl rfl (by decide +kernel)
set_option maxRecDepth 65536 in
theorem w_c1 : (Jvm.Cond.code ({ cls := "com/example/hebelwerk/hebelwerk/core/Text", name := "<init>", desc := "()V" } : Jvm.MethodName) prog_16_method_1_code (1 : Nat) (Option.none : Option Jvm.ClassFile.FieldType)).before args0 about1 = true := code_word (m := ⟨7, 0⟩) (meth := k7m0) (c := k7c0) (by decide +kernel) rfl rfl rfl (by decide +kernel)
set_option maxRecDepth 65536 in
theorem w_c2 : (Jvm.Cond.code ({ cls := "java/io/Writer", name := "<init>", desc := "()V" } : Jvm.MethodName) jdk_2052_method_2_code (1 : Nat) (Option.none : Option Jvm.ClassFile.FieldType)).before args0 about1 = true := code_word (m := ⟨6, 0⟩) (meth := k6m0) (c := k6c0) (by decide +kernel) rfl rfl rfl (by decide +kernel)
set_option maxRecDepth 65536 in
theorem w_c3 : (Jvm.Cond.code ({ cls := "java/lang/Object", name := "<init>", desc := "()V" } : Jvm.MethodName) object_method_1_code (1 : Nat) (Option.none : Option Jvm.ClassFile.FieldType)).before args0 about1 = true := code_word (m := ⟨0, 0⟩) (meth := k0m0) (c := k0c0) (by decide +kernel) rfl rfl rfl (by decide +kernel)
set_option maxRecDepth 65536 in
theorem w_c4 : (Jvm.Cond.code ({ cls := "java/lang/StringBuilder", name := "<init>", desc := "()V" } : Jvm.MethodName) jdk_67_method_1_code (1 : Nat) (Option.none : Option Jvm.ClassFile.FieldType)).before args0 about1 = true := code_word (m := ⟨12, 0⟩) (meth := k12m0) (c := k12c0) (by decide +kernel) rfl rfl rfl (by decide +kernel)
set_option maxRecDepth 65536 in
theorem w_c5 : (Jvm.Cond.code ({ cls := "java/lang/AbstractStringBuilder", name := "<init>", desc := "(I)V" } : Jvm.MethodName) jdk_68_method_2_code (2 : Nat) (Option.none : Option Jvm.ClassFile.FieldType)).before args0 about1 = true := code_word (m := ⟨9, 1⟩) (meth := k9m1) (c := k9c1) (by decide +kernel) rfl rfl rfl (by decide +kernel)
set_option maxRecDepth 65536 in
theorem w_c6 : (Jvm.Cond.code ({ cls := "com/example/hebelwerk/hebelwerk/core/Text", name := "write", desc := "([CII)V" } : Jvm.MethodName) prog_16_method_4_code (4 : Nat) (Option.none : Option Jvm.ClassFile.FieldType)).before args0 about1 = true := code_word (m := ⟨7, 2⟩) (meth := k7m2) (c := k7c2) (by decide +kernel) rfl rfl rfl (by decide +kernel)
set_option maxRecDepth 65536 in
theorem w_c7 : (Jvm.Cond.code ({ cls := "java/lang/StringBuilder", name := "append", desc := "([CII)Ljava/lang/StringBuilder;" } : Jvm.MethodName) jdk_67_method_12_code (4 : Nat) (Option.some (Jvm.ClassFile.FieldType.object "java/lang/StringBuilder"))).before args0 about1 = true := code_word (m := ⟨12, 1⟩) (meth := k12m1) (c := k12c1) (by decide +kernel) rfl rfl rfl (by decide +kernel)
set_option maxRecDepth 65536 in
theorem w_c8 : (Jvm.Cond.code ({ cls := "java/lang/AbstractStringBuilder", name := "append", desc := "([CII)Ljava/lang/AbstractStringBuilder;" } : Jvm.MethodName) jdk_68_method_29_code (5 : Nat) (Option.some (Jvm.ClassFile.FieldType.object "java/lang/AbstractStringBuilder"))).before args0 about1 = true := code_word (m := ⟨9, 5⟩) (meth := k9m5) (c := k9c5) (by decide +kernel) rfl rfl rfl (by decide +kernel)
set_option maxRecDepth 65536 in
theorem w_c9 : (Jvm.Cond.code ({ cls := "jdk/internal/util/Preconditions", name := "checkFromToIndex", desc := "(IIILjava/util/function/BiFunction;)I" } : Jvm.MethodName) jdk_41_method_12_code (4 : Nat) (Option.some Jvm.ClassFile.FieldType.int)).before args0 about1 = true := code_word (m := ⟨16, 2⟩) (meth := k16m2) (c := k16c2) (by decide +kernel) rfl rfl rfl (by decide +kernel)
set_option maxRecDepth 65536 in
theorem w_c10 : (Jvm.Cond.code ({ cls := "java/lang/AbstractStringBuilder", name := "ensureCapacityInternal", desc := "(I)V" } : Jvm.MethodName) jdk_68_method_9_code (3 : Nat) (Option.none : Option Jvm.ClassFile.FieldType)).before args0 about1 = true := code_word (m := ⟨9, 3⟩) (meth := k9m3) (c := k9c3) (by decide +kernel) rfl rfl rfl (by decide +kernel)
set_option maxRecDepth 65536 in
theorem w_c11 : (Jvm.Cond.code ({ cls := "java/lang/AbstractStringBuilder", name := "appendChars", desc := "([CII)V" } : Jvm.MethodName) jdk_68_method_74_code (9 : Nat) (Option.none : Option Jvm.ClassFile.FieldType)).before args0 about1 = true := code_word (m := ⟨9, 9⟩) (meth := k9m9) (c := k9c9) (by decide +kernel) rfl rfl rfl (by decide +kernel)
set_option maxRecDepth 65536 in
theorem w_c12 : (Jvm.Cond.code ({ cls := "java/lang/AbstractStringBuilder", name := "isLatin1", desc := "()Z" } : Jvm.MethodName) jdk_68_method_68_code (1 : Nat) (Option.some Jvm.ClassFile.FieldType.boolean)).before args0 about1 = true := code_word (m := ⟨9, 8⟩) (meth := k9m8) (c := k9c8) (by decide +kernel) rfl rfl rfl (by decide +kernel)
set_option maxRecDepth 65536 in
theorem w_c13 : (Jvm.Cond.code ({ cls := "java/lang/StringLatin1", name := "canEncode", desc := "(C)Z" } : Jvm.MethodName) jdk_43_method_3_code (1 : Nat) (Option.some Jvm.ClassFile.FieldType.boolean)).before args0 about1 = true := code_word (m := ⟨17, 2⟩) (meth := k17m2) (c := k17c2) (by decide +kernel) rfl rfl rfl (by decide +kernel)
set_option maxRecDepth 65536 in
theorem w_c14 : (Jvm.Cond.code ({ cls := "com/example/hebelwerk/hebelwerk/core/Text", name := "toString", desc := "()Ljava/lang/String;" } : Jvm.MethodName) prog_16_method_8_code (1 : Nat) (Option.some (Jvm.ClassFile.FieldType.object "java/lang/String"))).before args0 about1 = true := code_word (m := ⟨7, 3⟩) (meth := k7m3) (c := k7c3) (by decide +kernel) rfl rfl rfl (by decide +kernel)
set_option maxRecDepth 65536 in
theorem w_c15 : (Jvm.Cond.code ({ cls := "java/lang/StringBuilder", name := "toString", desc := "()Ljava/lang/String;" } : Jvm.MethodName) jdk_67_method_42_code (1 : Nat) (Option.some (Jvm.ClassFile.FieldType.object "java/lang/String"))).before args0 about1 = true := code_word (m := ⟨12, 3⟩) (meth := k12m3) (c := k12c3) (by decide +kernel) rfl rfl rfl (by decide +kernel)
set_option maxRecDepth 65536 in
theorem w_c16 : (Jvm.Cond.code ({ cls := "java/lang/String", name := "<init>", desc := "(Ljava/lang/StringBuilder;)V" } : Jvm.MethodName) jdk_42_method_53_code (2 : Nat) (Option.none : Option Jvm.ClassFile.FieldType)).before args0 about1 = true := code_word (m := ⟨15, 1⟩) (meth := k15m1) (c := k15c1) (by decide +kernel) rfl rfl rfl (by decide +kernel)
set_option maxRecDepth 65536 in
theorem w_c17 : (Jvm.Cond.code ({ cls := "java/lang/String", name := "<init>", desc := "(Ljava/lang/AbstractStringBuilder;Ljava/lang/Void;)V" } : Jvm.MethodName) jdk_42_method_150_code (5 : Nat) (Option.none : Option Jvm.ClassFile.FieldType)).before args0 about1 = true := code_word (m := ⟨15, 4⟩) (meth := k15m4) (c := k15c4) (by decide +kernel) rfl rfl rfl (by decide +kernel)
set_option maxRecDepth 65536 in
theorem w_c18 : (Jvm.Cond.code ({ cls := "java/lang/AbstractStringBuilder", name := "getValue", desc := "()[B" } : Jvm.MethodName) jdk_68_method_64_code (1 : Nat) (Option.some (Jvm.ClassFile.FieldType.array Jvm.ClassFile.FieldType.byte))).before args0 about1 = true := code_word (m := ⟨9, 7⟩) (meth := k9m7) (c := k9c7) (by decide +kernel) rfl rfl rfl (by decide +kernel)
set_option maxRecDepth 65536 in
theorem w_c19 : (Jvm.Cond.code ({ cls := "java/lang/StringBuilder", name := "length", desc := "()I" } : Jvm.MethodName) jdk_67_method_93_code (1 : Nat) (Option.some Jvm.ClassFile.FieldType.int)).before args0 about1 = true := code_word (m := ⟨12, 4⟩) (meth := k12m4) (c := k12c4) (by decide +kernel) rfl rfl rfl (by decide +kernel)
set_option maxRecDepth 65536 in
theorem w_c20 : (Jvm.Cond.code ({ cls := "java/lang/AbstractStringBuilder", name := "length", desc := "()I" } : Jvm.MethodName) jdk_68_method_6_code (1 : Nat) (Option.some Jvm.ClassFile.FieldType.int)).before args0 about1 = true := code_word (m := ⟨9, 2⟩) (meth := k9m2) (c := k9c2) (by decide +kernel) rfl rfl rfl (by decide +kernel)
set_option maxRecDepth 65536 in
theorem w_c21 : (Jvm.Cond.code ({ cls := "java/util/Arrays", name := "copyOfRange", desc := "([BII)[B" } : Jvm.MethodName) jdk_65_method_132_code (3 : Nat) (Option.some (Jvm.ClassFile.FieldType.array Jvm.ClassFile.FieldType.byte))).before args0 about1 = true := code_word (m := ⟨18, 2⟩) (meth := k18m2) (c := k18c2) (by decide +kernel) rfl rfl rfl (by decide +kernel)
set_option maxRecDepth 65536 in
theorem w_c22 : (Jvm.Cond.code ({ cls := "java/util/Arrays", name := "copyOfRangeByte", desc := "([BII)[B" } : Jvm.MethodName) jdk_65_method_133_code (5 : Nat) (Option.some (Jvm.ClassFile.FieldType.array Jvm.ClassFile.FieldType.byte))).before args0 about1 = true := code_word (m := ⟨18, 3⟩) (meth := k18m3) (c := k18c3) (by decide +kernel) rfl rfl rfl (by decide +kernel)
set_option maxRecDepth 65536 in
theorem w_c23 : (Jvm.Cond.code ({ cls := "java/util/Arrays", name := "checkLength", desc := "(II)V" } : Jvm.MethodName) jdk_65_method_131_code (2 : Nat) (Option.none : Option Jvm.ClassFile.FieldType)).before args0 about1 = true := code_word (m := ⟨18, 1⟩) (meth := k18m1) (c := k18c1) (by decide +kernel) rfl rfl rfl (by decide +kernel)
set_option maxRecDepth 65536 in
theorem w_c24 : (Jvm.Cond.code ({ cls := "java/lang/Math", name := "min", desc := "(II)I" } : Jvm.MethodName) jdk_29_method_69_code (2 : Nat) (Option.some Jvm.ClassFile.FieldType.int)).before args0 about1 = true := code_word (m := ⟨19, 1⟩) (meth := k19m1) (c := k19c1) (by decide +kernel) rfl rfl rfl (by decide +kernel)
set_option maxRecDepth 65536 in
theorem w_c25 : (Jvm.Cond.code ({ cls := "java/lang/String", name := "length", desc := "()I" } : Jvm.MethodName) jdk_42_method_54_code (1 : Nat) (Option.some Jvm.ClassFile.FieldType.int)).before args0 about1 = true := code_word (m := ⟨15, 2⟩) (meth := k15m2) (c := k15c2) (by decide +kernel) rfl rfl rfl (by decide +kernel)
set_option maxRecDepth 65536 in
theorem w_c26 : (Jvm.Cond.code ({ cls := "java/lang/String", name := "coder", desc := "()B" } : Jvm.MethodName) jdk_42_method_152_code (1 : Nat) (Option.some Jvm.ClassFile.FieldType.byte)).before args0 about1 = true := code_word (m := ⟨15, 5⟩) (meth := k15m5) (c := k15c5) (by decide +kernel) rfl rfl rfl (by decide +kernel)
set_option maxRecDepth 65536 in
theorem w_c27 : (Jvm.Cond.code ({ cls := "java/lang/String", name := "charAt", desc := "(I)C" } : Jvm.MethodName) jdk_42_method_56_code (2 : Nat) (Option.some Jvm.ClassFile.FieldType.char)).before args0 about1 = true := code_word (m := ⟨15, 3⟩) (meth := k15m3) (c := k15c3) (by decide +kernel) rfl rfl rfl (by decide +kernel)
set_option maxRecDepth 65536 in
theorem w_c28 : (Jvm.Cond.code ({ cls := "java/lang/String", name := "isLatin1", desc := "()Z" } : Jvm.MethodName) jdk_42_method_154_code (1 : Nat) (Option.some Jvm.ClassFile.FieldType.boolean)).before args0 about1 = true := code_word (m := ⟨15, 6⟩) (meth := k15m6) (c := k15c6) (by decide +kernel) rfl rfl rfl (by decide +kernel)
set_option maxRecDepth 65536 in
theorem w_c29 : (Jvm.Cond.code ({ cls := "java/lang/StringLatin1", name := "charAt", desc := "([BI)C" } : Jvm.MethodName) jdk_43_method_2_code (2 : Nat) (Option.some Jvm.ClassFile.FieldType.char)).before args0 about1 = true := code_word (m := ⟨17, 1⟩) (meth := k17m1) (c := k17c1) (by decide +kernel) rfl rfl rfl (by decide +kernel)
set_option maxRecDepth 65536 in
theorem w_c30 : (Jvm.Cond.code ({ cls := "java/lang/String", name := "checkIndex", desc := "(II)V" } : Jvm.MethodName) jdk_42_method_155_code (2 : Nat) (Option.none : Option Jvm.ClassFile.FieldType)).before args0 about1 = true := code_word (m := ⟨15, 7⟩) (meth := k15m7) (c := k15c7) (by decide +kernel) rfl rfl rfl (by decide +kernel)
set_option maxRecDepth 65536 in
theorem w_c31 : (Jvm.Cond.code ({ cls := "jdk/internal/util/Preconditions", name := "checkIndex", desc := "(IILjava/util/function/BiFunction;)I" } : Jvm.MethodName) jdk_41_method_11_code (3 : Nat) (Option.some Jvm.ClassFile.FieldType.int)).before args0 about1 = true := code_word (m := ⟨16, 1⟩) (meth := k16m1) (c := k16c1) (by decide +kernel) rfl rfl rfl (by decide +kernel)
set_option maxRecDepth 65536 in
theorem w_c32 : (Jvm.Cond.code ({ cls := "com/example/hebelwerk/hebelwerk/core/Text", name := "write", desc := "(I)V" } : Jvm.MethodName) prog_16_method_3_code (2 : Nat) (Option.none : Option Jvm.ClassFile.FieldType)).before args0 about1 = true := code_word (m := ⟨7, 1⟩) (meth := k7m1) (c := k7c1) (by decide +kernel) rfl rfl rfl (by decide +kernel)
set_option maxRecDepth 65536 in
theorem w_c33 : (Jvm.Cond.code ({ cls := "java/lang/StringBuilder", name := "append", desc := "(C)Ljava/lang/StringBuilder;" } : Jvm.MethodName) jdk_67_method_14_code (2 : Nat) (Option.some (Jvm.ClassFile.FieldType.object "java/lang/StringBuilder"))).before args0 about1 = true := code_word (m := ⟨12, 2⟩) (meth := k12m2) (c := k12c2) (by decide +kernel) rfl rfl rfl (by decide +kernel)
set_option maxRecDepth 65536 in
theorem w_c34 : (Jvm.Cond.code ({ cls := "java/lang/AbstractStringBuilder", name := "append", desc := "(C)Ljava/lang/AbstractStringBuilder;" } : Jvm.MethodName) jdk_68_method_31_code (2 : Nat) (Option.some (Jvm.ClassFile.FieldType.object "java/lang/AbstractStringBuilder"))).before args0 about1 = true := code_word (m := ⟨9, 6⟩) (meth := k9m6) (c := k9c6) (by decide +kernel) rfl rfl rfl (by decide +kernel)
set_option maxRecDepth 65536 in
theorem w_c35 : (Jvm.Cond.code ({ cls := "java/lang/AbstractStringBuilder", name := "inflate", desc := "()V" } : Jvm.MethodName) jdk_68_method_11_code (2 : Nat) (Option.none : Option Jvm.ClassFile.FieldType)).before args0 about1 = true := code_word (m := ⟨9, 4⟩) (meth := k9m4) (c := k9c4) (by decide +kernel) rfl rfl rfl (by decide +kernel)
set_option maxRecDepth 65536 in
theorem w_c36 : (Jvm.Cond.code ({ cls := "java/lang/StringUTF16", name := "newBytesFor", desc := "(I)[B" } : Jvm.MethodName) jdk_52_method_2_code (1 : Nat) (Option.some (Jvm.ClassFile.FieldType.array Jvm.ClassFile.FieldType.byte))).before args0 about1 = true := code_word (m := ⟨21, 1⟩) (meth := k21m1) (c := k21c1) (by decide +kernel) rfl rfl rfl (by decide +kernel)
set_option maxRecDepth 65536 in
theorem w_c37 : (Jvm.Cond.code ({ cls := "java/lang/StringUTF16", name := "newBytesLength", desc := "(I)I" } : Jvm.MethodName) jdk_52_method_3_code (1 : Nat) (Option.some Jvm.ClassFile.FieldType.int)).before args0 about1 = true := code_word (m := ⟨21, 2⟩) (meth := k21m2) (c := k21c2) (by decide +kernel) rfl rfl rfl (by decide +kernel)
set_option maxRecDepth 65536 in
theorem w_c38 : (Jvm.Cond.code ({ cls := "java/lang/StringLatin1", name := "inflate", desc := "([BI[BII)V" } : Jvm.MethodName) jdk_43_method_50_code (5 : Nat) (Option.none : Option Jvm.ClassFile.FieldType)).before args0 about1 = true := code_word (m := ⟨17, 3⟩) (meth := k17m3) (c := k17c3) (by decide +kernel) rfl rfl rfl (by decide +kernel)
set_option maxRecDepth 65536 in
theorem w_c39 : (Jvm.Cond.code ({ cls := "java/lang/StringUTF16", name := "inflate", desc := "([BI[BII)V" } : Jvm.MethodName) jdk_52_method_86_code (6 : Nat) (Option.none : Option Jvm.ClassFile.FieldType)).before args0 about1 = true := code_word (m := ⟨21, 10⟩) (meth := k21m10) (c := k21c10) (by decide +kernel) rfl rfl rfl (by decide +kernel)
set_option maxRecDepth 65536 in
theorem w_c40 : (Jvm.Cond.code ({ cls := "java/lang/StringUTF16", name := "checkBoundsOffCount", desc := "(II[B)V" } : Jvm.MethodName) jdk_52_method_94_code (3 : Nat) (Option.none : Option Jvm.ClassFile.FieldType)).before args0 about1 = true := code_word (m := ⟨21, 13⟩) (meth := k21m13) (c := k21c13) (by decide +kernel) rfl rfl rfl (by decide +kernel)
set_option maxRecDepth 65536 in
theorem w_c41 : (Jvm.Cond.code ({ cls := "java/lang/StringUTF16", name := "length", desc := "([B)I" } : Jvm.MethodName) jdk_52_method_6_code (1 : Nat) (Option.some Jvm.ClassFile.FieldType.int)).before args0 about1 = true := code_word (m := ⟨21, 5⟩) (meth := k21m5) (c := k21c5) (by decide +kernel) rfl rfl rfl (by decide +kernel)
set_option maxRecDepth 65536 in
theorem w_c42 : (Jvm.Cond.code ({ cls := "java/lang/String", name := "checkBoundsOffCount", desc := "(III)I" } : Jvm.MethodName) jdk_42_method_157_code (3 : Nat) (Option.some Jvm.ClassFile.FieldType.int)).before args0 about1 = true := code_word (m := ⟨15, 8⟩) (meth := k15m8) (c := k15c8) (by decide +kernel) rfl rfl rfl (by decide +kernel)
set_option maxRecDepth 65536 in
theorem w_c43 : (Jvm.Cond.code ({ cls := "jdk/internal/util/Preconditions", name := "checkFromIndexSize", desc := "(IIILjava/util/function/BiFunction;)I" } : Jvm.MethodName) jdk_41_method_13_code (4 : Nat) (Option.some Jvm.ClassFile.FieldType.int)).before args0 about1 = true := code_word (m := ⟨16, 3⟩) (meth := k16m3) (c := k16c3) (by decide +kernel) rfl rfl rfl (by decide +kernel)
set_option maxRecDepth 65536 in
theorem w_c44 : (Jvm.Cond.code ({ cls := "java/lang/StringUTF16", name := "putCharSB", desc := "([BII)V" } : Jvm.MethodName) jdk_52_method_71_code (3 : Nat) (Option.none : Option Jvm.ClassFile.FieldType)).before args0 about1 = true := code_word (m := ⟨21, 7⟩) (meth := k21m7) (c := k21c7) (by decide +kernel) rfl rfl rfl (by decide +kernel)
set_option maxRecDepth 65536 in
theorem w_c45 : (Jvm.Cond.code ({ cls := "java/lang/StringUTF16", name := "checkIndex", desc := "(I[B)V" } : Jvm.MethodName) jdk_52_method_91_code (2 : Nat) (Option.none : Option Jvm.ClassFile.FieldType)).before args0 about1 = true := code_word (m := ⟨21, 11⟩) (meth := k21m11) (c := k21c11) (by decide +kernel) rfl rfl rfl (by decide +kernel)
set_option maxRecDepth 65536 in
theorem w_c46 : (Jvm.Cond.code ({ cls := "java/lang/StringUTF16", name := "putChar", desc := "([BII)V" } : Jvm.MethodName) jdk_52_method_4_code (3 : Nat) (Option.none : Option Jvm.ClassFile.FieldType)).before args0 about1 = true := code_word (m := ⟨21, 3⟩) (meth := k21m3) (c := k21c3) (by decide +kernel) rfl rfl rfl (by decide +kernel)
set_option maxRecDepth 65536 in
theorem w_c47 : (Jvm.Cond.code ({ cls := "java/lang/StringUTF16", name := "putCharsSB", desc := "([BI[CII)V" } : Jvm.MethodName) jdk_52_method_72_code (5 : Nat) (Option.none : Option Jvm.ClassFile.FieldType)).before args0 about1 = true := code_word (m := ⟨21, 8⟩) (meth := k21m8) (c := k21c8) (by decide +kernel) rfl rfl rfl (by decide +kernel)
set_option maxRecDepth 65536 in
theorem w_c48 : (Jvm.Cond.code ({ cls := "java/lang/StringUTF16", name := "checkBoundsBeginEnd", desc := "(II[B)V" } : Jvm.MethodName) jdk_52_method_93_code (3 : Nat) (Option.none : Option Jvm.ClassFile.FieldType)).before args0 about1 = true := code_word (m := ⟨21, 12⟩) (meth := k21m12) (c := k21c12) (by decide +kernel) rfl rfl rfl (by decide +kernel)
set_option maxRecDepth 65536 in
theorem w_c49 : (Jvm.Cond.code ({ cls := "java/lang/String", name := "checkBoundsBeginEnd", desc := "(III)V" } : Jvm.MethodName) jdk_42_method_158_code (3 : Nat) (Option.none : Option Jvm.ClassFile.FieldType)).before args0 about1 = true := code_word (m := ⟨15, 9⟩) (meth := k15m9) (c := k15c9) (by decide +kernel) rfl rfl rfl (by decide +kernel)
set_option maxRecDepth 65536 in
theorem w_c50 : (Jvm.Cond.code ({ cls := "java/lang/StringUTF16", name := "putChars", desc := "([BI[CII)V" } : Jvm.MethodName) jdk_52_method_68_code (5 : Nat) (Option.none : Option Jvm.ClassFile.FieldType)).before args0 about1 = true := code_word (m := ⟨21, 6⟩) (meth := k21m6) (c := k21c6) (by decide +kernel) rfl rfl rfl (by decide +kernel)
set_option maxRecDepth 65536 in
theorem w_c51 : (Jvm.Cond.code ({ cls := "java/lang/StringUTF16", name := "charAt", desc := "([BI)C" } : Jvm.MethodName) jdk_52_method_83_code (2 : Nat) (Option.some Jvm.ClassFile.FieldType.char)).before args0 about1 = true := code_word (m := ⟨21, 9⟩) (meth := k21m9) (c := k21c9) (by decide +kernel) rfl rfl rfl (by decide +kernel)
set_option maxRecDepth 65536 in
theorem w_c52 : (Jvm.Cond.code ({ cls := "java/lang/StringUTF16", name := "getChar", desc := "([BI)C" } : Jvm.MethodName) jdk_52_method_5_code (2 : Nat) (Option.some Jvm.ClassFile.FieldType.char)).before args0 about1 = true := code_word (m := ⟨21, 4⟩) (meth := k21m4) (c := k21c4) (by decide +kernel) rfl rfl rfl (by decide +kernel)
def codes1 : List Jvm.Cond := [Jvm.Cond.code x code maxLocals ret, Jvm.Cond.code ({ cls := "com/example/hebelwerk/hebelwerk/core/Text", name := "<init>", desc := "()V" } : Jvm.MethodName) prog_16_method_1_code (1 : Nat) (Option.none : Option Jvm.ClassFile.FieldType), Jvm.Cond.code ({ cls := "java/io/Writer", name := "<init>", desc := "()V" } : Jvm.MethodName) jdk_2052_method_2_code (1 : Nat) (Option.none : Option Jvm.ClassFile.FieldType), Jvm.Cond.code ({ cls := "java/lang/Object", name := "<init>", desc := "()V" } : Jvm.MethodName) object_method_1_code (1 : Nat) (Option.none : Option Jvm.ClassFile.FieldType), Jvm.Cond.code ({ cls := "java/lang/StringBuilder", name := "<init>", desc := "()V" } : Jvm.MethodName) jdk_67_method_1_code (1 : Nat) (Option.none : Option Jvm.ClassFile.FieldType), Jvm.Cond.code ({ cls := "java/lang/AbstractStringBuilder", name := "<init>", desc := "(I)V" } : Jvm.MethodName) jdk_68_method_2_code (2 : Nat) (Option.none : Option Jvm.ClassFile.FieldType), Jvm.Cond.code ({ cls := "com/example/hebelwerk/hebelwerk/core/Text", name := "write", desc := "([CII)V" } : Jvm.MethodName) prog_16_method_4_code (4 : Nat) (Option.none : Option Jvm.ClassFile.FieldType), Jvm.Cond.code ({ cls := "java/lang/StringBuilder", name := "append", desc := "([CII)Ljava/lang/StringBuilder;" } : Jvm.MethodName) jdk_67_method_12_code (4 : Nat) (Option.some (Jvm.ClassFile.FieldType.object "java/lang/StringBuilder")), Jvm.Cond.code ({ cls := "java/lang/AbstractStringBuilder", name := "append", desc := "([CII)Ljava/lang/AbstractStringBuilder;" } : Jvm.MethodName) jdk_68_method_29_code (5 : Nat) (Option.some (Jvm.ClassFile.FieldType.object "java/lang/AbstractStringBuilder")), Jvm.Cond.code ({ cls := "jdk/internal/util/Preconditions", name := "checkFromToIndex", desc := "(IIILjava/util/function/BiFunction;)I" } : Jvm.MethodName) jdk_41_method_12_code (4 : Nat) (Option.some Jvm.ClassFile.FieldType.int), Jvm.Cond.code ({ cls := "java/lang/AbstractStringBuilder", name := "ensureCapacityInternal", desc := "(I)V" } : Jvm.MethodName) jdk_68_method_9_code (3 : Nat) (Option.none : Option Jvm.ClassFile.FieldType), Jvm.Cond.code ({ cls := "java/lang/AbstractStringBuilder", name := "appendChars", desc := "([CII)V" } : Jvm.MethodName) jdk_68_method_74_code (9 : Nat) (Option.none : Option Jvm.ClassFile.FieldType), Jvm.Cond.code ({ cls := "java/lang/AbstractStringBuilder", name := "isLatin1", desc := "()Z" } : Jvm.MethodName) jdk_68_method_68_code (1 : Nat) (Option.some Jvm.ClassFile.FieldType.boolean), Jvm.Cond.code ({ cls := "java/lang/StringLatin1", name := "canEncode", desc := "(C)Z" } : Jvm.MethodName) jdk_43_method_3_code (1 : Nat) (Option.some Jvm.ClassFile.FieldType.boolean), Jvm.Cond.code ({ cls := "com/example/hebelwerk/hebelwerk/core/Text", name := "toString", desc := "()Ljava/lang/String;" } : Jvm.MethodName) prog_16_method_8_code (1 : Nat) (Option.some (Jvm.ClassFile.FieldType.object "java/lang/String")), Jvm.Cond.code ({ cls := "java/lang/StringBuilder", name := "toString", desc := "()Ljava/lang/String;" } : Jvm.MethodName) jdk_67_method_42_code (1 : Nat) (Option.some (Jvm.ClassFile.FieldType.object "java/lang/String")), Jvm.Cond.code ({ cls := "java/lang/String", name := "<init>", desc := "(Ljava/lang/StringBuilder;)V" } : Jvm.MethodName) jdk_42_method_53_code (2 : Nat) (Option.none : Option Jvm.ClassFile.FieldType), Jvm.Cond.code ({ cls := "java/lang/String", name := "<init>", desc := "(Ljava/lang/AbstractStringBuilder;Ljava/lang/Void;)V" } : Jvm.MethodName) jdk_42_method_150_code (5 : Nat) (Option.none : Option Jvm.ClassFile.FieldType), Jvm.Cond.code ({ cls := "java/lang/AbstractStringBuilder", name := "getValue", desc := "()[B" } : Jvm.MethodName) jdk_68_method_64_code (1 : Nat) (Option.some (Jvm.ClassFile.FieldType.array Jvm.ClassFile.FieldType.byte)), Jvm.Cond.code ({ cls := "java/lang/StringBuilder", name := "length", desc := "()I" } : Jvm.MethodName) jdk_67_method_93_code (1 : Nat) (Option.some Jvm.ClassFile.FieldType.int), Jvm.Cond.code ({ cls := "java/lang/AbstractStringBuilder", name := "length", desc := "()I" } : Jvm.MethodName) jdk_68_method_6_code (1 : Nat) (Option.some Jvm.ClassFile.FieldType.int), Jvm.Cond.code ({ cls := "java/util/Arrays", name := "copyOfRange", desc := "([BII)[B" } : Jvm.MethodName) jdk_65_method_132_code (3 : Nat) (Option.some (Jvm.ClassFile.FieldType.array Jvm.ClassFile.FieldType.byte)), Jvm.Cond.code ({ cls := "java/util/Arrays", name := "copyOfRangeByte", desc := "([BII)[B" } : Jvm.MethodName) jdk_65_method_133_code (5 : Nat) (Option.some (Jvm.ClassFile.FieldType.array Jvm.ClassFile.FieldType.byte)), Jvm.Cond.code ({ cls := "java/util/Arrays", name := "checkLength", desc := "(II)V" } : Jvm.MethodName) jdk_65_method_131_code (2 : Nat) (Option.none : Option Jvm.ClassFile.FieldType), Jvm.Cond.code ({ cls := "java/lang/Math", name := "min", desc := "(II)I" } : Jvm.MethodName) jdk_29_method_69_code (2 : Nat) (Option.some Jvm.ClassFile.FieldType.int), Jvm.Cond.code ({ cls := "java/lang/String", name := "length", desc := "()I" } : Jvm.MethodName) jdk_42_method_54_code (1 : Nat) (Option.some Jvm.ClassFile.FieldType.int), Jvm.Cond.code ({ cls := "java/lang/String", name := "coder", desc := "()B" } : Jvm.MethodName) jdk_42_method_152_code (1 : Nat) (Option.some Jvm.ClassFile.FieldType.byte), Jvm.Cond.code ({ cls := "java/lang/String", name := "charAt", desc := "(I)C" } : Jvm.MethodName) jdk_42_method_56_code (2 : Nat) (Option.some Jvm.ClassFile.FieldType.char), Jvm.Cond.code ({ cls := "java/lang/String", name := "isLatin1", desc := "()Z" } : Jvm.MethodName) jdk_42_method_154_code (1 : Nat) (Option.some Jvm.ClassFile.FieldType.boolean), Jvm.Cond.code ({ cls := "java/lang/StringLatin1", name := "charAt", desc := "([BI)C" } : Jvm.MethodName) jdk_43_method_2_code (2 : Nat) (Option.some Jvm.ClassFile.FieldType.char), Jvm.Cond.code ({ cls := "java/lang/String", name := "checkIndex", desc := "(II)V" } : Jvm.MethodName) jdk_42_method_155_code (2 : Nat) (Option.none : Option Jvm.ClassFile.FieldType), Jvm.Cond.code ({ cls := "jdk/internal/util/Preconditions", name := "checkIndex", desc := "(IILjava/util/function/BiFunction;)I" } : Jvm.MethodName) jdk_41_method_11_code (3 : Nat) (Option.some Jvm.ClassFile.FieldType.int), Jvm.Cond.code ({ cls := "com/example/hebelwerk/hebelwerk/core/Text", name := "write", desc := "(I)V" } : Jvm.MethodName) prog_16_method_3_code (2 : Nat) (Option.none : Option Jvm.ClassFile.FieldType), Jvm.Cond.code ({ cls := "java/lang/StringBuilder", name := "append", desc := "(C)Ljava/lang/StringBuilder;" } : Jvm.MethodName) jdk_67_method_14_code (2 : Nat) (Option.some (Jvm.ClassFile.FieldType.object "java/lang/StringBuilder")), Jvm.Cond.code ({ cls := "java/lang/AbstractStringBuilder", name := "append", desc := "(C)Ljava/lang/AbstractStringBuilder;" } : Jvm.MethodName) jdk_68_method_31_code (2 : Nat) (Option.some (Jvm.ClassFile.FieldType.object "java/lang/AbstractStringBuilder")), Jvm.Cond.code ({ cls := "java/lang/AbstractStringBuilder", name := "inflate", desc := "()V" } : Jvm.MethodName) jdk_68_method_11_code (2 : Nat) (Option.none : Option Jvm.ClassFile.FieldType), Jvm.Cond.code ({ cls := "java/lang/StringUTF16", name := "newBytesFor", desc := "(I)[B" } : Jvm.MethodName) jdk_52_method_2_code (1 : Nat) (Option.some (Jvm.ClassFile.FieldType.array Jvm.ClassFile.FieldType.byte)), Jvm.Cond.code ({ cls := "java/lang/StringUTF16", name := "newBytesLength", desc := "(I)I" } : Jvm.MethodName) jdk_52_method_3_code (1 : Nat) (Option.some Jvm.ClassFile.FieldType.int), Jvm.Cond.code ({ cls := "java/lang/StringLatin1", name := "inflate", desc := "([BI[BII)V" } : Jvm.MethodName) jdk_43_method_50_code (5 : Nat) (Option.none : Option Jvm.ClassFile.FieldType), Jvm.Cond.code ({ cls := "java/lang/StringUTF16", name := "inflate", desc := "([BI[BII)V" } : Jvm.MethodName) jdk_52_method_86_code (6 : Nat) (Option.none : Option Jvm.ClassFile.FieldType), Jvm.Cond.code ({ cls := "java/lang/StringUTF16", name := "checkBoundsOffCount", desc := "(II[B)V" } : Jvm.MethodName) jdk_52_method_94_code (3 : Nat) (Option.none : Option Jvm.ClassFile.FieldType), Jvm.Cond.code ({ cls := "java/lang/StringUTF16", name := "length", desc := "([B)I" } : Jvm.MethodName) jdk_52_method_6_code (1 : Nat) (Option.some Jvm.ClassFile.FieldType.int), Jvm.Cond.code ({ cls := "java/lang/String", name := "checkBoundsOffCount", desc := "(III)I" } : Jvm.MethodName) jdk_42_method_157_code (3 : Nat) (Option.some Jvm.ClassFile.FieldType.int), Jvm.Cond.code ({ cls := "jdk/internal/util/Preconditions", name := "checkFromIndexSize", desc := "(IIILjava/util/function/BiFunction;)I" } : Jvm.MethodName) jdk_41_method_13_code (4 : Nat) (Option.some Jvm.ClassFile.FieldType.int), Jvm.Cond.code ({ cls := "java/lang/StringUTF16", name := "putCharSB", desc := "([BII)V" } : Jvm.MethodName) jdk_52_method_71_code (3 : Nat) (Option.none : Option Jvm.ClassFile.FieldType), Jvm.Cond.code ({ cls := "java/lang/StringUTF16", name := "checkIndex", desc := "(I[B)V" } : Jvm.MethodName) jdk_52_method_91_code (2 : Nat) (Option.none : Option Jvm.ClassFile.FieldType), Jvm.Cond.code ({ cls := "java/lang/StringUTF16", name := "putChar", desc := "([BII)V" } : Jvm.MethodName) jdk_52_method_4_code (3 : Nat) (Option.none : Option Jvm.ClassFile.FieldType), Jvm.Cond.code ({ cls := "java/lang/StringUTF16", name := "putCharsSB", desc := "([BI[CII)V" } : Jvm.MethodName) jdk_52_method_72_code (5 : Nat) (Option.none : Option Jvm.ClassFile.FieldType), Jvm.Cond.code ({ cls := "java/lang/StringUTF16", name := "checkBoundsBeginEnd", desc := "(II[B)V" } : Jvm.MethodName) jdk_52_method_93_code (3 : Nat) (Option.none : Option Jvm.ClassFile.FieldType), Jvm.Cond.code ({ cls := "java/lang/String", name := "checkBoundsBeginEnd", desc := "(III)V" } : Jvm.MethodName) jdk_42_method_158_code (3 : Nat) (Option.none : Option Jvm.ClassFile.FieldType), Jvm.Cond.code ({ cls := "java/lang/StringUTF16", name := "putChars", desc := "([BI[CII)V" } : Jvm.MethodName) jdk_52_method_68_code (5 : Nat) (Option.none : Option Jvm.ClassFile.FieldType), Jvm.Cond.code ({ cls := "java/lang/StringUTF16", name := "charAt", desc := "([BI)C" } : Jvm.MethodName) jdk_52_method_83_code (2 : Nat) (Option.some Jvm.ClassFile.FieldType.char), Jvm.Cond.code ({ cls := "java/lang/StringUTF16", name := "getChar", desc := "([BI)C" } : Jvm.MethodName) jdk_52_method_5_code (2 : Nat) (Option.some Jvm.ClassFile.FieldType.char)]
set_option maxRecDepth 65536 in
theorem codes_eq : words1.filter isCode = codes1 := rfl
theorem w_codes : ∀ c ∈ words1.filter isCode, c.before args0 about1 = true := by
  rw [codes_eq]
  intro c hc
  simp only [codes1, List.mem_cons, List.not_mem_nil, or_false] at hc
  rcases hc with rfl | rfl | rfl | rfl | rfl | rfl | rfl | rfl | rfl | rfl | rfl | rfl | rfl | rfl | rfl | rfl | rfl | rfl | rfl | rfl | rfl | rfl | rfl | rfl | rfl | rfl | rfl | rfl | rfl | rfl | rfl | rfl | rfl | rfl | rfl | rfl | rfl | rfl | rfl | rfl | rfl | rfl | rfl | rfl | rfl | rfl | rfl | rfl | rfl | rfl | rfl | rfl | rfl
  · exact w_c0
  · exact w_c1
  · exact w_c2
  · exact w_c3
  · exact w_c4
  · exact w_c5
  · exact w_c6
  · exact w_c7
  · exact w_c8
  · exact w_c9
  · exact w_c10
  · exact w_c11
  · exact w_c12
  · exact w_c13
  · exact w_c14
  · exact w_c15
  · exact w_c16
  · exact w_c17
  · exact w_c18
  · exact w_c19
  · exact w_c20
  · exact w_c21
  · exact w_c22
  · exact w_c23
  · exact w_c24
  · exact w_c25
  · exact w_c26
  · exact w_c27
  · exact w_c28
  · exact w_c29
  · exact w_c30
  · exact w_c31
  · exact w_c32
  · exact w_c33
  · exact w_c34
  · exact w_c35
  · exact w_c36
  · exact w_c37
  · exact w_c38
  · exact w_c39
  · exact w_c40
  · exact w_c41
  · exact w_c42
  · exact w_c43
  · exact w_c44
  · exact w_c45
  · exact w_c46
  · exact w_c47
  · exact w_c48
  · exact w_c49
  · exact w_c50
  · exact w_c51
  · exact w_c52
set_option maxRecDepth 65536 in
theorem w_t1 : (words1.take 24).all (fun c => isCode c || c.before args0 about1) = true := by decide +kernel
set_option maxRecDepth 65536 in
theorem w_t2 : ((words1.drop 24).take 24).all (fun c => isCode c || c.before args0 about1) = true := by decide +kernel
set_option maxRecDepth 65536 in
theorem w_t3 : (((words1.drop 24).drop 24).take 24).all (fun c => isCode c || c.before args0 about1) = true := by decide +kernel
set_option maxRecDepth 65536 in
theorem w_t4 : ((((words1.drop 24).drop 24).drop 24).take 24).all (fun c => isCode c || c.before args0 about1) = true := by decide +kernel
set_option maxRecDepth 65536 in
theorem w_t5 : (((((words1.drop 24).drop 24).drop 24).drop 24).take 24).all (fun c => isCode c || c.before args0 about1) = true := by decide +kernel
set_option maxRecDepth 65536 in
theorem w_t6 : ((((((words1.drop 24).drop 24).drop 24).drop 24).drop 24).take 24).all (fun c => isCode c || c.before args0 about1) = true := by decide +kernel
set_option maxRecDepth 65536 in
theorem w_t7 : (((((((words1.drop 24).drop 24).drop 24).drop 24).drop 24).drop 24).take 24).all (fun c => isCode c || c.before args0 about1) = true := by decide +kernel
set_option maxRecDepth 65536 in
theorem w_t8 : ((((((((words1.drop 24).drop 24).drop 24).drop 24).drop 24).drop 24).drop 24).take 24).all (fun c => isCode c || c.before args0 about1) = true := by decide +kernel
set_option maxRecDepth 65536 in
theorem w_t9 : (((((((((words1.drop 24).drop 24).drop 24).drop 24).drop 24).drop 24).drop 24).drop 24).take 24).all (fun c => isCode c || c.before args0 about1) = true := by decide +kernel
set_option maxRecDepth 65536 in
theorem w_t10 : ((((((((((words1.drop 24).drop 24).drop 24).drop 24).drop 24).drop 24).drop 24).drop 24).drop 24).take 24).all (fun c => isCode c || c.before args0 about1) = true := by decide +kernel
set_option maxRecDepth 65536 in
theorem w_t11 : ((((((((((words1.drop 24).drop 24).drop 24).drop 24).drop 24).drop 24).drop 24).drop 24).drop 24).drop 24).all (fun c => isCode c || c.before args0 about1) = true := by decide +kernel
theorem w_tables : (allAtoms (Jvm.Cond.code x code maxLocals ret :: tables_1)).before args0 about1 = true := by
  rw [allAtoms_all]
  show words1.all (fun c => c.before args0 about1) = true
  refine all_split ?_ w_codes
  rw [← List.take_append_drop 24 words1, List.all_append, w_t1, ← List.take_append_drop 24 (words1.drop 24), List.all_append, w_t2, ← List.take_append_drop 24 ((words1.drop 24).drop 24), List.all_append, w_t3, ← List.take_append_drop 24 (((words1.drop 24).drop 24).drop 24), List.all_append, w_t4, ← List.take_append_drop 24 ((((words1.drop 24).drop 24).drop 24).drop 24), List.all_append, w_t5, ← List.take_append_drop 24 (((((words1.drop 24).drop 24).drop 24).drop 24).drop 24), List.all_append, w_t6, ← List.take_append_drop 24 ((((((words1.drop 24).drop 24).drop 24).drop 24).drop 24).drop 24), List.all_append, w_t7, ← List.take_append_drop 24 (((((((words1.drop 24).drop 24).drop 24).drop 24).drop 24).drop 24).drop 24), List.all_append, w_t8, ← List.take_append_drop 24 ((((((((words1.drop 24).drop 24).drop 24).drop 24).drop 24).drop 24).drop 24).drop 24), List.all_append, w_t9, ← List.take_append_drop 24 (((((((((words1.drop 24).drop 24).drop 24).drop 24).drop 24).drop 24).drop 24).drop 24).drop 24), List.all_append, w_t10, w_t11]
  rfl
set_option maxRecDepth 65536 in
theorem w_rest : rest_1_c.before args0 about1 = true := by decide +kernel
set_option maxRecDepth 65536 in
theorem w_case : (Jvm.Cond.and given_1 narrow_1).before args0 about1 = true := by decide +kernel
theorem w_applies : (headSpec (Jvm.Cond.code x code maxLocals ret :: tables_1) room_1).applies x e0.platform about1 = true :=
  (Spec.applies_iff w_frames).mpr ⟨w_running, w_runnable, w_alone, w_named, w_hears, w_ripe, w_room, w_tables⟩
theorem atStart : AtStart classFile x code maxLocals ret World_1 tables_1 room_1 Calls_1 rest_1 Pre_1 launch0 p0 e0 about1 theMethod args0 below0 :=
  ⟨lists_1, trivial, launch0.admits_env _ _ _, launch0.least_env, fairChoices_fair.cas, fairChoices_fair.clock, w_frames, w_args, w_heap, w_applies, trivial, w_rest, w_case⟩
end start1
theorem witness_1 : WitnessClaimed_1 := ⟨start1.p0, start1.e0, start1.about1, start1.theMethod, start1.args0, start1.below0, start1.atStart⟩
end Jvm.Pilot.@@N@@
