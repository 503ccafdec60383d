import JvmDerived
import JvmDerived.Pilot.@@N@@Statement
import JvmDerived.Pilot.@@N@@Code
set_option linter.unusedVariables false
set_option linter.unusedSimpArgs false
namespace Jvm.RoadKit
open Sem ClassFile Op Lib Jvm.Stand Jvm.Free Jvm.LawKit
section New
variable {p : Program} {l : Launch} {e : Env} {R : Room} {s : State} {m : MethodId} {args : Array Value} {below : List Frame} {meth : Method} {c : Code} {T : State} {locs : List Loc} {cells slots : Nat}
theorem retI (X : Stand p l e R s m args below meth c T locs cells slots) (hx : p.tables.exec = Jvm.exec) {pc : Nat} {Ls : Array Slot} {z : Int32} {rest : List Value} (hret : meth.sig.returnType = some .int) (hd : decode c.code pc = .ok (.ireturn, 1)) {fs : List Frame}
    (hl : ∀ (f : JFrame) (acts : List Action), f.method = m → f.locked = none → f.entered = [] → (doReturn e (T.setTop f) acts (some (.int z))).1 = T.setFrames fs) : Steps p.tables e below (T.setTop (mkF m pc Ls (.int z :: rest))) (T.setFrames fs) := by
  have hm' : T.vm.method? m = some meth := X.method'
  have hn : narrow .int (.int z) = .int z := rfl
  show Steps p.tables e below (T.setTop { method := m, pc := pc, locals := Ls, stack := _ :: rest, locked := none }) _
  jvm_step X.here [X.here.top, hx, hd, hm', hret, hn]
  first | (intro acts; rw [hl _ acts rfl rfl rfl]) | rw [hl _ _ rfl rfl rfl]
  exact Steps.refl _
end New
end Jvm.RoadKit
/- laws to paste: Road.backV, Road.lenW, Road.chN, Road.codOf, chr8_lo8, lo8_mask, shr0, pair_says (cut by pick.py; bodies as the Statement names them) -/
namespace Jvm.Pilot.@@N@@
namespace StrChars
open Jvm Sem ClassFile Op Lib Jvm.Stand Jvm.Free.XT Jvm.Free.ALB Jvm.Free.JM Jvm.Free
open Jvm.Lib.Cold (StaticIs)
/-- a char array whose places are chars -/
def Ch (a : Addr) (A : Cell) (U : State) : Prop := Arr .char a A U ∧ Typed .char A
theorem Ch.mv {a : Addr} {A : Cell} {U U' : State} (h : Ch a A U) (hal : U.vm.Alike U'.vm) (hh : U'.heap = U.heap) : Ch a A U' := ⟨h.1.mv hal hh, h.2⟩
theorem Ch.keep {a : Addr} {A : Cell} {U U' : State} (h : Ch a A U) (hal : U.vm.Alike U'.vm) (hk : U'.heap[a]? = some A) : Ch a A U' := ⟨h.1.keep hal hk, h.2⟩
/-- what place i of a char[]'s cell holds -/
def cv (A : Cell) (i : Nat) : Int32 := match A.slots[i]? with | some (.int x) => x | _ => 0
theorem Ch.get {a : Addr} {A : Cell} {U : State} (h : Ch a A U) {i : Nat} (hi : i < A.slots.size) : A.slots[i]? = some (.int (cv A i)) := by
  have e := Array.getElem?_eq_getElem hi
  have f := h.2 i _ e
  unfold cv; rw [e]
  generalize A.slots[i] = v at f
  cases v <;> simp [fits] at f ⊢
/-- the byte that i2b leaves of a char -/
def lo8 (x : Int32) : Int32 := x.toInt8.toInt32
theorem fits_lo8 (y : Int32) : fits .byte (.int (lo8 y)) = true := by
  have h1 := y.toInt8.le_toInt
  have h2 := y.toInt8.toInt_lt
  simp only [lo8, fits, Bool.and_eq_true, decide_eq_true_eq, Int32.le_iff_toInt_le, Int8.toInt_toInt32, show (-128 : Int32).toInt = -128 from by decide, show (127 : Int32).toInt = 127 from by decide]
  omega
/-- A' is A but that each place j of lo .. hi - 1 holds f j -/
def Laid (A A' : Cell) (lo hi : Nat) (f : Nat → Value) : Prop := A'.cls = A.cls ∧ A'.vm = A.vm ∧ A'.slots.size = A.slots.size ∧ ∀ i, A'.slots[i]? = if lo ≤ i ∧ i < hi then some (f i) else A.slots[i]?
theorem Laid.zero (A : Cell) (lo : Nat) (f : Nat → Value) : Laid A A lo (lo + 0) f := ⟨rfl, rfl, rfl, fun i => by rw [if_neg (by omega)]⟩
theorem Laid.step {A Ak : Cell} {lo k : Nat} {f : Nat → Value} {v : Value} (h : Laid A Ak lo k f) (hlo : lo ≤ k) (hk : k < Ak.slots.size) (hv : v = f k) : Laid A (Ak.setSlot k v) lo (k + 1) f := by
  refine ⟨h.1, h.2.1, by simpa [Cell.setSlot] using h.2.2.1, fun i => ?_⟩
  by_cases e : k = i
  · subst e; rw [Cell.slots_setSlot_self v hk, if_pos (by omega), hv]
  · rw [Cell.slots_setSlot_ne v e, h.2.2.2 i]
    by_cases q : lo ≤ i ∧ i < k
    · rw [if_pos q, if_pos (by omega)]
    · rw [if_neg q, if_neg (by omega)]
def U16 : String := "java/lang/StringUTF16"
namespace Cmp5
def yN : MethodName := ⟨"java/lang/StringUTF16", "compress", "([CI[BII)I"⟩
abbrev yB : ByteArray := jdk_52_method_21_code
theorem d0 : decode yB 0 = .ok (.iconst 0, 1) := by decide +kernel
theorem d1 : decode yB 1 = .ok (.istore 5, 2) := by decide +kernel
theorem d3 : decode yB 3 = .ok (.iload 5, 2) := by decide +kernel
theorem d5 : decode yB 5 = .ok (.iload 4, 2) := by decide +kernel
theorem d7 : decode yB 7 = .ok (.if_icmp (.ge) 37, 3) := by decide +kernel
theorem d10 : decode yB 10 = .ok (.aload_n 0, 1) := by decide +kernel
theorem d11 : decode yB 11 = .ok (.iload_n 1, 1) := by decide +kernel
theorem d12 : decode yB 12 = .ok (.caload, 1) := by decide +kernel
theorem d13 : decode yB 13 = .ok (.istore 6, 2) := by decide +kernel
theorem d15 : decode yB 15 = .ok (.iload 6, 2) := by decide +kernel
theorem d17 : decode yB 17 = .ok (.sipush 255, 3) := by decide +kernel
theorem d20 : decode yB 20 = .ok (.if_icmp (.le) 6, 3) := by decide +kernel
theorem d26 : decode yB 26 = .ok (.aload_n 2, 1) := by decide +kernel
theorem d27 : decode yB 27 = .ok (.iload_n 3, 1) := by decide +kernel
theorem d28 : decode yB 28 = .ok (.iload 6, 2) := by decide +kernel
theorem d30 : decode yB 30 = .ok (.i2b, 1) := by decide +kernel
theorem d31 : decode yB 31 = .ok (.bastore, 1) := by decide +kernel
theorem d32 : decode yB 32 = .ok (.iinc 1 1, 3) := by decide +kernel
theorem d35 : decode yB 35 = .ok (.iinc 3 1, 3) := by decide +kernel
theorem d38 : decode yB 38 = .ok (.iinc 5 1, 3) := by decide +kernel
theorem d41 : decode yB 41 = .ok (.goto (-38), 3) := by decide +kernel
theorem d44 : decode yB 44 = .ok (.iload 4, 2) := by decide +kernel
theorem d46 : decode yB 46 = .ok (.ireturn, 1) := by decide +kernel
def site : List Cond := []
def tab : Cond := tabOf yN yB 7 (some .int) site
def P (b : Addr) (A : Cell) (d : Addr) (B : Cell) (o q len : Nat) (args : Array Value) (s : State) : Prop := args = #[.ref b, .int (Int32.ofNat o), .ref d, .int (Int32.ofNat q), .int (Int32.ofNat len)] ∧ Ch b A s ∧ Arr .byte d B s ∧ b ≠ d ∧ o + len ≤ A.slots.size ∧ q + len ≤ B.slots.size ∧ ∀ i, i < len → ¬ 255 < cv A (o + i)
def E (b : Addr) (A : Cell) (d : Addr) (B : Cell) (o q len : Nat) (r : Option Value) (s u : State) : Prop := r = some (.int (Int32.ofNat len)) ∧ ∃ B', Put d B' s u ∧ Laid B B' q (q + len) (fun j => Value.int (lo8 (cv A (o + (j - q)))))
/-- no char of the range above 255: len; the places written hold each char's low byte -/
theorem law (l : Launch) (b : Addr) (A : Cell) (d : Addr) (B : Cell) (o q len : Nat) : Law l yN 5 5 0 0 yB 7 (some .int) site (P b A d B o q len) (E b A d B o q len) (copyLocs d q len) 0 0 := by
  refine Law.of_walk (plainFor_of_name (by decide +kernel)) (by decide +kernel) (by decide +kernel) (by decide) (fun _ _ h => by rw [h.1]; rfl) (fun _ U U' hal hh h => ⟨h.1, h.2.1.mv hal hh, h.2.2.1.mv hal hh, h.2.2.2⟩) (fun r U U' V V' h1 hal h2 h => ⟨h.1, h.2.elim fun B' q => ⟨B', q.1.mv h1 h2, q.2⟩⟩) ?_
  intro p e s m args below meth c s₁ X0 hexec hbytes hml hret hlk hnm hown hh0 W hP
  obtain ⟨rfl, hA, hB, hne, l1, l2, hp⟩ := hP
  have c1 : Steps p.tables e below (s₁.setTop (entryFrame m #[.ref b, .int (Int32.ofNat o), .ref d, .int (Int32.ofNat q), .int (Int32.ofNat len)] 7)) (s₁.setTop (mkF m 0 #[.val (.ref b), .val (.int (Int32.ofNat o)), .val (.ref d), .val (.int (Int32.ofNat q)), .val (.int (Int32.ofNat len)), .unset, .unset] [])) := entry rfl
  have hA0 := hA.1.mv X0.warmed.alike hh0
  have hB0 := hB.mv X0.warmed.alike hh0
  have a31 := hA.1.2.2.2
  have c2 : Steps p.tables e below (s₁.setTop (entryFrame m #[.ref b, .int (Int32.ofNat o), .ref d, .int (Int32.ofNat q), .int (Int32.ofNat len)] 7)) (s₁.setTop (mkF m 3 #[.val (.ref b), .val (.int (Int32.ofNat o)), .val (.ref d), .val (.int (Int32.ofNat q)), .val (.int (Int32.ofNat len)), .val (.int 0), .unset] [])) := c1.trans (by
    refine iconstV X0.here hexec rfl 0 (hb hbytes d0) (by decide) ?_
    refine XS.istore X0.here hexec rfl (hb hbytes d1) rfl rfl ?_
    exact Steps.refl _)
  have loop : ∀ (r i : Nat), i + r = len → ∀ (z : Slot), (z = .unset ∨ ∃ w, z = .val w ∧ w.category = 1) → ∀ (Tl : State) (Bk : Cell), Stand p l e { frames := 0, locals := 0, cells := 0, slots := 0 } s m #[.ref b, .int (Int32.ofNat o), .ref d, .int (Int32.ofNat q), .int (Int32.ofNat len)] below meth c Tl ([] ++ copyLocs d q i) 0 0 → Put d Bk s₁ Tl → Laid B Bk q (q + i) (fun j => Value.int (lo8 (cv A (o + (j - q))))) →
      Steps p.tables e below (s₁.setTop (entryFrame m #[.ref b, .int (Int32.ofNat o), .ref d, .int (Int32.ofNat q), .int (Int32.ofNat len)] 7)) (Tl.setTop (mkF m 3 #[.val (.ref b), .val (.int (Int32.ofNat (o + i))), .val (.ref d), .val (.int (Int32.ofNat (q + i))), .val (.int (Int32.ofNat len)), .val (.int (Int32.ofNat i)), z] [])) → ∃ (T' : State) (B' : Cell) (z' : Slot), Stand p l e { frames := 0, locals := 0, cells := 0, slots := 0 } s m #[.ref b, .int (Int32.ofNat o), .ref d, .int (Int32.ofNat q), .int (Int32.ofNat len)] below meth c T' ([] ++ copyLocs d q len) 0 0 ∧ Put d B' s₁ T' ∧ Laid B B' q (q + len) (fun j => Value.int (lo8 (cv A (o + (j - q))))) ∧
      Steps p.tables e below (s₁.setTop (entryFrame m #[.ref b, .int (Int32.ofNat o), .ref d, .int (Int32.ofNat q), .int (Int32.ofNat len)] 7)) (T'.setTop (mkF m 3 #[.val (.ref b), .val (.int (Int32.ofNat (o + len))), .val (.ref d), .val (.int (Int32.ofNat (q + len))), .val (.int (Int32.ofNat len)), .val (.int (Int32.ofNat len)), z'] [])) := by
    intro r
    induction r with
    | zero =>
      intro i hi z hz Tl Bk Xl pl fl cl
      have hil : i = len := by omega
      rw [hil] at Xl fl cl
      exact ⟨Tl, Bk, z, Xl, pl, fl, cl⟩
    | succ r ih =>
      intro i hi z hz Tl Bk Xl pl fl cl
      have all := X0.warmed.alike.symm.trans Xl.warmed.alike
      have hAl := hA0.keep all (pl.other hne hA0.1)
      have hBk := hB0.like all pl.1 fl.1 fl.2.1 fl.2.2.1
      have hlt : q + i < Bk.slots.size := by rw [fl.2.2.1]; omega
      have c3 : Steps p.tables e below (s₁.setTop (entryFrame m #[.ref b, .int (Int32.ofNat o), .ref d, .int (Int32.ofNat q), .int (Int32.ofNat len)] 7)) (Tl.setTop (mkF m 12 #[.val (.ref b), .val (.int (Int32.ofNat (o + i))), .val (.ref d), .val (.int (Int32.ofNat (q + i))), .val (.int (Int32.ofNat len)), .val (.int (Int32.ofNat i)), z] [.int (Int32.ofNat (o + i)), .ref b])) := cl.trans (by
        refine XS.iload Xl.here hexec rfl (hb hbytes d3) rfl ?_
        refine XS.iload Xl.here hexec rfl (hb hbytes d5) rfl ?_
        refine XS.icmpNo Xl.here hexec rfl (hb hbytes d7) rfl (ii_ge_f (lt32 (by omega) (by omega))) ?_
        refine XS.aloadN Xl.here hexec rfl (hb hbytes d10) rfl rfl ?_
        refine XS.iloadN Xl.here hexec rfl (hb hbytes d11) rfl ?_
        exact Steps.refl _)
      have c4 : Steps p.tables e below (s₁.setTop (entryFrame m #[.ref b, .int (Int32.ofNat o), .ref d, .int (Int32.ofNat q), .int (Int32.ofNat len)] 7)) (Tl.setTop (mkF m 13 #[.val (.ref b), .val (.int (Int32.ofNat (o + i))), .val (.ref d), .val (.int (Int32.ofNat (q + i))), .val (.int (Int32.ofNat len)), .val (.int (Int32.ofNat i)), z] [.int (cv A (o + i))])) := c3.trans (by
        refine Xl.aget hexec hAl rfl (hA.get (i := o + i) (by omega)) rfl rfl (hb hbytes d12) ?_
        exact Steps.refl _)
      have c5 : Steps p.tables e below (s₁.setTop (entryFrame m #[.ref b, .int (Int32.ofNat o), .ref d, .int (Int32.ofNat q), .int (Int32.ofNat len)] 7)) (Tl.setTop (mkF m 15 #[.val (.ref b), .val (.int (Int32.ofNat (o + i))), .val (.ref d), .val (.int (Int32.ofNat (q + i))), .val (.int (Int32.ofNat len)), .val (.int (Int32.ofNat i)), .val (.int (cv A (o + i)))] [])) := c4.trans (by
        refine XS.istoreS Xl.here hexec rfl (hb hbytes d13) rfl rfl hz ?_
        exact Steps.refl _)
      have c6 : Steps p.tables e below (s₁.setTop (entryFrame m #[.ref b, .int (Int32.ofNat o), .ref d, .int (Int32.ofNat q), .int (Int32.ofNat len)] 7)) (Tl.setTop (mkF m 31 #[.val (.ref b), .val (.int (Int32.ofNat (o + i))), .val (.ref d), .val (.int (Int32.ofNat (q + i))), .val (.int (Int32.ofNat len)), .val (.int (Int32.ofNat i)), .val (.int (cv A (o + i)))] [.int (lo8 (cv A (o + i))), .int (Int32.ofNat (q + i)), .ref d])) := c5.trans (by
        refine XS.iload Xl.here hexec rfl (hb hbytes d15) rfl ?_
        refine sipushV Xl.here hexec rfl 255 (hb hbytes d17) (by decide) ?_
        refine XS.icmpYes Xl.here hexec rfl (pc0 := 20) rfl (hb hbytes d20) rfl (ii_le_t (hp i (by omega))) (by decide) rfl ?_
        refine XS.aloadN Xl.here hexec rfl (hb hbytes d26) rfl rfl ?_
        refine XS.iloadN Xl.here hexec rfl (hb hbytes d27) rfl ?_
        refine XS.iload Xl.here hexec rfl (hb hbytes d28) rfl ?_
        refine i2b Xl.here hexec rfl (hb hbytes d30) rfl ?_
        exact Steps.refl _)
      obtain ⟨T7, X7, p7, st7⟩ := Xl.aput hexec hBk rfl hlt rfl (fits_lo8 (cv A (o + i))) (g := (mkF m 31 #[.val (.ref b), .val (.int (Int32.ofNat (o + i))), .val (.ref d), .val (.int (Int32.ofNat (q + i))), .val (.int (Int32.ofNat len)), .val (.int (Int32.ofNat i)), .val (.int (cv A (o + i)))] [.int (lo8 (cv A (o + i))), .int (Int32.ofNat (q + i)), .ref d])) rfl (rest := []) rfl (hb hbytes d31)
      have c8 : Steps p.tables e below (s₁.setTop (entryFrame m #[.ref b, .int (Int32.ofNat o), .ref d, .int (Int32.ofNat q), .int (Int32.ofNat len)] 7)) (T7.setTop (mkF m 32 #[.val (.ref b), .val (.int (Int32.ofNat (o + i))), .val (.ref d), .val (.int (Int32.ofNat (q + i))), .val (.int (Int32.ofNat len)), .val (.int (Int32.ofNat i)), .val (.int (cv A (o + i)))] [])) := c6.trans (st7 _ (Steps.refl _))
      have c9 : Steps p.tables e below (s₁.setTop (entryFrame m #[.ref b, .int (Int32.ofNat o), .ref d, .int (Int32.ofNat q), .int (Int32.ofNat len)] 7)) (T7.setTop (mkF m 3 #[.val (.ref b), .val (.int (Int32.ofNat (o + i) + 1)), .val (.ref d), .val (.int (Int32.ofNat (q + i) + 1)), .val (.int (Int32.ofNat len)), .val (.int (Int32.ofNat i + 1)), .val (.int (cv A (o + i)))] [])) := c8.trans (by
        refine iincV X7.here hexec rfl 1 (hb hbytes d32) (by decide) rfl rfl ?_
        refine iincV X7.here hexec rfl 1 (hb hbytes d35) (by decide) rfl rfl ?_
        refine iincV X7.here hexec rfl 1 (hb hbytes d38) (by decide) rfl rfl ?_
        refine XS.goto X7.here hexec rfl (pc0 := 41) rfl (hb hbytes d41) (by decide) rfl ?_
        exact Steps.refl _)
      have c10 : Steps p.tables e below (s₁.setTop (entryFrame m #[.ref b, .int (Int32.ofNat o), .ref d, .int (Int32.ofNat q), .int (Int32.ofNat len)] 7)) (T7.setTop (mkF m 3 #[.val (.ref b), .val (.int (Int32.ofNat (o + (i + 1)))), .val (.ref d), .val (.int (Int32.ofNat (q + (i + 1)))), .val (.int (Int32.ofNat len)), .val (.int (Int32.ofNat (i + 1))), .val (.int (cv A (o + i)))] [])) := by
        have := c9
        rw [succ32, succ32, succ32] at this
        exact this
      exact ih (i + 1) (by omega) _ (Or.inr ⟨_, rfl, rfl⟩) T7 _ (by rw [copyLocs_step, ← List.append_assoc]; exact X7) (pl.trans p7) (fl.step (by omega) hlt (by simp)) c10
  obtain ⟨T9, B9, z9, X9, p9, f9, g9⟩ := loop len 0 (by omega) .unset (Or.inl rfl) s₁ B (by simpa [copyLocs] using X0) ⟨hB0.1, fun _ _ => rfl, rfl⟩ (Laid.zero _ _ _) c2
  have c11 : Steps p.tables e below (s₁.setTop (entryFrame m #[.ref b, .int (Int32.ofNat o), .ref d, .int (Int32.ofNat q), .int (Int32.ofNat len)] 7)) (T9.setTop (mkF m 46 #[.val (.ref b), .val (.int (Int32.ofNat (o + len))), .val (.ref d), .val (.int (Int32.ofNat (q + len))), .val (.int (Int32.ofNat len)), .val (.int (Int32.ofNat len)), z9] [.int (Int32.ofNat len)])) := g9.trans (by
    refine XS.iload X9.here hexec rfl (hb hbytes d3) rfl ?_
    refine XS.iload X9.here hexec rfl (hb hbytes d5) rfl ?_
    refine XS.icmpYes X9.here hexec rfl (pc0 := 7) rfl (hb hbytes d7) rfl (ii_ge_t (nlt32 (by omega) (Nat.le_refl _))) (by decide) rfl ?_
    refine XS.iload X9.here hexec rfl (hb hbytes d44) rfl ?_
    exact Steps.refl _)
  exact ⟨T9, some (.int (Int32.ofNat len)), _, _, _, X9, by simp, rfl, rfl, (fun h => by cases h), ⟨rfl, B9, p9.from hh0, f9⟩, fun fs hl => c11.trans (X9.ireturnOut hexec hret rfl (Or.inl rfl) (hb hbytes d46) hl)⟩
end Cmp5
namespace Cmp3
def yN : MethodName := ⟨"java/lang/StringUTF16", "compress", "([CII)[B"⟩
abbrev yB : ByteArray := jdk_52_method_16_code
theorem d0 : decode yB 0 = .ok (.iload_n 2, 1) := by decide +kernel
theorem d1 : decode yB 1 = .ok (.newarray .byte, 2) := by decide +kernel
theorem d3 : decode yB 3 = .ok (.astore_n 3, 1) := by decide +kernel
theorem d4 : decode yB 4 = .ok (.aload_n 0, 1) := by decide +kernel
theorem d5 : decode yB 5 = .ok (.iload_n 1, 1) := by decide +kernel
theorem d6 : decode yB 6 = .ok (.aload_n 3, 1) := by decide +kernel
theorem d7 : decode yB 7 = .ok (.iconst 0, 1) := by decide +kernel
theorem d8 : decode yB 8 = .ok (.iload_n 2, 1) := by decide +kernel
theorem d9 : decode yB 9 = .ok (.invokestatic 115, 3) := by decide +kernel
theorem d12 : decode yB 12 = .ok (.istore 4, 2) := by decide +kernel
theorem d14 : decode yB 14 = .ok (.iload 4, 2) := by decide +kernel
theorem d16 : decode yB 16 = .ok (.iload_n 2, 1) := by decide +kernel
theorem d17 : decode yB 17 = .ok (.if_icmp (.eq) 40, 3) := by decide +kernel
theorem d57 : decode yB 57 = .ok (.aload_n 3, 1) := by decide +kernel
theorem d58 : decode yB 58 = .ok (.areturn, 1) := by decide +kernel
def site : List Cond := [.arrayClass .byte, Cmp5.tab] ++ staticW U16 115 Cmp5.yN
def tab : Cond := tabOf yN yB 6 (some (.array .byte)) site
def P (b : Addr) (A : Cell) (o len : Nat) (args : Array Value) (s : State) : Prop := args = #[.ref b, .int (Int32.ofNat o), .int (Int32.ofNat len)] ∧ Ch b A s ∧ o + len ≤ A.slots.size ∧ len ≤ 536870912 ∧ ∀ i, i < len → ¬ 255 < cv A (o + i)
def E (b : Addr) (A : Cell) (o len : Nat) (r : Option Value) (s u : State) : Prop := NewArr .byte "[B" len (fun j => .int (lo8 (cv A (o + j)))) r s u ∧ u.heap.size = s.heap.size + 1
/-- no char of the range above 255: a new byte[] of their low bytes -/
theorem law (l : Launch) (b : Addr) (A : Cell) (o len : Nat) : Law l yN 3 3 1 18 yB 6 (some (.array .byte)) site (P b A o len) (E b A o len) [] 1 len := by
  refine Law.of_walk (plainFor_of_name (by decide +kernel)) (by decide +kernel) (by decide +kernel) (by decide) (fun _ _ h => by rw [h.1]; rfl) (fun _ U U' hal hh h => ⟨h.1, h.2.1.mv hal hh, h.2.2⟩) (fun r U U' V V' h1 hal h2 h => ⟨NewArr.mv r U U' V V' h1 hal h2 h.1, by rw [h1, h2]; exact h.2⟩) ?_
  intro p e s m args below meth c s₁ X0 hexec hbytes hml hret hlk hnm hown hh0 W hP
  obtain ⟨rfl, hA, l1, l2, hp⟩ := hP
  have a31 := hA.1.2.2.2
  have c1 : Steps p.tables e below (s₁.setTop (entryFrame m #[.ref b, .int (Int32.ofNat o), .int (Int32.ofNat len)] 6)) (s₁.setTop (mkF m 0 #[.val (.ref b), .val (.int (Int32.ofNat o)), .val (.int (Int32.ofNat len)), .unset, .unset, .unset] [])) := entry rfl
  have c2 : Steps p.tables e below (s₁.setTop (entryFrame m #[.ref b, .int (Int32.ofNat o), .int (Int32.ofNat len)] 6)) (s₁.setTop (mkF m 1 #[.val (.ref b), .val (.int (Int32.ofNat o)), .val (.int (Int32.ofNat len)), .unset, .unset, .unset] [.int (Int32.ofNat len)])) := c1.trans (by
    refine XS.iloadN X0.here hexec rfl (hb hbytes d0) rfl ?_
    exact Steps.refl _)
  obtain ⟨T3, B3, X3, ba3, bs3, bv3, bh3, bf3, st3⟩ := X0.anew hexec (atype := .byte) (wk W (.arrayClass .byte)) rfl (by show len * 1 ≤ _; omega) (by omega) (g := (mkF m 1 #[.val (.ref b), .val (.int (Int32.ofNat o)), .val (.int (Int32.ofNat len)), .unset, .unset, .unset] [.int (Int32.ofNat len)])) rfl (hb hbytes d1) (rest := []) rfl (Nat.le_refl _) (by show 0 + len ≤ len; omega)
  rw [hh0] at ba3 st3
  have kp3 : XT.Kept s T3 := (XT.Kept.of_eq hh0).push bh3
  have hA3 := hA.keep X3.warmed.alike (kp3 _ _ hA.1.1)
  have hne : b ≠ s.heap.size := hA.1.ne
  have c4 : Steps p.tables e below (s₁.setTop (entryFrame m #[.ref b, .int (Int32.ofNat o), .int (Int32.ofNat len)] 6)) (T3.setTop (mkF m 3 #[.val (.ref b), .val (.int (Int32.ofNat o)), .val (.int (Int32.ofNat len)), .unset, .unset, .unset] [.ref s.heap.size])) := c2.trans (st3 _ (Steps.refl _))
  have c5 : Steps p.tables e below (s₁.setTop (entryFrame m #[.ref b, .int (Int32.ofNat o), .int (Int32.ofNat len)] 6)) (T3.setTop (mkF m 9 #[.val (.ref b), .val (.int (Int32.ofNat o)), .val (.int (Int32.ofNat len)), .val (.ref s.heap.size), .unset, .unset] [.int (Int32.ofNat len), .int 0, .ref s.heap.size, .int (Int32.ofNat o), .ref b])) := c4.trans (by
    refine XS.astoreN X3.here hexec rfl (hb hbytes d3) rfl rfl rfl ?_
    refine XS.aloadN X3.here hexec rfl (hb hbytes d4) rfl rfl ?_
    refine XS.iloadN X3.here hexec rfl (hb hbytes d5) rfl ?_
    refine XS.aloadN X3.here hexec rfl (hb hbytes d6) rfl rfl ?_
    refine iconstV X3.here hexec rfl 0 (hb hbytes d7) (by decide) ?_
    refine XS.iloadN X3.here hexec rfl (hb hbytes d8) rfl ?_
    exact Steps.refl _)
  obtain ⟨v6, T6, X6, E6, g6⟩ := X3.callS hexec (Cmp5.law l b A s.heap.size B3 o 0 len) hown (wks W (staticW U16 115 Cmp5.yN)) (wk W Cmp5.tab) (W := 0) (Nat.le_of_ble_eq_true rfl) (Nat.le_of_ble_eq_true rfl) (Nat.le_refl _) (by show 0 + len + 0 ≤ len; omega) (g := (mkF m 9 #[.val (.ref b), .val (.int (Int32.ofNat o)), .val (.int (Int32.ofNat len)), .val (.ref s.heap.size), .unset, .unset] [.int (Int32.ofNat len), .int (Int32.ofNat 0), .ref s.heap.size, .int (Int32.ofNat o), .ref b])) rfl (by rw [hml]; rfl) c5 (argsL := [.ref b, .int (Int32.ofNat o), .ref s.heap.size, .int (Int32.ofNat 0), .int (Int32.ofNat len)]) (rest := []) rfl rfl (by show 2 * 0 + 0 ≤ _; decide) (hb hbytes d9) (⟨rfl, hA3, ba3, hne, l1, by rw [bs3]; simp, hp⟩)
  obtain ⟨rfl, B6, p6, f6⟩ := E6
  have c7 : Steps p.tables e below (s₁.setTop (entryFrame m #[.ref b, .int (Int32.ofNat o), .int (Int32.ofNat len)] 6)) (T6.setTop (mkF m 12 #[.val (.ref b), .val (.int (Int32.ofNat o)), .val (.int (Int32.ofNat len)), .val (.ref s.heap.size), .unset, .unset] [.int (Int32.ofNat len)])) := g6
  have c8 : Steps p.tables e below (s₁.setTop (entryFrame m #[.ref b, .int (Int32.ofNat o), .int (Int32.ofNat len)] 6)) (T6.setTop (mkF m 58 #[.val (.ref b), .val (.int (Int32.ofNat o)), .val (.int (Int32.ofNat len)), .val (.ref s.heap.size), .val (.int (Int32.ofNat len)), .unset] [.ref s.heap.size])) := c7.trans (by
    refine XS.istore X6.here hexec rfl (hb hbytes d12) rfl rfl ?_
    refine XS.iload X6.here hexec rfl (hb hbytes d14) rfl ?_
    refine XS.iloadN X6.here hexec rfl (hb hbytes d16) rfl ?_
    refine XS.icmpYes X6.here hexec rfl (pc0 := 17) rfl (hb hbytes d17) rfl (ii_eq_t rfl) (by decide) rfl ?_
    refine XS.aloadN X6.here hexec rfl (hb hbytes d57) rfl rfl ?_
    exact Steps.refl _)
  have X8 := X6.wide (L' := []) (cells' := 1) (slots' := len) (fun x hx hlt => by
    simp only [List.nil_append, copyLocs, List.mem_map, List.mem_range] at hx
    obtain ⟨i, -, rfl⟩ := hx
    exact absurd hlt (Nat.lt_irrefl _)) (Nat.le_refl _) (by omega)
  exact ⟨T6, some (.ref s.heap.size), _, _, _, X8, rfl, rfl, rfl, (fun h => by cases h), ⟨⟨rfl, B6, ba3.like (X3.warmed.alike.symm.trans X6.warmed.alike) p6.1 f6.1 f6.2.1 f6.2.2.1, f6.2.1.trans bv3, by rw [X6.warmed.alike.findClass, f6.1]; exact bf3, by rw [f6.2.2.1, bs3]; simp, fun j hj => by rw [f6.2.2.2 j, if_pos (by omega)]; rfl, kp3.put p6 (Nat.le_refl _)⟩, by rw [p6.2.2, bh3, hh0]; simp⟩, fun fs hl => c8.trans (X8.areturnOut hexec rfl hret rfl (hb hbytes d58) hl)⟩
end Cmp3
namespace CodL
def yN : MethodName := ⟨"java/lang/StringUTF16", "coderFromArrayLen", "([BI)B"⟩
abbrev yB : ByteArray := jdk_52_method_15_code
theorem d0 : decode yB 0 = .ok (.iload_n 1, 1) := by decide +kernel
theorem d1 : decode yB 1 = .ok (.aload_n 0, 1) := by decide +kernel
theorem d2 : decode yB 2 = .ok (.arraylength, 1) := by decide +kernel
theorem d3 : decode yB 3 = .ok (.isub, 1) := by decide +kernel
theorem d4 : decode yB 4 = .ok (.bipush 31, 2) := by decide +kernel
theorem d6 : decode yB 6 = .ok (.iushr, 1) := by decide +kernel
theorem d7 : decode yB 7 = .ok (.i2b, 1) := by decide +kernel
theorem d8 : decode yB 8 = .ok (.ireturn, 1) := by decide +kernel
def site : List Cond := []
def tab : Cond := tabOf yN yB 2 (some .byte) site
def P (d : Addr) (B : Cell) (args : Array Value) (s : State) : Prop := args = #[.ref d, .int (Int32.ofNat B.slots.size)] ∧ Arr .byte d B s
def E (r : Option Value) (s u : State) : Prop := XT.PureE (some (.int 0)) r s u
/-- an array as long as the number of chars: LATIN1 -/
theorem law (l : Launch) (d : Addr) (B : Cell) : Law l yN 2 2 0 0 yB 2 (some .byte) site (P d B) E [] 0 0 := by
  refine Law.of_walk (plainFor_of_name (by decide +kernel)) (by decide +kernel) (by decide +kernel) (by decide) (fun _ _ h => by rw [h.1]; rfl) (fun _ U U' hal hh h => ⟨h.1, h.2.mv hal hh⟩) (fun r U U' V V' h1 hal h2 h => XT.PureE.mv r U U' V V' h1 hal h2 h) ?_
  intro p e s m args below meth c s₁ X0 hexec hbytes hml hret hlk hnm hown hh0 W hP
  obtain ⟨rfl, hB⟩ := hP
  have hB0 := hB.mv X0.warmed.alike hh0
  have c1 : Steps p.tables e below (s₁.setTop (entryFrame m #[.ref d, .int (Int32.ofNat B.slots.size)] 2)) (s₁.setTop (mkF m 0 #[.val (.ref d), .val (.int (Int32.ofNat B.slots.size))] [])) := entry rfl
  have c2 : Steps p.tables e below (s₁.setTop (entryFrame m #[.ref d, .int (Int32.ofNat B.slots.size)] 2)) (s₁.setTop (mkF m 2 #[.val (.ref d), .val (.int (Int32.ofNat B.slots.size))] [.ref d, .int (Int32.ofNat B.slots.size)])) := c1.trans (by
    refine XS.iloadN X0.here hexec rfl (hb hbytes d0) rfl ?_
    refine XS.aloadN X0.here hexec rfl (hb hbytes d1) rfl rfl ?_
    exact Steps.refl _)
  have c3 : Steps p.tables e below (s₁.setTop (entryFrame m #[.ref d, .int (Int32.ofNat B.slots.size)] 2)) (s₁.setTop (mkF m 8 #[.val (.ref d), .val (.int (Int32.ofNat B.slots.size))] [.int (lo8 (ushr (Int32.ofNat B.slots.size - Int32.ofNat B.slots.size) 31))])) := c2.trans (by
    refine X0.alen hexec hB0 rfl rfl (hb hbytes d2) ?_
    refine XS.isub X0.here hexec rfl (hb hbytes d3) rfl ?_
    refine bipushV X0.here hexec rfl 31 (hb hbytes d4) (by decide) ?_
    refine iushr X0.here hexec rfl (hb hbytes d6) rfl ?_
    refine i2b X0.here hexec rfl (hb hbytes d7) rfl ?_
    exact Steps.refl _)
  have e0 : lo8 (ushr (Int32.ofNat B.slots.size - Int32.ofNat B.slots.size) 31) = 0 := by rw [Int32.sub_self]; decide
  rw [e0] at c3
  exact ⟨s₁, some (.int 0), _, _, _, X0, rfl, rfl, rfl, (fun h => by cases h), ⟨rfl, hh0⟩, fun fs hl => c3.trans (X0.ireturnOut hexec hret rfl (Or.inr (Or.inr (Or.inl rfl))) (hb hbytes d8) hl)⟩
end CodL
/-- the String at a is Latin-1 over a new byte[] (the heap's one new cell): the low bytes of the len chars of A from o on; every cell but a is kept -/
def Got (a : Addr) (D : Cell) (fV fC : Field) (A : Cell) (o len : Nat) (r : Option Value) (s u : State) : Prop := r = none ∧ ∃ D' V : Cell, Blank "java/lang/String" a D' u ∧ Same D D' [fV.slot, fC.slot] ∧ D'.slots[fV.slot]? = some (.ref s.heap.size) ∧ D'.slots[fC.slot]? = some (.int 0) ∧ Arr .byte s.heap.size V u ∧ V.vm = .none ∧ u.vm.findClass "[B" = some V.cls ∧ V.slots.size = len ∧ (∀ j, j < len → V.slots[j]? = some (.int (lo8 (cv A (o + j))))) ∧ (∀ (y : Addr) (c : Cell), y ≠ a → s.heap[y]? = some c → u.heap[y]? = some c) ∧ u.heap.size = s.heap.size + 1
theorem Got.mv {a : Addr} {D A : Cell} {fV fC : Field} {o len : Nat} : ∀ r (U U' V V' : State), U'.heap = U.heap → V.vm.Alike V'.vm → V'.heap = V.heap → Got a D fV fC A o len r U V → Got a D fV fC A o len r U' V' :=
  fun r U U' V V' h1 hal h2 ⟨e0, D', X, a1, a2, a3, a4, a5, a6, a7, a8, a9, a10, a11⟩ => ⟨e0, D', X, a1.mv hal h2, a2, by rw [h1]; exact a3, a4, by rw [h1]; exact a5.mv hal h2, a6, by rw [hal.findClass]; exact a7, a8, a9, by rw [h1, h2]; exact a10, by rw [h1, h2]; exact a11⟩
namespace New4
def yN : MethodName := ⟨"java/lang/String", "<init>", "([CIILjava/lang/Void;)V"⟩
abbrev yB : ByteArray := jdk_42_method_149_code
theorem d0 : decode yB 0 = .ok (.aload_n 0, 1) := by decide +kernel
theorem d1 : decode yB 1 = .ok (.invokespecial 1, 3) := by decide +kernel
theorem d4 : decode yB 4 = .ok (.iload_n 3, 1) := by decide +kernel
theorem d5 : decode yB 5 = .ok (.ifCond (.ne) 22, 3) := by decide +kernel
theorem d27 : decode yB 27 = .ok (.getstatic 38, 3) := by decide +kernel
theorem d30 : decode yB 30 = .ok (.ifCond (.eq) 28, 3) := by decide +kernel
theorem d33 : decode yB 33 = .ok (.aload_n 1, 1) := by decide +kernel
theorem d34 : decode yB 34 = .ok (.iload_n 2, 1) := by decide +kernel
theorem d35 : decode yB 35 = .ok (.iload_n 3, 1) := by decide +kernel
theorem d36 : decode yB 36 = .ok (.invokestatic 177, 3) := by decide +kernel
theorem d39 : decode yB 39 = .ok (.astore 5, 2) := by decide +kernel
theorem d41 : decode yB 41 = .ok (.aload_n 0, 1) := by decide +kernel
theorem d42 : decode yB 42 = .ok (.aload 5, 2) := by decide +kernel
theorem d44 : decode yB 44 = .ok (.iload_n 3, 1) := by decide +kernel
theorem d45 : decode yB 45 = .ok (.invokestatic 47, 3) := by decide +kernel
theorem d48 : decode yB 48 = .ok (.putfield 15, 3) := by decide +kernel
theorem d51 : decode yB 51 = .ok (.aload_n 0, 1) := by decide +kernel
theorem d52 : decode yB 52 = .ok (.aload 5, 2) := by decide +kernel
theorem d54 : decode yB 54 = .ok (.putfield 9, 3) := by decide +kernel
theorem d57 : decode yB 57 = .ok (.return_, 1) := by decide +kernel
def site : List Cond := [.fieldLink "java/lang/String" 38 "java/lang/String" "COMPACT_STRINGS" "Z", Cmp3.tab, CodL.tab, .laysFinal "java/lang/String" "java/lang/String" "value" "[B", .fieldLink "java/lang/String" 9 "java/lang/String" "value" "[B", .laysFinal "java/lang/String" "java/lang/String" "coder" "B", .fieldLink "java/lang/String" 15 "java/lang/String" "coder" "B"] ++ objW "java/lang/String" 1 ++ staticW "java/lang/String" 177 Cmp3.yN ++ staticW "java/lang/String" 47 CodL.yN
def tab : Cond := tabOf yN yB 6 none site
def P (a : Addr) (D : Cell) (fV fC : Field) (b : Addr) (A : Cell) (z : Int32) (o len : Nat) (args : Array Value) (s : State) : Prop := args = #[.ref a, .ref b, .int (Int32.ofNat o), .int (Int32.ofNat len), .null] ∧ Blank "java/lang/String" a D s ∧ Found "java/lang/String" "value" "[B" fV s ∧ Found "java/lang/String" "coder" "B" fC s ∧ Ch b A s ∧ StaticIs s "java/lang/String" "COMPACT_STRINGS" "Z" (.int z) ∧ ¬ z = 0 ∧ 0 < len ∧ o + len ≤ A.slots.size ∧ len ≤ 536870912 ∧ ∀ i, i < len → ¬ 255 < cv A (o + i)
def E (a : Addr) (D : Cell) (fV fC : Field) (A : Cell) (o len : Nat) (r : Option Value) (s u : State) : Prop := Got a D fV fC A o len r s u
/-- len > 0, no char of the range above 255: a Latin-1 String of their low bytes -/
theorem law (l : Launch) (a : Addr) (D : Cell) (fV fC : Field) (b : Addr) (A : Cell) (z : Int32) (o len : Nat) : Law l yN 5 4 2 35 yB 6 none site (P a D fV fC b A z o len) (E a D fV fC A o len) [⟨a, fC.slot⟩, ⟨a, fV.slot⟩] 1 len := by
  refine Law.of_walk (plainFor_of_name (by decide +kernel)) (by decide +kernel) (by decide +kernel) (by decide) (fun _ _ h => by rw [h.1]; rfl) (fun _ U U' hal hh h => ⟨h.1, h.2.1.mv hal hh, h.2.2.1.al hal, h.2.2.2.1.al hal, h.2.2.2.2.1.mv hal hh, h.2.2.2.2.2.1.there hal hh, h.2.2.2.2.2.2⟩) (fun r U U' V V' h1 hal h2 h => Got.mv r U U' V V' h1 hal h2 h) ?_
  intro p e s m args below meth c s₁ X0 hexec hbytes hml hret hlk hnm hown hh0 W hP
  obtain ⟨rfl, hB, f1, f2, hA, s1, hz, l0, l1, l2, hp⟩ := hP
  have a31 := hA.1.2.2.2
  have c1 : Steps p.tables e below (s₁.setTop (entryFrame m #[.ref a, .ref b, .int (Int32.ofNat o), .int (Int32.ofNat len), .null] 6)) (s₁.setTop (mkF m 0 #[.val (.ref a), .val (.ref b), .val (.int (Int32.ofNat o)), .val (.int (Int32.ofNat len)), .val .null, .unset] [])) := entry rfl
  have c2 : Steps p.tables e below (s₁.setTop (entryFrame m #[.ref a, .ref b, .int (Int32.ofNat o), .int (Int32.ofNat len), .null] 6)) (s₁.setTop (mkF m 1 #[.val (.ref a), .val (.ref b), .val (.int (Int32.ofNat o)), .val (.int (Int32.ofNat len)), .val .null, .unset] [.ref a])) := c1.trans (by
    refine XS.aloadN X0.here hexec rfl (hb hbytes d0) rfl rfl ?_
    exact Steps.refl _)
  obtain ⟨T3, X3, q3, st3⟩ := X0.oinit hexec hown (wks W (objW "java/lang/String" 1)) (g := (mkF m 1 #[.val (.ref a), .val (.ref b), .val (.int (Int32.ofNat o)), .val (.int (Int32.ofNat len)), .val .null, .unset] [.ref a])) rfl (by rw [hml]; rfl) (rest := []) rfl (hb hbytes d1) (W := 0) (by show 2 * 0 + 0 ≤ _; decide) (Nat.le_of_ble_eq_true rfl) (Nat.le_of_ble_eq_true rfl)
  have hh3 := q3.trans hh0
  have c4 : Steps p.tables e below (s₁.setTop (entryFrame m #[.ref a, .ref b, .int (Int32.ofNat o), .int (Int32.ofNat len), .null] 6)) (T3.setTop (mkF m 27 #[.val (.ref a), .val (.ref b), .val (.int (Int32.ofNat o)), .val (.int (Int32.ofNat len)), .val .null, .unset] [])) := (c2.trans (st3 _ (Steps.refl _))).trans (by
    refine XS.iloadN X3.here hexec rfl (hb hbytes d4) rfl ?_
    refine XS.ifYes X3.here hexec rfl (pc0 := 5) rfl (hb hbytes d5) rfl (i0_ne_t (nz32 (by omega) l0)) (by decide) rfl ?_
    exact Steps.refl _)
  obtain ⟨T5, X5, q5, st5⟩ := X3.sget hexec hown (wk W (.fieldLink "java/lang/String" 38 "java/lang/String" "COMPACT_STRINGS" "Z")) s1 (fun _ _ h => by rw [hh3]; exact h) (g := (mkF m 27 #[.val (.ref a), .val (.ref b), .val (.int (Int32.ofNat o)), .val (.int (Int32.ofNat len)), .val .null, .unset] [])) rfl (hb hbytes d27)
  have hh5 := q5.trans hh3
  have c6 : Steps p.tables e below (s₁.setTop (entryFrame m #[.ref a, .ref b, .int (Int32.ofNat o), .int (Int32.ofNat len), .null] 6)) (T5.setTop (mkF m 30 #[.val (.ref a), .val (.ref b), .val (.int (Int32.ofNat o)), .val (.int (Int32.ofNat len)), .val .null, .unset] [.int z])) := c4.trans (st5 _ (Steps.refl _))
  have c7 : Steps p.tables e below (s₁.setTop (entryFrame m #[.ref a, .ref b, .int (Int32.ofNat o), .int (Int32.ofNat len), .null] 6)) (T5.setTop (mkF m 36 #[.val (.ref a), .val (.ref b), .val (.int (Int32.ofNat o)), .val (.int (Int32.ofNat len)), .val .null, .unset] [.int (Int32.ofNat len), .int (Int32.ofNat o), .ref b])) := c6.trans (by
    refine XS.ifNo X5.here hexec rfl (hb hbytes d30) rfl (i0_eq_f hz) ?_
    refine XS.aloadN X5.here hexec rfl (hb hbytes d33) rfl rfl ?_
    refine XS.iloadN X5.here hexec rfl (hb hbytes d34) rfl ?_
    refine XS.iloadN X5.here hexec rfl (hb hbytes d35) rfl ?_
    exact Steps.refl _)
  obtain ⟨v8, T8, X8, E8, g8⟩ := X5.callS hexec (Cmp3.law l b A o len) hown (wks W (staticW "java/lang/String" 177 Cmp3.yN)) (wk W Cmp3.tab) (W := 0) (Nat.le_of_ble_eq_true rfl) (Nat.le_of_ble_eq_true rfl) (Nat.le_refl _) (by show 0 + len ≤ len; omega) (g := (mkF m 36 #[.val (.ref a), .val (.ref b), .val (.int (Int32.ofNat o)), .val (.int (Int32.ofNat len)), .val .null, .unset] [.int (Int32.ofNat len), .int (Int32.ofNat o), .ref b])) rfl (by rw [hml]; rfl) c7 (argsL := [.ref b, .int (Int32.ofNat o), .int (Int32.ofNat len)]) (rest := []) rfl rfl (by show 2 * 0 + 0 ≤ _; decide) (hb hbytes d36) (⟨rfl, hA.mv X5.warmed.alike hh5, l1, l2, hp⟩)
  obtain ⟨e8, z8⟩ := E8
  obtain ⟨rfl, N, n1, n2, n3, n4, n5, n6⟩ := NewArr.mv _ T5 s _ _ hh5.symm (Vm.Alike.refl _) rfl e8
  rw [hh5] at z8
  have hB1 := hB.keep X8.warmed.alike (n6 _ _ hB.1)
  have hne : s.heap.size ≠ a := (Nat.ne_of_lt (Array.getElem?_eq_some_iff.mp hB.1).1).symm
  have c9 : Steps p.tables e below (s₁.setTop (entryFrame m #[.ref a, .ref b, .int (Int32.ofNat o), .int (Int32.ofNat len), .null] 6)) (T8.setTop (mkF m 39 #[.val (.ref a), .val (.ref b), .val (.int (Int32.ofNat o)), .val (.int (Int32.ofNat len)), .val .null, .unset] [.ref s.heap.size])) := g8
  have c10 : Steps p.tables e below (s₁.setTop (entryFrame m #[.ref a, .ref b, .int (Int32.ofNat o), .int (Int32.ofNat len), .null] 6)) (T8.setTop (mkF m 45 #[.val (.ref a), .val (.ref b), .val (.int (Int32.ofNat o)), .val (.int (Int32.ofNat len)), .val .null, .val (.ref s.heap.size)] [.int (Int32.ofNat N.slots.size), .ref s.heap.size, .ref a])) := by
    have hc : Steps p.tables e below (s₁.setTop (entryFrame m #[.ref a, .ref b, .int (Int32.ofNat o), .int (Int32.ofNat len), .null] 6)) (T8.setTop (mkF m 45 #[.val (.ref a), .val (.ref b), .val (.int (Int32.ofNat o)), .val (.int (Int32.ofNat len)), .val .null, .val (.ref s.heap.size)] [.int (Int32.ofNat len), .ref s.heap.size, .ref a])) := c9.trans (by
      refine XS.astore X8.here hexec rfl (hb hbytes d39) rfl rfl rfl ?_
      refine XS.aloadN X8.here hexec rfl (hb hbytes d41) rfl rfl ?_
      refine XS.aload X8.here hexec rfl (hb hbytes d42) rfl rfl ?_
      refine XS.iloadN X8.here hexec rfl (hb hbytes d44) rfl ?_
      exact Steps.refl _)
    rw [n4]; exact hc
  obtain ⟨v11, T11, X11, E11, g11⟩ := X8.callS hexec (CodL.law l s.heap.size N) hown (wks W (staticW "java/lang/String" 47 CodL.yN)) (wk W CodL.tab) (W := 1) (Nat.le_of_ble_eq_true rfl) (Nat.le_of_ble_eq_true rfl) (Nat.le_refl _) (by show 0 + len + 0 ≤ len; omega) (g := (mkF m 45 #[.val (.ref a), .val (.ref b), .val (.int (Int32.ofNat o)), .val (.int (Int32.ofNat len)), .val .null, .val (.ref s.heap.size)] [.int (Int32.ofNat N.slots.size), .ref s.heap.size, .ref a])) rfl (by rw [hml]; rfl) c10 (argsL := [.ref s.heap.size, .int (Int32.ofNat N.slots.size)]) (rest := [.ref a]) rfl rfl (by show 2 * 0 + (1 + 0) ≤ _; decide) (hb hbytes d45) (⟨rfl, n1⟩)
  obtain ⟨rfl, q11⟩ := E11
  have hB11 := hB1.mv (X8.warmed.alike.symm.trans X11.warmed.alike) q11
  have c12 : Steps p.tables e below (s₁.setTop (entryFrame m #[.ref a, .ref b, .int (Int32.ofNat o), .int (Int32.ofNat len), .null] 6)) (T11.setTop (mkF m 48 #[.val (.ref a), .val (.ref b), .val (.int (Int32.ofNat o)), .val (.int (Int32.ofNat len)), .val .null, .val (.ref s.heap.size)] [.int 0, .ref a])) := g11
  obtain ⟨T13, X13, p13, bl13, sl13, st13⟩ := X11.finit hexec hown (wk W (.fieldLink "java/lang/String" 15 "java/lang/String" "coder" "B")) (Or.inr ⟨_, (wk W (.laysFinal "java/lang/String" "java/lang/String" "coder" "B"))⟩) (Or.inl ⟨rfl, hnm⟩) f2 (Or.inl rfl) hB11 (t := .byte) (by decide +kernel) rfl (g := (mkF m 48 #[.val (.ref a), .val (.ref b), .val (.int (Int32.ofNat o)), .val (.int (Int32.ofNat len)), .val .null, .val (.ref s.heap.size)] [.int 0, .ref a])) rfl (rest := []) rfl (hb hbytes d48)
  have c14 : Steps p.tables e below (s₁.setTop (entryFrame m #[.ref a, .ref b, .int (Int32.ofNat o), .int (Int32.ofNat len), .null] 6)) (T13.setTop (mkF m 54 #[.val (.ref a), .val (.ref b), .val (.int (Int32.ofNat o)), .val (.int (Int32.ofNat len)), .val .null, .val (.ref s.heap.size)] [.ref s.heap.size, .ref a])) := (c12.trans (st13 _ (Steps.refl _))).trans (by
    refine XS.aloadN X13.here hexec rfl (hb hbytes d51) rfl rfl ?_
    refine XS.aload X13.here hexec rfl (hb hbytes d52) rfl rfl ?_
    exact Steps.refl _)
  obtain ⟨T15, X15, p15, bl15, sl15, st15⟩ := X13.finit hexec hown (wk W (.fieldLink "java/lang/String" 9 "java/lang/String" "value" "[B")) (Or.inr ⟨_, (wk W (.laysFinal "java/lang/String" "java/lang/String" "value" "[B"))⟩) (Or.inl ⟨rfl, hnm⟩) f1 (Or.inl rfl) bl13 (t := (.array .byte)) (by decide +kernel) rfl (g := (mkF m 54 #[.val (.ref a), .val (.ref b), .val (.int (Int32.ofNat o)), .val (.int (Int32.ofNat len)), .val .null, .val (.ref s.heap.size)] [.ref s.heap.size, .ref a])) rfl (rest := []) rfl (hb hbytes d54)
  have c16 : Steps p.tables e below (s₁.setTop (entryFrame m #[.ref a, .ref b, .int (Int32.ofNat o), .int (Int32.ofNat len), .null] 6)) (T15.setTop (mkF m 57 #[.val (.ref a), .val (.ref b), .val (.int (Int32.ofNat o)), .val (.int (Int32.ofNat len)), .val .null, .val (.ref s.heap.size)] [])) := c14.trans (st15 _ (Steps.refl _))
  have ap := apart (Or.inr ⟨_, (wk W (.laysFinal "java/lang/String" "java/lang/String" "value" "[B"))⟩) (Or.inr ⟨_, (wk W (.laysFinal "java/lang/String" "java/lang/String" "coder" "B"))⟩) f1 f2 (t₁ := .array .byte) (t₂ := .byte) (by decide +kernel) (by decide +kernel) (by decide)
  have al := X8.warmed.alike.symm.trans X15.warmed.alike
  have n7 : T11.heap[s.heap.size]? = some N := by rw [q11]; exact n1.1
  exact ⟨T15, none, _, _, _, X15, by simp, rfl, by omega, (fun _ => rfl), ⟨rfl, _, N, bl15, ((Same.refl D _).set _ (by simp)).set _ (by simp), sl15, (Cell.slots_setSlot_ne _ ap).trans sl13, n1.keep al (p15.other hne (p13.other hne n7)), n2, by rw [al.findClass]; exact n3, n4, n5, fun y c h1 h2 => p15.other h1 (p13.other h1 (by rw [q11]; exact n6 y c h2)), by rw [p15.2.2, p13.2.2, q11]; exact z8⟩, fun fs hl => c16.trans (X15.returnOut hexec hret (hb hbytes d57) hl)⟩
end New4
namespace New1
def yN : MethodName := ⟨"java/lang/String", "<init>", "([C)V"⟩
abbrev yB : ByteArray := jdk_42_method_3_code
theorem d0 : decode yB 0 = .ok (.aload_n 0, 1) := by decide +kernel
theorem d1 : decode yB 1 = .ok (.aload_n 1, 1) := by decide +kernel
theorem d2 : decode yB 2 = .ok (.iconst 0, 1) := by decide +kernel
theorem d3 : decode yB 3 = .ok (.aload_n 1, 1) := by decide +kernel
theorem d4 : decode yB 4 = .ok (.arraylength, 1) := by decide +kernel
theorem d5 : decode yB 5 = .ok (.aconst_null, 1) := by decide +kernel
theorem d6 : decode yB 6 = .ok (.invokespecial 27, 3) := by decide +kernel
theorem d9 : decode yB 9 = .ok (.return_, 1) := by decide +kernel
def site : List Cond := [New4.tab] ++ initW "java/lang/String" 27 New4.yN
def tab : Cond := tabOf yN yB 2 none site
def P (a : Addr) (D : Cell) (fV fC : Field) (b : Addr) (A : Cell) (z : Int32) (args : Array Value) (s : State) : Prop := args = #[.ref a, .ref b] ∧ Blank "java/lang/String" a D s ∧ Found "java/lang/String" "value" "[B" fV s ∧ Found "java/lang/String" "coder" "B" fC s ∧ Ch b A s ∧ StaticIs s "java/lang/String" "COMPACT_STRINGS" "Z" (.int z) ∧ ¬ z = 0 ∧ 0 < A.slots.size ∧ A.slots.size ≤ 536870912 ∧ ∀ i, i < A.slots.size → ¬ 255 < cv A i
def E (a : Addr) (D : Cell) (fV fC : Field) (A : Cell) (r : Option Value) (s u : State) : Prop := Got a D fV fC A 0 A.slots.size r s u
/-- new String(chars), not empty, no char above 255: a Latin-1 String of their low bytes -/
theorem law (l : Launch) (a : Addr) (D : Cell) (fV fC : Field) (b : Addr) (A : Cell) (z : Int32) : Law l yN 2 1 3 52 yB 2 none site (P a D fV fC b A z) (E a D fV fC A) [⟨a, fC.slot⟩, ⟨a, fV.slot⟩] 1 A.slots.size := by
  refine Law.of_walk (plainFor_of_name (by decide +kernel)) (by decide +kernel) (by decide +kernel) (by decide) (fun _ _ h => by rw [h.1]; rfl) (fun _ U U' hal hh h => ⟨h.1, h.2.1.mv hal hh, h.2.2.1.al hal, h.2.2.2.1.al hal, h.2.2.2.2.1.mv hal hh, h.2.2.2.2.2.1.there hal hh, h.2.2.2.2.2.2⟩) (fun r U U' V V' h1 hal h2 h => Got.mv r U U' V V' h1 hal h2 h) ?_
  intro p e s m args below meth c s₁ X0 hexec hbytes hml hret hlk hnm hown hh0 W hP
  obtain ⟨rfl, hB, f1, f2, hA, s1, hz, l0, l2, hp⟩ := hP
  have c1 : Steps p.tables e below (s₁.setTop (entryFrame m #[.ref a, .ref b] 2)) (s₁.setTop (mkF m 0 #[.val (.ref a), .val (.ref b)] [])) := entry rfl
  have c2 : Steps p.tables e below (s₁.setTop (entryFrame m #[.ref a, .ref b] 2)) (s₁.setTop (mkF m 6 #[.val (.ref a), .val (.ref b)] [.null, .int (Int32.ofNat A.slots.size), .int 0, .ref b, .ref a])) := c1.trans (by
    refine XS.aloadN X0.here hexec rfl (hb hbytes d0) rfl rfl ?_
    refine XS.aloadN X0.here hexec rfl (hb hbytes d1) rfl rfl ?_
    refine iconstV X0.here hexec rfl 0 (hb hbytes d2) (by decide) ?_
    refine XS.aloadN X0.here hexec rfl (hb hbytes d3) rfl rfl ?_
    refine X0.alen hexec (hA.1.mv X0.warmed.alike hh0) rfl rfl (hb hbytes d4) ?_
    refine XS.aconstNull X0.here hexec rfl (hb hbytes d5) ?_
    exact Steps.refl _)
  obtain ⟨v3, T3, X3, E3, g3⟩ := X0.callN hexec (New4.law l a D fV fC b A z 0 A.slots.size) rfl hown (wks W (initW "java/lang/String" 27 New4.yN)) (W New4.tab (by simp only [site, List.mem_cons, List.mem_append, true_or, or_true])) (W := 0) (Nat.le_of_ble_eq_true rfl) (Nat.le_of_ble_eq_true rfl) (Nat.le_refl _) (by show 0 + A.slots.size ≤ A.slots.size; omega) (g := (mkF m 6 #[.val (.ref a), .val (.ref b)] [.null, .int (Int32.ofNat A.slots.size), .int (Int32.ofNat 0), .ref b, .ref a])) rfl (by rw [hml]; rfl) c2 (argsL := [.ref b, .int (Int32.ofNat 0), .int (Int32.ofNat A.slots.size), .null]) (rest := []) rfl rfl (by show 2 * 0 + 0 ≤ _; decide) (hb hbytes d6) (⟨rfl, hB.mv X0.warmed.alike hh0, f1.al X0.warmed.alike, f2.al X0.warmed.alike, hA.mv X0.warmed.alike hh0, s1.there X0.warmed.alike hh0, hz, l0, by omega, l2, fun i hi => by rw [Nat.zero_add]; exact hp i hi⟩)
  have e0 := Got.mv _ s₁ s _ _ hh0.symm (Vm.Alike.refl _) rfl E3
  obtain rfl := e0.1
  have c4 : Steps p.tables e below (s₁.setTop (entryFrame m #[.ref a, .ref b] 2)) (T3.setTop (mkF m 9 #[.val (.ref a), .val (.ref b)] [])) := g3
  exact ⟨T3, none, _, _, _, X3, by simp, rfl, by omega, (fun _ => rfl), e0, fun fs hl => c4.trans (X3.returnOut hexec hret (hb hbytes d9) hl)⟩
theorem pays {l : Launch} {R : Room} {p : Program} {e : Env} {below : List Frame} {s : State} {sargs : Array Value} {len W : Nat} (a : Addr) (D : Cell) (fV fC : Field) (b : Addr) (A : Cell) (z : Int32) (htab : tab.before sargs s = true) (hfr : 4 ≤ R.frames) (hlo : W + 65 ≤ R.locals) :
    Back l R p e below s sargs yN len W (fun A₁ a₁ => A₁.cells + 1 ≤ R.cells ∧ A₁.slots + A.slots.size ≤ R.slots ∧ P a D fV fC b A z a₁ A₁.U) (fun A₁ _ v₁ B₁ => E a D fV fC A v₁ A₁.U B₁.U ∧ B₁.locs = A₁.locs ++ [⟨a, fC.slot⟩, ⟨a, fV.slot⟩] ∧ B₁.cells = A₁.cells + 1 ∧ B₁.slots = A₁.slots + A.slots.size) :=
  (law l a D fV fC b A z).pays htab hfr (by omega)
end New1
/-- the byte, read back as charAt reads it, is the char -/
theorem lo8_mask {x : Int32} (h0 : ¬ x < 0) (h1 : ¬ 255 < x) : lo8 x &&& 255 = x := by
  have t : ∀ k : Fin 256, lo8 (Int32.ofNat k.val) &&& 255 = Int32.ofNat k.val := by decide +kernel
  rw [Int32.lt_iff_toInt_lt] at h0 h1
  have e0 : (0 : Int32).toInt = 0 := rfl
  have e1 : (255 : Int32).toInt = 255 := rfl
  obtain ⟨k, hk⟩ : ∃ k : Nat, x.toInt = k := ⟨x.toInt.toNat, by omega⟩
  have hx : x = Int32.ofNat k := Int32.toInt_inj.mp (by rw [hk, Int32.toInt_ofNat_small (by omega)])
  rw [hx]
  exact t ⟨k, by omega⟩
end StrChars
namespace StrChars.Road
open Jvm Sem ClassFile Op Lib Jvm.Stand Jvm.Free Jvm.Free.XT
open Jvm.Lib.Cold (StaticIs)
abbrev ST : String := "java/lang/String"
/-- every table word that New1's law asks, flat -/
abbrev words : List Jvm.Cond := [.code New1.yN New1.yB 2 none, .initialized ST, .methodLink ST 27 New4.yN, .instanceMethod New4.yN,
  .code New4.yN New4.yB 6 none, .fieldLink ST 38 ST "COMPACT_STRINGS" "Z", .laysFinal ST ST "value" "[B", .fieldLink ST 9 ST "value" "[B", .laysFinal ST ST "coder" "B", .fieldLink ST 15 ST "coder" "B",
  .methodLink ST 1 Lib.objectInit, .instanceMethod Lib.objectInit, .code Lib.objectInit ⟨#[0xb1]⟩ 1 none, .methodLink ST 177 Cmp3.yN, .static Cmp3.yN, .methodLink ST 47 CodL.yN, .static CodL.yN,
  .code Cmp3.yN Cmp3.yB 6 (some (.array .byte)), .initialized U16, .arrayClass .byte, .methodLink U16 115 Cmp5.yN, .static Cmp5.yN, .code Cmp5.yN Cmp5.yB 7 (some .int), .code CodL.yN CodL.yB 2 (some .byte)]
theorem tab_of {a : Array Value} {s : State} (h : ∀ w ∈ words, w.before a s = true) : New1.tab.before a s = true := by
  have h5 : Cmp5.tab.before a s = true := unparts (wk h (.code Cmp5.yN Cmp5.yB 7 (some .int))) (wks h (.initialized Cmp5.yN.cls :: Cmp5.site))
  have hc : CodL.tab.before a s = true := unparts (wk h (.code CodL.yN CodL.yB 2 (some .byte))) (wks h (.initialized CodL.yN.cls :: CodL.site))
  have q5 : ∀ w ∈ Cmp5.tab :: words, w.before a s = true := fun w hw => (List.mem_cons.mp hw).elim (fun e => e ▸ h5) (h w)
  have h3 : Cmp3.tab.before a s = true := unparts (wk q5 (.code Cmp3.yN Cmp3.yB 6 (some (.array .byte)))) (wks q5 (.initialized Cmp3.yN.cls :: Cmp3.site))
  have q3 : ∀ w ∈ Cmp3.tab :: CodL.tab :: words, w.before a s = true := fun w hw => (List.mem_cons.mp hw).elim (fun e => e ▸ h3) fun hw => (List.mem_cons.mp hw).elim (fun e => e ▸ hc) (h w)
  have h4 : New4.tab.before a s = true := unparts (wk q3 (.code New4.yN New4.yB 6 none)) (wks q3 (.initialized New4.yN.cls :: New4.site))
  have q4 : ∀ w ∈ New4.tab :: words, w.before a s = true := fun w hw => (List.mem_cons.mp hw).elim (fun e => e ▸ h4) (h w)
  exact unparts (wk q4 (.code New1.yN New1.yB 2 none)) (wks q4 (.initialized New1.yN.cls :: New1.site))
/-- the words ride from the start Z to the walk's own state -/
theorem moved {Z s : State} {a0 args : Array Value} (hZ : Z.Warmed39 s.vm) (hw : ∀ d ∈ words, d.before a0 Z = true) : ∀ d ∈ words, d.before args s = true := fun d hd => by
  have q := hw d hd
  have t : ∀ d ∈ words, d = .arrayClass .byte ∨ (d.onTables && d.keepsFace) = true := by decide +kernel
  rcases t d hd with rfl | t
  · exact RoadKit.mvA hZ q
  · exact RoadKit.mv hZ q t
/-- WHAT COMES BACK, over the tables of the start Z: h the heap at the call, h' behind it -/
def Q (Z : State) (x : Addr) (A : Cell) (h : Heap) (v : Option Value) (h' : Heap) (L : List Loc) : Prop := v = none ∧ (∀ y ∈ L, y.base = x) ∧ RoadKit.Keep h h' [x] ∧ h'.size = h.size + 1 ∧ RoadKit.Exa Z h' x ST ∧ RoadKit.Fld Z h' x ST "value" "[B" (.ref h.size) ∧ RoadKit.Fld Z h' x ST "coder" "B" (.int 0) ∧
  (∃ V : Cell, RoadKit.Arr Z h' h.size V .byte ∧ V.vm = .none ∧ Z.vm.findClass "[B" = some V.cls ∧ V.slots.size = A.slots.size ∧ ∀ j, j < A.slots.size → V.slots[j]? = some (.int (lo8 (cv A j)))) ∧
  ∀ (O n d : String) (w : Value), RoadKit.Fld Z h x O n d w → RoadKit.slotOf Z O n d ≠ RoadKit.slotOf Z ST "value" "[B" → RoadKit.slotOf Z O n d ≠ RoadKit.slotOf Z ST "coder" "B" → RoadKit.Fld Z h' x O n d w
/-- **new String(chars) AT A CALL, IN THE ROAD'S FORM**: for specialBack behind newO: x the fresh String, b the char[] with the cell A -/
theorem back {p : Program} {l : Launch} {e : Env} {R : Room} {s : State} {args : Array Value} {below : List Frame} {len W : Nat} {Z : State} {a0 : Array Value} {h : Heap} (hZ : Z.Warmed39 s.vm) (hw : ∀ d ∈ words, d.before a0 Z = true) {kI : Nat} (wi : (Jvm.Cond.instantiable ST kI).before a0 Z = true)
    {x b : Addr} {A : Cell} {z : Int32} {v0 c0 : Value} (E : RoadKit.Exa Z h x ST) (V : RoadKit.Fld Z h x ST "value" "[B" v0) (C : RoadKit.Fld Z h x ST "coder" "B" c0) (K : RoadKit.Arr Z h b A .char) (hty : Typed .char A) (S : RoadKit.Sta Z h ST "COMPACT_STRINGS" "Z" (.int z)) (hz : ¬ z = 0)
    (l0 : 0 < A.slots.size) (l2 : A.slots.size ≤ 536870912) (hp : ∀ i, i < A.slots.size → ¬ 255 < cv A i) (hfr : 4 ≤ R.frames) (hlo : W + 65 ≤ R.locals) :
    Back l R p e below s args New1.yN len W (fun P a => a = #[.ref x, .ref b] ∧ P.U.heap = h ∧ P.cells + 1 ≤ R.cells ∧ P.slots + A.slots.size ≤ R.slots)
      (fun P _ v B => ∃ L, Q Z x A h v B.U.heap L ∧ B.locs = P.locs ++ L ∧ B.cells = P.cells + 1 ∧ B.slots = P.slots + A.slots.size) := by
  intro m meth c P g ig mk a X hg hsize hdg hW hn hp'
  obtain ⟨rfl, rfl, r1, r2⟩ := hp'
  have al : Z.vm.Alike P.U.vm := hZ.alike.trans X.warmed.alike
  obtain ⟨D, cfV, kV, iV, fV, hD, gV, stV, knV, obV, asV, slV⟩ := id V
  obtain ⟨D', cfC, kC, iC, fC, hD', gC, stC, -, -, asC, slC⟩ := id C
  cases hD.symm.trans hD'
  obtain ⟨D2, kD, e1, e2, e3, e4, e5⟩ := id E
  cases hD.symm.trans e1
  obtain ⟨c2, k2, i1, i2, i3, -⟩ := Cond.instantiable_spec wi
  cases e2.symm.trans i1
  cases e3.symm.trans i2
  obtain ⟨kU, u1, u2⟩ := al.2.2 _ _ e3
  have hB : Blank ST x D P.U := ⟨hD, ⟨knV, fun q hq => by rw [hq] at obV; cases obV⟩, by rw [al.findClass]; exact e2, kU, u1, by rw [u2]; exact i3, by rw [u2]; exact e5 i3⟩
  have F1 : Found ST "value" "[B" fV P.U := ⟨SBG.found_only al ⟨cfV, kV, iV, gV⟩, stV⟩
  have F2 : Found ST "coder" "B" fC P.U := ⟨SBG.found_only al ⟨cfC, kC, iC, gC⟩, stC⟩
  have hA : Ch b A P.U := ⟨⟨K.1, State.isArrayOf_alike al K.2.1, K.2.2, by omega⟩, hty⟩
  have hS : StaticIs P.U ST "COMPACT_STRINGS" "Z" (.int z) := by
    obtain ⟨cfS, iS, kS, fS, st, cS, t1, t2, t3, t4, t5, t6, t7⟩ := S
    exact StaticIs.there (s := { Z with heap := P.U.heap }) ⟨cfS, iS, kS, fS, st, cS, t1, t2, t3, t4, t5, (fun q => by rw [q] at t6; cases t6), t7⟩ al rfl
  obtain ⟨v, B, X', ⟨⟨hv, E', V', q1, q2, q3, q4, q5, q6, q7, q8, q9, q10, q11⟩, hl, hc, hs⟩, st⟩ := New1.pays x D fV fC b A z (tab_of (moved hZ hw)) hfr hlo m meth c P g ig mk _ X hg hsize hdg hW hn ⟨r1, r2, rfl, hB, F1, F2, hA, hS, hz, l0, l2, hp⟩
  have al' : Z.vm.Alike B.U.vm := hZ.alike.trans X'.warmed.alike
  have hsz : E'.slots.size = D.slots.size := by
    obtain ⟨-, -, -, kB, w1, w2, w3⟩ := q1
    obtain ⟨kB', y1, y2⟩ := al'.2.2 _ _ e3
    rw [q2.2.1] at w1
    cases w1.symm.trans y1
    rw [w3, e5 i3, y2]
  refine ⟨v, B, X', ⟨_, ⟨hv, ?_, ⟨by omega, fun y cy hy hn' => q10 y cy (by simpa using hn') hy, fun y cy hy => ?_⟩, q11, ⟨E', _, q1.1, by rw [q2.2.1]; exact e2, by rw [q2.2.1]; exact e3, by rw [q2.1]; exact obV, fun _ => by rw [hsz]; exact e5 i3⟩,
    ⟨E', cfV, kV, iV, fV, q1.1, gV, stV, by rw [q2.1]; exact knV, by rw [q2.1]; exact obV, by rw [q2.2.1]; exact asV, q3⟩, ⟨E', cfC, kC, iC, fC, q1.1, gC, stC, by rw [q2.1]; exact knV, by rw [q2.1]; exact obV, by rw [q2.2.1]; exact asC, q4⟩,
    ⟨V', ⟨q5.1, State.isArrayOf_alike al'.symm q5.2.1, q5.2.2.1⟩, q6, by rw [← al'.findClass]; exact q7, q8, fun j hj => by have := q9 j hj; rwa [Nat.zero_add] at this⟩, fun O n d w F n1 n2 => ?_⟩, hl, hc, hs⟩, st⟩
  · intro y hy
    simp only [List.mem_cons, List.not_mem_nil, or_false] at hy
    rcases hy with rfl | rfl <;> rfl
  · by_cases q : y = x
    · subst q
      cases hD.symm.trans hy
      exact ⟨E', q1.1, q2.2.1, q2.1, hsz⟩
    · exact ⟨cy, q10 y cy q hy, rfl, rfl, rfl⟩
  · obtain ⟨D3, cf, k, i, f, g1, g2, g3, g4, g5, g6, g7⟩ := F
    cases hD.symm.trans g1
    simp only [RoadKit.slotOf, g2, gV, gC, Option.map_some, Option.getD_some] at n1 n2
    exact ⟨E', cf, k, i, f, q1.1, g2, g3, by rw [q2.1]; exact g4, by rw [q2.1]; exact g5, by rw [q2.2.1]; exact g6, by rw [q2.2.2 f.slot (by simp [n1, n2])]; exact g7⟩
end StrChars.Road
namespace StrChars.Road
open Jvm Sem ClassFile Op Lib Jvm.Stand Jvm.Free Jvm.Free.XT
/-- WHAT COMES BACK, the byte[] as a list of values -/
def QA (Z : State) (x : Addr) (zn : Int32) (cs : List Int32) (h : Heap) (v : Option Value) (h' : Heap) (L : List Loc) : Prop := v = none ∧ (∀ y ∈ L, y.base = x) ∧ RoadKit.Keep h h' [x] ∧ h'.size = h.size + 1 ∧ RoadKit.Exa Z h' x ST ∧ RoadKit.Fld Z h' x ST "value" "[B" (.ref h.size) ∧ RoadKit.Fld Z h' x ST "coder" "B" (.int 0) ∧
  (∃ kb, Z.vm.findClass "[B" = some kb ∧ RoadKit.Arv Z h' h.size kb .byte zn (cs.map fun c => .int (lo8 c)) (.int 0)) ∧
  ∀ (O n d : String) (w : Value), RoadKit.Fld Z h x O n d w → RoadKit.slotOf Z O n d ≠ RoadKit.slotOf Z ST "value" "[B" → RoadKit.slotOf Z O n d ≠ RoadKit.slotOf Z ST "coder" "B" → RoadKit.Fld Z h' x O n d w
/-- **new String(chars) AT A CALL, THE ARRAYS AS LISTS**: the char[] at b holds cs, not empty, no char above 255 -/
theorem backArv {p : Program} {l : Launch} {e : Env} {R : Room} {s : State} {args : Array Value} {below : List Frame} {len W : Nat} {Z : State} {a0 : Array Value} {h : Heap} (hZ : Z.Warmed39 s.vm) (hw : ∀ d ∈ words, d.before a0 Z = true) {kI : Nat} (wi : (Jvm.Cond.instantiable ST kI).before a0 Z = true)
    {x b : Addr} {k : ClassId} {zn z : Int32} {cs : List Int32} {dv v0 c0 : Value} (E : RoadKit.Exa Z h x ST) (V : RoadKit.Fld Z h x ST "value" "[B" v0) (C : RoadKit.Fld Z h x ST "coder" "B" c0) (K : RoadKit.Arv Z h b k .char zn (cs.map Value.int) dv) (S : RoadKit.Sta Z h ST "COMPACT_STRINGS" "Z" (.int z)) (hz : ¬ z = 0)
    (hlen : zn.toNatClampNeg = cs.length) (h0 : 0 < cs.length) (hbig : cs.length ≤ 536870912) (hall : ∀ c ∈ cs, ¬ 255 < c) (hfr : 4 ≤ R.frames) (hlo : W + 65 ≤ R.locals) :
    Back l R p e below s args New1.yN len W (fun P a => a = #[.ref x, .ref b] ∧ P.U.heap = h ∧ P.cells + 1 ≤ R.cells ∧ P.slots + cs.length ≤ R.slots)
      (fun P _ v B => ∃ L, QA Z x zn cs h v B.U.heap L ∧ B.locs = P.locs ++ L ∧ B.cells = P.cells + 1 ∧ B.slots = P.slots + cs.length) := by
  obtain ⟨A, K1, K2, K3, K4, K5, K6⟩ := K
  have e : A.slots.size = cs.length := K3.trans hlen
  have hat : ∀ (i : Nat) (hi : i < cs.length), A.slots[i]? = some (.int cs[i]) := fun i hi => by rw [K5 i (by omega)]; simp [List.getD_eq_getElem?_getD, hi]
  have hcv : ∀ (i : Nat) (hi : i < cs.length), cv A i = cs[i] := fun i hi => by unfold cv; rw [hat i hi]
  have hty : Typed .char A := fun i v hv => by
    have hi : i < A.slots.size := (Array.getElem?_eq_some_iff.mp hv).1
    have q := K5 i hi
    rw [hv] at q
    rw [Option.some.inj q]
    exact K6 i hi
  refine Back.mono (back hZ hw wi E V C K1 hty S hz (by omega) (by omega) (fun i hi => by rw [hcv i (by omega)]; exact hall _ (List.getElem_mem _)) hfr hlo) (fun P a hp => ⟨hp.1, hp.2.1, hp.2.2.1, by rw [e]; exact hp.2.2.2⟩) (fun P a v B hp hq => ?_)
  obtain ⟨L, ⟨q1, q2, q3, q4, q5, q6, q7, ⟨V', v1, v2, v3, v4, v5⟩, q9⟩, hl, hc, hs⟩ := hq
  refine ⟨L, ⟨q1, q2, q3, q4, q5, q6, q7, ⟨V'.cls, v3, V', v1, rfl, by rw [v4, e, hlen], K4, fun i hi => ?_, fun i hi => ?_⟩, q9⟩, hl, hc, by rw [hs, e]⟩
  · have hi' : i < cs.length := by omega
    rw [v5 i (by omega), hcv i hi']; simp [List.getD_eq_getElem?_getD, hi']
  · have hi' : i < cs.length := by omega
    simp only [List.getD_eq_getElem?_getD, List.getElem?_map, List.getElem?_eq_getElem hi', Option.map_some, Option.getD_some]
    exact fits_lo8 _
end StrChars.Road
namespace StrChars.Road
open Jvm Sem ClassFile Op Lib Jvm.Stand Jvm.Free Jvm.Free.XT
/-- WHAT COMES BACK, in the writer's own shape -/
def QV (Z : State) (x : Addr) (N : Int32) (bs : List Int32) (h : Heap) (n0 : Nat) (v : Option Value) (h' : Heap) (L : List Loc) : Prop := v = none ∧ RoadKit.Fr n0 L ∧ RoadKit.Keep h h' [x] ∧ RoadKit.Exa Z h' x ST ∧ RoadKit.Fld Z h' x ST "coder" "B" (.int 0) ∧
  ∃ (t : Addr) (kb : ClassId), n0 ≤ t ∧ h.size ≤ t ∧ ¬ t = x ∧ RoadKit.Fld Z h' x ST "value" "[B" (.ref t) ∧ RoadKit.Arv Z h' t kb .byte N (bs.map Value.int) (.int 0)
/-- **new String(chars) AT A CALL, FOR THE WRITER**: a char[] of n known ints, each 0 to 255 -/
theorem backV {p : Program} {l : Launch} {e : Env} {R : Room} {s : State} {args : Array Value} {below : List Frame} {len W : Nat} {Z : State} {a0 : Array Value} {h : Heap} (hZ : Z.Warmed39 s.vm) (hw : ∀ d ∈ words, d.before a0 Z = true) {kI : Nat} (wi : (Jvm.Cond.instantiable ST kI).before a0 Z = true)
    {x b : Addr} {kC : ClassId} {cs bs : List Int32} {d v0 c0 : Value} {z N : Int32} {n n0 : Nat} (hx0 : n0 ≤ x) (hh0 : n0 ≤ h.size) (E : RoadKit.Exa Z h x ST) (V : RoadKit.Fld Z h x ST "value" "[B" v0) (C : RoadKit.Fld Z h x ST "coder" "B" c0) (K : RoadKit.Arv Z h b kC .char N (cs.map Value.int) d) (S : RoadKit.Sta Z h ST "COMPACT_STRINGS" "Z" (.int z)) (hz : ¬ z = 0)
    (hn : cs.length = n) (hN : N = Int32.ofNat n) (l0 : 0 < n) (l2 : n ≤ 4000) (hp : ∀ c ∈ cs, ¬ c < 0 ∧ ¬ (255 : Int32) < c) (hb : bs = cs.map (fun c => c.toInt8.toInt32)) (hfr : 4 ≤ R.frames) (hlo : W + 65 ≤ R.locals) :
    Back l R p e below s args (⟨"java/lang/String", "<init>", "([C)V"⟩ : MethodName) len W (fun P a => a = #[.ref x, .ref b] ∧ P.U.heap = h ∧ P.cells + 1 ≤ R.cells ∧ P.slots + n ≤ R.slots)
      (fun P _ v B => ∃ L, QV Z x N bs h n0 v B.U.heap L ∧ B.locs = P.locs ++ L ∧ B.cells = P.cells + 1 ∧ B.slots = P.slots + n) := by
  subst hn hN hb
  refine Back.mono (backArv hZ hw wi E V C K S hz (n32 (by omega)) l0 (by omega) (fun c hc => (hp c hc).2) hfr hlo) (fun P a hp => hp) (fun P a v B hp hq => ?_)
  obtain ⟨L, ⟨q1, q2, q3, q4, q5, q6, q7, ⟨kb, v1, v2⟩, q9⟩, hl, hc, hs⟩ := hq
  exact ⟨L, ⟨q1, fun y hy => by rw [q2 y hy]; exact hx0, q3, q5, q7, h.size, kb, hh0, Nat.le_refl _, Nat.ne_of_gt E.lt, q6, by rw [List.map_map]; exact v2⟩, hl, hc, hs⟩
end StrChars.Road
namespace StrChars
open Jvm Sem ClassFile Op Lib Jvm.Stand Jvm.Free.XT Jvm.Free.ALB Jvm.Free.JM Jvm.Free
open Jvm.Lib.Cold (StaticIs)
def hi8 (x : Int32) : Int32 := lo8 (x >>> ((8 : Int32) &&& 31))
/-- what StringUTF16.getChar makes of two bytes -/
def pairCh (u v : Int32) : Int32 := (((u &&& 255) <<< ((0 : Int32) &&& 31)) ||| ((v &&& 255) <<< ((8 : Int32) &&& 31))).toUInt32.toUInt16.toUInt32.toInt32
theorem shr0 (c : Int32) : c >>> ((0 : Int32) &&& 31) = c := by
  have e : ((0 : Int32) &&& 31) = 0 := by decide
  rw [e]
  apply Int32.toBitVec_inj.mp
  rw [Int32.toBitVec_shiftRight]
  have e1 : ((0 : Int32).toBitVec.smod 32) = 0#32 := by decide
  rw [e1, BitVec.sshiftRight_eq']
  exact BitVec.sshiftRight_zero
theorem lo8_and (x : Int32) : (lo8 x &&& 255).toBitVec.toNat = x.toBitVec.toNat % 256 := by
  have h : (lo8 x).toBitVec = (x.toBitVec.signExtend 8).signExtend 32 := by rw [lo8, Int8.toBitVec_toInt32, Int32.toBitVec_toInt8]
  rw [Int32.toBitVec_and, BitVec.toNat_and, h]
  have e : ((x.toBitVec.signExtend 8).signExtend 32).toNat % 256 = x.toBitVec.toNat % 256 := by
    rw [BitVec.toNat_signExtend]
    have hlt := x.toBitVec.isLt
    simp only [BitVec.toNat_setWidth, BitVec.toNat_signExtend]
    split <;> split <;> omega
  rw [← e]
  exact Nat.and_two_pow_sub_one_eq_mod _ 8
theorem pair_says {c : Int32} (h0 : ¬ c < 0) (h1 : ¬ 65535 < c) : pairCh (lo8 c) (hi8 c) = c := by
  rw [Int32.lt_iff_toInt_lt] at h0 h1
  have e0 : (0 : Int32).toInt = 0 := rfl
  have e1 : (65535 : Int32).toInt = 65535 := rfl
  have hc : c.toInt = c.toBitVec.toNat := by
    have := c.toBitVec.isLt
    have e : c.toInt = c.toBitVec.toInt := rfl
    rw [e] at h0 h1
    rw [e]
    rw [BitVec.toInt_eq_toNat_cond] at h0 h1 ⊢
    split at h0 <;> split <;> omega
  have hn : c.toBitVec.toNat < 65536 := by omega
  have a1 := lo8_and c
  have a2 : (hi8 c &&& 255).toBitVec.toNat = c.toBitVec.toNat / 256 := by
    rw [hi8, lo8_and]
    have e : ((8 : Int32) &&& 31) = 8 := by decide
    rw [e, Int32.toBitVec_shiftRight]
    have e2 : ((8 : Int32).toBitVec.smod 32) = 8#32 := by decide
    rw [e2, BitVec.sshiftRight_eq', BitVec.toNat_sshiftRight_of_msb_false (by rw [BitVec.msb_eq_false_iff_two_mul_lt]; omega)]
    show c.toBitVec.toNat >>> 8 % 256 = _
    rw [Nat.shiftRight_eq_div_pow]
    omega
  unfold pairCh
  apply Int32.toBitVec_inj.mp
  apply BitVec.eq_of_toNat_eq
  have f0 : ((0 : Int32) &&& 31) = 0 := by decide
  have f8 : ((8 : Int32) &&& 31) = 8 := by decide
  rw [f0, f8]
  have g : (((lo8 c &&& 255) <<< (0 : Int32)) ||| ((hi8 c &&& 255) <<< (8 : Int32))).toBitVec.toNat = c.toBitVec.toNat := by
    rw [Int32.toBitVec_or, Int32.toBitVec_shiftLeft, Int32.toBitVec_shiftLeft]
    have s0 : ((0 : Int32).toBitVec.smod 32) = 0#32 := by decide
    have s8 : ((8 : Int32).toBitVec.smod 32) = 8#32 := by decide
    rw [s0, s8, BitVec.toNat_or]
    simp only [BitVec.shiftLeft_eq', BitVec.toNat_shiftLeft, a1, a2]
    show (c.toBitVec.toNat % 256) <<< 0 % 2 ^ 32 ||| (c.toBitVec.toNat / 256) <<< 8 % 2 ^ 32 = _
    rw [Nat.shiftLeft_zero, Nat.mod_eq_of_lt (show c.toBitVec.toNat % 256 < 2 ^ 32 by omega), Nat.mod_eq_of_lt (show (c.toBitVec.toNat / 256) <<< 8 < 2 ^ 32 by rw [Nat.shiftLeft_eq]; omega), Nat.or_comm, ← Nat.shiftLeft_add_eq_or_of_lt (by omega), Nat.shiftLeft_eq]
    omega
  show BitVec.toNat (((((lo8 c &&& 255) <<< (0 : Int32)) ||| ((hi8 c &&& 255) <<< (8 : Int32))).toBitVec.setWidth 16).setWidth 32) = _
  rw [BitVec.toNat_setWidth, BitVec.toNat_setWidth, g]
  omega
end StrChars
namespace StrChars
open Jvm Sem ClassFile Op Lib Jvm.Stand Jvm.Free.XT Jvm.Free.ALB Jvm.Free.JM Jvm.Free
open Jvm.Lib.Cold (StaticIs)
theorem shr1 {n : Nat} (h : 2 * n < 2 ^ 31) : Int32.ofNat (2 * n) >>> ((1 : Int32) &&& 31) = Int32.ofNat n := by
  have e : ((1 : Int32) &&& 31) = 1 := by decide
  rw [e]
  apply Int32.toBitVec_inj.mp
  rw [Int32.toBitVec_shiftRight]
  have e1 : ((1 : Int32).toBitVec.smod 32) = 1#32 := by decide
  have hm : (BitVec.ofNat 32 (2 * n)).toNat = 2 * n := by rw [BitVec.toNat_ofNat, Nat.mod_eq_of_lt (by omega)]
  rw [e1, BitVec.sshiftRight_eq']
  apply BitVec.eq_of_toNat_eq
  show ((BitVec.ofNat 32 (2 * n)).sshiftRight 1).toNat = (BitVec.ofNat 32 n).toNat
  rw [BitVec.toNat_sshiftRight_of_msb_false (by rw [BitVec.msb_eq_false_iff_two_mul_lt, hm]; omega), hm, BitVec.toNat_ofNat, Nat.shiftRight_eq_div_pow]
  omega
/-- charAt's cast of a byte read back -/
def chr8 (u : Int32) : Int32 := (u &&& 255).toUInt32.toUInt16.toUInt32.toInt32
theorem chr8_lo8 {c : Int32} (h0 : ¬ c < 0) (h1 : ¬ 255 < c) : chr8 (lo8 c) = c := by
  have t : ∀ k : Fin 256, (Int32.ofNat k.val).toUInt32.toUInt16.toUInt32.toInt32 = Int32.ofNat k.val := by decide +kernel
  unfold chr8
  rw [lo8_mask h0 h1]
  rw [Int32.lt_iff_toInt_lt] at h0 h1
  have e0 : (0 : Int32).toInt = 0 := rfl
  have e1 : (255 : Int32).toInt = 255 := rfl
  obtain ⟨k, hk⟩ : ∃ k : Nat, c.toInt = k := ⟨c.toInt.toNat, by omega⟩
  have hx : c = Int32.ofNat k := Int32.toInt_inj.mp (by rw [hk, Int32.toInt_ofNat_small (by omega)])
  rw [hx]
  exact t ⟨k, by omega⟩
theorem narrow_ch {c : Int32} (h0 : ¬ c < 0) (h1 : ¬ 65535 < c) : narrow .char (.int c) = .int c := by
  have q : narrow .char (.int (pairCh (lo8 c) (hi8 c))) = .int (pairCh (lo8 c) (hi8 c)) := narrow_c _
  rwa [pair_says h0 h1] at q
/-- the array's cell V codes the n chars f 0 .. f (n - 1) by the coder cd, as the JDK does: coder 1 just where some char is above 255 -/
def Cod (cd : Int32) (n : Nat) (f : Nat → Int32) (V : Cell) : Prop := (cd = 0 ∧ V.slots.size = n ∧ ∀ j, j < n → V.slots[j]? = some (.int (lo8 (f j))) ∧ ¬ 255 < f j) ∨ (cd = 1 ∧ V.slots.size = 2 * n ∧ (∀ j, j < n → V.slots[2 * j]? = some (.int (lo8 (f j))) ∧ V.slots[2 * j + 1]? = some (.int (hi8 (f j)))) ∧ ∃ j, j < n ∧ 255 < f j)
theorem Cod.cd {cd : Int32} {n : Nat} {f : Nat → Int32} {V : Cell} (h : Cod cd n f V) : cd = 0 ∨ cd = 1 := h.imp (fun q => q.1) fun q => q.1
theorem Cod.len {cd : Int32} {n : Nat} {f : Nat → Int32} {V : Cell} (h : Cod cd n f V) (hs : V.slots.size < 2 ^ 31) : Int32.ofNat V.slots.size >>> (cd &&& 31) = Int32.ofNat n := by
  rcases h with ⟨rfl, h, -⟩ | ⟨rfl, h, -⟩
  · rw [shr0, h]
  · rw [h, shr1 (by omega)]
/-- **x is a String of the n chars f 0 .. f (n - 1)**, Latin-1 or UTF-16; its array at t has the cell V -/
def Txt (x t : Addr) (V : Cell) (cd : Int32) (n : Nat) (f : Nat → Int32) (U : State) : Prop := Exact "java/lang/String" x U ∧ Has x "java/lang/String" "value" "[B" (.ref t) U ∧ Has x "java/lang/String" "coder" "B" (.int cd) U ∧ XT.Arr .byte t V U ∧ Cod cd n f V ∧ ∀ j, j < n → ¬ f j < 0 ∧ ¬ 65535 < f j
theorem Txt.mv {x t : Addr} {V : Cell} {cd : Int32} {n : Nat} {f : Nat → Int32} {U U' : State} (h : Txt x t V cd n f U) (hal : U.vm.Alike U'.vm) (hh : U'.heap = U.heap) : Txt x t V cd n f U' := ⟨h.1.mv hal hh, h.2.1.mv hal hh, h.2.2.1.mv hal hh, h.2.2.2.1.mv hal hh, h.2.2.2.2⟩
namespace Cdr
def yN : MethodName := ⟨"java/lang/String", "coder", "()B"⟩
abbrev yB : ByteArray := jdk_42_method_152_code
theorem d0 : decode yB 0 = .ok (.getstatic 38, 3) := by decide +kernel
theorem d3 : decode yB 3 = .ok (.ifCond (.eq) 10, 3) := by decide +kernel
theorem d6 : decode yB 6 = .ok (.aload_n 0, 1) := by decide +kernel
theorem d7 : decode yB 7 = .ok (.getfield 15, 3) := by decide +kernel
theorem d10 : decode yB 10 = .ok (.goto 4, 3) := by decide +kernel
theorem d14 : decode yB 14 = .ok (.ireturn, 1) := by decide +kernel
def site : List Cond := [.fieldLink "java/lang/String" 38 "java/lang/String" "COMPACT_STRINGS" "Z", .fieldLink "java/lang/String" 15 "java/lang/String" "coder" "B"]
def tab : Cond := tabOf yN yB 1 (some .byte) site
def P (x : Addr) (cd z : Int32) (args : Array Value) (s : State) : Prop := args = #[.ref x] ∧ Has x "java/lang/String" "coder" "B" (.int cd) s ∧ (cd = 0 ∨ cd = 1) ∧ StaticIs s "java/lang/String" "COMPACT_STRINGS" "Z" (.int z) ∧ ¬ z = 0
def E (cd : Int32) (r : Option Value) (s u : State) : Prop := XT.PureE (some (.int cd)) r s u
theorem law (l : Launch) (x : Addr) (cd z : Int32) : Law l yN 1 0 0 0 yB 1 (some .byte) site (P x cd z) (E cd) [] 0 0 := by
  refine Law.of_walk (plainFor_of_name (by decide +kernel)) (by decide +kernel) (by decide +kernel) (by decide) (fun _ _ h => by rw [h.1]; rfl) (fun _ U U' hal hh h => ⟨h.1, h.2.1.mv hal hh, h.2.2.1, h.2.2.2.1.there hal hh, h.2.2.2.2⟩) (fun r U U' V V' h1 hal h2 h => XT.PureE.mv r U U' V V' h1 hal h2 h) ?_
  intro p e s m args below meth c s₁ X0 hexec hbytes hml hret hlk hnm hown hh0 W hP
  obtain ⟨rfl, hx, hc, s1, hz⟩ := hP
  have c1 : Steps p.tables e below (s₁.setTop (entryFrame m #[.ref x] 1)) (s₁.setTop (mkF m 0 #[.val (.ref x)] [])) := entry rfl
  obtain ⟨T2, X2, q2, st2⟩ := X0.sget hexec hown (wk W (.fieldLink "java/lang/String" 38 "java/lang/String" "COMPACT_STRINGS" "Z")) s1 (fun _ _ h => by rw [hh0]; exact h) (g := (mkF m 0 #[.val (.ref x)] [])) rfl (hb hbytes d0)
  have hh2 := q2.trans hh0
  have c3 : Steps p.tables e below (s₁.setTop (entryFrame m #[.ref x] 1)) (T2.setTop (mkF m 7 #[.val (.ref x)] [.ref x])) := (c1.trans (st2 _ (Steps.refl _))).trans (by
    refine XS.ifNo X2.here hexec rfl (hb hbytes d3) rfl (i0_eq_f hz) ?_
    refine XS.aloadN X2.here hexec rfl (hb hbytes d6) rfl rfl ?_
    exact Steps.refl _)
  obtain ⟨T4, X4, q4, st4⟩ := X2.hget hexec hown (wk W (.fieldLink "java/lang/String" 15 "java/lang/String" "coder" "B")) (hx.mv X2.warmed.alike hh2) (g := (mkF m 7 #[.val (.ref x)] [.ref x])) rfl (rest := []) rfl (hb hbytes d7)
  have c5 : Steps p.tables e below (s₁.setTop (entryFrame m #[.ref x] 1)) (T4.setTop (mkF m 14 #[.val (.ref x)] [.int cd])) := (c3.trans (st4 _ (Steps.refl _))).trans (by
    refine XS.goto X4.here hexec rfl (pc0 := 10) rfl (hb hbytes d10) (by decide) rfl ?_
    exact Steps.refl _)
  exact ⟨T4, some (.int cd), _, _, _, X4, rfl, rfl, rfl, (fun h => by cases h), ⟨rfl, q4.trans hh2⟩, fun fs hl => c5.trans (X4.ireturnOut hexec hret (by rcases hc with rfl | rfl <;> rfl) (Or.inr (Or.inr (Or.inl rfl))) (hb hbytes d14) hl)⟩
end Cdr
namespace Len
def yN : MethodName := ⟨"java/lang/String", "length", "()I"⟩
abbrev yB : ByteArray := jdk_42_method_54_code
theorem d0 : decode yB 0 = .ok (.aload_n 0, 1) := by decide +kernel
theorem d1 : decode yB 1 = .ok (.getfield 9, 3) := by decide +kernel
theorem d4 : decode yB 4 = .ok (.arraylength, 1) := by decide +kernel
theorem d5 : decode yB 5 = .ok (.aload_n 0, 1) := by decide +kernel
theorem d6 : decode yB 6 = .ok (.invokevirtual 335, 3) := by decide +kernel
theorem d9 : decode yB 9 = .ok (.ishr, 1) := by decide +kernel
theorem d10 : decode yB 10 = .ok (.ireturn, 1) := by decide +kernel
def site : List Cond := [.fieldLink "java/lang/String" 9 "java/lang/String" "value" "[B", Cdr.tab] ++ virtW "java/lang/String" 335 "java/lang/String" Cdr.yN Cdr.yN
def tab : Cond := tabOf yN yB 1 (some .int) site
def P (x t : Addr) (V : Cell) (cd : Int32) (n : Nat) (f : Nat → Int32) (z : Int32) (args : Array Value) (s : State) : Prop := args = #[.ref x] ∧ Txt x t V cd n f s ∧ StaticIs s "java/lang/String" "COMPACT_STRINGS" "Z" (.int z) ∧ ¬ z = 0
def E (n : Nat) (r : Option Value) (s u : State) : Prop := XT.PureE (some (.int (Int32.ofNat n))) r s u
/-- length() of a String of n chars, in either coding -/
theorem law (l : Launch) (x t : Addr) (V : Cell) (cd : Int32) (n : Nat) (f : Nat → Int32) (z : Int32) : Law l yN 1 0 1 13 yB 1 (some .int) site (P x t V cd n f z) (E n) [] 0 0 := by
  refine Law.of_walk (plainFor_of_name (by decide +kernel)) (by decide +kernel) (by decide +kernel) (by decide) (fun _ _ h => by rw [h.1]; rfl) (fun _ U U' hal hh h => ⟨h.1, h.2.1.mv hal hh, h.2.2.1.there hal hh, h.2.2.2⟩) (fun r U U' V V' h1 hal h2 h => XT.PureE.mv r U U' V V' h1 hal h2 h) ?_
  intro p e s m args below meth c s₁ X0 hexec hbytes hml hret hlk hnm hown hh0 W hP
  obtain ⟨rfl, hx, s1, hz⟩ := hP
  have v31 := hx.2.2.2.1.2.2.2
  have c1 : Steps p.tables e below (s₁.setTop (entryFrame m #[.ref x] 1)) (s₁.setTop (mkF m 1 #[.val (.ref x)] [.ref x])) := Steps.trans (entry rfl) (by
    show Steps p.tables e below (s₁.setTop (mkF m 0 #[.val (.ref x)] [])) _
    refine XS.aloadN X0.here hexec rfl (hb hbytes d0) rfl rfl ?_
    exact Steps.refl _)
  obtain ⟨T2, X2, q2, st2⟩ := X0.hget hexec hown (wk W (.fieldLink "java/lang/String" 9 "java/lang/String" "value" "[B")) (hx.mv X0.warmed.alike hh0).2.1 (g := (mkF m 1 #[.val (.ref x)] [.ref x])) rfl (rest := []) rfl (hb hbytes d1)
  have hh2 := q2.trans hh0
  have hx2 := hx.mv X2.warmed.alike hh2
  have c3 : Steps p.tables e below (s₁.setTop (entryFrame m #[.ref x] 1)) (T2.setTop (mkF m 6 #[.val (.ref x)] [.ref x, .int (Int32.ofNat V.slots.size)])) := (c1.trans (st2 _ (Steps.refl _))).trans (by
    refine X2.alen hexec hx2.2.2.2.1 rfl rfl (hb hbytes d4) ?_
    refine XS.aloadN X2.here hexec rfl (hb hbytes d5) rfl rfl ?_
    exact Steps.refl _)
  obtain ⟨v4, T4, X4, E4, g4⟩ := X2.callV hexec (Cdr.law l x cd z) hown (wks W (virtW "java/lang/String" 335 "java/lang/String" Cdr.yN Cdr.yN)) rfl (by decide) (wk W Cdr.tab) (W := 1) (Nat.le_of_ble_eq_true rfl) (Nat.le_of_ble_eq_true rfl) (Nat.le_refl _) (Nat.le_refl _) (hx2.1.fc X2.warmed.alike) hx2.1.is (g := (mkF m 6 #[.val (.ref x)] [.ref x, .int (Int32.ofNat V.slots.size)])) rfl (by rw [hml]; rfl) c3 (argsL := []) (rest := [.int (Int32.ofNat V.slots.size)]) rfl rfl (by show 2 * 0 + (1 + 0) ≤ _; decide) (hb hbytes d6) (⟨rfl, hx2.2.2.1, hx.2.2.2.2.1.cd, s1.there X2.warmed.alike hh2, hz⟩)
  obtain ⟨rfl, q4⟩ := E4
  have c5 : Steps p.tables e below (s₁.setTop (entryFrame m #[.ref x] 1)) (T4.setTop (mkF m 10 #[.val (.ref x)] [.int (Int32.ofNat V.slots.size >>> (cd &&& 31))])) := Steps.trans g4 (by
    refine ishr X4.here hexec rfl (hb hbytes d9) rfl ?_
    exact Steps.refl _)
  rw [hx.2.2.2.2.1.len v31] at c5
  exact ⟨T4, some (.int (Int32.ofNat n)), _, _, _, X4, rfl, rfl, rfl, (fun h => by cases h), ⟨rfl, q4.trans hh2⟩, fun fs hl => c5.trans (X4.ireturnOut hexec hret rfl (Or.inl rfl) (hb hbytes d10) hl)⟩
theorem pays {l : Launch} {R : Room} {p : Program} {e : Env} {below : List Frame} {s : State} {sargs : Array Value} {len W : Nat} (x t : Addr) (V : Cell) (cd : Int32) (n : Nat) (f : Nat → Int32) (z : Int32) (htab : tab.before sargs s = true) (hfr : 2 ≤ R.frames) (hlo : W + 25 ≤ R.locals) :
    Back l R p e below s sargs yN len W (fun A₁ a₁ => A₁.cells + 0 ≤ R.cells ∧ A₁.slots + 0 ≤ R.slots ∧ P x t V cd n f z a₁ A₁.U) (fun A₁ _ v₁ B₁ => E n v₁ A₁.U B₁.U ∧ B₁.locs = A₁.locs ++ [] ∧ B₁.cells = A₁.cells + 0 ∧ B₁.slots = A₁.slots + 0) :=
  (law l x t V cd n f z).pays htab hfr (by omega)
end Len
namespace IsL
def yN : MethodName := ⟨"java/lang/String", "isLatin1", "()Z"⟩
abbrev yB : ByteArray := jdk_42_method_154_code
theorem d0 : decode yB 0 = .ok (.getstatic 38, 3) := by decide +kernel
theorem d3 : decode yB 3 = .ok (.ifCond (.eq) 14, 3) := by decide +kernel
theorem d6 : decode yB 6 = .ok (.aload_n 0, 1) := by decide +kernel
theorem d7 : decode yB 7 = .ok (.getfield 15, 3) := by decide +kernel
theorem d10 : decode yB 10 = .ok (.ifCond (.ne) 7, 3) := by decide +kernel
theorem d13 : decode yB 13 = .ok (.iconst 1, 1) := by decide +kernel
theorem d14 : decode yB 14 = .ok (.goto 4, 3) := by decide +kernel
theorem d17 : decode yB 17 = .ok (.iconst 0, 1) := by decide +kernel
theorem d18 : decode yB 18 = .ok (.ireturn, 1) := by decide +kernel
def site : List Cond := [.fieldLink "java/lang/String" 38 "java/lang/String" "COMPACT_STRINGS" "Z", .fieldLink "java/lang/String" 15 "java/lang/String" "coder" "B"]
def tab : Cond := tabOf yN yB 1 (some .boolean) site
def P (x : Addr) (cd z : Int32) (args : Array Value) (s : State) : Prop := args = #[.ref x] ∧ Has x "java/lang/String" "coder" "B" (.int cd) s ∧ (cd = 0 ∨ cd = 1) ∧ StaticIs s "java/lang/String" "COMPACT_STRINGS" "Z" (.int z) ∧ ¬ z = 0
def E (cd : Int32) (r : Option Value) (s u : State) : Prop := XT.PureE (some (.int (1 - cd))) r s u
theorem law (l : Launch) (x : Addr) (cd z : Int32) : Law l yN 1 0 0 0 yB 1 (some .boolean) site (P x cd z) (E cd) [] 0 0 := by
  refine Law.of_walk (plainFor_of_name (by decide +kernel)) (by decide +kernel) (by decide +kernel) (by decide) (fun _ _ h => by rw [h.1]; rfl) (fun _ U U' hal hh h => ⟨h.1, h.2.1.mv hal hh, h.2.2.1, h.2.2.2.1.there hal hh, h.2.2.2.2⟩) (fun r U U' V V' h1 hal h2 h => XT.PureE.mv r U U' V V' h1 hal h2 h) ?_
  intro p e s m args below meth c s₁ X0 hexec hbytes hml hret hlk hnm hown hh0 W hP
  obtain ⟨rfl, hx, hc, s1, hz⟩ := hP
  have c1 : Steps p.tables e below (s₁.setTop (entryFrame m #[.ref x] 1)) (s₁.setTop (mkF m 0 #[.val (.ref x)] [])) := entry rfl
  obtain ⟨T2, X2, q2, st2⟩ := X0.sget hexec hown (wk W (.fieldLink "java/lang/String" 38 "java/lang/String" "COMPACT_STRINGS" "Z")) s1 (fun _ _ h => by rw [hh0]; exact h) (g := (mkF m 0 #[.val (.ref x)] [])) rfl (hb hbytes d0)
  have hh2 := q2.trans hh0
  have c3 : Steps p.tables e below (s₁.setTop (entryFrame m #[.ref x] 1)) (T2.setTop (mkF m 7 #[.val (.ref x)] [.ref x])) := (c1.trans (st2 _ (Steps.refl _))).trans (by
    refine XS.ifNo X2.here hexec rfl (hb hbytes d3) rfl (i0_eq_f hz) ?_
    refine XS.aloadN X2.here hexec rfl (hb hbytes d6) rfl rfl ?_
    exact Steps.refl _)
  obtain ⟨T4, X4, q4, st4⟩ := X2.hget hexec hown (wk W (.fieldLink "java/lang/String" 15 "java/lang/String" "coder" "B")) (hx.mv X2.warmed.alike hh2) (g := (mkF m 7 #[.val (.ref x)] [.ref x])) rfl (rest := []) rfl (hb hbytes d7)
  have c5 : Steps p.tables e below (s₁.setTop (entryFrame m #[.ref x] 1)) (T4.setTop (mkF m 10 #[.val (.ref x)] [.int cd])) := c3.trans (st4 _ (Steps.refl _))
  have c6 : Steps p.tables e below (s₁.setTop (entryFrame m #[.ref x] 1)) (T4.setTop (mkF m 18 #[.val (.ref x)] [.int (1 - cd)])) := by
    rcases hc with rfl | rfl
    · exact c5.trans (by
        refine XS.ifNo X4.here hexec rfl (hb hbytes d10) rfl (i0_ne_f rfl) ?_
        refine iconstV X4.here hexec rfl 1 (hb hbytes d13) (by decide) ?_
        refine XS.goto X4.here hexec rfl (pc0 := 14) rfl (hb hbytes d14) (by decide) rfl ?_
        exact Steps.refl _)
    · exact c5.trans (by
        refine XS.ifYes X4.here hexec rfl (pc0 := 10) rfl (hb hbytes d10) rfl (i0_ne_t (by decide)) (by decide) rfl ?_
        refine iconstV X4.here hexec rfl 0 (hb hbytes d17) (by decide) ?_
        exact Steps.refl _)
  exact ⟨T4, some (.int (1 - cd)), _, _, _, X4, rfl, rfl, rfl, (fun h => by cases h), ⟨rfl, q4.trans hh2⟩, fun fs hl => c6.trans (X4.ireturnOut hexec hret (by rcases hc with rfl | rfl <;> rfl) (Or.inr (Or.inl rfl)) (hb hbytes d18) hl)⟩
end IsL
namespace LChA
def yN : MethodName := ⟨"java/lang/StringLatin1", "charAt", "([BI)C"⟩
abbrev yB : ByteArray := jdk_43_method_2_code
theorem d0 : decode yB 0 = .ok (.iload_n 1, 1) := by decide +kernel
theorem d1 : decode yB 1 = .ok (.aload_n 0, 1) := by decide +kernel
theorem d2 : decode yB 2 = .ok (.arraylength, 1) := by decide +kernel
theorem d3 : decode yB 3 = .ok (.invokestatic 9, 3) := by decide +kernel
theorem d6 : decode yB 6 = .ok (.aload_n 0, 1) := by decide +kernel
theorem d7 : decode yB 7 = .ok (.iload_n 1, 1) := by decide +kernel
theorem d8 : decode yB 8 = .ok (.baload, 1) := by decide +kernel
theorem d9 : decode yB 9 = .ok (.sipush 255, 3) := by decide +kernel
theorem d12 : decode yB 12 = .ok (.iand, 1) := by decide +kernel
theorem d13 : decode yB 13 = .ok (.i2c, 1) := by decide +kernel
theorem d14 : decode yB 14 = .ok (.ireturn, 1) := by decide +kernel
def site : List Cond := [JO.Str_checkIndex.tab] ++ staticW "java/lang/StringLatin1" 9 JO.Str_checkIndex.yN
def tab : Cond := tabOf yN yB 2 (some .char) site
def P (t : Addr) (V : Cell) (i : Nat) (u : Int32) (fm : Value) (args : Array Value) (s : State) : Prop := args = #[.ref t, .int (Int32.ofNat i)] ∧ XT.Arr .byte t V s ∧ V.slots[i]? = some (.int u) ∧ (StaticIs s "jdk/internal/util/Preconditions" "SIOOBE_FORMATTER" "Ljava/util/function/BiFunction;" fm ∧ fm.isRef = true)
def E (u : Int32) (r : Option Value) (s w : State) : Prop := XT.PureE (some (.int (chr8 u))) r s w
theorem law (l : Launch) (t : Addr) (V : Cell) (i : Nat) (u : Int32) (fm : Value) : Law l yN 2 2 2 27 yB 2 (some .char) site (P t V i u fm) (E u) [] 0 0 := by
  refine Law.of_walk (plainFor_of_name (by decide +kernel)) (by decide +kernel) (by decide +kernel) (by decide) (fun _ _ h => by rw [h.1]; rfl) (fun _ U U' hal hh h => ⟨h.1, h.2.1.mv hal hh, h.2.2.1, h.2.2.2.1.there hal hh, h.2.2.2.2⟩) (fun r U U' V V' h1 hal h2 h => XT.PureE.mv r U U' V V' h1 hal h2 h) ?_
  intro p e s m args below meth c s₁ X0 hexec hbytes hml hret hlk hnm hown hh0 W hP
  obtain ⟨rfl, hV, hu, s1, rf⟩ := hP
  have v31 := hV.2.2.2
  have hi : i < V.slots.size := (Array.getElem?_eq_some_iff.mp hu).1
  have c1 : Steps p.tables e below (s₁.setTop (entryFrame m #[.ref t, .int (Int32.ofNat i)] 2)) (s₁.setTop (mkF m 0 #[.val (.ref t), .val (.int (Int32.ofNat i))] [])) := entry rfl
  have c2 : Steps p.tables e below (s₁.setTop (entryFrame m #[.ref t, .int (Int32.ofNat i)] 2)) (s₁.setTop (mkF m 3 #[.val (.ref t), .val (.int (Int32.ofNat i))] [.int (Int32.ofNat V.slots.size), .int (Int32.ofNat i)])) := c1.trans (by
    refine XS.iloadN X0.here hexec rfl (hb hbytes d0) rfl ?_
    refine XS.aloadN X0.here hexec rfl (hb hbytes d1) rfl rfl ?_
    refine X0.alen hexec (hV.mv X0.warmed.alike hh0) rfl rfl (hb hbytes d2) ?_
    exact Steps.refl _)
  obtain ⟨v3, T3, X3, E3, g3⟩ := X0.callS hexec (JO.Str_checkIndex.law l (Int32.ofNat i) (Int32.ofNat V.slots.size) fm) hown (wks W (staticW "java/lang/StringLatin1" 9 JO.Str_checkIndex.yN)) (wk W JO.Str_checkIndex.tab) (W := 0) (Nat.le_of_ble_eq_true rfl) (Nat.le_of_ble_eq_true rfl) (Nat.le_refl _) (Nat.le_refl _) (g := (mkF m 3 #[.val (.ref t), .val (.int (Int32.ofNat i))] [.int (Int32.ofNat V.slots.size), .int (Int32.ofNat i)])) rfl (by rw [hml]; rfl) c2 (argsL := [.int (Int32.ofNat i), .int (Int32.ofNat V.slots.size)]) (rest := []) rfl rfl (by show 2 * 0 + 0 ≤ _; decide) (hb hbytes d3) (⟨rfl, rf, s1.there X0.warmed.alike hh0, Int32.ofNat_not_neg (by omega), lt32 v31 hi⟩)
  obtain ⟨rfl, q3⟩ := E3
  have hh3 := q3.trans hh0
  have c4 : Steps p.tables e below (s₁.setTop (entryFrame m #[.ref t, .int (Int32.ofNat i)] 2)) (T3.setTop (mkF m 14 #[.val (.ref t), .val (.int (Int32.ofNat i))] [.int (chr8 u)])) := Steps.trans g3 (by
    refine XS.aloadN X3.here hexec rfl (hb hbytes d6) rfl rfl ?_
    refine XS.iloadN X3.here hexec rfl (hb hbytes d7) rfl ?_
    refine X3.aget hexec (hV.mv X3.warmed.alike hh3) rfl hu rfl rfl (hb hbytes d8) ?_
    refine sipushV X3.here hexec rfl 255 (hb hbytes d9) (by decide) ?_
    refine XS.iand X3.here hexec rfl (hb hbytes d12) rfl ?_
    refine i2c X3.here hexec rfl (hb hbytes d13) rfl ?_
    exact Steps.refl _)
  exact ⟨T3, some (.int (chr8 u)), _, _, _, X3, rfl, rfl, rfl, (fun h => by cases h), ⟨rfl, hh3⟩, fun fs hl => c4.trans (X3.ireturnOut hexec hret (narrow_c _) (Or.inr (Or.inr (Or.inr (Or.inl rfl)))) (hb hbytes d14) hl)⟩
end LChA
end StrChars
namespace StrChars.Road
open Jvm Sem ClassFile Op Lib Jvm.Stand Jvm.Free Jvm.Free.XT
open Jvm.Lib.Cold (StaticIs)
theorem consq {a : Array Value} {s : State} {c : Jvm.Cond} {L : List Jvm.Cond} (h0 : c.before a s = true) (h : ∀ w ∈ L, w.before a s = true) : ∀ w ∈ c :: L, w.before a s = true := fun w hw => (List.mem_cons.mp hw).elim (fun e => e ▸ h0) (h w)
/-- the words of String.length(), either coding -/
abbrev wordsLen : List Jvm.Cond := [.code Len.yN Len.yB 1 (some .int), .initialized ST, .fieldLink ST 9 ST "value" "[B", .fieldLink ST 38 ST "COMPACT_STRINGS" "Z", .fieldLink ST 15 ST "coder" "B", .code Cdr.yN Cdr.yB 1 (some .byte), .methodLink ST 335 Cdr.yN, .declares Cdr.yN, .selects ST Cdr.yN Cdr.yN, .instanceMethod Cdr.yN]
theorem tabLen_of {a : Array Value} {s : State} (h : ∀ w ∈ wordsLen, w.before a s = true) : Len.tab.before a s = true := by
  have hc : Cdr.tab.before a s = true := unparts (wk h (.code Cdr.yN Cdr.yB 1 (some .byte))) (wks h (.initialized Cdr.yN.cls :: Cdr.site))
  have q := consq hc h
  exact unparts (wk q (.code Len.yN Len.yB 1 (some .int))) (wks q (.initialized Len.yN.cls :: Len.site))
theorem movedLen {Z s : State} {a0 args : Array Value} (hZ : Z.Warmed39 s.vm) (hw : ∀ d ∈ wordsLen, d.before a0 Z = true) : ∀ d ∈ wordsLen, d.before args s = true := fun d hd => by
  have q := hw d hd
  have t : ∀ d ∈ wordsLen, d = .arrayClass .byte ∨ (d.onTables && d.keepsFace) = true := by decide +kernel
  rcases t d hd with rfl | t
  · exact RoadKit.mvA hZ q
  · exact RoadKit.mv hZ q t
/-- the bytes of the chars cs, low before high -/
def wideBytes : List Int32 → List Value
  | [] => []
  | c :: cs => .int (lo8 c) :: .int (hi8 c) :: wideBytes cs
theorem wide_lo (d : Value) : ∀ (cs : List Int32) (j : Nat), j < cs.length → (wideBytes cs).getD (2 * j) d = .int (lo8 (cs.getD j 0))
  | [], j, h => absurd h (Nat.not_lt_zero j)
  | c :: cs, 0, _ => rfl
  | c :: cs, j + 1, h => by
    have q := wide_lo d cs j (by simpa using h)
    rw [show 2 * (j + 1) = 2 * j + 1 + 1 from by omega]
    simpa [wideBytes] using q
theorem wide_hi (d : Value) : ∀ (cs : List Int32) (j : Nat), j < cs.length → (wideBytes cs).getD (2 * j + 1) d = .int (hi8 (cs.getD j 0))
  | [], j, h => absurd h (Nat.not_lt_zero j)
  | c :: cs, 0, _ => rfl
  | c :: cs, j + 1, h => by
    have q := wide_hi d cs j (by simpa using h)
    rw [show 2 * (j + 1) + 1 = 2 * j + 1 + 1 + 1 from by omega]
    simpa [wideBytes] using q
theorem low_at (d : Value) (cs : List Int32) (j : Nat) (h : j < cs.length) : (cs.map fun c => Value.int (lo8 c)).getD j d = .int (lo8 (cs.getD j 0)) := by
  simp [List.getD_eq_getElem?_getD, h]
/-- an array of N2 bytes vs codes the chars cs by the coder cd -/
def CodA (cs : List Int32) (cd N2 : Int32) (vs : List Value) : Prop := (cd = 0 ∧ N2 = Int32.ofNat cs.length ∧ vs = (cs.map fun c => Value.int (lo8 c)) ∧ ∀ c ∈ cs, ¬ 255 < c) ∨ (cd = 1 ∧ N2 = Int32.ofNat (2 * cs.length) ∧ vs = wideBytes cs ∧ ∃ c ∈ cs, 255 < c)
theorem CodA.cod {cs : List Int32} {cd N2 : Int32} {vs : List Value} {V : Cell} (h : CodA cs cd N2 vs) (hn : 2 * cs.length < 2 ^ 31) (hs : V.slots.size = N2.toNatClampNeg) (hv : RoadKit.Has V vs (.int 0)) : Cod cd cs.length (fun j => cs.getD j 0) V := by
  rcases h with ⟨rfl, rfl, rfl, h⟩ | ⟨rfl, rfl, rfl, c, hc, hw⟩
  · rw [n32 (by omega)] at hs
    exact Or.inl ⟨rfl, hs, fun j hj => ⟨by rw [hv j (by omega), low_at _ _ _ hj], by
      have e : cs.getD j 0 = cs[j] := by simp [List.getD_eq_getElem?_getD, hj]
      show ¬ 255 < cs.getD j 0
      rw [e]; exact h _ (List.getElem_mem _)⟩⟩
  · rw [n32 (by omega)] at hs
    obtain ⟨j, hj, rfl⟩ := List.getElem_of_mem hc
    exact Or.inr ⟨rfl, hs, fun j hj => ⟨by rw [hv _ (by omega), wide_lo _ _ _ hj], by rw [hv _ (by omega), wide_hi _ _ _ hj]⟩, j, hj, by
      have e : cs.getD j 0 = cs[j] := by simp [List.getD_eq_getElem?_getD, hj]
      show 255 < cs.getD j 0
      rw [e]; exact hw⟩
/-- an object of exactly java/lang/String, its two fields found: as the laws ask it -/
theorem strObj {Z U : State} {a0 : Array Value} {kI : Nat} (wi : (Jvm.Cond.instantiable ST kI).before a0 Z = true) (al : Z.vm.Alike U.vm) {x : Addr} {v0 c0 : Value} (E : RoadKit.Exa Z U.heap x ST) (V : RoadKit.Fld Z U.heap x ST "value" "[B" v0) (C : RoadKit.Fld Z U.heap x ST "coder" "B" c0) :
    ∃ (D : Cell) (fV fC : Field), Blank ST x D U ∧ Found ST "value" "[B" fV U ∧ Found ST "coder" "B" fC U ∧ D.slots[fV.slot]? = some v0 ∧ D.slots[fC.slot]? = some c0 ∧ RoadKit.slotOf Z ST "value" "[B" = fV.slot ∧ RoadKit.slotOf Z ST "coder" "B" = fC.slot := by
  obtain ⟨D, cfV, kV, iV, fV, hD, gV, stV, knV, obV, asV, slV⟩ := V
  obtain ⟨D', cfC, kC, iC, fC, hD', gC, stC, -, -, asC, slC⟩ := C
  cases hD.symm.trans hD'
  obtain ⟨D2, kD, e1, e2, e3, e4, e5⟩ := E
  cases hD.symm.trans e1
  obtain ⟨c2, k2, i1, i2, i3, -⟩ := Cond.instantiable_spec wi
  cases e2.symm.trans i1
  cases e3.symm.trans i2
  obtain ⟨kU, u1, u2⟩ := al.2.2 _ _ e3
  exact ⟨D, fV, fC, ⟨hD, ⟨knV, fun q hq => by rw [hq] at obV; cases obV⟩, by rw [al.findClass]; exact e2, kU, u1, by rw [u2]; exact i3, by rw [u2]; exact e5 i3⟩, ⟨SBG.found_only al ⟨cfV, kV, iV, gV⟩, stV⟩, ⟨SBG.found_only al ⟨cfC, kC, iC, gC⟩, stC⟩, slV, slC, by simp [RoadKit.slotOf, gV], by simp [RoadKit.slotOf, gC]⟩
theorem sta_is {Z U : State} (al : Z.vm.Alike U.vm) {C n d : String} {v : Value} (S : RoadKit.Sta Z U.heap C n d v) : StaticIs U C n d v := by
  obtain ⟨cfS, iS, kS, fS, st, cS, t1, t2, t3, t4, t5, t6, t7⟩ := S
  exact StaticIs.there (s := { Z with heap := U.heap }) ⟨cfS, iS, kS, fS, st, cS, t1, t2, t3, t4, t5, (fun q => by rw [q] at t6; cases t6), t7⟩ al rfl
/-- **length() OF SUCH A STRING** -/
theorem lenW {p : Program} {l : Launch} {e : Env} {R : Room} {s : State} {args : Array Value} {below : List Frame} {len W : Nat} {Z : State} {a0 : Array Value} {h : Heap} (hZ : Z.Warmed39 s.vm) (hw : ∀ d ∈ wordsLen, d.before a0 Z = true) {kI : Nat} (wi : (Jvm.Cond.instantiable ST kI).before a0 Z = true)
    {x t : Addr} {kb : ClassId} {cs : List Int32} {cd N2 z : Int32} {vs : List Value} (E : RoadKit.Exa Z h x ST) (V : RoadKit.Fld Z h x ST "value" "[B" (.ref t)) (C : RoadKit.Fld Z h x ST "coder" "B" (.int cd)) (K : RoadKit.Arv Z h t kb .byte N2 vs (.int 0)) (hc : CodA cs cd N2 vs) (hb : ∀ c ∈ cs, ¬ c < 0 ∧ ¬ (65535 : Int32) < c)
    (S : RoadKit.Sta Z h ST "COMPACT_STRINGS" "Z" (.int z)) (hz : ¬ z = 0) (l2 : cs.length ≤ 4000) (hfr : 2 ≤ R.frames) (hlo : W + 25 ≤ R.locals) :
    Back l R p e below s args (⟨"java/lang/String", "length", "()I"⟩ : MethodName) len W (fun P a => a = #[.ref x] ∧ P.U.heap = h ∧ P.cells + 0 ≤ R.cells ∧ P.slots + 0 ≤ R.slots)
      (fun P _ v B => ∃ L, (v = some (.int (Int32.ofNat cs.length)) ∧ L = [] ∧ B.U.heap = h) ∧ B.locs = P.locs ++ L ∧ B.cells = P.cells + 0 ∧ B.slots = P.slots + 0) := by
  obtain ⟨A, K1, K2, K3, K4, K5, K6⟩ := K
  have hcod := hc.cod (by omega) K3 K5
  intro m meth c P g ig mk a X hg hsize hdg hW hn hp'
  obtain ⟨rfl, rfl, r1, r2⟩ := hp'
  have al : Z.vm.Alike P.U.vm := hZ.alike.trans X.warmed.alike
  obtain ⟨D, fV, fC, hB, F1, F2, g1, g2, -, -⟩ := strObj wi al E V C
  have hx : Txt x t A cd cs.length (fun j => cs.getD j 0) P.U := ⟨⟨_, hB.2.2.1, D, hB.1, rfl, by cases q : D.vm <;> first | rfl | exact absurd q (hB.2.1.2 _)⟩, Has.of hB F1 g1, Has.of hB F2 g2, ⟨K1.1, State.isArrayOf_alike al K1.2.1, K1.2.2, by rcases hcod with ⟨-, q, -⟩ | ⟨-, q, -⟩ <;> omega⟩, hcod, fun j hj => by
    have e : cs.getD j 0 = cs[j] := by simp [List.getD_eq_getElem?_getD, hj]
    show ¬ cs.getD j 0 < 0 ∧ ¬ 65535 < cs.getD j 0
    rw [e]; exact hb _ (List.getElem_mem _)⟩
  obtain ⟨v, B, X', ⟨⟨hv, hh⟩, hl, hk, hs⟩, st⟩ := Len.pays x t A cd cs.length (fun j => cs.getD j 0) z (tabLen_of (movedLen hZ hw)) hfr hlo m meth c P g ig mk _ X hg hsize hdg hW hn ⟨r1, r2, rfl, hx, sta_is al S, hz⟩
  exact ⟨v, B, X', ⟨[], ⟨hv, rfl, hh⟩, hl, hk, hs⟩, st⟩
end StrChars.Road
namespace StrChars.Road
open Jvm Sem ClassFile Op Lib Jvm.Stand Jvm.Free Jvm.Free.XT
open Jvm.Lib.Cold (StaticIs)
/-- the road's facts of a String, as the laws ask it -/
theorem txt_of {Z U : State} {a0 : Array Value} {kI : Nat} (wi : (Jvm.Cond.instantiable ST kI).before a0 Z = true) (al : Z.vm.Alike U.vm) {x t : Addr} {kb : ClassId} {cs : List Int32} {cd N2 : Int32} {vs : List Value} (E : RoadKit.Exa Z U.heap x ST) (V : RoadKit.Fld Z U.heap x ST "value" "[B" (.ref t)) (C : RoadKit.Fld Z U.heap x ST "coder" "B" (.int cd)) (K : RoadKit.Arv Z U.heap t kb .byte N2 vs (.int 0)) (hc : CodA cs cd N2 vs) (hb : ∀ c ∈ cs, ¬ c < 0 ∧ ¬ (65535 : Int32) < c) (l2 : cs.length ≤ 4000) :
    ∃ A, Txt x t A cd cs.length (fun j => cs.getD j 0) U := by
  obtain ⟨A, K1, K2, K3, K4, K5, K6⟩ := K
  have hcod := hc.cod (by omega) K3 K5
  obtain ⟨D, fV, fC, hB, F1, F2, g1, g2, -, -⟩ := strObj wi al E V C
  exact ⟨A, ⟨_, hB.2.2.1, D, hB.1, rfl, by cases q : D.vm <;> first | rfl | exact absurd q (hB.2.1.2 _)⟩, Has.of hB F1 g1, Has.of hB F2 g2, ⟨K1.1, State.isArrayOf_alike al K1.2.1, K1.2.2, by rcases hcod with ⟨-, q, -⟩ | ⟨-, q, -⟩ <;> omega⟩, hcod, fun j hj => by
    have e : cs.getD j 0 = cs[j] := by simp [List.getD_eq_getElem?_getD, hj]
    show ¬ cs.getD j 0 < 0 ∧ ¬ 65535 < cs.getD j 0
    rw [e]; exact hb _ (List.getElem_mem _)⟩
end StrChars.Road
namespace StrChars
open Jvm Sem ClassFile Op Lib Jvm.Stand Jvm.Free.XT Jvm.Free.ALB Jvm.Free.JM Jvm.Free
open Jvm.Lib.Cold (StaticIs)
namespace ChN
def yN : MethodName := ⟨"java/lang/String", "charAt", "(I)C"⟩
abbrev yB : ByteArray := jdk_42_method_56_code
theorem d0 : decode yB 0 = .ok (.aload_n 0, 1) := by decide +kernel
theorem d1 : decode yB 1 = .ok (.invokevirtual 492, 3) := by decide +kernel
theorem d4 : decode yB 4 = .ok (.ifCond (.eq) 12, 3) := by decide +kernel
theorem d7 : decode yB 7 = .ok (.aload_n 0, 1) := by decide +kernel
theorem d8 : decode yB 8 = .ok (.getfield 9, 3) := by decide +kernel
theorem d11 : decode yB 11 = .ok (.iload_n 1, 1) := by decide +kernel
theorem d12 : decode yB 12 = .ok (.invokestatic 495, 3) := by decide +kernel
theorem d15 : decode yB 15 = .ok (.ireturn, 1) := by decide +kernel
def site : List Cond := [.fieldLink "java/lang/String" 9 "java/lang/String" "value" "[B", IsL.tab, LChA.tab] ++ virtW "java/lang/String" 492 "java/lang/String" IsL.yN IsL.yN ++ staticW "java/lang/String" 495 LChA.yN
def tab : Cond := tabOf yN yB 2 (some .char) site
def P (x t : Addr) (V : Cell) (n : Nat) (f : Nat → Int32) (z : Int32) (fm : Value) (i : Nat) (args : Array Value) (s : State) : Prop := args = #[.ref x, .int (Int32.ofNat i)] ∧ Txt x t V 0 n f s ∧ i < n ∧ StaticIs s "java/lang/String" "COMPACT_STRINGS" "Z" (.int z) ∧ ¬ z = 0 ∧ StaticIs s "jdk/internal/util/Preconditions" "SIOOBE_FORMATTER" "Ljava/util/function/BiFunction;" fm ∧ fm.isRef = true
def E (f : Nat → Int32) (i : Nat) (r : Option Value) (s u : State) : Prop := XT.PureE (some (.int (f i))) r s u
/-- charAt(i) of a Latin-1 String of n chars, i < n: f i -/
theorem law (l : Launch) (x t : Addr) (V : Cell) (n : Nat) (f : Nat → Int32) (z : Int32) (fm : Value) (i : Nat) : Law l yN 2 1 3 40 yB 2 (some .char) site (P x t V n f z fm i) (E f i) [] 0 0 := by
  refine Law.of_walk (plainFor_of_name (by decide +kernel)) (by decide +kernel) (by decide +kernel) (by decide) (fun _ _ h => by rw [h.1]; rfl) (fun _ U U' hal hh h => ⟨h.1, h.2.1.mv hal hh, h.2.2.1, h.2.2.2.1.there hal hh, h.2.2.2.2.1, h.2.2.2.2.2.1.there hal hh, h.2.2.2.2.2.2⟩) (fun r U U' V V' h1 hal h2 h => XT.PureE.mv r U U' V V' h1 hal h2 h) ?_
  intro p e s m args below meth c s₁ X0 hexec hbytes hml hret hlk hnm hown hh0 W hP
  obtain ⟨rfl, hx, hi, s1, hz, s3, rf⟩ := hP
  have v31 := hx.2.2.2.1.2.2.2
  have hr := hx.2.2.2.2.2 i hi
  have hx0 := hx.mv X0.warmed.alike hh0
  have c1 : Steps p.tables e below (s₁.setTop (entryFrame m #[.ref x, .int (Int32.ofNat i)] 2)) (s₁.setTop (mkF m 1 #[.val (.ref x), .val (.int (Int32.ofNat i))] [.ref x])) := Steps.trans (entry rfl) (by
    show Steps p.tables e below (s₁.setTop (mkF m 0 #[.val (.ref x), .val (.int (Int32.ofNat i))] [])) _
    refine XS.aloadN X0.here hexec rfl (hb hbytes d0) rfl rfl ?_
    exact Steps.refl _)
  obtain ⟨v2, T2, X2, E2, g2⟩ := X0.callV hexec (IsL.law l x 0 z) hown (wks W (virtW "java/lang/String" 492 "java/lang/String" IsL.yN IsL.yN)) rfl (by decide) (wk W IsL.tab) (W := 0) (Nat.le_of_ble_eq_true rfl) (Nat.le_of_ble_eq_true rfl) (Nat.le_refl _) (Nat.le_refl _) (hx0.1.fc X0.warmed.alike) hx0.1.is (g := (mkF m 1 #[.val (.ref x), .val (.int (Int32.ofNat i))] [.ref x])) rfl (by rw [hml]; rfl) c1 (argsL := []) (rest := []) rfl rfl (by show 2 * 0 + 0 ≤ _; decide) (hb hbytes d1) (⟨rfl, hx0.2.2.1, hx.2.2.2.2.1.cd, s1.there X0.warmed.alike hh0, hz⟩)
  obtain ⟨rfl, q2⟩ := E2
  have hh2 := q2.trans hh0
  have hx2 := hx.mv X2.warmed.alike hh2
  obtain ⟨-, k1, k2⟩ | ⟨k0, -⟩ := hx.2.2.2.2.1
  · have c3 : Steps p.tables e below (s₁.setTop (entryFrame m #[.ref x, .int (Int32.ofNat i)] 2)) (T2.setTop (mkF m 8 #[.val (.ref x), .val (.int (Int32.ofNat i))] [.ref x])) := Steps.trans g2 (by
      refine XS.ifNo X2.here hexec rfl (hb hbytes d4) rfl (i0_eq_f (by decide)) ?_
      refine XS.aloadN X2.here hexec rfl (hb hbytes d7) rfl rfl ?_
      exact Steps.refl _)
    obtain ⟨T4, X4, q4, st4⟩ := X2.hget hexec hown (wk W (.fieldLink "java/lang/String" 9 "java/lang/String" "value" "[B")) hx2.2.1 (g := (mkF m 8 #[.val (.ref x), .val (.int (Int32.ofNat i))] [.ref x])) rfl (rest := []) rfl (hb hbytes d8)
    have hh4 := q4.trans hh2
    have c5 : Steps p.tables e below (s₁.setTop (entryFrame m #[.ref x, .int (Int32.ofNat i)] 2)) (T4.setTop (mkF m 12 #[.val (.ref x), .val (.int (Int32.ofNat i))] [.int (Int32.ofNat i), .ref t])) := (c3.trans (st4 _ (Steps.refl _))).trans (by
      refine XS.iloadN X4.here hexec rfl (hb hbytes d11) rfl ?_
      exact Steps.refl _)
    obtain ⟨v6, T6, X6, E6, g6⟩ := X4.callS hexec (LChA.law l t V i (lo8 (f i)) fm) hown (wks W (staticW "java/lang/String" 495 LChA.yN)) (wk W LChA.tab) (W := 0) (Nat.le_of_ble_eq_true rfl) (Nat.le_of_ble_eq_true rfl) (Nat.le_refl _) (Nat.le_refl _) (g := (mkF m 12 #[.val (.ref x), .val (.int (Int32.ofNat i))] [.int (Int32.ofNat i), .ref t])) rfl (by rw [hml]; rfl) c5 (argsL := [.ref t, .int (Int32.ofNat i)]) (rest := []) rfl rfl (by show 2 * 0 + 0 ≤ _; decide) (hb hbytes d12) (⟨rfl, hx.2.2.2.1.mv X4.warmed.alike hh4, (k2 i hi).1, s3.there X4.warmed.alike hh4, rf⟩)
    obtain ⟨rfl, q6⟩ := E6
    rw [chr8_lo8 hr.1 (k2 i hi).2] at g6
    exact ⟨T6, some (.int (f i)), _, _, _, X6, rfl, rfl, rfl, (fun h => by cases h), ⟨rfl, q6.trans hh4⟩, fun fs hl => Steps.trans g6 (X6.ireturnOut hexec hret (narrow_ch hr.1 hr.2) (Or.inr (Or.inr (Or.inr (Or.inl rfl)))) (hb hbytes d15) hl)⟩
  · exact absurd k0 (by decide)
theorem pays {l : Launch} {R : Room} {p : Program} {e : Env} {below : List Frame} {s : State} {sargs : Array Value} {len W : Nat} (x t : Addr) (V : Cell) (n : Nat) (f : Nat → Int32) (z : Int32) (fm : Value) (i : Nat) (htab : tab.before sargs s = true) (hfr : 4 ≤ R.frames) (hlo : W + 53 ≤ R.locals) :
    Back l R p e below s sargs yN len W (fun A₁ a₁ => A₁.cells + 0 ≤ R.cells ∧ A₁.slots + 0 ≤ R.slots ∧ P x t V n f z fm i a₁ A₁.U) (fun A₁ _ v₁ B₁ => E f i v₁ A₁.U B₁.U ∧ B₁.locs = A₁.locs ++ [] ∧ B₁.cells = A₁.cells + 0 ∧ B₁.slots = A₁.slots + 0) :=
  (law l x t V n f z fm i).pays htab hfr (by omega)
end ChN
end StrChars
namespace StrChars.Road
open Jvm Sem ClassFile Op Lib Jvm.Stand Jvm.Free Jvm.Free.XT
open Jvm.Lib.Cold (StaticIs)
/-- the words of String.charAt(int), the Latin-1 road alone -/
abbrev wordsChN : List Jvm.Cond := [.code ChN.yN ChN.yB 2 (some .char), .initialized ST, .fieldLink ST 9 ST "value" "[B", .fieldLink ST 38 ST "COMPACT_STRINGS" "Z", .fieldLink ST 15 ST "coder" "B", .code IsL.yN IsL.yB 1 (some .boolean), .methodLink ST 492 IsL.yN, .declares IsL.yN, .selects ST IsL.yN IsL.yN, .instanceMethod IsL.yN,
  .methodLink ST 495 LChA.yN, .static LChA.yN, .code LChA.yN LChA.yB 2 (some .char), .initialized "java/lang/StringLatin1", .methodLink "java/lang/StringLatin1" 9 JO.Str_checkIndex.yN, .static JO.Str_checkIndex.yN, .code JO.Str_checkIndex.yN JO.Str_checkIndex.yB 2 none,
  .fieldLink ST 1053 "jdk/internal/util/Preconditions" "SIOOBE_FORMATTER" "Ljava/util/function/BiFunction;", .methodLink ST 1059 JC.PreCheck.yN, .static JC.PreCheck.yN, .code JC.PreCheck.yN JC.PreCheck.yB 3 (some .int), .initialized "jdk/internal/util/Preconditions"]
theorem tabChN_of {a : Array Value} {s : State} (h : ∀ w ∈ wordsChN, w.before a s = true) : ChN.tab.before a s = true := by
  have hp : JC.PreCheck.tab.before a s = true := unparts (wk h (.code JC.PreCheck.yN JC.PreCheck.yB 3 (some .int))) (wks h (.initialized JC.PreCheck.yN.cls :: JC.PreCheck.site))
  have qk := consq hp h
  have hk : JO.Str_checkIndex.tab.before a s = true := unparts (wk qk (.code JO.Str_checkIndex.yN JO.Str_checkIndex.yB 2 none)) (wks qk (.initialized JO.Str_checkIndex.yN.cls :: JO.Str_checkIndex.site))
  have ql := consq hk h
  have hl : LChA.tab.before a s = true := unparts (wk ql (.code LChA.yN LChA.yB 2 (some .char))) (wks ql (.initialized LChA.yN.cls :: LChA.site))
  have hi : IsL.tab.before a s = true := unparts (wk h (.code IsL.yN IsL.yB 1 (some .boolean))) (wks h (.initialized IsL.yN.cls :: IsL.site))
  have q := consq hi (consq hl h)
  exact unparts (wk q (.code ChN.yN ChN.yB 2 (some .char))) (wks q (.initialized ChN.yN.cls :: ChN.site))
theorem movedChN {Z s : State} {a0 args : Array Value} (hZ : Z.Warmed39 s.vm) (hw : ∀ d ∈ wordsChN, d.before a0 Z = true) : ∀ d ∈ wordsChN, d.before args s = true := fun d hd => by
  have t : ∀ d ∈ wordsChN, (d.onTables && d.keepsFace) = true := by decide +kernel
  exact RoadKit.mv hZ (hw d hd) (t d hd)
/-- **charAt(i) OF A LATIN-1 STRING**, i < n: the char -/
theorem chN {p : Program} {l : Launch} {e : Env} {R : Room} {s : State} {args : Array Value} {below : List Frame} {len W : Nat} {Z : State} {a0 : Array Value} {h : Heap} (hZ : Z.Warmed39 s.vm) (hw : ∀ d ∈ wordsChN, d.before a0 Z = true) {kI : Nat} (wi : (Jvm.Cond.instantiable ST kI).before a0 Z = true)
    {x t : Addr} {kb : ClassId} {cs : List Int32} {N2 z : Int32} {vs : List Value} {fm : Value} {i : Nat} {j : Int32} (E : RoadKit.Exa Z h x ST) (V : RoadKit.Fld Z h x ST "value" "[B" (.ref t)) (C : RoadKit.Fld Z h x ST "coder" "B" (.int 0)) (K : RoadKit.Arv Z h t kb .byte N2 vs (.int 0)) (hc : CodA cs 0 N2 vs) (hb : ∀ c ∈ cs, ¬ c < 0 ∧ ¬ (65535 : Int32) < c)
    (S : RoadKit.Sta Z h ST "COMPACT_STRINGS" "Z" (.int z)) (hz : ¬ z = 0) (F : RoadKit.Sta Z h "jdk/internal/util/Preconditions" "SIOOBE_FORMATTER" "Ljava/util/function/BiFunction;" fm) (rf : fm.isRef = true) (l2 : cs.length ≤ 4000) (hi : i < cs.length) (hj : j = Int32.ofNat i) (hfr : 4 ≤ R.frames) (hlo : W + 53 ≤ R.locals) :
    Back l R p e below s args (⟨"java/lang/String", "charAt", "(I)C"⟩ : MethodName) len W (fun P a => a = #[.ref x, .int j] ∧ P.U.heap = h ∧ P.cells + 0 ≤ R.cells ∧ P.slots + 0 ≤ R.slots)
      (fun P _ v B => ∃ L, (v = some (.int (cs.getD i 0)) ∧ L = [] ∧ B.U.heap = h) ∧ B.locs = P.locs ++ L ∧ B.cells = P.cells + 0 ∧ B.slots = P.slots + 0) := by
  subst hj
  intro m meth c P g ig mk a X hg hsize hdg hW hn hp'
  obtain ⟨rfl, rfl, r1, r2⟩ := hp'
  have al : Z.vm.Alike P.U.vm := hZ.alike.trans X.warmed.alike
  obtain ⟨A, hx⟩ := txt_of wi al E V C K hc hb l2
  obtain ⟨v, B, X', ⟨⟨hv, hh⟩, hl, hk, hs⟩, st⟩ := ChN.pays x t A cs.length (fun j => cs.getD j 0) z fm i (tabChN_of (movedChN hZ hw)) hfr hlo m meth c P g ig mk _ X hg hsize hdg hW hn ⟨r1, r2, rfl, hx, hi, sta_is al S, hz, sta_is al F, rf⟩
  exact ⟨v, B, X', ⟨[], ⟨hv, rfl, hh⟩, hl, hk, hs⟩, st⟩
/-- what backV says of its String, as the contracts of this text ask it: cs's low bytes, coder 0 -/
theorem codOf {cs : List Int32} {n : Nat} (hn : cs.length = n) (hb : ∀ c ∈ cs, ¬ 255 < c) : CodA cs 0 (Int32.ofNat n) ((cs.map lo8).map Value.int) := Or.inl ⟨rfl, by rw [hn], by simp [List.map_map, Function.comp_def], hb⟩
end StrChars.Road
end Jvm.Pilot.@@N@@
namespace Jvm.Pilot.@@N@@
open Jvm Jvm.ClassFile Sem Op Lib Jvm.Free Jvm.Stand Jvm.LawKit Jvm.RoadKit Bundle Jvm.Pilot.@@N@@.Jvm.D
theorem own_backSX {p : Program} {l : Launch} {e : Env} {R : Room} {s : State} {args : Array Value} {below : List Frame} {Z : State} {a0 : Array Value} {EL : List (String × Nat)} {h : Heap} {vm0 : Vm} {y : MethodName} {bytes : ByteArray} {maxL : Nat} {ret : Option FieldType} {rm : Room} {len W : Nat} {as' : Array Value} {Q : Option Value → Heap → List Loc → Prop} {x : Addr}
    (hM : MetFree l y (head1 [Cond.code y bytes maxL ret] rm) (fun a U => a = as' ∧ Z.Warmed39 U.vm ∧ U.heap = h ∧ CHv Z EL U.vm h ∧ Safe Z EL U.vm h x) (fun _ _ _ _ _ => True) (fun _ U o U' => ∃ v L, o = .returned v ∧ Q v U'.heap L ∧ CHr Z EL U.vm U.heap U'.vm U'.heap ∧ ReturnedEndW U o U' L rm.cells rm.slots))
    (hZ : Z.Warmed39 vm0) (wc : (Cond.code y bytes maxL ret).before a0 Z = true) (wz : (Cond.initialized y.cls).before a0 Z = true) (hf : rm.frames + 1 ≤ R.frames) (hl : W + (maxL + 11) + rm.locals ≤ R.locals) (hEL : EW Z a0 EL) (H : CHv Z EL vm0 h) (S : Safe Z EL vm0 h x) (hxl : x < h.size) :
    BackS l R p e below (s.setVm vm0) args y len W (fun A a => a = as' ∧ A.U.heap = h ∧ A.cells + rm.cells ≤ R.cells ∧ A.slots + rm.slots ≤ R.slots)
      (fun A _ v B => ∃ L, Q v B.U.heap L ∧ B.locs = A.locs ++ L ∧ B.cells = A.cells + rm.cells ∧ B.slots = A.slots + rm.slots ∧ CHr Z EL vm0 h B.U.vm B.U.heap) := by
  refine BackS.of_freeW (bytes := bytes) (maxL := maxL) (ret := ret) (E := fun _ first o t L k n => k = rm.cells ∧ n = rm.slots ∧ (∃ v, o = .returned v ∧ Q v t.heap L) ∧ CHr Z EL first.vm first.heap t.vm t.heap) hM hf hl ?_ ?_ (fun _ _ _ _ _ _ _ _ _ => trivial) ?_ ?_
  · intro m meth c A a Y hp
    have hU : Z.Warmed39 A.U.vm := wtrans (s := s.setVm vm0) hZ Y.warmed
    exact ⟨by show (Cond.and _ .tt).before a A.U = true; rw [Cond.before_and, mv hU wc]; rfl, mv hU wc, mv hU wz, hp.2.2.1, hp.2.2.2⟩
  · intro m meth c A a g mk Y hp
    have K := CHv.at Y hZ hEL H
    exact ⟨hp.1, wtrans (s := s.setVm vm0) hZ Y.warmed, hp.2.1, K.1, K.safe hxl S⟩
  · intro _ _ _ _ ⟨v, L, h1, h2, h3, h4⟩
    exact ⟨L, _, _, h4, rfl, rfl, ⟨v, h1, h2⟩, h3⟩
  · intro m meth c A a g mk v t L k n Y hp _ _ ⟨e1, e2, ⟨v', e3, e4⟩, e5⟩
    cases e3
    subst e1 e2
    refine ⟨L, e4, rfl, rfl, rfl, (CHv.at Y hZ hEL H).trans ?_⟩
    rw [← hp.2.1]
    exact e5
def own_es (Z : State) (h : Heap) (x : Addr) : Prop := ∃ (b : Addr) (k : ClassId), Exa Z h x "java/lang/String" ∧ Fld Z h x "java/lang/String" "coder" "B" (.int (0 : Int32)) ∧ Fld Z h x "java/lang/String" "value" "[B" (.ref b) ∧ Arv Z h b k .byte (0 : Int32) [] (.int (0 : Int32))
theorem own_EW {Z : State} {a0 : Array Value} (hw : ∀ d ∈ tables_1, d.before a0 Z = true) : EW Z a0 consts_1 := (EW.cons (hw _ (List.mem_of_getElem? (i := 43) rfl)) (by decide +kernel) (EW.cons (hw _ (List.mem_of_getElem? (i := 44) rfl)) (by decide +kernel) (EW.cons (hw _ (List.mem_of_getElem? (i := 21) rfl)) (by decide +kernel) EW.nil)))
def own_QE (Z : State) (x : Addr) (h0 : Heap) (n0 : Nat) (v : Option Value) (h : Heap) (L : List Loc) : Prop := v = none ∧ Fr n0 L ∧ Keep h0 h [x] ∧ own_es Z h x
theorem d4_0 : decode jdk_42_method_149_code 0 = .ok (.aload_n 0, 1) := by decide +kernel
theorem d4_1 : decode jdk_42_method_149_code 1 = .ok (.invokespecial 1, 3) := by decide +kernel
theorem d4_4 : decode jdk_42_method_149_code 4 = .ok (.iload_n 3, 1) := by decide +kernel
theorem d4_5 : decode jdk_42_method_149_code 5 = .ok (.ifCond .ne 22, 3) := by decide +kernel
theorem d4_8 : decode jdk_42_method_149_code 8 = .ok (.aload_n 0, 1) := by decide +kernel
theorem own_wS : ∀ d ∈ Bundle.stringAtoms, d ∈ tables_1 := by decide +kernel
theorem own_mem7 : ("java/lang/String", (7 : Nat)) ∈ consts_1 := by simp [consts_1]
theorem d4_9 : decode jdk_42_method_149_code 9 = .ok (.ldc 7, 2) := by decide +kernel
theorem d4_11 : decode jdk_42_method_149_code 11 = .ok (.getfield 9, 3) := by decide +kernel
theorem d4_14 : decode jdk_42_method_149_code 14 = .ok (.putfield 9, 3) := by decide +kernel
theorem d4_17 : decode jdk_42_method_149_code 17 = .ok (.aload_n 0, 1) := by decide +kernel
theorem d4_18 : decode jdk_42_method_149_code 18 = .ok (.ldc 7, 2) := by decide +kernel
theorem d4_20 : decode jdk_42_method_149_code 20 = .ok (.getfield 15, 3) := by decide +kernel
theorem d4_23 : decode jdk_42_method_149_code 23 = .ok (.putfield 15, 3) := by decide +kernel
theorem d4_26 : decode jdk_42_method_149_code 26 = .ok (.return_, 1) := by decide +kernel
theorem pn_4 : plainName "java/lang/String" = true := by first | (simp [plainName, overriddenIn]; done) | decide +kernel
theorem ef_4_rrrrn (m : MethodId) (x0 : Addr) (x1 : Addr) (x2 : Int32) (x3 : Int32) : entryFrame m #[(.ref x0), (.ref x1), (.int x2), (.int x3), .null] 6 = mkF m 0 #[.val (.ref x0), .val (.ref x1), .val (.int x2), .val (.int x3), .val .null, .unset] [] := by first | (simp [entryFrame, mkF, argsToLocals, Value.category]; done) | rfl
set_option maxRecDepth 65536 in
set_option maxHeartbeats 40000000 in
theorem rmSV0 (l : Launch) (Z : State) (a0 : Array Value) (hw : ∀ d ∈ tables_1, d.before a0 Z = true) (ws : List Jvm.Cond) (x : Addr) (ar : Addr) (i2 : Int32) (h0 : Heap) (n0 : Nat) (Z0 : n0 ≤ h0.size) (E_x : Exa Z h0 x "java/lang/String") (F_coder_x : Fld Z h0 x "java/lang/String" "coder" "B" (.int (0 : Int32))) (F_value_x : Fld Z h0 x "java/lang/String" "value" "[B" .null) (g_x : n0 ≤ x) :
    MetFree l (⟨"java/lang/String", "<init>", "([CIILjava/lang/Void;)V"⟩ : MethodName) (head1 (Jvm.Cond.code (⟨"java/lang/String", "<init>", "([CIILjava/lang/Void;)V"⟩ : MethodName) jdk_42_method_149_code 6 none :: ws) ({ frames := 1, cells := 4, slots := 8, locals := 12 } : Room)) (fun a_ U_ => a_ = #[(.ref x), (.ref ar), (.int i2), (.int (0 : Int32)), .null] ∧ Z.Warmed39 U_.vm ∧ U_.heap = h0 ∧ CHv Z consts_1 U_.vm h0 ∧ Safe Z consts_1 U_.vm h0 x) (fun _ _ _ _ _ => True) (fun _ U_ o_ U1_ => ∃ v_ L_, o_ = .returned v_ ∧ own_QE Z x h0 n0 v_ U1_.heap L_ ∧ CHr Z consts_1 U_.vm U_.heap U1_.vm U1_.heap ∧ ReturnedEndW U_ o_ U1_ L_ ({ frames := 1, cells := 4, slots := 8, locals := 12 } : Room).cells ({ frames := 1, cells := 4, slots := 8, locals := 12 } : Room).slots) := by
  refine MetFree.of_bodySF (plainFor_of_name pn_4) hisR ?_
  intro p e s m args below meth c s₁ Bd hml0 hP hK
  obtain ⟨rfl, hZ, hh, H0, S0⟩ := hP
  have hx := Bd.exec
  have hby := Bd.bytes
  have hml : c.maxLocals = 6 := hml0
  have hown : s.vm.findClass "java/lang/String" = some m.cls := findClass_of_methodNamed Bd.named
  have hnm := (name_of_methodNamed Bd.named Bd.method).1
  have X0 : Stand p l e ({ frames := 1, cells := 4, slots := 8, locals := 12 } : Room) s m #[(.ref x), (.ref ar), (.int i2), (.int (0 : Int32)), .null] below meth c s₁ [] 0 0 := Stand.of_body Bd
  have e0 : s₁.heap = h0 := by rw [← hh, Bd.state]; rfl
  have N0 := Fr.nil n0
  have pre0 : ∀ tt, Steps p.tables e below (s₁.setTop (mkF m 0 #[.val (.ref x), .val (.ref ar), .val (.int i2), .val (.int (0 : Int32)), .val .null, .unset] [])) tt → Steps p.tables e below (s₁.setTop (entryFrame m #[(.ref x), (.ref ar), (.int i2), (.int (0 : Int32)), .null] 6)) tt := fun tt kk => castTop (ef_4_rrrrn m x ar i2 (0 : Int32)) kk
  have hS0 : s.Since s.vm 0 := (State.WarmedH.refl s).since 0
  have hk0 : 0 ≤ h0.size := Nat.zero_le _
  obtain ⟨T1, X1, e1, st1⟩ := initO X0 hx hZ hown (hw _ (List.mem_of_getElem? (i := 18) rfl)) (hw _ (List.mem_of_getElem? (i := 19) rfl)) (hw _ (List.mem_of_getElem? (i := 20) rfl)) e0 (g := (mkF m 1 #[.val (.ref x), .val (.ref ar), .val (.int i2), .val (.int (0 : Int32)), .val .null, .unset] [(.ref x)])) rfl (by rw [hml]; rfl) rfl (hb hby d4_1) (by decide) (W := 0) (by show 2 * 0 + _ ≤ _; exact Nat.le_of_eq rfl) (by decide)
  obtain ⟨b2, T2, h2, k2, d2, kb2, X2, e2, E2, hS2, hk2, hZ2, hown2, Ea2, Ca2, Va2, Ka2, la2, lb2, Cx2, -, ne2, st2⟩ := ldcCH (s := s) (vm0 := s.vm) X1 hx hZ hown (hw _ (List.mem_of_getElem? (i := 21) rfl)) (fun d hd => hw d (own_wS d hd)) e1 hS0 hk0 (own_EW hw) own_mem7 (CHr.refl H0).1 (vs := []) (z := 0) ⟨by decide, rfl⟩ (by decide) rfl (g := (mkF m 9 #[.val (.ref x), .val (.ref ar), .val (.int i2), .val (.int (0 : Int32)), .val .null, .unset] [(.ref x)])) rfl (hb hby d4_9) (n := 0) (by decide) (by decide) (by decide) (by decide)
  have C2 := CHr.trans (CHr.refl H0) Cx2
  have sx2_x := ne2 x (C2.safe E_x.lt S0)
  obtain ⟨T3, X3, e3, st3⟩ := getF X2 hx hZ2 hown2 (host := "") (Or.inl (hw _ (List.mem_of_getElem? (i := 27) rfl))) Via.refl e2 Va2 (g := (mkF m 11 #[.val (.ref x), .val (.ref ar), .val (.int i2), .val (.int (0 : Int32)), .val .null, .unset] [(.ref b2), (.ref x)])) rfl rfl (hb hby d4_11)
  have f5 := (E_x.ext E2)
  have f6 := (F_value_x.ext E2)
  obtain ⟨T4, h4, X4, e4, W4, st4⟩ := putF X3 hx hZ2 hown2 (host := "") (Or.inl (hw _ (List.mem_of_getElem? (i := 27) rfl))) Via.refl e3 f6 f5 (Or.inr ⟨(hw _ (List.mem_of_getElem? (i := 23) rfl)), rfl, hnm⟩) (hw _ (List.mem_of_getElem? (i := 9) rfl)) (ty := (.array .byte)) (by decide) rfl rfl (g := (mkF m 14 #[.val (.ref x), .val (.ref ar), .val (.int i2), .val (.int (0 : Int32)), .val .null, .unset] [(.ref d2), (.ref x)])) rfl rfl (hb hby d4_14)
  have Fw4 := f6.same W4
  have N4 := Fr.snoc X4 N0 g_x
  have C8 := CHr.trans C2 (CHr.wr W4 (C2.safe E_x.lt S0) C2.1)
  obtain ⟨b7, T7, h7, k7, d7, kb7, X7, e7, E7, hS7, hk7, hZ7, hown7, Ea7, Ca7, Va7, Ka7, la7, lb7, Cx7, -, ne7, st7⟩ := ldcCH (s := s) (vm0 := T2.vm) X4 hx hZ2 hown2 (hw _ (List.mem_of_getElem? (i := 21) rfl)) (fun d hd => hw d (own_wS d hd)) e4 hS2 (Nat.le_trans hk2 (Keep.of_wr W4).1) (own_EW hw) own_mem7 C8.1 (vs := []) (z := 0) ⟨by decide, rfl⟩ (by decide) rfl (g := (mkF m 18 #[.val (.ref x), .val (.ref ar), .val (.int i2), .val (.int (0 : Int32)), .val .null, .unset] [(.ref x)])) rfl (hb hby d4_18) (n := 0) (by decide) (by decide) (by decide) (by decide)
  have C7 := CHr.trans C8 Cx7
  have sx7_x := ne7 x (C7.safe E_x.lt S0)
  obtain ⟨T9, X9, e9, st9⟩ := getF X7 hx hZ7 hown7 (host := "") (Or.inl (hw _ (List.mem_of_getElem? (i := 28) rfl))) Via.refl e7 Ca7 (g := (mkF m 20 #[.val (.ref x), .val (.ref ar), .val (.int i2), .val (.int (0 : Int32)), .val .null, .unset] [(.ref b7), (.ref x)])) rfl rfl (hb hby d4_20)
  have f11 := ((f5.wr W4).ext E7)
  have f12 := (((F_coder_x.ext E2).other W4 (Or.inr (slot_ne (Or.inr (hw _ (List.mem_of_getElem? (i := 24) rfl))) (Or.inr (hw _ (List.mem_of_getElem? (i := 23) rfl))) (by decide) (t := .byte) (t' := (.array .byte)) (by decide) (by decide)))).ext E7)
  obtain ⟨T10, h10, X10, e10, W10, st10⟩ := putFN X9 hx hZ7 hown7 (hw _ (List.mem_of_getElem? (i := 28) rfl)) Via.refl e9 f12 f11 (Or.inr ⟨(hw _ (List.mem_of_getElem? (i := 24) rfl)), rfl, hnm⟩) (hw _ (List.mem_of_getElem? (i := 9) rfl)) (ty := .byte) (v' := (.int (0 : Int32))) (by decide) rfl (by decide) (g := (mkF m 23 #[.val (.ref x), .val (.ref ar), .val (.int i2), .val (.int (0 : Int32)), .val .null, .unset] [(.int (0 : Int32)), (.ref x)])) rfl rfl (hb hby d4_23)
  have Fw10 := f12.same W10
  have N10 := Fr.snoc X10 N4 g_x
  have f13 := (f11.wr W10)
  have f14 := ((Fw4.ext E7).other W10 (Or.inr (slot_ne (Or.inr (hw _ (List.mem_of_getElem? (i := 23) rfl))) (Or.inr (hw _ (List.mem_of_getElem? (i := 24) rfl))) (by decide) (t := (.array .byte)) (t' := .byte) (by decide) (by decide))))
  have f15 := (((Ka2.other W4 (Ne.symm sx2_x.2)).ext E7).other W10 (Ne.symm sx2_x.2))
  have C16 := CHr.trans C7 (CHr.wr W10 (C7.safe E_x.lt S0) C7.1)
  obtain ⟨fs, hr, hrun, hended, hfin⟩ := X10.leaveW hS7 (by rw [e10]; exact (Nat.le_trans hk7 (Keep.of_wr W10).1)) (v := none) (fun _ => rfl)
  refine ⟨_, _, pre0 _ ?_, hrun, hended, _, _, rfl, ?_, (by show CHr Z consts_1 s.vm s.heap T10.vm T10.heap; rw [hh, e10]; exact CHr.trans C16 (CHv.at (s := s) (vm0 := T7.vm) X10 hZ7 (own_EW hw) C16.1)), hfin.1, hfin.2.1, hfin.2.2.1, hfin.2.2.2.mono (by decide) (by decide)⟩
  · show Steps p.tables e below (s₁.setTop (mkF m 0 #[.val (.ref x), .val (.ref ar), .val (.int i2), .val (.int (0 : Int32)), .val .null, .unset] [])) _
    refine XS.aloadN X0.here hx rfl (hb hby d4_0) rfl rfl ?_
    show Steps p.tables e below (s₁.setTop (mkF m 1 #[.val (.ref x), .val (.ref ar), .val (.int i2), .val (.int (0 : Int32)), .val .null, .unset] [(.ref x)])) _
    refine st1 _ ?_
    show Steps p.tables e below (T1.setTop (mkF m 4 #[.val (.ref x), .val (.ref ar), .val (.int i2), .val (.int (0 : Int32)), .val .null, .unset] [])) _
    refine XS.iloadN X1.here hx rfl (hb hby d4_4) rfl ?_
    refine XS.ifNo X1.here hx rfl (hb hby d4_5) rfl ((if0 _ _).trans (teq (by decide : (0 : Int32) = (0 : Int32))).2) ?_
    refine XS.aloadN X1.here hx rfl (hb hby d4_8) rfl rfl ?_
    show Steps p.tables e below (T1.setTop (mkF m 9 #[.val (.ref x), .val (.ref ar), .val (.int i2), .val (.int (0 : Int32)), .val .null, .unset] [(.ref x)])) _
    refine st2 _ ?_
    show Steps p.tables e below (T2.setTop (mkF m 11 #[.val (.ref x), .val (.ref ar), .val (.int i2), .val (.int (0 : Int32)), .val .null, .unset] [(.ref b2), (.ref x)])) _
    refine st3 _ ?_
    show Steps p.tables e below (T3.setTop (mkF m 14 #[.val (.ref x), .val (.ref ar), .val (.int i2), .val (.int (0 : Int32)), .val .null, .unset] [(.ref d2), (.ref x)])) _
    refine st4 _ ?_
    show Steps p.tables e below (T4.setTop (mkF m 17 #[.val (.ref x), .val (.ref ar), .val (.int i2), .val (.int (0 : Int32)), .val .null, .unset] [])) _
    refine XS.aloadN X4.here hx rfl (hb hby d4_17) rfl rfl ?_
    show Steps p.tables e below (T4.setTop (mkF m 18 #[.val (.ref x), .val (.ref ar), .val (.int i2), .val (.int (0 : Int32)), .val .null, .unset] [(.ref x)])) _
    refine st7 _ ?_
    show Steps p.tables e below (T7.setTop (mkF m 20 #[.val (.ref x), .val (.ref ar), .val (.int i2), .val (.int (0 : Int32)), .val .null, .unset] [(.ref b7), (.ref x)])) _
    refine st9 _ ?_
    show Steps p.tables e below (T9.setTop (mkF m 23 #[.val (.ref x), .val (.ref ar), .val (.int i2), .val (.int (0 : Int32)), .val .null, .unset] [(.int (0 : Int32)), (.ref x)])) _
    refine st10 _ ?_
    show Steps p.tables e below (T10.setTop (mkF m 26 #[.val (.ref x), .val (.ref ar), .val (.int i2), .val (.int (0 : Int32)), .val .null, .unset] [])) _
    exact X10.returnOut hx Bd.returns (hb hby d4_26) hr
  · show own_QE Z x h0 n0 _ T10.heap _
    rw [e10]
    exact ⟨rfl, N10, (((((Keep.refl h0 [x]).ext E2).wr W4 (Or.inl (List.mem_of_getElem? (i := 0) rfl))).ext E7).wr W10 (Or.inl (List.mem_of_getElem? (i := 0) rfl))), ⟨d2, kb2, f13, Fw10, f14, f15⟩⟩
theorem d3_0 : decode jdk_42_method_3_code 0 = .ok (.aload_n 0, 1) := by decide +kernel
theorem d3_1 : decode jdk_42_method_3_code 1 = .ok (.aload_n 1, 1) := by decide +kernel
theorem d3_2 : decode jdk_42_method_3_code 2 = .ok (.iconst 0, 1) := by decide +kernel
theorem d3_3 : decode jdk_42_method_3_code 3 = .ok (.aload_n 1, 1) := by decide +kernel
theorem d3_4 : decode jdk_42_method_3_code 4 = .ok (.arraylength, 1) := by decide +kernel
theorem d3_5 : decode jdk_42_method_3_code 5 = .ok (.aconst_null, 1) := by decide +kernel
theorem pd___CIILjava_lang_Void__V : parseMethodDescriptor "([CIILjava/lang/Void;)V" = some ⟨[(.array .char), .int, .int, (.object "java/lang/Void")], none⟩ := by decide +kernel
theorem d3_6 : decode jdk_42_method_3_code 6 = .ok (.invokespecial 27, 3) := by decide +kernel
theorem d3_9 : decode jdk_42_method_3_code 9 = .ok (.return_, 1) := by decide +kernel
theorem pn_3 : plainName "java/lang/String" = true := by first | (simp [plainName, overriddenIn]; done) | decide +kernel
theorem ef_3_rr (m : MethodId) (x0 : Addr) (x1 : Addr) : entryFrame m #[(.ref x0), (.ref x1)] 2 = mkF m 0 #[.val (.ref x0), .val (.ref x1)] [] := by first | (simp [entryFrame, mkF, argsToLocals, Value.category]; done) | rfl
set_option maxRecDepth 65536 in
set_option maxHeartbeats 40000000 in
theorem rmSC0 (l : Launch) (Z : State) (a0 : Array Value) (hw : ∀ d ∈ tables_1, d.before a0 Z = true) (ws : List Jvm.Cond) (x : Addr) (ar : Addr) (ka : ClassId) (h0 : Heap) (n0 : Nat) (Z0 : n0 ≤ h0.size) (E_x : Exa Z h0 x "java/lang/String") (F_coder_x : Fld Z h0 x "java/lang/String" "coder" "B" (.int (0 : Int32))) (F_value_x : Fld Z h0 x "java/lang/String" "value" "[B" .null) (g_x : n0 ≤ x) (V_ar : Arv Z h0 ar ka .char (0 : Int32) [] (.int (0 : Int32))) :
    MetFree l (⟨"java/lang/String", "<init>", "([C)V"⟩ : MethodName) (head1 (Jvm.Cond.code (⟨"java/lang/String", "<init>", "([C)V"⟩ : MethodName) jdk_42_method_3_code 2 none :: ws) ({ frames := 2, cells := 4, slots := 8, locals := 29 } : Room)) (fun a_ U_ => a_ = #[(.ref x), (.ref ar)] ∧ Z.Warmed39 U_.vm ∧ U_.heap = h0 ∧ CHv Z consts_1 U_.vm h0 ∧ Safe Z consts_1 U_.vm h0 x) (fun _ _ _ _ _ => True) (fun _ U_ o_ U1_ => ∃ v_ L_, o_ = .returned v_ ∧ own_QE Z x h0 n0 v_ U1_.heap L_ ∧ CHr Z consts_1 U_.vm U_.heap U1_.vm U1_.heap ∧ ReturnedEndW U_ o_ U1_ L_ ({ frames := 2, cells := 4, slots := 8, locals := 29 } : Room).cells ({ frames := 2, cells := 4, slots := 8, locals := 29 } : Room).slots) := by
  refine MetFree.of_bodySF (plainFor_of_name pn_3) hisR ?_
  intro p e s m args below meth c s₁ Bd hml0 hP hK
  obtain ⟨rfl, hZ, hh, H0, S0⟩ := hP
  have hx := Bd.exec
  have hby := Bd.bytes
  have hml : c.maxLocals = 2 := hml0
  have hown : s.vm.findClass "java/lang/String" = some m.cls := findClass_of_methodNamed Bd.named
  have hnm := (name_of_methodNamed Bd.named Bd.method).1
  have X0 : Stand p l e ({ frames := 2, cells := 4, slots := 8, locals := 29 } : Room) s m #[(.ref x), (.ref ar)] below meth c s₁ [] 0 0 := Stand.of_body Bd
  have e0 : s₁.heap = h0 := by rw [← hh, Bd.state]; rfl
  have N0 := Fr.nil n0
  have pre0 : ∀ tt, Steps p.tables e below (s₁.setTop (mkF m 0 #[.val (.ref x), .val (.ref ar)] [])) tt → Steps p.tables e below (s₁.setTop (entryFrame m #[(.ref x), (.ref ar)] 2)) tt := fun tt kk => castTop (ef_3_rr m x ar) kk
  have hS0 : s.Since s.vm 0 := (State.WarmedH.refl s).since 0
  have hk0 : 0 ≤ h0.size := Nat.zero_le _
  obtain ⟨c1, Ar1, -, S1, M1, -, -⟩ := id V_ar
  obtain ⟨_, _, ⟨T2, L2, k2, n2⟩, -, X2', hS2', gr2, ⟨Lc2, hQ2, l2, y2, z2, Cx2⟩, st2⟩ := X0.specialBackS hx (y := (⟨"java/lang/String", "<init>", "([CIILjava/lang/Void;)V"⟩ : MethodName)) rfl hown (mvT hZ (hw _ (List.mem_of_getElem? (i := 14) rfl))) (mvT hZ (hw _ (List.mem_of_getElem? (i := 15) rfl))) (mvT hZ (hw _ (List.mem_of_getElem? (i := 17) rfl))) (by decide) (own_backSX (W := 0) (s := s) (rmSV0 l Z a0 hw [] x ar (0 : Int32) h0 n0 Z0 E_x F_coder_x F_value_x g_x) hZ (hw _ (List.mem_of_getElem? (i := 17) rfl)) (hw _ (List.mem_of_getElem? (i := 10) rfl)) (by decide) (by decide) (own_EW hw) (CHr.refl H0).1 ((CHr.refl H0).safe E_x.lt S0) E_x.lt) (g := (mkF m 6 #[.val (.ref x), .val (.ref ar)] [.null, (.int (0 : Int32)), (.int (0 : Int32)), (.ref ar), (.ref x)])) rfl (by rw [hml]; rfl) (Steps.refl _) (a := x) (argsL := [(.ref ar), (.int (0 : Int32)), (.int (0 : Int32)), .null]) (rest := []) (lenOf pd___CIILjava_lang_Void__V rfl) rfl (by show 2 * 0 + _ ≤ _; exact Nat.le_of_eq rfl) (hb hby d3_6) (fun _ _ => ⟨rfl, e0, (by decide : 0 + 4 ≤ _), (by decide : 0 + 8 ≤ _)⟩)
  dsimp only [Pt.U, Pt.locs, Pt.cells, Pt.slots] at X2' hS2' gr2 Cx2 l2 y2 z2 st2 hQ2
  subst l2 y2 z2
  obtain ⟨X2, hS2, hZ2, hown2⟩ := rebS (s := s) (vm0 := s.vm) hS0 (by rw [e0]; exact hk0) X2' hS2' gr2 hZ hown
  obtain ⟨rfl, Nq2, Kq2, sq2⟩ := hQ2
  have C2 := CHr.trans (CHr.refl H0) Cx2
  have N2 := Fr.app N0 Nq2
  obtain ⟨t2, kq2, Eq2, Cq2, Vq2, Kq2a⟩ := sq2
  obtain ⟨fs, hr, hrun, hended, hfin⟩ := X2.leaveW hS2 ((Nat.le_refl _)) (v := none) (fun _ => rfl)
  refine ⟨_, _, pre0 _ ?_, hrun, hended, _, _, rfl, ?_, (by show CHr Z consts_1 s.vm s.heap T2.vm T2.heap; rw [hh]; exact CHr.trans C2 (CHv.at (s := s) (vm0 := T2.vm) X2 hZ2 (own_EW hw) C2.1)), hfin.1, hfin.2.1, hfin.2.2.1, hfin.2.2.2.mono (by decide) (by decide)⟩
  · show Steps p.tables e below (s₁.setTop (mkF m 0 #[.val (.ref x), .val (.ref ar)] [])) _
    refine XS.aloadN X0.here hx rfl (hb hby d3_0) rfl rfl ?_
    refine XS.aloadN X0.here hx rfl (hb hby d3_1) rfl rfl ?_
    refine XS.iconst X0.here hx rfl (hb hby d3_2) ?_
    refine XS.aloadN X0.here hx rfl (hb hby d3_3) rfl rfl ?_
    show Steps p.tables e below (s₁.setTop (mkF m 4 #[.val (.ref x), .val (.ref ar)] [(.ref ar), (.int (0 : Int32)), (.ref ar), (.ref x)])) _
    refine X0.arraylength hx (by rw [e0]; exact Ar1.1) (State.isArrayOf_alike hZ.alike Ar1.2.1) (g := (mkF m 4 #[.val (.ref x), .val (.ref ar)] [(.ref ar), (.int (0 : Int32)), (.ref ar), (.ref x)])) rfl rfl (hb hby d3_4) _ ?_
    rw [len_of S1 M1]
    show Steps p.tables e below (s₁.setTop (mkF m 5 #[.val (.ref x), .val (.ref ar)] [(.int (0 : Int32)), (.int (0 : Int32)), (.ref ar), (.ref x)])) _
    refine XS.aconstNull X0.here hx rfl (hb hby d3_5) ?_
    show Steps p.tables e below (s₁.setTop (mkF m 6 #[.val (.ref x), .val (.ref ar)] [.null, (.int (0 : Int32)), (.int (0 : Int32)), (.ref ar), (.ref x)])) _
    refine st2.trans ?_
    show Steps p.tables e below (T2.setTop (mkF m 9 #[.val (.ref x), .val (.ref ar)] [])) _
    exact X2.returnOut hx Bd.returns (hb hby d3_9) hr
  · show own_QE Z x h0 n0 _ T2.heap _
    exact ⟨rfl, N2, ((Keep.refl h0 [x]).trans Kq2 (allS (P := fun zz => zz ∈ [x] ∨ h0.size ≤ zz) (Or.inl (List.mem_of_getElem? (i := 0) rfl)) all0)), ⟨t2, kq2, Eq2, Cq2, Vq2, Kq2a⟩⟩
theorem own_and255 (x : Int32) : ¬ nar .char ((x &&& (255 : Int32)).toUInt32.toUInt16.toUInt32.toInt32) < 0 ∧ ¬ (255 : Int32) < nar .char ((x &&& (255 : Int32)).toUInt32.toUInt16.toUInt32.toInt32) := by
  have t : ∀ k : Fin 256, ¬ nar .char ((Int32.ofNat k.val).toUInt32.toUInt16.toUInt32.toInt32) < 0 ∧ ¬ (255 : Int32) < nar .char ((Int32.ofNat k.val).toUInt32.toUInt16.toUInt32.toInt32) := by decide +kernel
  have h : (x &&& 255).toBitVec.toNat < 256 := by
    simp only [Int32.toBitVec_and, BitVec.toNat_and]
    exact Nat.lt_succ_of_le Nat.and_le_right
  have e : (x &&& 255) = Int32.ofNat (x &&& 255).toBitVec.toNat := by
    apply Int32.toBitVec_inj.mp
    show _ = BitVec.ofNat 32 _
    rw [BitVec.ofNat_toNat]; simp
  rw [e]
  exact t ⟨_, h⟩
def own_s (Z : State) (h : Heap) (x : Addr) (cs : List Int32) : Prop := ∃ (b : Addr) (k : ClassId), Exa Z h x "java/lang/String" ∧ Fld Z h x "java/lang/String" "coder" "B" (.int (0 : Int32)) ∧ Fld Z h x "java/lang/String" "value" "[B" (.ref b) ∧ Arv Z h b k .byte (Int32.ofNat cs.length) ((cs.map fun c => c.toInt8.toInt32).map Value.int) (.int (0 : Int32)) ∧ (∀ c ∈ cs, ¬ c < 0 ∧ ¬ (255 : Int32) < c) ∧ cs.length ≤ 4
theorem own_s_nil {Z : State} {h : Heap} {x : Addr} (F : own_es Z h x) : own_s Z h x [] := by
  obtain ⟨b, k, h1, h2, h3, h4⟩ := F
  exact ⟨b, k, h1, h2, h3, h4, fun _ q => (nomatch q), Nat.zero_le _⟩
theorem own_s_lt {Z : State} {h : Heap} {x : Addr} {cs : List Int32} (F : own_s Z h x cs) : x < h.size := by
  obtain ⟨b, k, h1, -⟩ := F
  exact h1.lt
theorem own_s_exa {Z : State} {h : Heap} {x : Addr} {cs : List Int32} (F : own_s Z h x cs) : Exa Z h x "java/lang/String" := by
  obtain ⟨b, k, h1, -⟩ := F
  exact h1
theorem own_s_keep {Z : State} {h h' : Heap} {x : Addr} {cs : List Int32} (F : own_s Z h x cs) (K : Keep h h' []) : own_s Z h' x cs := by
  obtain ⟨b, k, h1, h2, h3, h4, h5, h6⟩ := F
  exact ⟨b, k, h1.keep K, h2.keep K nin0, h3.keep K nin0, h4.keep K nin0, h5, h6⟩
theorem own_nat {j : Nat} (h : j < 2 ^ 31) : (Int32.ofNat j).toInt = j := Int32.toInt_ofNat_of_lt h
theorem own_clamp {j : Nat} (h : j < 2 ^ 31) : (Int32.ofNat j).toNatClampNeg = j := by simp only [Int32.toNatClampNeg, own_nat h]; rfl
theorem own_add {i j : Nat} : Int32.ofNat i + Int32.ofNat j = Int32.ofNat (i + j) := by
  apply Int32.toBitVec_inj.mp
  show BitVec.ofNat 32 i + BitVec.ofNat 32 j = BitVec.ofNat 32 (i + j)
  rw [BitVec.ofNat_add]
theorem own_sub {i j : Nat} (h : j ≤ i) (hi : i < 2 ^ 31) : Int32.ofNat i - Int32.ofNat j = Int32.ofNat (i - j) := by
  have e : Int32.ofNat i = Int32.ofNat (i - j) + Int32.ofNat j := by rw [own_add, Nat.sub_add_cancel h]
  rw [e]
  simp
theorem own_lt {i j : Nat} (hi : i < 2 ^ 31) (hj : j < 2 ^ 31) : Int32.ofNat i < Int32.ofNat j ↔ i < j := by rw [Int32.lt_iff_toInt_lt, own_nat hi, own_nat hj]; omega
theorem own_eq {i j : Nat} (hi : i < 2 ^ 31) (hj : j < 2 ^ 31) : Int32.ofNat i = Int32.ofNat j ↔ i = j := ⟨fun h => by have := congrArg Int32.toInt h; rw [own_nat hi, own_nat hj] at this; omega, fun h => by rw [h]⟩
theorem own_n0 {i : Nat} (hi : i < 2 ^ 31) : ¬ Int32.ofNat i < (0 : Int32) := fun h => by rw [Int32.lt_iff_toInt_lt, own_nat hi] at h; have : (0 : Int32).toInt = 0 := rfl; omega
def own_c8 (c : Int32) : Prop := ¬ c < 0 ∧ ¬ (255 : Int32) < c
theorem own_c8_and (x : Int32) : own_c8 ((x &&& (255 : Int32)).toUInt32.toUInt16.toUInt32.toInt32) := by
  have t : ∀ k : Fin 256, ¬ ((Int32.ofNat k.val).toUInt32.toUInt16.toUInt32.toInt32) < 0 ∧ ¬ (255 : Int32) < ((Int32.ofNat k.val).toUInt32.toUInt16.toUInt32.toInt32) := by decide +kernel
  have h : (x &&& 255).toBitVec.toNat < 256 := by
    simp only [Int32.toBitVec_and, BitVec.toNat_and]
    exact Nat.lt_succ_of_le Nat.and_le_right
  have e : (x &&& 255) = Int32.ofNat (x &&& 255).toBitVec.toNat := by
    apply Int32.toBitVec_inj.mp
    show _ = BitVec.ofNat 32 _
    rw [BitVec.ofNat_toNat]; simp
  show ¬ _ < 0 ∧ ¬ (255 : Int32) < _
  rw [e]
  exact t ⟨_, h⟩
theorem own_nar8 {c : Int32} (h : own_c8 c) : nar .char c = c := by
  have t : ∀ k : Fin 256, nar .char (Int32.ofNat k.val) = Int32.ofNat k.val := by decide +kernel
  obtain ⟨h0, h1⟩ := h
  have q0 : 0 ≤ c.toInt := by
    have := Int32.not_lt.mp h0
    rw [Int32.le_iff_toInt_le] at this
    exact this
  have q1 : c.toInt ≤ 255 := by
    have := Int32.not_lt.mp h1
    rw [Int32.le_iff_toInt_le] at this
    exact this
  have e : c = Int32.ofNat c.toInt.toNat := by
    apply Int32.toInt_inj.mp
    rw [Int32.toInt_ofNat_of_lt (by omega)]
    omega
  rw [e]
  exact t ⟨c.toInt.toNat, by omega⟩
def own_sk (c : Int32) : Int32 := if c = 32 then 1 else if c = 9 then 1 else if c = 44 then 1 else 0
def own_sp (c : Int32) : Int32 := if c = 32 then 1 else if c = 9 then 1 else 0
theorem own_ca (as : List Int32) (o : Nat) (h : o < 2 ^ 31) : (as.map Value.int).getD (Int32.ofNat o).toNatClampNeg (.int (0 : Int32)) = .int (as.getD o 0) := by
  rw [own_clamp h]
  simp only [List.getD_eq_getElem?_getD, List.getElem?_map]
  cases as[o]? <;> rfl
theorem own_in {j n : Nat} (h : j < n) (hn : n < 2 ^ 31) : ¬ (Int32.ofNat j) < (0 : Int32) ∧ (Int32.ofNat j) < (Int32.ofNat n) := ⟨own_n0 (by omega), (own_lt (by omega) hn).mpr h⟩
theorem own_succ (j : Nat) : (Int32.ofNat j) + (1 : Int32) = Int32.ofNat (j + 1) := own_add (i := j) (j := 1)
theorem own_w1 : ∀ d ∈ StrChars.Road.words, d ∈ tables_1 := by decide +kernel
theorem own_w2 : ∀ d ∈ StrChars.Road.wordsLen, d ∈ tables_1 := by decide +kernel
theorem own_w3 : ∀ d ∈ StrChars.Road.wordsChN, d ∈ tables_1 := by decide +kernel
def own_env (Z : State) (G1 : Int32) (G3 : Value) : Prop := Sta Z Z.heap "java/lang/String" "COMPACT_STRINGS" "Z" (.int G1) ∧ ¬ (G1 = (0 : Int32)) ∧ Sta Z Z.heap "jdk/internal/util/Preconditions" "SIOOBE_FORMATTER" "Ljava/util/function/BiFunction;" G3 ∧ G3.isRef = true
theorem own_up {cs : List Int32} (h : ∀ c ∈ cs, ¬ c < 0 ∧ ¬ (255 : Int32) < c) : ∀ c ∈ cs, ¬ c < 0 ∧ ¬ (65535 : Int32) < c := fun c hc => ⟨(h c hc).1, fun q => (h c hc).2 (Int32.lt_trans (by decide) q)⟩
theorem own_l4 {cs : List Int32} (h : cs.length ≤ 4) : cs.length ≤ 4000 := by omega
theorem own_c8n {c : Int32} (h : own_c8 c) : ¬ nar .char c < 0 ∧ ¬ (255 : Int32) < nar .char c := by rw [own_nar8 h]; exact h
theorem own_subm (f m : Nat) : Int32.ofNat (f + m) - Int32.ofNat f = Int32.ofNat m := by rw [← own_add, Int32.add_comm]; simp
theorem own_add1 (f : Nat) : (Int32.ofNat f) + (1 : Int32) = Int32.ofNat (f + 1) := own_add (i := f) (j := 1)
theorem own_add2 (f : Nat) : (Int32.ofNat f) + (2 : Int32) = Int32.ofNat (f + 2) := own_add (i := f) (j := 2)
theorem own_add3 (f : Nat) : (Int32.ofNat f) + (3 : Int32) = Int32.ofNat (f + 3) := own_add (i := f) (j := 3)
theorem own_take (as : List Int32) (o n : Nat) (h : o < as.length) : (as.drop o).take (n + 1) = as.getD o 0 :: (as.drop (o + 1)).take n := by
  rw [List.drop_eq_getElem_cons h, List.take_succ_cons]
  simp [List.getD_eq_getElem?_getD, h]
theorem own_sl1 {as : List Int32} {f : Nat} (hc8 : ∀ i, i < as.length → own_c8 (as.getD i 0)) (h : f + 1 ≤ as.length) : (as.drop f).take 1 = [nar .char (as.getD f 0)] := by
  rw [own_take as f 0 (by omega), List.take_zero, own_nar8 (hc8 f (by omega))]
theorem own_sl2 {as : List Int32} {f : Nat} (hc8 : ∀ i, i < as.length → own_c8 (as.getD i 0)) (h : f + 2 ≤ as.length) : (as.drop f).take 2 = [nar .char (as.getD f 0), nar .char (as.getD (f + 1) 0)] := by
  have e := own_take as f 1 (by omega)
  rw [own_sl1 (f := f + 1) hc8 (by omega)] at e
  rw [own_nar8 (hc8 f (by omega))]; exact e
theorem own_sl3 {as : List Int32} {f : Nat} (hc8 : ∀ i, i < as.length → own_c8 (as.getD i 0)) (h : f + 3 ≤ as.length) : (as.drop f).take 3 = [nar .char (as.getD f 0), nar .char (as.getD (f + 1) 0), nar .char (as.getD (f + 2) 0)] := by
  have e := own_take as f 2 (by omega)
  rw [own_sl2 (f := f + 1) hc8 (by omega)] at e
  rw [own_nar8 (hc8 f (by omega))]; exact e
theorem own_sl4 {as : List Int32} {f : Nat} (hc8 : ∀ i, i < as.length → own_c8 (as.getD i 0)) (h : f + 4 ≤ as.length) : (as.drop f).take 4 = [nar .char (as.getD f 0), nar .char (as.getD (f + 1) 0), nar .char (as.getD (f + 2) 0), nar .char (as.getD (f + 3) 0)] := by
  have e := own_take as f 3 (by omega)
  rw [own_sl3 (f := f + 1) hc8 (by omega)] at e
  rw [own_nar8 (hc8 f (by omega))]; exact e
theorem own_dl {as : List Int32} {f m : Nat} (h : f + m ≤ as.length) : ((as.drop f).take m).length = m := by rw [List.length_take, List.length_drop]; omega
theorem own_pre {as : List Int32} {n f m : Nat} (h : f + m ≤ n) (hn : n ≤ as.length) : ∀ i, i < ((as.drop f).take m).length → ((as.drop 0).take n).getD (f + i) 0 = ((as.drop f).take m).getD i 0 := by
  intro i hi
  rw [own_dl (by omega)] at hi
  simp only [List.getD_eq_getElem?_getD, List.drop_zero, List.getElem?_take, List.getElem?_drop]
  rw [if_pos (by omega), if_pos hi]
def own_f (k n : Nat) : Int32 := if k < n then 1 else 0
theorem own_f_t {k n : Nat} (h : k < n) : own_f k n = 1 := if_pos h
theorem own_f_f {k n : Nat} (h : ¬ k < n) : own_f k n = 0 := if_neg h
theorem own_f_self (n : Nat) : own_f n n = 0 := if_neg (Nat.lt_irrefl n)
def own_k (cs : List Int32) : Nat → Nat → Nat
  | 0, j => j
  | r + 1, j => if own_sk (cs.getD j 0) = 0 then j else own_k cs r (j + 1)
def own_step (as : List Int32) (n k : Nat) : Nat := if k < n ∧ ¬ own_sk (as.getD k 0) = 0 then k + 1 else k
def own_k4 (as : List Int32) (n s : Nat) : Nat := own_step as n (own_step as n (own_step as n (own_step as n s)))
theorem own_skv (c : Int32) : (own_sk c = 0 ↔ own_sp c = 0 ∧ ¬ c = 44) := by
  unfold own_sk own_sp
  by_cases h1 : c = 32
  · simp [h1]
  · by_cases h2 : c = 9
    · simp [h1, h2]
    · by_cases h3 : c = 44
      · simp [h3]
      · simp [h1, h2, h3]
theorem own_step_le {as : List Int32} {n s : Nat} (h : s ≤ n) : own_step as n s ≤ n := by unfold own_step; split <;> omega
theorem own_k4_le {as : List Int32} {n s : Nat} (h : s ≤ n) : own_k4 as n s ≤ n := own_step_le (own_step_le (own_step_le (own_step_le h)))
def own_it (as : List Int32) (n : Nat) : Nat → Nat → Nat
  | 0, k => k
  | m + 1, k => own_it as n m (own_step as n k)
theorem own_it_fix {as : List Int32} {n k : Nat} (h : own_step as n k = k) : ∀ m, own_it as n m k = k
  | 0 => rfl
  | m + 1 => by rw [own_it, h]; exact own_it_fix h m
theorem own_it_k {as cs : List Int32} {n : Nat} (hg : ∀ i, i < n → cs.getD i 0 = as.getD i 0) : ∀ (r m j : Nat), j + r = n → r ≤ m → own_it as n m j = own_k cs r j
  | 0, m, j, h, _ => own_it_fix (by unfold own_step; rw [if_neg]; omega) m
  | r + 1, 0, j, _, h2 => absurd h2 (by omega)
  | r + 1, m + 1, j, h, h2 => by
    rw [own_k, hg j (by omega)]
    by_cases q : own_sk (as.getD j 0) = 0
    · rw [if_pos q]; exact own_it_fix (by unfold own_step; rw [if_neg]; exact fun z => z.2 q) _
    · rw [if_neg q, own_it, show own_step as n j = j + 1 by unfold own_step; rw [if_pos ⟨by omega, q⟩]]
      exact own_it_k hg r m (j + 1) (by omega) (by omega)
theorem own_kk {as : List Int32} {n s : Nat} (h4 : as.length = 4) (hn : n ≤ 4) (hs : s ≤ n) : own_k ((as.drop 0).take n) (((as.drop 0).take n).length - s) s = own_k4 as n s := by
  rw [own_dl (by omega)]
  refine (own_it_k (fun i hi => ?_) (n - s) 4 s (by omega) (by omega)).symm
  simp only [List.getD_eq_getElem?_getD, List.drop_zero, List.getElem?_take]
  rw [if_pos hi]
theorem own_k_le (cs : List Int32) : ∀ (r j : Nat), j ≤ own_k cs r j ∧ own_k cs r j ≤ j + r
  | 0, j => ⟨Nat.le_refl _, Nat.le_refl _⟩
  | r + 1, j => by
    rw [own_k]; split
    · omega
    · have := own_k_le cs r (j + 1); omega
theorem own_k_idem (cs : List Int32) (n : Nat) : ∀ (r j : Nat), j + r = n → own_k cs (n - own_k cs r j) (own_k cs r j) = own_k cs r j
  | 0, j, h => by
    rw [own_k, show n - j = 0 by omega, own_k]
  | r + 1, j, h => by
    rw [own_k]
    by_cases q : own_sk (cs.getD j 0) = 0
    · rw [if_pos q, show n - j = r + 1 by omega, own_k, if_pos q]
    · rw [if_neg q]; exact own_k_idem cs n r (j + 1) (by omega)
theorem own_kk2 {as : List Int32} {n s : Nat} (h4 : as.length = 4) (hn : n ≤ 4) (hs : s ≤ n) : own_k ((as.drop 0).take n) (((as.drop 0).take n).length - own_k4 as n s) (own_k4 as n s) = own_k4 as n s := by
  have e := own_kk h4 hn hs
  have l : ((as.drop 0).take n).length = n := own_dl (by omega)
  rw [l] at e ⊢
  rw [← e]
  exact own_k_idem _ n (n - s) s (by omega)
theorem own_kn {cs : List Int32} {n : Nat} (h : cs.length = n) : own_k cs (cs.length - n) n = n := by rw [h, Nat.sub_self, own_k]
theorem own_addj {j d k : Nat} (h : j + d = k) : Int32.ofNat j + Int32.ofNat d = Int32.ofNat k := by rw [← h]; exact own_add
theorem own_zadd (i : Nat) : (0 : Int32) + Int32.ofNat i = Int32.ofNat i := Int32.zero_add _
theorem own_lb (cs : List Int32) (i : Nat) (h : i < 2 ^ 31) : ((cs.map fun c => c.toInt8.toInt32).map Value.int).getD (Int32.ofNat i).toNatClampNeg (.int (0 : Int32)) = .int ((cs.getD i 0).toInt8.toInt32) := by
  rw [own_clamp h]
  simp only [List.getD_eq_getElem?_getD, List.getElem?_map]
  cases cs[i]? <;> rfl
theorem own_all4 {a b c d : Int32} (ha : own_c8 a) (hb : own_c8 b) (hc : own_c8 c) (hd : own_c8 d) : ∀ i, i < ([a, b, c, d] : List Int32).length → own_c8 (([a, b, c, d] : List Int32).getD i 0) := by
  intro i hi
  match i, hi with
  | 0, _ => exact ha
  | 1, _ => exact hb
  | 2, _ => exact hc
  | 3, _ => exact hd
theorem own_n5 (y : Int32) : ∃ n : Nat, n ≤ 4 ∧ ((y &&& (7 : Int32)) % (5 : Int32)) = Int32.ofNat n := by
  have t : ∀ k : Fin 8, (Int32.ofNat k.val) % (5 : Int32) = Int32.ofNat (k.val % 5) := by decide +kernel
  have h : (y &&& 7).toBitVec.toNat < 8 := by
    simp only [Int32.toBitVec_and, BitVec.toNat_and]
    exact Nat.lt_succ_of_le Nat.and_le_right
  have e : (y &&& 7) = Int32.ofNat (y &&& 7).toBitVec.toNat := by
    apply Int32.toBitVec_inj.mp
    show _ = BitVec.ofNat 32 _
    rw [BitVec.ofNat_toNat]; simp
  refine ⟨(y &&& 7).toBitVec.toNat % 5, by omega, ?_⟩
  rw [e]
  exact (t ⟨_, h⟩).trans (by rw [← e])
def own_QD (Z : State)  (h0 : Heap) (n0 : Nat) (v : Option Value) (h : Heap) (L : List Loc) : Prop := ∃ r, v = some (.int r) ∧ own_c8 r ∧ Fr n0 L ∧ h = h0
theorem d1_0 : decode method_2_code 0 = .ok (.iload_n 0, 1) := by decide +kernel
theorem d1_1 : decode method_2_code 1 = .ok (.iconst 3, 1) := by decide +kernel
theorem d1_2 : decode method_2_code 2 = .ok (.iand, 1) := by decide +kernel
theorem d1_3 : decode method_2_code 3 = .ok (.istore_n 1, 1) := by decide +kernel
theorem d1_4 : decode method_2_code 4 = .ok (.iload_n 1, 1) := by decide +kernel
theorem d1_5 : decode method_2_code 5 = .ok (.ifCond .ne 6, 3) := by decide +kernel
theorem d1_8 : decode method_2_code 8 = .ok (.bipush 32, 2) := by decide +kernel
theorem d1_10 : decode method_2_code 10 = .ok (.ireturn, 1) := by decide +kernel
theorem d1_11 : decode method_2_code 11 = .ok (.iload_n 1, 1) := by decide +kernel
theorem d1_12 : decode method_2_code 12 = .ok (.iconst 1, 1) := by decide +kernel
theorem d1_13 : decode method_2_code 13 = .ok (.if_icmp .ne 6, 3) := by decide +kernel
theorem d1_16 : decode method_2_code 16 = .ok (.bipush 9, 2) := by decide +kernel
theorem d1_18 : decode method_2_code 18 = .ok (.ireturn, 1) := by decide +kernel
theorem d1_19 : decode method_2_code 19 = .ok (.iload_n 1, 1) := by decide +kernel
theorem d1_20 : decode method_2_code 20 = .ok (.iconst 2, 1) := by decide +kernel
theorem d1_21 : decode method_2_code 21 = .ok (.if_icmp .ne 6, 3) := by decide +kernel
theorem d1_24 : decode method_2_code 24 = .ok (.bipush 44, 2) := by decide +kernel
theorem d1_26 : decode method_2_code 26 = .ok (.ireturn, 1) := by decide +kernel
theorem d1_27 : decode method_2_code 27 = .ok (.iload_n 0, 1) := by decide +kernel
theorem d1_28 : decode method_2_code 28 = .ok (.iconst 2, 1) := by decide +kernel
theorem d1_29 : decode method_2_code 29 = .ok (.iushr, 1) := by decide +kernel
theorem d1_30 : decode method_2_code 30 = .ok (.sipush 255, 3) := by decide +kernel
theorem d1_33 : decode method_2_code 33 = .ok (.iand, 1) := by decide +kernel
theorem d1_34 : decode method_2_code 34 = .ok (.i2c, 1) := by decide +kernel
theorem d1_35 : decode method_2_code 35 = .ok (.ireturn, 1) := by decide +kernel
theorem pn_1 : plainName "com/example/atomize/atomize/http/FieldValueReaderNextElementPinLaw" = true := by first | (simp [plainName, overriddenIn]; done) | decide +kernel
theorem ef_1_r (m : MethodId) (x0 : Int32) : entryFrame m #[(.int x0)] 2 = mkF m 0 #[.val (.int x0), .unset] [] := by first | (simp [entryFrame, mkF, argsToLocals, Value.category]; done) | rfl
set_option maxRecDepth 65536 in
set_option maxHeartbeats 40000000 in
theorem rmDR_0 (l : Launch) (Z : State) (a0 : Array Value) (hw : ∀ d ∈ tables_1, d.before a0 Z = true) (ws : List Jvm.Cond) (p1 : Int32) (h0 : Heap) (n0 : Nat) (Z0 : n0 ≤ h0.size) (hc5 : (p1 &&& (3 : Int32)) = (0 : Int32)) :
    MetFree l (⟨"com/example/atomize/atomize/http/FieldValueReaderNextElementPinLaw", "draw", "(I)C"⟩ : MethodName) (head1 (Jvm.Cond.code (⟨"com/example/atomize/atomize/http/FieldValueReaderNextElementPinLaw", "draw", "(I)C"⟩ : MethodName) method_2_code 2 (some .char) :: ws) ({ frames := 0, cells := 0, slots := 0, locals := 0 } : Room)) (fun a_ U_ => a_ = #[(.int p1)] ∧ Z.Warmed39 U_.vm ∧ U_.heap = h0) (fun _ _ _ _ _ => True) (fun _ U_ o_ U1_ => ∃ v_ L_, o_ = .returned v_ ∧ own_QD Z  h0 n0 v_ U1_.heap L_ ∧ FrameEnd U_ o_ U1_ L_ ({ frames := 0, cells := 0, slots := 0, locals := 0 } : Room).cells ({ frames := 0, cells := 0, slots := 0, locals := 0 } : Room).slots) := by
  refine MetFree.of_bodySF (plainFor_of_name pn_1) hisR ?_
  intro p e s m args below meth c s₁ Bd hml0 hP hK
  obtain ⟨rfl, hZ, hh⟩ := hP
  have hx := Bd.exec
  have hby := Bd.bytes
  have hml : c.maxLocals = 2 := hml0
  have hown : s.vm.findClass "com/example/atomize/atomize/http/FieldValueReaderNextElementPinLaw" = some m.cls := findClass_of_methodNamed Bd.named
  have hnm := (name_of_methodNamed Bd.named Bd.method).1
  have X0 : Stand p l e ({ frames := 0, cells := 0, slots := 0, locals := 0 } : Room) s m #[(.int p1)] below meth c s₁ [] 0 0 := Stand.of_body Bd
  have e0 : s₁.heap = h0 := by rw [← hh, Bd.state]; rfl
  have N0 := Fr.nil n0
  have pre0 : ∀ tt, Steps p.tables e below (s₁.setTop (mkF m 0 #[.val (.int p1), .unset] [])) tt → Steps p.tables e below (s₁.setTop (entryFrame m #[(.int p1)] 2)) tt := fun tt kk => castTop (ef_1_r m p1) kk
  obtain ⟨fs, hr, hrun, hended, hW, hsame⟩ := X0.leave (v := some (.int (32 : Int32))) (fun h => by rw [Bd.returns] at h; cases h)
  refine ⟨_, _, pre0 _ ?_, hrun, hended, _, _, rfl, ?_, ⟨_, rfl⟩, hW, hsame.mono (by decide) (by decide)⟩
  · show Steps p.tables e below (s₁.setTop (mkF m 0 #[.val (.int p1), .unset] [])) _
    refine XS.iloadN X0.here hx rfl (hb hby d1_0) rfl ?_
    refine XS.iconst X0.here hx rfl (hb hby d1_1) ?_
    refine XS.iand X0.here hx rfl (hb hby d1_2) rfl ?_
    refine XS.istoreN X0.here hx rfl (hb hby d1_3) rfl (l' := #[.val (.int p1), .val (.int (p1 &&& (3 : Int32)))]) rfl ?_
    refine XS.iloadN X0.here hx rfl (hb hby d1_4) rfl ?_
    refine XS.ifNo X0.here hx rfl (hb hby d1_5) rfl ((if0 _ _).trans (teq hc5).2) ?_
    refine XS.bipush X0.here hx rfl (hb hby d1_8) ?_
    show Steps p.tables e below (s₁.setTop (mkF m 10 #[.val (.int p1), .val (.int (p1 &&& (3 : Int32)))] [(.int (32 : Int32))])) _
    exact retN X0 hx (t := .char) Bd.returns (by simp) (hb hby d1_10) hr
  · show own_QD Z  h0 n0 _ s₁.heap _
    rw [e0]
    exact ⟨_, rfl, ⟨by decide, by decide⟩, N0, rfl⟩
set_option maxRecDepth 65536 in
set_option maxHeartbeats 40000000 in
theorem rmDR_1 (l : Launch) (Z : State) (a0 : Array Value) (hw : ∀ d ∈ tables_1, d.before a0 Z = true) (ws : List Jvm.Cond) (p1 : Int32) (h0 : Heap) (n0 : Nat) (Z0 : n0 ≤ h0.size) (hc5 : ¬ ((p1 &&& (3 : Int32)) = (0 : Int32))) (hc13 : (p1 &&& (3 : Int32)) = (1 : Int32)) :
    MetFree l (⟨"com/example/atomize/atomize/http/FieldValueReaderNextElementPinLaw", "draw", "(I)C"⟩ : MethodName) (head1 (Jvm.Cond.code (⟨"com/example/atomize/atomize/http/FieldValueReaderNextElementPinLaw", "draw", "(I)C"⟩ : MethodName) method_2_code 2 (some .char) :: ws) ({ frames := 0, cells := 0, slots := 0, locals := 0 } : Room)) (fun a_ U_ => a_ = #[(.int p1)] ∧ Z.Warmed39 U_.vm ∧ U_.heap = h0) (fun _ _ _ _ _ => True) (fun _ U_ o_ U1_ => ∃ v_ L_, o_ = .returned v_ ∧ own_QD Z  h0 n0 v_ U1_.heap L_ ∧ FrameEnd U_ o_ U1_ L_ ({ frames := 0, cells := 0, slots := 0, locals := 0 } : Room).cells ({ frames := 0, cells := 0, slots := 0, locals := 0 } : Room).slots) := by
  refine MetFree.of_bodySF (plainFor_of_name pn_1) hisR ?_
  intro p e s m args below meth c s₁ Bd hml0 hP hK
  obtain ⟨rfl, hZ, hh⟩ := hP
  have hx := Bd.exec
  have hby := Bd.bytes
  have hml : c.maxLocals = 2 := hml0
  have hown : s.vm.findClass "com/example/atomize/atomize/http/FieldValueReaderNextElementPinLaw" = some m.cls := findClass_of_methodNamed Bd.named
  have hnm := (name_of_methodNamed Bd.named Bd.method).1
  have X0 : Stand p l e ({ frames := 0, cells := 0, slots := 0, locals := 0 } : Room) s m #[(.int p1)] below meth c s₁ [] 0 0 := Stand.of_body Bd
  have e0 : s₁.heap = h0 := by rw [← hh, Bd.state]; rfl
  have N0 := Fr.nil n0
  have pre0 : ∀ tt, Steps p.tables e below (s₁.setTop (mkF m 0 #[.val (.int p1), .unset] [])) tt → Steps p.tables e below (s₁.setTop (entryFrame m #[(.int p1)] 2)) tt := fun tt kk => castTop (ef_1_r m p1) kk
  obtain ⟨fs, hr, hrun, hended, hW, hsame⟩ := X0.leave (v := some (.int (9 : Int32))) (fun h => by rw [Bd.returns] at h; cases h)
  refine ⟨_, _, pre0 _ ?_, hrun, hended, _, _, rfl, ?_, ⟨_, rfl⟩, hW, hsame.mono (by decide) (by decide)⟩
  · show Steps p.tables e below (s₁.setTop (mkF m 0 #[.val (.int p1), .unset] [])) _
    refine XS.iloadN X0.here hx rfl (hb hby d1_0) rfl ?_
    refine XS.iconst X0.here hx rfl (hb hby d1_1) ?_
    refine XS.iand X0.here hx rfl (hb hby d1_2) rfl ?_
    refine XS.istoreN X0.here hx rfl (hb hby d1_3) rfl (l' := #[.val (.int p1), .val (.int (p1 &&& (3 : Int32)))]) rfl ?_
    refine XS.iloadN X0.here hx rfl (hb hby d1_4) rfl ?_
    refine XS.ifYes X0.here hx rfl (pc0 := 5) (pc' := 11) rfl (hb hby d1_5) rfl ((if0 _ _).trans (feq hc5).2) (by decide) (by decide) ?_
    refine XS.iloadN X0.here hx rfl (hb hby d1_11) rfl ?_
    refine XS.iconst X0.here hx rfl (hb hby d1_12) ?_
    refine XS.icmpNo X0.here hx rfl (hb hby d1_13) rfl (teq hc13).2 ?_
    refine XS.bipush X0.here hx rfl (hb hby d1_16) ?_
    show Steps p.tables e below (s₁.setTop (mkF m 18 #[.val (.int p1), .val (.int (p1 &&& (3 : Int32)))] [(.int (9 : Int32))])) _
    exact retN X0 hx (t := .char) Bd.returns (by simp) (hb hby d1_18) hr
  · show own_QD Z  h0 n0 _ s₁.heap _
    rw [e0]
    exact ⟨_, rfl, ⟨by decide, by decide⟩, N0, rfl⟩
set_option maxRecDepth 65536 in
set_option maxHeartbeats 40000000 in
theorem rmDR_2 (l : Launch) (Z : State) (a0 : Array Value) (hw : ∀ d ∈ tables_1, d.before a0 Z = true) (ws : List Jvm.Cond) (p1 : Int32) (h0 : Heap) (n0 : Nat) (Z0 : n0 ≤ h0.size) (hc5 : ¬ ((p1 &&& (3 : Int32)) = (0 : Int32))) (hc13 : ¬ ((p1 &&& (3 : Int32)) = (1 : Int32))) (hc21 : (p1 &&& (3 : Int32)) = (2 : Int32)) :
    MetFree l (⟨"com/example/atomize/atomize/http/FieldValueReaderNextElementPinLaw", "draw", "(I)C"⟩ : MethodName) (head1 (Jvm.Cond.code (⟨"com/example/atomize/atomize/http/FieldValueReaderNextElementPinLaw", "draw", "(I)C"⟩ : MethodName) method_2_code 2 (some .char) :: ws) ({ frames := 0, cells := 0, slots := 0, locals := 0 } : Room)) (fun a_ U_ => a_ = #[(.int p1)] ∧ Z.Warmed39 U_.vm ∧ U_.heap = h0) (fun _ _ _ _ _ => True) (fun _ U_ o_ U1_ => ∃ v_ L_, o_ = .returned v_ ∧ own_QD Z  h0 n0 v_ U1_.heap L_ ∧ FrameEnd U_ o_ U1_ L_ ({ frames := 0, cells := 0, slots := 0, locals := 0 } : Room).cells ({ frames := 0, cells := 0, slots := 0, locals := 0 } : Room).slots) := by
  refine MetFree.of_bodySF (plainFor_of_name pn_1) hisR ?_
  intro p e s m args below meth c s₁ Bd hml0 hP hK
  obtain ⟨rfl, hZ, hh⟩ := hP
  have hx := Bd.exec
  have hby := Bd.bytes
  have hml : c.maxLocals = 2 := hml0
  have hown : s.vm.findClass "com/example/atomize/atomize/http/FieldValueReaderNextElementPinLaw" = some m.cls := findClass_of_methodNamed Bd.named
  have hnm := (name_of_methodNamed Bd.named Bd.method).1
  have X0 : Stand p l e ({ frames := 0, cells := 0, slots := 0, locals := 0 } : Room) s m #[(.int p1)] below meth c s₁ [] 0 0 := Stand.of_body Bd
  have e0 : s₁.heap = h0 := by rw [← hh, Bd.state]; rfl
  have N0 := Fr.nil n0
  have pre0 : ∀ tt, Steps p.tables e below (s₁.setTop (mkF m 0 #[.val (.int p1), .unset] [])) tt → Steps p.tables e below (s₁.setTop (entryFrame m #[(.int p1)] 2)) tt := fun tt kk => castTop (ef_1_r m p1) kk
  obtain ⟨fs, hr, hrun, hended, hW, hsame⟩ := X0.leave (v := some (.int (44 : Int32))) (fun h => by rw [Bd.returns] at h; cases h)
  refine ⟨_, _, pre0 _ ?_, hrun, hended, _, _, rfl, ?_, ⟨_, rfl⟩, hW, hsame.mono (by decide) (by decide)⟩
  · show Steps p.tables e below (s₁.setTop (mkF m 0 #[.val (.int p1), .unset] [])) _
    refine XS.iloadN X0.here hx rfl (hb hby d1_0) rfl ?_
    refine XS.iconst X0.here hx rfl (hb hby d1_1) ?_
    refine XS.iand X0.here hx rfl (hb hby d1_2) rfl ?_
    refine XS.istoreN X0.here hx rfl (hb hby d1_3) rfl (l' := #[.val (.int p1), .val (.int (p1 &&& (3 : Int32)))]) rfl ?_
    refine XS.iloadN X0.here hx rfl (hb hby d1_4) rfl ?_
    refine XS.ifYes X0.here hx rfl (pc0 := 5) (pc' := 11) rfl (hb hby d1_5) rfl ((if0 _ _).trans (feq hc5).2) (by decide) (by decide) ?_
    refine XS.iloadN X0.here hx rfl (hb hby d1_11) rfl ?_
    refine XS.iconst X0.here hx rfl (hb hby d1_12) ?_
    refine XS.icmpYes X0.here hx rfl (pc0 := 13) (pc' := 19) rfl (hb hby d1_13) rfl (feq hc13).2 (by decide) (by decide) ?_
    refine XS.iloadN X0.here hx rfl (hb hby d1_19) rfl ?_
    refine XS.iconst X0.here hx rfl (hb hby d1_20) ?_
    show Steps p.tables e below (s₁.setTop (mkF m 21 #[.val (.int p1), .val (.int (p1 &&& (3 : Int32)))] [(.int (2 : Int32)), (.int (p1 &&& (3 : Int32)))])) _
    refine XS.icmpNo X0.here hx rfl (hb hby d1_21) rfl (teq hc21).2 ?_
    refine XS.bipush X0.here hx rfl (hb hby d1_24) ?_
    show Steps p.tables e below (s₁.setTop (mkF m 26 #[.val (.int p1), .val (.int (p1 &&& (3 : Int32)))] [(.int (44 : Int32))])) _
    exact retN X0 hx (t := .char) Bd.returns (by simp) (hb hby d1_26) hr
  · show own_QD Z  h0 n0 _ s₁.heap _
    rw [e0]
    exact ⟨_, rfl, ⟨by decide, by decide⟩, N0, rfl⟩
set_option maxRecDepth 65536 in
set_option maxHeartbeats 40000000 in
theorem rmDR_3 (l : Launch) (Z : State) (a0 : Array Value) (hw : ∀ d ∈ tables_1, d.before a0 Z = true) (ws : List Jvm.Cond) (p1 : Int32) (h0 : Heap) (n0 : Nat) (Z0 : n0 ≤ h0.size) (hc5 : ¬ ((p1 &&& (3 : Int32)) = (0 : Int32))) (hc13 : ¬ ((p1 &&& (3 : Int32)) = (1 : Int32))) (hc21 : ¬ ((p1 &&& (3 : Int32)) = (2 : Int32))) :
    MetFree l (⟨"com/example/atomize/atomize/http/FieldValueReaderNextElementPinLaw", "draw", "(I)C"⟩ : MethodName) (head1 (Jvm.Cond.code (⟨"com/example/atomize/atomize/http/FieldValueReaderNextElementPinLaw", "draw", "(I)C"⟩ : MethodName) method_2_code 2 (some .char) :: ws) ({ frames := 0, cells := 0, slots := 0, locals := 0 } : Room)) (fun a_ U_ => a_ = #[(.int p1)] ∧ Z.Warmed39 U_.vm ∧ U_.heap = h0) (fun _ _ _ _ _ => True) (fun _ U_ o_ U1_ => ∃ v_ L_, o_ = .returned v_ ∧ own_QD Z  h0 n0 v_ U1_.heap L_ ∧ FrameEnd U_ o_ U1_ L_ ({ frames := 0, cells := 0, slots := 0, locals := 0 } : Room).cells ({ frames := 0, cells := 0, slots := 0, locals := 0 } : Room).slots) := by
  refine MetFree.of_bodySF (plainFor_of_name pn_1) hisR ?_
  intro p e s m args below meth c s₁ Bd hml0 hP hK
  obtain ⟨rfl, hZ, hh⟩ := hP
  have hx := Bd.exec
  have hby := Bd.bytes
  have hml : c.maxLocals = 2 := hml0
  have hown : s.vm.findClass "com/example/atomize/atomize/http/FieldValueReaderNextElementPinLaw" = some m.cls := findClass_of_methodNamed Bd.named
  have hnm := (name_of_methodNamed Bd.named Bd.method).1
  have X0 : Stand p l e ({ frames := 0, cells := 0, slots := 0, locals := 0 } : Room) s m #[(.int p1)] below meth c s₁ [] 0 0 := Stand.of_body Bd
  have e0 : s₁.heap = h0 := by rw [← hh, Bd.state]; rfl
  have N0 := Fr.nil n0
  have pre0 : ∀ tt, Steps p.tables e below (s₁.setTop (mkF m 0 #[.val (.int p1), .unset] [])) tt → Steps p.tables e below (s₁.setTop (entryFrame m #[(.int p1)] 2)) tt := fun tt kk => castTop (ef_1_r m p1) kk
  obtain ⟨fs, hr, hrun, hended, hW, hsame⟩ := X0.leave (v := some (.int (nar .char ((((p1.toUInt32 >>> ((2 : Int32) &&& 31).toUInt32).toInt32) &&& (255 : Int32)).toUInt32.toUInt16.toUInt32.toInt32)))) (fun h => by rw [Bd.returns] at h; cases h)
  refine ⟨_, _, pre0 _ ?_, hrun, hended, _, _, rfl, ?_, ⟨_, rfl⟩, hW, hsame.mono (by decide) (by decide)⟩
  · show Steps p.tables e below (s₁.setTop (mkF m 0 #[.val (.int p1), .unset] [])) _
    refine XS.iloadN X0.here hx rfl (hb hby d1_0) rfl ?_
    refine XS.iconst X0.here hx rfl (hb hby d1_1) ?_
    refine XS.iand X0.here hx rfl (hb hby d1_2) rfl ?_
    refine XS.istoreN X0.here hx rfl (hb hby d1_3) rfl (l' := #[.val (.int p1), .val (.int (p1 &&& (3 : Int32)))]) rfl ?_
    refine XS.iloadN X0.here hx rfl (hb hby d1_4) rfl ?_
    refine XS.ifYes X0.here hx rfl (pc0 := 5) (pc' := 11) rfl (hb hby d1_5) rfl ((if0 _ _).trans (feq hc5).2) (by decide) (by decide) ?_
    refine XS.iloadN X0.here hx rfl (hb hby d1_11) rfl ?_
    refine XS.iconst X0.here hx rfl (hb hby d1_12) ?_
    refine XS.icmpYes X0.here hx rfl (pc0 := 13) (pc' := 19) rfl (hb hby d1_13) rfl (feq hc13).2 (by decide) (by decide) ?_
    refine XS.iloadN X0.here hx rfl (hb hby d1_19) rfl ?_
    refine XS.iconst X0.here hx rfl (hb hby d1_20) ?_
    show Steps p.tables e below (s₁.setTop (mkF m 21 #[.val (.int p1), .val (.int (p1 &&& (3 : Int32)))] [(.int (2 : Int32)), (.int (p1 &&& (3 : Int32)))])) _
    refine XS.icmpYes X0.here hx rfl (pc0 := 21) (pc' := 27) rfl (hb hby d1_21) rfl (feq hc21).2 (by decide) (by decide) ?_
    refine XS.iloadN X0.here hx rfl (hb hby d1_27) rfl ?_
    refine XS.iconst X0.here hx rfl (hb hby d1_28) ?_
    refine XS.iushr X0.here hx rfl (hb hby d1_29) rfl ?_
    refine XS.sipush X0.here hx rfl (hb hby d1_30) ?_
    refine XS.iand X0.here hx rfl (hb hby d1_33) rfl ?_
    refine XS.i2c X0.here hx rfl (hb hby d1_34) rfl ?_
    show Steps p.tables e below (s₁.setTop (mkF m 35 #[.val (.int p1), .val (.int (p1 &&& (3 : Int32)))] [(.int ((((p1.toUInt32 >>> ((2 : Int32) &&& 31).toUInt32).toInt32) &&& (255 : Int32)).toUInt32.toUInt16.toUInt32.toInt32))])) _
    exact retN X0 hx (t := .char) Bd.returns (by simp) (hb hby d1_35) hr
  · show own_QD Z  h0 n0 _ s₁.heap _
    rw [e0]
    exact ⟨_, rfl, own_and255 ((p1.toUInt32 >>> ((2 : Int32) &&& 31).toUInt32).toInt32), N0, rfl⟩
theorem rmDR (l : Launch) (Z : State) (a0 : Array Value) (hw : ∀ d ∈ tables_1, d.before a0 Z = true) (ws : List Jvm.Cond) (p1 : Int32) (h0 : Heap) (n0 : Nat) (Z0 : n0 ≤ h0.size) :
    MetFree l (⟨"com/example/atomize/atomize/http/FieldValueReaderNextElementPinLaw", "draw", "(I)C"⟩ : MethodName) (head1 (Jvm.Cond.code (⟨"com/example/atomize/atomize/http/FieldValueReaderNextElementPinLaw", "draw", "(I)C"⟩ : MethodName) method_2_code 2 (some .char) :: ws) ({ frames := 0, cells := 0, slots := 0, locals := 0 } : Room)) (fun a_ U_ => a_ = #[(.int p1)] ∧ Z.Warmed39 U_.vm ∧ U_.heap = h0) (fun _ _ _ _ _ => True) (fun _ U_ o_ U1_ => ∃ v_ L_, o_ = .returned v_ ∧ own_QD Z  h0 n0 v_ U1_.heap L_ ∧ FrameEnd U_ o_ U1_ L_ ({ frames := 0, cells := 0, slots := 0, locals := 0 } : Room).cells ({ frames := 0, cells := 0, slots := 0, locals := 0 } : Room).slots) := by
  by_cases hf0 : (p1 &&& (3 : Int32)) = (0 : Int32)
  · skip
    exact rmDR_0 l Z a0 hw ws p1 h0 n0 Z0  hf0
  · skip
    by_cases hf1 : (p1 &&& (3 : Int32)) = (1 : Int32)
    · skip
      exact rmDR_1 l Z a0 hw ws p1 h0 n0 Z0  hf0 hf1
    · skip
      by_cases hf2 : (p1 &&& (3 : Int32)) = (2 : Int32)
      · skip
        exact rmDR_2 l Z a0 hw ws p1 h0 n0 Z0  hf0 hf1 hf2
      · skip
        exact rmDR_3 l Z a0 hw ws p1 h0 n0 Z0  hf0 hf1 hf2
def own_Q (Z : State) (r : Option Value) (h0 : Heap) (n0 : Nat) (v : Option Value) (h : Heap) (L : List Loc) : Prop := v = r ∧ Fr n0 L ∧ h = h0
theorem d16_0 : decode method_3_code 0 = .ok (.iload_n 0, 1) := by decide +kernel
theorem d16_1 : decode method_3_code 1 = .ok (.bipush 32, 2) := by decide +kernel
theorem d16_3 : decode method_3_code 3 = .ok (.if_icmp .eq 15, 3) := by decide +kernel
theorem d16_18 : decode method_3_code 18 = .ok (.iconst 1, 1) := by decide +kernel
theorem d16_19 : decode method_3_code 19 = .ok (.goto 4, 3) := by decide +kernel
theorem d16_23 : decode method_3_code 23 = .ok (.ireturn, 1) := by decide +kernel
theorem d16_6 : decode method_3_code 6 = .ok (.iload_n 0, 1) := by decide +kernel
theorem d16_7 : decode method_3_code 7 = .ok (.bipush 9, 2) := by decide +kernel
theorem d16_9 : decode method_3_code 9 = .ok (.if_icmp .eq 9, 3) := by decide +kernel
theorem d16_12 : decode method_3_code 12 = .ok (.iload_n 0, 1) := by decide +kernel
theorem d16_13 : decode method_3_code 13 = .ok (.bipush 44, 2) := by decide +kernel
theorem d16_15 : decode method_3_code 15 = .ok (.if_icmp .ne 7, 3) := by decide +kernel
theorem d16_22 : decode method_3_code 22 = .ok (.iconst 0, 1) := by decide +kernel
theorem pn_16 : plainName "com/example/atomize/atomize/http/FieldValueReaderNextElementPinLaw" = true := by first | (simp [plainName, overriddenIn]; done) | decide +kernel
theorem ef_16_r (m : MethodId) (x0 : Int32) : entryFrame m #[(.int x0)] 1 = mkF m 0 #[.val (.int x0)] [] := by first | (simp [entryFrame, mkF, argsToLocals, Value.category]; done) | rfl
set_option maxRecDepth 65536 in
set_option maxHeartbeats 40000000 in
theorem rmSK_0 (l : Launch) (Z : State) (a0 : Array Value) (hw : ∀ d ∈ tables_1, d.before a0 Z = true) (ws : List Jvm.Cond) (p1 : Int32) (h0 : Heap) (n0 : Nat) (Z0 : n0 ≤ h0.size) (hc3 : p1 = (32 : Int32)) :
    MetFree l (⟨"com/example/atomize/atomize/http/FieldValueReaderNextElementPinLaw", "skippable", "(C)Z"⟩ : MethodName) (head1 (Jvm.Cond.code (⟨"com/example/atomize/atomize/http/FieldValueReaderNextElementPinLaw", "skippable", "(C)Z"⟩ : MethodName) method_3_code 1 (some .boolean) :: ws) ({ frames := 0, cells := 0, slots := 0, locals := 0 } : Room)) (fun a_ U_ => a_ = #[(.int p1)] ∧ Z.Warmed39 U_.vm ∧ U_.heap = h0) (fun _ _ _ _ _ => True) (fun _ U_ o_ U1_ => ∃ v_ L_, o_ = .returned v_ ∧ own_Q Z (some (.int (own_sk p1))) h0 n0 v_ U1_.heap L_ ∧ FrameEnd U_ o_ U1_ L_ ({ frames := 0, cells := 0, slots := 0, locals := 0 } : Room).cells ({ frames := 0, cells := 0, slots := 0, locals := 0 } : Room).slots) := by
  refine MetFree.of_bodySF (plainFor_of_name pn_16) hisR ?_
  intro p e s m args below meth c s₁ Bd hml0 hP hK
  obtain ⟨rfl, hZ, hh⟩ := hP
  have hx := Bd.exec
  have hby := Bd.bytes
  have hml : c.maxLocals = 1 := hml0
  have hown : s.vm.findClass "com/example/atomize/atomize/http/FieldValueReaderNextElementPinLaw" = some m.cls := findClass_of_methodNamed Bd.named
  have hnm := (name_of_methodNamed Bd.named Bd.method).1
  have X0 : Stand p l e ({ frames := 0, cells := 0, slots := 0, locals := 0 } : Room) s m #[(.int p1)] below meth c s₁ [] 0 0 := Stand.of_body Bd
  have e0 : s₁.heap = h0 := by rw [← hh, Bd.state]; rfl
  have N0 := Fr.nil n0
  have pre0 : ∀ tt, Steps p.tables e below (s₁.setTop (mkF m 0 #[.val (.int p1)] [])) tt → Steps p.tables e below (s₁.setTop (entryFrame m #[(.int p1)] 1)) tt := fun tt kk => castTop (ef_16_r m p1) kk
  obtain ⟨fs, hr, hrun, hended, hW, hsame⟩ := X0.leave (v := some (.int (1 : Int32))) (fun h => by rw [Bd.returns] at h; cases h)
  refine ⟨_, _, pre0 _ ?_, hrun, hended, _, _, rfl, ?_, ⟨_, rfl⟩, hW, hsame.mono (by decide) (by decide)⟩
  · show Steps p.tables e below (s₁.setTop (mkF m 0 #[.val (.int p1)] [])) _
    refine XS.iloadN X0.here hx rfl (hb hby d16_0) rfl ?_
    refine XS.bipush X0.here hx rfl (hb hby d16_1) ?_
    refine XS.icmpYes X0.here hx rfl (pc0 := 3) (pc' := 18) rfl (hb hby d16_3) rfl (teq hc3).1 (by decide) (by decide) ?_
    refine XS.iconst X0.here hx rfl (hb hby d16_18) ?_
    refine XS.goto X0.here hx rfl (pc0 := 19) (pc' := 23) rfl (hb hby d16_19) (by decide) (by decide) ?_
    show Steps p.tables e below (s₁.setTop (mkF m 23 #[.val (.int p1)] [(.int (1 : Int32))])) _
    exact retN X0 hx (t := .boolean) Bd.returns (by simp) (hb hby d16_23) hr
  · show own_Q Z (some (.int (own_sk p1))) h0 n0 _ s₁.heap _
    rw [e0]
    exact ⟨by simp [own_sk, own_sp, hc3], N0, rfl⟩
set_option maxRecDepth 65536 in
set_option maxHeartbeats 40000000 in
theorem rmSK_1 (l : Launch) (Z : State) (a0 : Array Value) (hw : ∀ d ∈ tables_1, d.before a0 Z = true) (ws : List Jvm.Cond) (p1 : Int32) (h0 : Heap) (n0 : Nat) (Z0 : n0 ≤ h0.size) (hc3 : ¬ (p1 = (32 : Int32))) (hc9 : p1 = (9 : Int32)) :
    MetFree l (⟨"com/example/atomize/atomize/http/FieldValueReaderNextElementPinLaw", "skippable", "(C)Z"⟩ : MethodName) (head1 (Jvm.Cond.code (⟨"com/example/atomize/atomize/http/FieldValueReaderNextElementPinLaw", "skippable", "(C)Z"⟩ : MethodName) method_3_code 1 (some .boolean) :: ws) ({ frames := 0, cells := 0, slots := 0, locals := 0 } : Room)) (fun a_ U_ => a_ = #[(.int p1)] ∧ Z.Warmed39 U_.vm ∧ U_.heap = h0) (fun _ _ _ _ _ => True) (fun _ U_ o_ U1_ => ∃ v_ L_, o_ = .returned v_ ∧ own_Q Z (some (.int (own_sk p1))) h0 n0 v_ U1_.heap L_ ∧ FrameEnd U_ o_ U1_ L_ ({ frames := 0, cells := 0, slots := 0, locals := 0 } : Room).cells ({ frames := 0, cells := 0, slots := 0, locals := 0 } : Room).slots) := by
  refine MetFree.of_bodySF (plainFor_of_name pn_16) hisR ?_
  intro p e s m args below meth c s₁ Bd hml0 hP hK
  obtain ⟨rfl, hZ, hh⟩ := hP
  have hx := Bd.exec
  have hby := Bd.bytes
  have hml : c.maxLocals = 1 := hml0
  have hown : s.vm.findClass "com/example/atomize/atomize/http/FieldValueReaderNextElementPinLaw" = some m.cls := findClass_of_methodNamed Bd.named
  have hnm := (name_of_methodNamed Bd.named Bd.method).1
  have X0 : Stand p l e ({ frames := 0, cells := 0, slots := 0, locals := 0 } : Room) s m #[(.int p1)] below meth c s₁ [] 0 0 := Stand.of_body Bd
  have e0 : s₁.heap = h0 := by rw [← hh, Bd.state]; rfl
  have N0 := Fr.nil n0
  have pre0 : ∀ tt, Steps p.tables e below (s₁.setTop (mkF m 0 #[.val (.int p1)] [])) tt → Steps p.tables e below (s₁.setTop (entryFrame m #[(.int p1)] 1)) tt := fun tt kk => castTop (ef_16_r m p1) kk
  obtain ⟨fs, hr, hrun, hended, hW, hsame⟩ := X0.leave (v := some (.int (1 : Int32))) (fun h => by rw [Bd.returns] at h; cases h)
  refine ⟨_, _, pre0 _ ?_, hrun, hended, _, _, rfl, ?_, ⟨_, rfl⟩, hW, hsame.mono (by decide) (by decide)⟩
  · show Steps p.tables e below (s₁.setTop (mkF m 0 #[.val (.int p1)] [])) _
    refine XS.iloadN X0.here hx rfl (hb hby d16_0) rfl ?_
    refine XS.bipush X0.here hx rfl (hb hby d16_1) ?_
    refine XS.icmpNo X0.here hx rfl (hb hby d16_3) rfl (feq hc3).1 ?_
    refine XS.iloadN X0.here hx rfl (hb hby d16_6) rfl ?_
    refine XS.bipush X0.here hx rfl (hb hby d16_7) ?_
    refine XS.icmpYes X0.here hx rfl (pc0 := 9) (pc' := 18) rfl (hb hby d16_9) rfl (teq hc9).1 (by decide) (by decide) ?_
    refine XS.iconst X0.here hx rfl (hb hby d16_18) ?_
    refine XS.goto X0.here hx rfl (pc0 := 19) (pc' := 23) rfl (hb hby d16_19) (by decide) (by decide) ?_
    show Steps p.tables e below (s₁.setTop (mkF m 23 #[.val (.int p1)] [(.int (1 : Int32))])) _
    exact retN X0 hx (t := .boolean) Bd.returns (by simp) (hb hby d16_23) hr
  · show own_Q Z (some (.int (own_sk p1))) h0 n0 _ s₁.heap _
    rw [e0]
    exact ⟨by simp [own_sk, own_sp, hc3, hc9], N0, rfl⟩
set_option maxRecDepth 65536 in
set_option maxHeartbeats 40000000 in
theorem rmSK_2 (l : Launch) (Z : State) (a0 : Array Value) (hw : ∀ d ∈ tables_1, d.before a0 Z = true) (ws : List Jvm.Cond) (p1 : Int32) (h0 : Heap) (n0 : Nat) (Z0 : n0 ≤ h0.size) (hc3 : ¬ (p1 = (32 : Int32))) (hc9 : ¬ (p1 = (9 : Int32))) (hc15 : p1 = (44 : Int32)) :
    MetFree l (⟨"com/example/atomize/atomize/http/FieldValueReaderNextElementPinLaw", "skippable", "(C)Z"⟩ : MethodName) (head1 (Jvm.Cond.code (⟨"com/example/atomize/atomize/http/FieldValueReaderNextElementPinLaw", "skippable", "(C)Z"⟩ : MethodName) method_3_code 1 (some .boolean) :: ws) ({ frames := 0, cells := 0, slots := 0, locals := 0 } : Room)) (fun a_ U_ => a_ = #[(.int p1)] ∧ Z.Warmed39 U_.vm ∧ U_.heap = h0) (fun _ _ _ _ _ => True) (fun _ U_ o_ U1_ => ∃ v_ L_, o_ = .returned v_ ∧ own_Q Z (some (.int (own_sk p1))) h0 n0 v_ U1_.heap L_ ∧ FrameEnd U_ o_ U1_ L_ ({ frames := 0, cells := 0, slots := 0, locals := 0 } : Room).cells ({ frames := 0, cells := 0, slots := 0, locals := 0 } : Room).slots) := by
  refine MetFree.of_bodySF (plainFor_of_name pn_16) hisR ?_
  intro p e s m args below meth c s₁ Bd hml0 hP hK
  obtain ⟨rfl, hZ, hh⟩ := hP
  have hx := Bd.exec
  have hby := Bd.bytes
  have hml : c.maxLocals = 1 := hml0
  have hown : s.vm.findClass "com/example/atomize/atomize/http/FieldValueReaderNextElementPinLaw" = some m.cls := findClass_of_methodNamed Bd.named
  have hnm := (name_of_methodNamed Bd.named Bd.method).1
  have X0 : Stand p l e ({ frames := 0, cells := 0, slots := 0, locals := 0 } : Room) s m #[(.int p1)] below meth c s₁ [] 0 0 := Stand.of_body Bd
  have e0 : s₁.heap = h0 := by rw [← hh, Bd.state]; rfl
  have N0 := Fr.nil n0
  have pre0 : ∀ tt, Steps p.tables e below (s₁.setTop (mkF m 0 #[.val (.int p1)] [])) tt → Steps p.tables e below (s₁.setTop (entryFrame m #[(.int p1)] 1)) tt := fun tt kk => castTop (ef_16_r m p1) kk
  obtain ⟨fs, hr, hrun, hended, hW, hsame⟩ := X0.leave (v := some (.int (1 : Int32))) (fun h => by rw [Bd.returns] at h; cases h)
  refine ⟨_, _, pre0 _ ?_, hrun, hended, _, _, rfl, ?_, ⟨_, rfl⟩, hW, hsame.mono (by decide) (by decide)⟩
  · show Steps p.tables e below (s₁.setTop (mkF m 0 #[.val (.int p1)] [])) _
    refine XS.iloadN X0.here hx rfl (hb hby d16_0) rfl ?_
    refine XS.bipush X0.here hx rfl (hb hby d16_1) ?_
    refine XS.icmpNo X0.here hx rfl (hb hby d16_3) rfl (feq hc3).1 ?_
    refine XS.iloadN X0.here hx rfl (hb hby d16_6) rfl ?_
    refine XS.bipush X0.here hx rfl (hb hby d16_7) ?_
    refine XS.icmpNo X0.here hx rfl (hb hby d16_9) rfl (feq hc9).1 ?_
    refine XS.iloadN X0.here hx rfl (hb hby d16_12) rfl ?_
    refine XS.bipush X0.here hx rfl (hb hby d16_13) ?_
    refine XS.icmpNo X0.here hx rfl (hb hby d16_15) rfl (teq hc15).2 ?_
    refine XS.iconst X0.here hx rfl (hb hby d16_18) ?_
    refine XS.goto X0.here hx rfl (pc0 := 19) (pc' := 23) rfl (hb hby d16_19) (by decide) (by decide) ?_
    show Steps p.tables e below (s₁.setTop (mkF m 23 #[.val (.int p1)] [(.int (1 : Int32))])) _
    exact retN X0 hx (t := .boolean) Bd.returns (by simp) (hb hby d16_23) hr
  · show own_Q Z (some (.int (own_sk p1))) h0 n0 _ s₁.heap _
    rw [e0]
    exact ⟨by simp [own_sk, own_sp, hc3, hc9, hc15], N0, rfl⟩
set_option maxRecDepth 65536 in
set_option maxHeartbeats 40000000 in
theorem rmSK_3 (l : Launch) (Z : State) (a0 : Array Value) (hw : ∀ d ∈ tables_1, d.before a0 Z = true) (ws : List Jvm.Cond) (p1 : Int32) (h0 : Heap) (n0 : Nat) (Z0 : n0 ≤ h0.size) (hc3 : ¬ (p1 = (32 : Int32))) (hc9 : ¬ (p1 = (9 : Int32))) (hc15 : ¬ (p1 = (44 : Int32))) :
    MetFree l (⟨"com/example/atomize/atomize/http/FieldValueReaderNextElementPinLaw", "skippable", "(C)Z"⟩ : MethodName) (head1 (Jvm.Cond.code (⟨"com/example/atomize/atomize/http/FieldValueReaderNextElementPinLaw", "skippable", "(C)Z"⟩ : MethodName) method_3_code 1 (some .boolean) :: ws) ({ frames := 0, cells := 0, slots := 0, locals := 0 } : Room)) (fun a_ U_ => a_ = #[(.int p1)] ∧ Z.Warmed39 U_.vm ∧ U_.heap = h0) (fun _ _ _ _ _ => True) (fun _ U_ o_ U1_ => ∃ v_ L_, o_ = .returned v_ ∧ own_Q Z (some (.int (own_sk p1))) h0 n0 v_ U1_.heap L_ ∧ FrameEnd U_ o_ U1_ L_ ({ frames := 0, cells := 0, slots := 0, locals := 0 } : Room).cells ({ frames := 0, cells := 0, slots := 0, locals := 0 } : Room).slots) := by
  refine MetFree.of_bodySF (plainFor_of_name pn_16) hisR ?_
  intro p e s m args below meth c s₁ Bd hml0 hP hK
  obtain ⟨rfl, hZ, hh⟩ := hP
  have hx := Bd.exec
  have hby := Bd.bytes
  have hml : c.maxLocals = 1 := hml0
  have hown : s.vm.findClass "com/example/atomize/atomize/http/FieldValueReaderNextElementPinLaw" = some m.cls := findClass_of_methodNamed Bd.named
  have hnm := (name_of_methodNamed Bd.named Bd.method).1
  have X0 : Stand p l e ({ frames := 0, cells := 0, slots := 0, locals := 0 } : Room) s m #[(.int p1)] below meth c s₁ [] 0 0 := Stand.of_body Bd
  have e0 : s₁.heap = h0 := by rw [← hh, Bd.state]; rfl
  have N0 := Fr.nil n0
  have pre0 : ∀ tt, Steps p.tables e below (s₁.setTop (mkF m 0 #[.val (.int p1)] [])) tt → Steps p.tables e below (s₁.setTop (entryFrame m #[(.int p1)] 1)) tt := fun tt kk => castTop (ef_16_r m p1) kk
  obtain ⟨fs, hr, hrun, hended, hW, hsame⟩ := X0.leave (v := some (.int (0 : Int32))) (fun h => by rw [Bd.returns] at h; cases h)
  refine ⟨_, _, pre0 _ ?_, hrun, hended, _, _, rfl, ?_, ⟨_, rfl⟩, hW, hsame.mono (by decide) (by decide)⟩
  · show Steps p.tables e below (s₁.setTop (mkF m 0 #[.val (.int p1)] [])) _
    refine XS.iloadN X0.here hx rfl (hb hby d16_0) rfl ?_
    refine XS.bipush X0.here hx rfl (hb hby d16_1) ?_
    refine XS.icmpNo X0.here hx rfl (hb hby d16_3) rfl (feq hc3).1 ?_
    refine XS.iloadN X0.here hx rfl (hb hby d16_6) rfl ?_
    refine XS.bipush X0.here hx rfl (hb hby d16_7) ?_
    refine XS.icmpNo X0.here hx rfl (hb hby d16_9) rfl (feq hc9).1 ?_
    refine XS.iloadN X0.here hx rfl (hb hby d16_12) rfl ?_
    refine XS.bipush X0.here hx rfl (hb hby d16_13) ?_
    refine XS.icmpYes X0.here hx rfl (pc0 := 15) (pc' := 22) rfl (hb hby d16_15) rfl (feq hc15).2 (by decide) (by decide) ?_
    refine XS.iconst X0.here hx rfl (hb hby d16_22) ?_
    show Steps p.tables e below (s₁.setTop (mkF m 23 #[.val (.int p1)] [(.int (0 : Int32))])) _
    exact retN X0 hx (t := .boolean) Bd.returns (by simp) (hb hby d16_23) hr
  · show own_Q Z (some (.int (own_sk p1))) h0 n0 _ s₁.heap _
    rw [e0]
    exact ⟨by simp [own_sk, own_sp, hc3, hc9, hc15], N0, rfl⟩
theorem rmSK (l : Launch) (Z : State) (a0 : Array Value) (hw : ∀ d ∈ tables_1, d.before a0 Z = true) (ws : List Jvm.Cond) (p1 : Int32) (h0 : Heap) (n0 : Nat) (Z0 : n0 ≤ h0.size) :
    MetFree l (⟨"com/example/atomize/atomize/http/FieldValueReaderNextElementPinLaw", "skippable", "(C)Z"⟩ : MethodName) (head1 (Jvm.Cond.code (⟨"com/example/atomize/atomize/http/FieldValueReaderNextElementPinLaw", "skippable", "(C)Z"⟩ : MethodName) method_3_code 1 (some .boolean) :: ws) ({ frames := 0, cells := 0, slots := 0, locals := 0 } : Room)) (fun a_ U_ => a_ = #[(.int p1)] ∧ Z.Warmed39 U_.vm ∧ U_.heap = h0) (fun _ _ _ _ _ => True) (fun _ U_ o_ U1_ => ∃ v_ L_, o_ = .returned v_ ∧ own_Q Z (some (.int (own_sk p1))) h0 n0 v_ U1_.heap L_ ∧ FrameEnd U_ o_ U1_ L_ ({ frames := 0, cells := 0, slots := 0, locals := 0 } : Room).cells ({ frames := 0, cells := 0, slots := 0, locals := 0 } : Room).slots) := by
  by_cases hf0 : p1 = (32 : Int32)
  · skip
    exact rmSK_0 l Z a0 hw ws p1 h0 n0 Z0  hf0
  · skip
    by_cases hf1 : p1 = (9 : Int32)
    · skip
      exact rmSK_1 l Z a0 hw ws p1 h0 n0 Z0  hf0 hf1
    · skip
      by_cases hf2 : p1 = (44 : Int32)
      · skip
        exact rmSK_2 l Z a0 hw ws p1 h0 n0 Z0  hf0 hf1 hf2
      · skip
        exact rmSK_3 l Z a0 hw ws p1 h0 n0 Z0  hf0 hf1 hf2
theorem d22_0 : decode prog_5_method_13_code 0 = .ok (.iload_n 0, 1) := by decide +kernel
theorem d22_1 : decode prog_5_method_13_code 1 = .ok (.bipush 32, 2) := by decide +kernel
theorem d22_3 : decode prog_5_method_13_code 3 = .ok (.if_icmp .eq 9, 3) := by decide +kernel
theorem d22_12 : decode prog_5_method_13_code 12 = .ok (.iconst 1, 1) := by decide +kernel
theorem d22_13 : decode prog_5_method_13_code 13 = .ok (.goto 4, 3) := by decide +kernel
theorem d22_17 : decode prog_5_method_13_code 17 = .ok (.ireturn, 1) := by decide +kernel
theorem d22_6 : decode prog_5_method_13_code 6 = .ok (.iload_n 0, 1) := by decide +kernel
theorem d22_7 : decode prog_5_method_13_code 7 = .ok (.bipush 9, 2) := by decide +kernel
theorem d22_9 : decode prog_5_method_13_code 9 = .ok (.if_icmp .ne 7, 3) := by decide +kernel
theorem d22_16 : decode prog_5_method_13_code 16 = .ok (.iconst 0, 1) := by decide +kernel
theorem pn_22 : plainName "com/example/atomize/atomize/http/FieldValueReader" = true := by first | (simp [plainName, overriddenIn]; done) | decide +kernel
theorem ef_22_r (m : MethodId) (x0 : Int32) : entryFrame m #[(.int x0)] 1 = mkF m 0 #[.val (.int x0)] [] := by first | (simp [entryFrame, mkF, argsToLocals, Value.category]; done) | rfl
set_option maxRecDepth 65536 in
set_option maxHeartbeats 40000000 in
theorem rmSP_0 (l : Launch) (Z : State) (a0 : Array Value) (hw : ∀ d ∈ tables_1, d.before a0 Z = true) (ws : List Jvm.Cond) (p1 : Int32) (h0 : Heap) (n0 : Nat) (Z0 : n0 ≤ h0.size) (hc3 : p1 = (32 : Int32)) :
    MetFree l (⟨"com/example/atomize/atomize/http/FieldValueReader", "isSpace", "(C)Z"⟩ : MethodName) (head1 (Jvm.Cond.code (⟨"com/example/atomize/atomize/http/FieldValueReader", "isSpace", "(C)Z"⟩ : MethodName) prog_5_method_13_code 1 (some .boolean) :: ws) ({ frames := 0, cells := 0, slots := 0, locals := 0 } : Room)) (fun a_ U_ => a_ = #[(.int p1)] ∧ Z.Warmed39 U_.vm ∧ U_.heap = h0) (fun _ _ _ _ _ => True) (fun _ U_ o_ U1_ => ∃ v_ L_, o_ = .returned v_ ∧ own_Q Z (some (.int (own_sp p1))) h0 n0 v_ U1_.heap L_ ∧ FrameEnd U_ o_ U1_ L_ ({ frames := 0, cells := 0, slots := 0, locals := 0 } : Room).cells ({ frames := 0, cells := 0, slots := 0, locals := 0 } : Room).slots) := by
  refine MetFree.of_bodySF (plainFor_of_name pn_22) hisR ?_
  intro p e s m args below meth c s₁ Bd hml0 hP hK
  obtain ⟨rfl, hZ, hh⟩ := hP
  have hx := Bd.exec
  have hby := Bd.bytes
  have hml : c.maxLocals = 1 := hml0
  have hown : s.vm.findClass "com/example/atomize/atomize/http/FieldValueReader" = some m.cls := findClass_of_methodNamed Bd.named
  have hnm := (name_of_methodNamed Bd.named Bd.method).1
  have X0 : Stand p l e ({ frames := 0, cells := 0, slots := 0, locals := 0 } : Room) s m #[(.int p1)] below meth c s₁ [] 0 0 := Stand.of_body Bd
  have e0 : s₁.heap = h0 := by rw [← hh, Bd.state]; rfl
  have N0 := Fr.nil n0
  have pre0 : ∀ tt, Steps p.tables e below (s₁.setTop (mkF m 0 #[.val (.int p1)] [])) tt → Steps p.tables e below (s₁.setTop (entryFrame m #[(.int p1)] 1)) tt := fun tt kk => castTop (ef_22_r m p1) kk
  obtain ⟨fs, hr, hrun, hended, hW, hsame⟩ := X0.leave (v := some (.int (1 : Int32))) (fun h => by rw [Bd.returns] at h; cases h)
  refine ⟨_, _, pre0 _ ?_, hrun, hended, _, _, rfl, ?_, ⟨_, rfl⟩, hW, hsame.mono (by decide) (by decide)⟩
  · show Steps p.tables e below (s₁.setTop (mkF m 0 #[.val (.int p1)] [])) _
    refine XS.iloadN X0.here hx rfl (hb hby d22_0) rfl ?_
    refine XS.bipush X0.here hx rfl (hb hby d22_1) ?_
    refine XS.icmpYes X0.here hx rfl (pc0 := 3) (pc' := 12) rfl (hb hby d22_3) rfl (teq hc3).1 (by decide) (by decide) ?_
    refine XS.iconst X0.here hx rfl (hb hby d22_12) ?_
    refine XS.goto X0.here hx rfl (pc0 := 13) (pc' := 17) rfl (hb hby d22_13) (by decide) (by decide) ?_
    show Steps p.tables e below (s₁.setTop (mkF m 17 #[.val (.int p1)] [(.int (1 : Int32))])) _
    exact retN X0 hx (t := .boolean) Bd.returns (by simp) (hb hby d22_17) hr
  · show own_Q Z (some (.int (own_sp p1))) h0 n0 _ s₁.heap _
    rw [e0]
    exact ⟨by simp [own_sk, own_sp, hc3], N0, rfl⟩
set_option maxRecDepth 65536 in
set_option maxHeartbeats 40000000 in
theorem rmSP_1 (l : Launch) (Z : State) (a0 : Array Value) (hw : ∀ d ∈ tables_1, d.before a0 Z = true) (ws : List Jvm.Cond) (p1 : Int32) (h0 : Heap) (n0 : Nat) (Z0 : n0 ≤ h0.size) (hc3 : ¬ (p1 = (32 : Int32))) (hc9 : p1 = (9 : Int32)) :
    MetFree l (⟨"com/example/atomize/atomize/http/FieldValueReader", "isSpace", "(C)Z"⟩ : MethodName) (head1 (Jvm.Cond.code (⟨"com/example/atomize/atomize/http/FieldValueReader", "isSpace", "(C)Z"⟩ : MethodName) prog_5_method_13_code 1 (some .boolean) :: ws) ({ frames := 0, cells := 0, slots := 0, locals := 0 } : Room)) (fun a_ U_ => a_ = #[(.int p1)] ∧ Z.Warmed39 U_.vm ∧ U_.heap = h0) (fun _ _ _ _ _ => True) (fun _ U_ o_ U1_ => ∃ v_ L_, o_ = .returned v_ ∧ own_Q Z (some (.int (own_sp p1))) h0 n0 v_ U1_.heap L_ ∧ FrameEnd U_ o_ U1_ L_ ({ frames := 0, cells := 0, slots := 0, locals := 0 } : Room).cells ({ frames := 0, cells := 0, slots := 0, locals := 0 } : Room).slots) := by
  refine MetFree.of_bodySF (plainFor_of_name pn_22) hisR ?_
  intro p e s m args below meth c s₁ Bd hml0 hP hK
  obtain ⟨rfl, hZ, hh⟩ := hP
  have hx := Bd.exec
  have hby := Bd.bytes
  have hml : c.maxLocals = 1 := hml0
  have hown : s.vm.findClass "com/example/atomize/atomize/http/FieldValueReader" = some m.cls := findClass_of_methodNamed Bd.named
  have hnm := (name_of_methodNamed Bd.named Bd.method).1
  have X0 : Stand p l e ({ frames := 0, cells := 0, slots := 0, locals := 0 } : Room) s m #[(.int p1)] below meth c s₁ [] 0 0 := Stand.of_body Bd
  have e0 : s₁.heap = h0 := by rw [← hh, Bd.state]; rfl
  have N0 := Fr.nil n0
  have pre0 : ∀ tt, Steps p.tables e below (s₁.setTop (mkF m 0 #[.val (.int p1)] [])) tt → Steps p.tables e below (s₁.setTop (entryFrame m #[(.int p1)] 1)) tt := fun tt kk => castTop (ef_22_r m p1) kk
  obtain ⟨fs, hr, hrun, hended, hW, hsame⟩ := X0.leave (v := some (.int (1 : Int32))) (fun h => by rw [Bd.returns] at h; cases h)
  refine ⟨_, _, pre0 _ ?_, hrun, hended, _, _, rfl, ?_, ⟨_, rfl⟩, hW, hsame.mono (by decide) (by decide)⟩
  · show Steps p.tables e below (s₁.setTop (mkF m 0 #[.val (.int p1)] [])) _
    refine XS.iloadN X0.here hx rfl (hb hby d22_0) rfl ?_
    refine XS.bipush X0.here hx rfl (hb hby d22_1) ?_
    refine XS.icmpNo X0.here hx rfl (hb hby d22_3) rfl (feq hc3).1 ?_
    refine XS.iloadN X0.here hx rfl (hb hby d22_6) rfl ?_
    refine XS.bipush X0.here hx rfl (hb hby d22_7) ?_
    refine XS.icmpNo X0.here hx rfl (hb hby d22_9) rfl (teq hc9).2 ?_
    refine XS.iconst X0.here hx rfl (hb hby d22_12) ?_
    refine XS.goto X0.here hx rfl (pc0 := 13) (pc' := 17) rfl (hb hby d22_13) (by decide) (by decide) ?_
    show Steps p.tables e below (s₁.setTop (mkF m 17 #[.val (.int p1)] [(.int (1 : Int32))])) _
    exact retN X0 hx (t := .boolean) Bd.returns (by simp) (hb hby d22_17) hr
  · show own_Q Z (some (.int (own_sp p1))) h0 n0 _ s₁.heap _
    rw [e0]
    exact ⟨by simp [own_sk, own_sp, hc3, hc9], N0, rfl⟩
set_option maxRecDepth 65536 in
set_option maxHeartbeats 40000000 in
theorem rmSP_2 (l : Launch) (Z : State) (a0 : Array Value) (hw : ∀ d ∈ tables_1, d.before a0 Z = true) (ws : List Jvm.Cond) (p1 : Int32) (h0 : Heap) (n0 : Nat) (Z0 : n0 ≤ h0.size) (hc3 : ¬ (p1 = (32 : Int32))) (hc9 : ¬ (p1 = (9 : Int32))) :
    MetFree l (⟨"com/example/atomize/atomize/http/FieldValueReader", "isSpace", "(C)Z"⟩ : MethodName) (head1 (Jvm.Cond.code (⟨"com/example/atomize/atomize/http/FieldValueReader", "isSpace", "(C)Z"⟩ : MethodName) prog_5_method_13_code 1 (some .boolean) :: ws) ({ frames := 0, cells := 0, slots := 0, locals := 0 } : Room)) (fun a_ U_ => a_ = #[(.int p1)] ∧ Z.Warmed39 U_.vm ∧ U_.heap = h0) (fun _ _ _ _ _ => True) (fun _ U_ o_ U1_ => ∃ v_ L_, o_ = .returned v_ ∧ own_Q Z (some (.int (own_sp p1))) h0 n0 v_ U1_.heap L_ ∧ FrameEnd U_ o_ U1_ L_ ({ frames := 0, cells := 0, slots := 0, locals := 0 } : Room).cells ({ frames := 0, cells := 0, slots := 0, locals := 0 } : Room).slots) := by
  refine MetFree.of_bodySF (plainFor_of_name pn_22) hisR ?_
  intro p e s m args below meth c s₁ Bd hml0 hP hK
  obtain ⟨rfl, hZ, hh⟩ := hP
  have hx := Bd.exec
  have hby := Bd.bytes
  have hml : c.maxLocals = 1 := hml0
  have hown : s.vm.findClass "com/example/atomize/atomize/http/FieldValueReader" = some m.cls := findClass_of_methodNamed Bd.named
  have hnm := (name_of_methodNamed Bd.named Bd.method).1
  have X0 : Stand p l e ({ frames := 0, cells := 0, slots := 0, locals := 0 } : Room) s m #[(.int p1)] below meth c s₁ [] 0 0 := Stand.of_body Bd
  have e0 : s₁.heap = h0 := by rw [← hh, Bd.state]; rfl
  have N0 := Fr.nil n0
  have pre0 : ∀ tt, Steps p.tables e below (s₁.setTop (mkF m 0 #[.val (.int p1)] [])) tt → Steps p.tables e below (s₁.setTop (entryFrame m #[(.int p1)] 1)) tt := fun tt kk => castTop (ef_22_r m p1) kk
  obtain ⟨fs, hr, hrun, hended, hW, hsame⟩ := X0.leave (v := some (.int (0 : Int32))) (fun h => by rw [Bd.returns] at h; cases h)
  refine ⟨_, _, pre0 _ ?_, hrun, hended, _, _, rfl, ?_, ⟨_, rfl⟩, hW, hsame.mono (by decide) (by decide)⟩
  · show Steps p.tables e below (s₁.setTop (mkF m 0 #[.val (.int p1)] [])) _
    refine XS.iloadN X0.here hx rfl (hb hby d22_0) rfl ?_
    refine XS.bipush X0.here hx rfl (hb hby d22_1) ?_
    refine XS.icmpNo X0.here hx rfl (hb hby d22_3) rfl (feq hc3).1 ?_
    refine XS.iloadN X0.here hx rfl (hb hby d22_6) rfl ?_
    refine XS.bipush X0.here hx rfl (hb hby d22_7) ?_
    refine XS.icmpYes X0.here hx rfl (pc0 := 9) (pc' := 16) rfl (hb hby d22_9) rfl (feq hc9).2 (by decide) (by decide) ?_
    refine XS.iconst X0.here hx rfl (hb hby d22_16) ?_
    show Steps p.tables e below (s₁.setTop (mkF m 17 #[.val (.int p1)] [(.int (0 : Int32))])) _
    exact retN X0 hx (t := .boolean) Bd.returns (by simp) (hb hby d22_17) hr
  · show own_Q Z (some (.int (own_sp p1))) h0 n0 _ s₁.heap _
    rw [e0]
    exact ⟨by simp [own_sk, own_sp, hc3, hc9], N0, rfl⟩
theorem rmSP (l : Launch) (Z : State) (a0 : Array Value) (hw : ∀ d ∈ tables_1, d.before a0 Z = true) (ws : List Jvm.Cond) (p1 : Int32) (h0 : Heap) (n0 : Nat) (Z0 : n0 ≤ h0.size) :
    MetFree l (⟨"com/example/atomize/atomize/http/FieldValueReader", "isSpace", "(C)Z"⟩ : MethodName) (head1 (Jvm.Cond.code (⟨"com/example/atomize/atomize/http/FieldValueReader", "isSpace", "(C)Z"⟩ : MethodName) prog_5_method_13_code 1 (some .boolean) :: ws) ({ frames := 0, cells := 0, slots := 0, locals := 0 } : Room)) (fun a_ U_ => a_ = #[(.int p1)] ∧ Z.Warmed39 U_.vm ∧ U_.heap = h0) (fun _ _ _ _ _ => True) (fun _ U_ o_ U1_ => ∃ v_ L_, o_ = .returned v_ ∧ own_Q Z (some (.int (own_sp p1))) h0 n0 v_ U1_.heap L_ ∧ FrameEnd U_ o_ U1_ L_ ({ frames := 0, cells := 0, slots := 0, locals := 0 } : Room).cells ({ frames := 0, cells := 0, slots := 0, locals := 0 } : Room).slots) := by
  by_cases hf0 : p1 = (32 : Int32)
  · skip
    exact rmSP_0 l Z a0 hw ws p1 h0 n0 Z0  hf0
  · skip
    by_cases hf1 : p1 = (9 : Int32)
    · skip
      exact rmSP_1 l Z a0 hw ws p1 h0 n0 Z0  hf0 hf1
    · skip
      exact rmSP_2 l Z a0 hw ws p1 h0 n0 Z0  hf0 hf1
def own_QR (Z : State) (cs : List Int32) (h0 : Heap) (n0 : Nat) (v : Option Value) (h : Heap) (L : List Loc) : Prop := ∃ x, v = some (.ref x) ∧ Fr n0 L ∧ h0.size ≤ x ∧ Keep h0 h [] ∧ own_s Z h x cs
theorem d2_0 : decode method_4_code 0 = .ok (.iload_n 2, 1) := by decide +kernel
theorem d2_1 : decode method_4_code 1 = .ok (.iload_n 1, 1) := by decide +kernel
theorem d2_2 : decode method_4_code 2 = .ok (.isub, 1) := by decide +kernel
theorem d2_3 : decode method_4_code 3 = .ok (.istore_n 3, 1) := by decide +kernel
theorem d2_4 : decode method_4_code 4 = .ok (.iload_n 3, 1) := by decide +kernel
theorem d2_5 : decode method_4_code 5 = .ok (.ifCond .gt 14, 3) := by decide +kernel
theorem d2_8 : decode method_4_code 8 = .ok (.new 7, 3) := by decide +kernel
theorem d2_11 : decode method_4_code 11 = .ok (.dup, 1) := by decide +kernel
theorem d2_12 : decode method_4_code 12 = .ok (.iconst 0, 1) := by decide +kernel
theorem d2_13 : decode method_4_code 13 = .ok (.newarray .char, 2) := by decide +kernel
theorem pd___C_V : parseMethodDescriptor "([C)V" = some ⟨[(.array .char)], none⟩ := by decide +kernel
theorem d2_15 : decode method_4_code 15 = .ok (.invokespecial 9, 3) := by decide +kernel
theorem d2_18 : decode method_4_code 18 = .ok (.areturn, 1) := by decide +kernel
theorem d2_19 : decode method_4_code 19 = .ok (.iload_n 3, 1) := by decide +kernel
theorem d2_20 : decode method_4_code 20 = .ok (.iconst 1, 1) := by decide +kernel
theorem d2_21 : decode method_4_code 21 = .ok (.if_icmp .ne 20, 3) := by decide +kernel
theorem d2_24 : decode method_4_code 24 = .ok (.new 7, 3) := by decide +kernel
theorem d2_27 : decode method_4_code 27 = .ok (.dup, 1) := by decide +kernel
theorem d2_28 : decode method_4_code 28 = .ok (.iconst 1, 1) := by decide +kernel
theorem d2_29 : decode method_4_code 29 = .ok (.newarray .char, 2) := by decide +kernel
theorem d2_31 : decode method_4_code 31 = .ok (.dup, 1) := by decide +kernel
theorem d2_32 : decode method_4_code 32 = .ok (.iconst 0, 1) := by decide +kernel
theorem d2_33 : decode method_4_code 33 = .ok (.aload_n 0, 1) := by decide +kernel
theorem d2_34 : decode method_4_code 34 = .ok (.iload_n 1, 1) := by decide +kernel
theorem d2_35 : decode method_4_code 35 = .ok (.caload, 1) := by decide +kernel
theorem d2_36 : decode method_4_code 36 = .ok (.castore, 1) := by decide +kernel
theorem d2_37 : decode method_4_code 37 = .ok (.invokespecial 9, 3) := by decide +kernel
theorem d2_40 : decode method_4_code 40 = .ok (.areturn, 1) := by decide +kernel
theorem d2_41 : decode method_4_code 41 = .ok (.iload_n 3, 1) := by decide +kernel
theorem d2_42 : decode method_4_code 42 = .ok (.iconst 2, 1) := by decide +kernel
theorem d2_43 : decode method_4_code 43 = .ok (.if_icmp .ne 28, 3) := by decide +kernel
theorem d2_46 : decode method_4_code 46 = .ok (.new 7, 3) := by decide +kernel
theorem d2_49 : decode method_4_code 49 = .ok (.dup, 1) := by decide +kernel
theorem d2_50 : decode method_4_code 50 = .ok (.iconst 2, 1) := by decide +kernel
theorem d2_51 : decode method_4_code 51 = .ok (.newarray .char, 2) := by decide +kernel
theorem d2_53 : decode method_4_code 53 = .ok (.dup, 1) := by decide +kernel
theorem d2_54 : decode method_4_code 54 = .ok (.iconst 0, 1) := by decide +kernel
theorem d2_55 : decode method_4_code 55 = .ok (.aload_n 0, 1) := by decide +kernel
theorem d2_56 : decode method_4_code 56 = .ok (.iload_n 1, 1) := by decide +kernel
theorem d2_57 : decode method_4_code 57 = .ok (.caload, 1) := by decide +kernel
theorem d2_58 : decode method_4_code 58 = .ok (.castore, 1) := by decide +kernel
theorem d2_59 : decode method_4_code 59 = .ok (.dup, 1) := by decide +kernel
theorem d2_60 : decode method_4_code 60 = .ok (.iconst 1, 1) := by decide +kernel
theorem d2_61 : decode method_4_code 61 = .ok (.aload_n 0, 1) := by decide +kernel
theorem d2_62 : decode method_4_code 62 = .ok (.iload_n 1, 1) := by decide +kernel
theorem d2_63 : decode method_4_code 63 = .ok (.iconst 1, 1) := by decide +kernel
theorem d2_64 : decode method_4_code 64 = .ok (.iadd, 1) := by decide +kernel
theorem d2_65 : decode method_4_code 65 = .ok (.caload, 1) := by decide +kernel
theorem d2_66 : decode method_4_code 66 = .ok (.castore, 1) := by decide +kernel
theorem d2_67 : decode method_4_code 67 = .ok (.invokespecial 9, 3) := by decide +kernel
theorem d2_70 : decode method_4_code 70 = .ok (.areturn, 1) := by decide +kernel
theorem d2_71 : decode method_4_code 71 = .ok (.iload_n 3, 1) := by decide +kernel
theorem d2_72 : decode method_4_code 72 = .ok (.iconst 3, 1) := by decide +kernel
theorem d2_73 : decode method_4_code 73 = .ok (.if_icmp .ne 36, 3) := by decide +kernel
theorem d2_76 : decode method_4_code 76 = .ok (.new 7, 3) := by decide +kernel
theorem d2_79 : decode method_4_code 79 = .ok (.dup, 1) := by decide +kernel
theorem d2_80 : decode method_4_code 80 = .ok (.iconst 3, 1) := by decide +kernel
theorem d2_81 : decode method_4_code 81 = .ok (.newarray .char, 2) := by decide +kernel
theorem d2_83 : decode method_4_code 83 = .ok (.dup, 1) := by decide +kernel
theorem d2_84 : decode method_4_code 84 = .ok (.iconst 0, 1) := by decide +kernel
theorem d2_85 : decode method_4_code 85 = .ok (.aload_n 0, 1) := by decide +kernel
theorem d2_86 : decode method_4_code 86 = .ok (.iload_n 1, 1) := by decide +kernel
theorem d2_87 : decode method_4_code 87 = .ok (.caload, 1) := by decide +kernel
theorem d2_88 : decode method_4_code 88 = .ok (.castore, 1) := by decide +kernel
theorem d2_89 : decode method_4_code 89 = .ok (.dup, 1) := by decide +kernel
theorem d2_90 : decode method_4_code 90 = .ok (.iconst 1, 1) := by decide +kernel
theorem d2_91 : decode method_4_code 91 = .ok (.aload_n 0, 1) := by decide +kernel
theorem d2_92 : decode method_4_code 92 = .ok (.iload_n 1, 1) := by decide +kernel
theorem d2_93 : decode method_4_code 93 = .ok (.iconst 1, 1) := by decide +kernel
theorem d2_94 : decode method_4_code 94 = .ok (.iadd, 1) := by decide +kernel
theorem d2_95 : decode method_4_code 95 = .ok (.caload, 1) := by decide +kernel
theorem d2_96 : decode method_4_code 96 = .ok (.castore, 1) := by decide +kernel
theorem d2_97 : decode method_4_code 97 = .ok (.dup, 1) := by decide +kernel
theorem d2_98 : decode method_4_code 98 = .ok (.iconst 2, 1) := by decide +kernel
theorem d2_99 : decode method_4_code 99 = .ok (.aload_n 0, 1) := by decide +kernel
theorem d2_100 : decode method_4_code 100 = .ok (.iload_n 1, 1) := by decide +kernel
theorem d2_101 : decode method_4_code 101 = .ok (.iconst 2, 1) := by decide +kernel
theorem d2_102 : decode method_4_code 102 = .ok (.iadd, 1) := by decide +kernel
theorem d2_103 : decode method_4_code 103 = .ok (.caload, 1) := by decide +kernel
theorem d2_104 : decode method_4_code 104 = .ok (.castore, 1) := by decide +kernel
theorem d2_105 : decode method_4_code 105 = .ok (.invokespecial 9, 3) := by decide +kernel
theorem d2_108 : decode method_4_code 108 = .ok (.areturn, 1) := by decide +kernel
theorem d2_109 : decode method_4_code 109 = .ok (.new 7, 3) := by decide +kernel
theorem d2_112 : decode method_4_code 112 = .ok (.dup, 1) := by decide +kernel
theorem d2_113 : decode method_4_code 113 = .ok (.iconst 4, 1) := by decide +kernel
theorem d2_114 : decode method_4_code 114 = .ok (.newarray .char, 2) := by decide +kernel
theorem d2_116 : decode method_4_code 116 = .ok (.dup, 1) := by decide +kernel
theorem d2_117 : decode method_4_code 117 = .ok (.iconst 0, 1) := by decide +kernel
theorem d2_118 : decode method_4_code 118 = .ok (.aload_n 0, 1) := by decide +kernel
theorem d2_119 : decode method_4_code 119 = .ok (.iload_n 1, 1) := by decide +kernel
theorem d2_120 : decode method_4_code 120 = .ok (.caload, 1) := by decide +kernel
theorem d2_121 : decode method_4_code 121 = .ok (.castore, 1) := by decide +kernel
theorem d2_122 : decode method_4_code 122 = .ok (.dup, 1) := by decide +kernel
theorem d2_123 : decode method_4_code 123 = .ok (.iconst 1, 1) := by decide +kernel
theorem d2_124 : decode method_4_code 124 = .ok (.aload_n 0, 1) := by decide +kernel
theorem d2_125 : decode method_4_code 125 = .ok (.iload_n 1, 1) := by decide +kernel
theorem d2_126 : decode method_4_code 126 = .ok (.iconst 1, 1) := by decide +kernel
theorem d2_127 : decode method_4_code 127 = .ok (.iadd, 1) := by decide +kernel
theorem d2_128 : decode method_4_code 128 = .ok (.caload, 1) := by decide +kernel
theorem d2_129 : decode method_4_code 129 = .ok (.castore, 1) := by decide +kernel
theorem d2_130 : decode method_4_code 130 = .ok (.dup, 1) := by decide +kernel
theorem d2_131 : decode method_4_code 131 = .ok (.iconst 2, 1) := by decide +kernel
theorem d2_132 : decode method_4_code 132 = .ok (.aload_n 0, 1) := by decide +kernel
theorem d2_133 : decode method_4_code 133 = .ok (.iload_n 1, 1) := by decide +kernel
theorem d2_134 : decode method_4_code 134 = .ok (.iconst 2, 1) := by decide +kernel
theorem d2_135 : decode method_4_code 135 = .ok (.iadd, 1) := by decide +kernel
theorem d2_136 : decode method_4_code 136 = .ok (.caload, 1) := by decide +kernel
theorem d2_137 : decode method_4_code 137 = .ok (.castore, 1) := by decide +kernel
theorem d2_138 : decode method_4_code 138 = .ok (.dup, 1) := by decide +kernel
theorem d2_139 : decode method_4_code 139 = .ok (.iconst 3, 1) := by decide +kernel
theorem d2_140 : decode method_4_code 140 = .ok (.aload_n 0, 1) := by decide +kernel
theorem d2_141 : decode method_4_code 141 = .ok (.iload_n 1, 1) := by decide +kernel
theorem d2_142 : decode method_4_code 142 = .ok (.iconst 3, 1) := by decide +kernel
theorem d2_143 : decode method_4_code 143 = .ok (.iadd, 1) := by decide +kernel
theorem d2_144 : decode method_4_code 144 = .ok (.caload, 1) := by decide +kernel
theorem d2_145 : decode method_4_code 145 = .ok (.castore, 1) := by decide +kernel
theorem d2_146 : decode method_4_code 146 = .ok (.invokespecial 9, 3) := by decide +kernel
theorem d2_149 : decode method_4_code 149 = .ok (.areturn, 1) := by decide +kernel
theorem pn_2 : plainName "com/example/atomize/atomize/http/FieldValueReaderNextElementPinLaw" = true := by first | (simp [plainName, overriddenIn]; done) | decide +kernel
theorem ef_2_rrr (m : MethodId) (x0 : Addr) (x1 : Int32) (x2 : Int32) : entryFrame m #[(.ref x0), (.int x1), (.int x2)] 4 = mkF m 0 #[.val (.ref x0), .val (.int x1), .val (.int x2), .unset] [] := by first | (simp [entryFrame, mkF, argsToLocals, Value.category]; done) | rfl
set_option maxRecDepth 65536 in
set_option maxHeartbeats 40000000 in
theorem rmSL0 (l : Launch) (Z : State) (a0 : Array Value) (hw : ∀ d ∈ tables_1, d.before a0 Z = true) (ws : List Jvm.Cond) (G1 : Int32) (G3 : Value) (ar : Addr) (ka : ClassId) (as : List Int32) (f : Nat) (h0 : Heap) (n0 : Nat) (Z0 : n0 ≤ h0.size) (EN : own_env Z G1 G3) (X00 : Old Z n0 h0) (V_ar : Arv Z h0 ar ka .char (Int32.ofNat as.length) (as.map Value.int) (.int (0 : Int32))) (hc8 : ∀ i, i < as.length → own_c8 (as.getD i 0)) (hfa : f + 0 ≤ as.length) (ha : as.length < 2 ^ 31) :
    MetFree l (⟨"com/example/atomize/atomize/http/FieldValueReaderNextElementPinLaw", "slice", "([CII)Ljava/lang/String;"⟩ : MethodName) (head1 (Jvm.Cond.code (⟨"com/example/atomize/atomize/http/FieldValueReaderNextElementPinLaw", "slice", "([CII)Ljava/lang/String;"⟩ : MethodName) method_4_code 4 (some (.object "java/lang/String")) :: ws) ({ frames := 4, cells := 6, slots := 12, locals := 66 } : Room)) (fun a_ U_ => a_ = #[(.ref ar), (.int (Int32.ofNat f)), (.int (Int32.ofNat (f + 0)))] ∧ Z.Warmed39 U_.vm ∧ U_.heap = h0 ∧ CHv Z consts_1 U_.vm h0) (fun _ _ _ _ _ => True) (fun _ U_ o_ U1_ => ∃ v_ L_, o_ = .returned v_ ∧ own_QR Z ((as.drop f).take 0) h0 n0 v_ U1_.heap L_ ∧ CHr Z consts_1 U_.vm U_.heap U1_.vm U1_.heap ∧ ReturnedEndW U_ o_ U1_ L_ ({ frames := 4, cells := 6, slots := 12, locals := 66 } : Room).cells ({ frames := 4, cells := 6, slots := 12, locals := 66 } : Room).slots) := by
  refine MetFree.of_bodySF (plainFor_of_name pn_2) hisR ?_
  intro p e s m args below meth c s₁ Bd hml0 hP hK
  obtain ⟨rfl, hZ, hh, H0⟩ := hP
  have hx := Bd.exec
  have hby := Bd.bytes
  have hml : c.maxLocals = 4 := hml0
  have hown : s.vm.findClass "com/example/atomize/atomize/http/FieldValueReaderNextElementPinLaw" = some m.cls := findClass_of_methodNamed Bd.named
  have hnm := (name_of_methodNamed Bd.named Bd.method).1
  have X0 : Stand p l e ({ frames := 4, cells := 6, slots := 12, locals := 66 } : Room) s m #[(.ref ar), (.int (Int32.ofNat f)), (.int (Int32.ofNat (f + 0)))] below meth c s₁ [] 0 0 := Stand.of_body Bd
  have e0 : s₁.heap = h0 := by rw [← hh, Bd.state]; rfl
  have N0 := Fr.nil n0
  have pre0 : ∀ tt, Steps p.tables e below (s₁.setTop (mkF m 0 #[.val (.ref ar), .val (.int (Int32.ofNat f)), .val (.int (Int32.ofNat (f + 0))), .unset] [])) tt → Steps p.tables e below (s₁.setTop (entryFrame m #[(.ref ar), (.int (Int32.ofNat f)), (.int (Int32.ofNat (f + 0)))] 4)) tt := fun tt kk => castTop (ef_2_rrr m ar (Int32.ofNat f) (Int32.ofNat (f + 0))) kk
  have hS0 : s.Since s.vm 0 := (State.WarmedH.refl s).since 0
  have hk0 : 0 ≤ h0.size := Nat.zero_le _
  have EN0 := EN
  obtain ⟨O2, P5, O4, rG3⟩ := EN
  have hws : ∀ d ∈ StrChars.Road.words, d.before a0 Z = true := fun d hd => hw d (own_w1 d hd)
  have hwl : ∀ d ∈ StrChars.Road.wordsLen, d.before a0 Z = true := fun d hd => hw d (own_w2 d hd)
  have hwc : ∀ d ∈ StrChars.Road.wordsChN, d.before a0 Z = true := fun d hd => hw d (own_w3 d hd)
  obtain ⟨T1, h1, X1, e1, E1, A1, D1, -, st1⟩ := newO X0 hx hZ hown (hw _ (List.mem_of_getElem? (i := 8) rfl)) (hw _ (List.mem_of_getElem? (i := 9) rfl)) (hw _ (List.mem_of_getElem? (i := 10) rfl)) e0 (g := (mkF m 8 #[.val (.ref ar), .val (.int (Int32.ofNat f)), .val (.int (Int32.ofNat (f + 0))), .val (.int (0 : Int32))] [])) rfl (hb hby d2_8) (by decide) (by decide)
  obtain ⟨b1, g1⟩ : ∃ z, z = h0.size := ⟨_, rfl⟩
  rw [← g1] at A1 D1 st1
  have g_b1 : n0 ≤ b1 := Nat.le_trans Z0 (Nat.le_of_eq g1.symm)
  have sz_b1 : h0.size ≤ b1 := Nat.le_trans (Nat.le_refl _) (Nat.le_of_eq g1.symm)
  have F1_value : Fld Z h1 b1 "java/lang/String" "value" "[B" .null := D1 (Or.inr (hw _ (List.mem_of_getElem? (i := 23) rfl))) (ty := (.array .byte)) (by decide)
  have F1_coder : Fld Z h1 b1 "java/lang/String" "coder" "B" (.int (0 : Int32)) := D1 (Or.inr (hw _ (List.mem_of_getElem? (i := 24) rfl))) (ty := .byte) (by decide)
  obtain ⟨T2, h2, k2, X2, e2, E2, A2, st2⟩ := newP X1 hx hZ (hw _ (List.mem_of_getElem? (i := 0) rfl)) e1 (g := (mkF m 13 #[.val (.ref ar), .val (.int (Int32.ofNat f)), .val (.int (Int32.ofNat (f + 0))), .val (.int (0 : Int32))] [(.int (0 : Int32)), (.ref b1), (.ref b1)])) rfl (hb hby d2_13) rfl (by decide) (cap := 0) (by decide) (by decide) (by decide) (by decide)
  obtain ⟨b2, g2⟩ : ∃ z, z = h1.size := ⟨_, rfl⟩
  rw [← g2] at A2 st2
  have g_b2 : n0 ≤ b2 := Nat.le_trans (Nat.le_trans Z0 E1.1) (Nat.le_of_eq g2.symm)
  have sz_b2 : h0.size ≤ b2 := Nat.le_trans E1.1 (Nat.le_of_eq g2.symm)
  have V2 : Arv Z h2 b2 k2 .char (0 : Int32) [] (.int (0 : Int32)) := (Arv.new A2 (by decide)).pad (pad_rep [] (.int (0 : Int32)) 0)
  have f4 := (A1.ext E2)
  have f5 := (F1_coder.ext E2)
  have f6 := (F1_value.ext E2)
  have C7 := CHr.keep (((Keep.refl h0 []).ext E1).ext E2) sf0 H0
  obtain ⟨_, _, ⟨T3, L3, k3, n3⟩, -, X3', hS3', gr3, ⟨Lc3, hQ3, l3, y3, z3, Cx3⟩, st3⟩ := X2.specialBackS hx (y := (⟨"java/lang/String", "<init>", "([C)V"⟩ : MethodName)) rfl hown (mvT hZ (hw _ (List.mem_of_getElem? (i := 11) rfl))) (mvT hZ (hw _ (List.mem_of_getElem? (i := 12) rfl))) (mvT hZ (hw _ (List.mem_of_getElem? (i := 13) rfl))) (by decide) (own_backSX (W := 1) (s := s) (rmSC0 l Z a0 hw [] b1 b2 k2 h2 n0 (Nat.le_trans Z0 (Nat.le_trans E1.1 E2.1)) f4 f5 f6 g_b1 V2) hZ (hw _ (List.mem_of_getElem? (i := 13) rfl)) (hw _ (List.mem_of_getElem? (i := 10) rfl)) (by decide) (by decide) (own_EW hw) C7.1 (Safe.keep (((Keep.refl h0 []).ext E1).ext E2) sf0 H0 (Safe.new sz_b1)) (Nat.lt_of_lt_of_le A1.lt E2.1)) (g := (mkF m 15 #[.val (.ref ar), .val (.int (Int32.ofNat f)), .val (.int (Int32.ofNat (f + 0))), .val (.int (0 : Int32))] [(.ref b2), (.ref b1), (.ref b1)])) rfl (by rw [hml]; rfl) (Steps.refl _) (a := b1) (argsL := [(.ref b2)]) (rest := [(.ref b1)]) (lenOf pd___C_V rfl) rfl (by show 2 * 0 + _ ≤ _; exact Nat.le_of_eq rfl) (hb hby d2_15) (fun _ _ => ⟨rfl, e2, (by decide : 2 + 4 ≤ _), (by decide : 4 + 8 ≤ _)⟩)
  dsimp only [Pt.U, Pt.locs, Pt.cells, Pt.slots] at X3' hS3' gr3 Cx3 l3 y3 z3 st3 hQ3
  subst l3 y3 z3
  obtain ⟨X3, hS3, hZ3, hown3⟩ := rebS (s := s) (vm0 := s.vm) hS0 (by rw [e2]; exact (Nat.le_trans hk0 (Nat.le_trans E1.1 E2.1))) X3' hS3' gr3 hZ hown
  obtain ⟨rfl, Nq3, Kq3, sq3⟩ := hQ3
  have C3 := CHr.trans C7 Cx3
  have N3 := Fr.app N0 Nq3
  obtain ⟨t3, kq3, Eq3, Cq3, Vq3, Kq3a⟩ := sq3
  obtain ⟨fs, hr, hrun, hended, hfin⟩ := X3.leaveW hS3 ((Nat.le_refl _)) (v := some (.ref b1)) (fun h => by rw [Bd.returns] at h; cases h)
  refine ⟨_, _, pre0 _ ?_, hrun, hended, _, _, rfl, ?_, (by show CHr Z consts_1 s.vm s.heap T3.vm T3.heap; rw [hh]; exact CHr.trans C3 (CHv.at (s := s) (vm0 := T3.vm) X3 hZ3 (own_EW hw) C3.1)), hfin.1, hfin.2.1, hfin.2.2.1, hfin.2.2.2.mono (by decide) (by decide)⟩
  · show Steps p.tables e below (s₁.setTop (mkF m 0 #[.val (.ref ar), .val (.int (Int32.ofNat f)), .val (.int (Int32.ofNat (f + 0))), .unset] [])) _
    refine XS.iloadN X0.here hx rfl (hb hby d2_0) rfl ?_
    refine XS.iloadN X0.here hx rfl (hb hby d2_1) rfl ?_
    refine XS.isub X0.here hx rfl (hb hby d2_2) rfl ?_
    show Steps p.tables e below (s₁.setTop (mkF m 3 #[.val (.ref ar), .val (.int (Int32.ofNat f)), .val (.int (Int32.ofNat (f + 0))), .unset] [(.int ((Int32.ofNat (f + 0)) - (Int32.ofNat f)))])) _
    rw [(own_subm f 0)]
    show Steps p.tables e below (s₁.setTop (mkF m 3 #[.val (.ref ar), .val (.int (Int32.ofNat f)), .val (.int (Int32.ofNat (f + 0))), .unset] [(.int (0 : Int32))])) _
    refine XS.istoreN X0.here hx rfl (hb hby d2_3) rfl (l' := #[.val (.ref ar), .val (.int (Int32.ofNat f)), .val (.int (Int32.ofNat (f + 0))), .val (.int (0 : Int32))]) rfl ?_
    refine XS.iloadN X0.here hx rfl (hb hby d2_4) rfl ?_
    refine XS.ifNo X0.here hx rfl (hb hby d2_5) rfl ((if0 _ _).trans (flt (by decide : ¬ ((0 : Int32) < (0 : Int32)))).2.2.1) ?_
    show Steps p.tables e below (s₁.setTop (mkF m 8 #[.val (.ref ar), .val (.int (Int32.ofNat f)), .val (.int (Int32.ofNat (f + 0))), .val (.int (0 : Int32))] [])) _
    refine st1 _ ?_
    show Steps p.tables e below (T1.setTop (mkF m 11 #[.val (.ref ar), .val (.int (Int32.ofNat f)), .val (.int (Int32.ofNat (f + 0))), .val (.int (0 : Int32))] [(.ref b1)])) _
    refine XS.dup X1.here hx rfl (hb hby d2_11) rfl rfl ?_
    refine XS.iconst X1.here hx rfl (hb hby d2_12) ?_
    show Steps p.tables e below (T1.setTop (mkF m 13 #[.val (.ref ar), .val (.int (Int32.ofNat f)), .val (.int (Int32.ofNat (f + 0))), .val (.int (0 : Int32))] [(.int (0 : Int32)), (.ref b1), (.ref b1)])) _
    refine st2 _ ?_
    show Steps p.tables e below (T2.setTop (mkF m 15 #[.val (.ref ar), .val (.int (Int32.ofNat f)), .val (.int (Int32.ofNat (f + 0))), .val (.int (0 : Int32))] [(.ref b2), (.ref b1), (.ref b1)])) _
    refine st3.trans ?_
    show Steps p.tables e below (T3.setTop (mkF m 18 #[.val (.ref ar), .val (.int (Int32.ofNat f)), .val (.int (Int32.ofNat (f + 0))), .val (.int (0 : Int32))] [(.ref b1)])) _
    jvm_step X3.here [X3.here.top, hx, (hb hby d2_18), X3.method', Bd.returns, Value.isRef, FieldType.isReference]
    first | (intro acts; rw [hr _ acts rfl rfl rfl]) | rw [hr _ _ rfl rfl rfl]
    exact Steps.refl _
  · show own_QR Z ((as.drop f).take 0) h0 n0 _ T3.heap _
    exact ⟨b1, rfl, N3, sz_b1, ((((Keep.refl h0 []).ext E1).ext E2).trans Kq3 (allS (P := fun zz => zz ∈ ([] : List Addr) ∨ h0.size ≤ zz) (Or.inr sz_b1) all0)), own_s_nil ⟨t3, kq3, Eq3, Cq3, Vq3, Kq3a⟩⟩
set_option maxRecDepth 65536 in
set_option maxHeartbeats 40000000 in
theorem rmSL1 (l : Launch) (Z : State) (a0 : Array Value) (hw : ∀ d ∈ tables_1, d.before a0 Z = true) (ws : List Jvm.Cond) (G1 : Int32) (G3 : Value) (ar : Addr) (ka : ClassId) (as : List Int32) (f : Nat) (h0 : Heap) (n0 : Nat) (Z0 : n0 ≤ h0.size) (EN : own_env Z G1 G3) (X00 : Old Z n0 h0) (V_ar : Arv Z h0 ar ka .char (Int32.ofNat as.length) (as.map Value.int) (.int (0 : Int32))) (hc8 : ∀ i, i < as.length → own_c8 (as.getD i 0)) (hfa : f + 1 ≤ as.length) (ha : as.length < 2 ^ 31) :
    MetFree l (⟨"com/example/atomize/atomize/http/FieldValueReaderNextElementPinLaw", "slice", "([CII)Ljava/lang/String;"⟩ : MethodName) (head1 (Jvm.Cond.code (⟨"com/example/atomize/atomize/http/FieldValueReaderNextElementPinLaw", "slice", "([CII)Ljava/lang/String;"⟩ : MethodName) method_4_code 4 (some (.object "java/lang/String")) :: ws) ({ frames := 4, cells := 6, slots := 12, locals := 66 } : Room)) (fun a_ U_ => a_ = #[(.ref ar), (.int (Int32.ofNat f)), (.int (Int32.ofNat (f + 1)))] ∧ Z.Warmed39 U_.vm ∧ U_.heap = h0 ∧ CHv Z consts_1 U_.vm h0) (fun _ _ _ _ _ => True) (fun _ U_ o_ U1_ => ∃ v_ L_, o_ = .returned v_ ∧ own_QR Z ((as.drop f).take 1) h0 n0 v_ U1_.heap L_ ∧ CHr Z consts_1 U_.vm U_.heap U1_.vm U1_.heap ∧ ReturnedEndW U_ o_ U1_ L_ ({ frames := 4, cells := 6, slots := 12, locals := 66 } : Room).cells ({ frames := 4, cells := 6, slots := 12, locals := 66 } : Room).slots) := by
  refine MetFree.of_bodySF (plainFor_of_name pn_2) hisR ?_
  intro p e s m args below meth c s₁ Bd hml0 hP hK
  obtain ⟨rfl, hZ, hh, H0⟩ := hP
  have hx := Bd.exec
  have hby := Bd.bytes
  have hml : c.maxLocals = 4 := hml0
  have hown : s.vm.findClass "com/example/atomize/atomize/http/FieldValueReaderNextElementPinLaw" = some m.cls := findClass_of_methodNamed Bd.named
  have hnm := (name_of_methodNamed Bd.named Bd.method).1
  have X0 : Stand p l e ({ frames := 4, cells := 6, slots := 12, locals := 66 } : Room) s m #[(.ref ar), (.int (Int32.ofNat f)), (.int (Int32.ofNat (f + 1)))] below meth c s₁ [] 0 0 := Stand.of_body Bd
  have e0 : s₁.heap = h0 := by rw [← hh, Bd.state]; rfl
  have N0 := Fr.nil n0
  have pre0 : ∀ tt, Steps p.tables e below (s₁.setTop (mkF m 0 #[.val (.ref ar), .val (.int (Int32.ofNat f)), .val (.int (Int32.ofNat (f + 1))), .unset] [])) tt → Steps p.tables e below (s₁.setTop (entryFrame m #[(.ref ar), (.int (Int32.ofNat f)), (.int (Int32.ofNat (f + 1)))] 4)) tt := fun tt kk => castTop (ef_2_rrr m ar (Int32.ofNat f) (Int32.ofNat (f + 1))) kk
  have hS0 : s.Since s.vm 0 := (State.WarmedH.refl s).since 0
  have hk0 : 0 ≤ h0.size := Nat.zero_le _
  have EN0 := EN
  obtain ⟨O2, P5, O4, rG3⟩ := EN
  have hws : ∀ d ∈ StrChars.Road.words, d.before a0 Z = true := fun d hd => hw d (own_w1 d hd)
  have hwl : ∀ d ∈ StrChars.Road.wordsLen, d.before a0 Z = true := fun d hd => hw d (own_w2 d hd)
  have hwc : ∀ d ∈ StrChars.Road.wordsChN, d.before a0 Z = true := fun d hd => hw d (own_w3 d hd)
  obtain ⟨T1, h1, X1, e1, E1, A1, D1, -, st1⟩ := newO X0 hx hZ hown (hw _ (List.mem_of_getElem? (i := 8) rfl)) (hw _ (List.mem_of_getElem? (i := 9) rfl)) (hw _ (List.mem_of_getElem? (i := 10) rfl)) e0 (g := (mkF m 24 #[.val (.ref ar), .val (.int (Int32.ofNat f)), .val (.int (Int32.ofNat (f + 1))), .val (.int (1 : Int32))] [])) rfl (hb hby d2_24) (by decide) (by decide)
  obtain ⟨b1, g1⟩ : ∃ z, z = h0.size := ⟨_, rfl⟩
  rw [← g1] at A1 D1 st1
  have g_b1 : n0 ≤ b1 := Nat.le_trans Z0 (Nat.le_of_eq g1.symm)
  have sz_b1 : h0.size ≤ b1 := Nat.le_trans (Nat.le_refl _) (Nat.le_of_eq g1.symm)
  have F1_value : Fld Z h1 b1 "java/lang/String" "value" "[B" .null := D1 (Or.inr (hw _ (List.mem_of_getElem? (i := 23) rfl))) (ty := (.array .byte)) (by decide)
  have F1_coder : Fld Z h1 b1 "java/lang/String" "coder" "B" (.int (0 : Int32)) := D1 (Or.inr (hw _ (List.mem_of_getElem? (i := 24) rfl))) (ty := .byte) (by decide)
  obtain ⟨T2, h2, k2, X2, e2, E2, A2, st2⟩ := newP X1 hx hZ (hw _ (List.mem_of_getElem? (i := 0) rfl)) e1 (g := (mkF m 29 #[.val (.ref ar), .val (.int (Int32.ofNat f)), .val (.int (Int32.ofNat (f + 1))), .val (.int (1 : Int32))] [(.int (1 : Int32)), (.ref b1), (.ref b1)])) rfl (hb hby d2_29) rfl (by decide) (cap := 1) (by decide) (by decide) (by decide) (by decide)
  obtain ⟨b2, g2⟩ : ∃ z, z = h1.size := ⟨_, rfl⟩
  rw [← g2] at A2 st2
  have g_b2 : n0 ≤ b2 := Nat.le_trans (Nat.le_trans Z0 E1.1) (Nat.le_of_eq g2.symm)
  have sz_b2 : h0.size ≤ b2 := Nat.le_trans E1.1 (Nat.le_of_eq g2.symm)
  have V2 : Arv Z h2 b2 k2 .char (1 : Int32) [(.int (0 : Int32))] (.int (0 : Int32)) := (Arv.new A2 (by decide)).pad (pad_rep [] (.int (0 : Int32)) 1)
  have f4 := ((V_ar.ext E1).ext E2)
  obtain ⟨c3, Ar3, -, S3, M3, H3, -⟩ := id f4
  have hin3 := inb_of (j := (Int32.ofNat f)) S3 (own_in (by omega) ha)
  obtain ⟨c5, Ar5, q5, S5, M5, H5, Gz5⟩ := id V2
  obtain ⟨T5, h5, X5, e5, W5, st5⟩ := stC X2 hx hZ e2 Ar5 (j := (0 : Int32)) (inb_of S5 ⟨by decide, by decide⟩) (g := (mkF m 36 #[.val (.ref ar), .val (.int (Int32.ofNat f)), .val (.int (Int32.ofNat (f + 1))), .val (.int (1 : Int32))] [(.int (as.getD f 0)), (.int (0 : Int32)), (.ref b2), (.ref b2), (.ref b1), (.ref b1)])) rfl rfl (hb hby d2_36)
  have V5 : Arv Z h5 b2 k2 .char (1 : Int32) [(.int (nar .char (as.getD f 0)))] (.int (0 : Int32)) := Arv.set Ar5 q5 S5 M5 H5 Gz5 (fits_nar_char _) W5 0 rfl (Nat.le_of_ble_eq_true rfl)
  have N5 := Fr.snoc X5 N0 g_b2
  have f7 := ((A1.ext E2).wr W5)
  have f8 := ((F1_value.ext E2).other W5 (Or.inl (Nat.ne_of_lt (Nat.lt_of_lt_of_le A1.lt (Nat.le_of_eq g2.symm)))))
  have f9 := ((F1_coder.ext E2).other W5 (Or.inl (Nat.ne_of_lt (Nat.lt_of_lt_of_le A1.lt (Nat.le_of_eq g2.symm)))))
  have hp6 : ∀ c ∈ ([(nar .char (as.getD f 0))] : List Int32), ¬ c < 0 ∧ ¬ (255 : Int32) < c := by
    intro c hc
    simp only [List.mem_cons, List.not_mem_nil, or_false] at hc
    subst hc
    exact own_c8n (hc8 f (by omega))
  have f10 := (((X00.ext E1).ext E2).wr W5 g_b2)
  obtain ⟨_, _, ⟨T6, L6, k6, n6⟩, -, X6, ⟨Lc6, hQ6, l6, y6, z6⟩, st6⟩ := X5.specialBack hx (y := (⟨"java/lang/String", "<init>", "([C)V"⟩ : MethodName)) rfl hown (mvT hZ (hw _ (List.mem_of_getElem? (i := 11) rfl))) (mvT hZ (hw _ (List.mem_of_getElem? (i := 12) rfl))) (mvT hZ (hw _ (List.mem_of_getElem? (i := 13) rfl))) (by decide) (StrChars.Road.backV (W := 1) hZ hws (kI := 4) (hw _ (List.mem_of_getElem? (i := 9) rfl)) (cs := ([(nar .char (as.getD f 0))] : List Int32)) (bs := (([(nar .char (as.getD f 0))] : List Int32)).map (fun c => c.toInt8.toInt32)) (n := 1) g_b1 (Nat.le_trans Z0 (Nat.le_trans (Nat.le_trans E1.1 E2.1) (Keep.of_wr W5).1)) f7 f8 f9 V5 (Sta.ext f10.2 O2) P5 rfl rfl (by decide) (by decide) hp6 rfl (by decide) (by decide)) (g := (mkF m 37 #[.val (.ref ar), .val (.int (Int32.ofNat f)), .val (.int (Int32.ofNat (f + 1))), .val (.int (1 : Int32))] [(.ref b2), (.ref b1), (.ref b1)])) rfl (by rw [hml]; rfl) (Steps.refl _) (a := b1) (argsL := [(.ref b2)]) (rest := [(.ref b1)]) (lenOf pd___C_V rfl) rfl (by show 2 * 0 + _ ≤ _; exact Nat.le_of_eq rfl) (hb hby d2_37) (fun _ _ => ⟨rfl, e5, (by decide : 2 + 1 ≤ _), (by decide : 5 + 1 ≤ _)⟩)
  dsimp only [Pt.U, Pt.locs, Pt.cells, Pt.slots] at X6 l6 y6 z6 st6 hQ6
  subst l6 y6 z6
  obtain ⟨rfl, Nq6, Kq6, Eq6, Cq6, t6, kb6, gt6, st_6, ne_6, Fq6, Vq6⟩ := hQ6
  have N6 := Fr.app N5 Nq6
  have C11 := CHr.keep (((((Keep.refl h0 []).ext E1).ext E2).wr W5 (Or.inr sz_b2)).trans Kq6 (allS (P := fun zz => zz ∈ ([] : List Addr) ∨ h0.size ≤ zz) (Or.inr sz_b1) all0)) sf0 H0
  obtain ⟨fs, hr, hrun, hended, hfin⟩ := X6.leaveW hS0 ((Nat.le_trans hk0 (Nat.le_trans (Nat.le_trans (Nat.le_trans E1.1 E2.1) (Keep.of_wr W5).1) Kq6.1))) (v := some (.ref b1)) (fun h => by rw [Bd.returns] at h; cases h)
  refine ⟨_, _, pre0 _ ?_, hrun, hended, _, _, rfl, ?_, (by show CHr Z consts_1 s.vm s.heap T6.vm T6.heap; rw [hh]; exact CHr.trans C11 (CHv.at (s := s) (vm0 := s.vm) X6 hZ (own_EW hw) C11.1)), hfin.1, hfin.2.1, hfin.2.2.1, hfin.2.2.2.mono (by decide) (by decide)⟩
  · show Steps p.tables e below (s₁.setTop (mkF m 0 #[.val (.ref ar), .val (.int (Int32.ofNat f)), .val (.int (Int32.ofNat (f + 1))), .unset] [])) _
    refine XS.iloadN X0.here hx rfl (hb hby d2_0) rfl ?_
    refine XS.iloadN X0.here hx rfl (hb hby d2_1) rfl ?_
    refine XS.isub X0.here hx rfl (hb hby d2_2) rfl ?_
    show Steps p.tables e below (s₁.setTop (mkF m 3 #[.val (.ref ar), .val (.int (Int32.ofNat f)), .val (.int (Int32.ofNat (f + 1))), .unset] [(.int ((Int32.ofNat (f + 1)) - (Int32.ofNat f)))])) _
    rw [(own_subm f 1)]
    show Steps p.tables e below (s₁.setTop (mkF m 3 #[.val (.ref ar), .val (.int (Int32.ofNat f)), .val (.int (Int32.ofNat (f + 1))), .unset] [(.int (1 : Int32))])) _
    refine XS.istoreN X0.here hx rfl (hb hby d2_3) rfl (l' := #[.val (.ref ar), .val (.int (Int32.ofNat f)), .val (.int (Int32.ofNat (f + 1))), .val (.int (1 : Int32))]) rfl ?_
    refine XS.iloadN X0.here hx rfl (hb hby d2_4) rfl ?_
    refine XS.ifYes X0.here hx rfl (pc0 := 5) (pc' := 19) rfl (hb hby d2_5) rfl ((if0 _ _).trans (tlt (by decide : (0 : Int32) < (1 : Int32))).2.2.1) (by decide) (by decide) ?_
    refine XS.iloadN X0.here hx rfl (hb hby d2_19) rfl ?_
    refine XS.iconst X0.here hx rfl (hb hby d2_20) ?_
    refine XS.icmpNo X0.here hx rfl (hb hby d2_21) rfl (teq (by decide : (1 : Int32) = (1 : Int32))).2 ?_
    show Steps p.tables e below (s₁.setTop (mkF m 24 #[.val (.ref ar), .val (.int (Int32.ofNat f)), .val (.int (Int32.ofNat (f + 1))), .val (.int (1 : Int32))] [])) _
    refine st1 _ ?_
    show Steps p.tables e below (T1.setTop (mkF m 27 #[.val (.ref ar), .val (.int (Int32.ofNat f)), .val (.int (Int32.ofNat (f + 1))), .val (.int (1 : Int32))] [(.ref b1)])) _
    refine XS.dup X1.here hx rfl (hb hby d2_27) rfl rfl ?_
    refine XS.iconst X1.here hx rfl (hb hby d2_28) ?_
    show Steps p.tables e below (T1.setTop (mkF m 29 #[.val (.ref ar), .val (.int (Int32.ofNat f)), .val (.int (Int32.ofNat (f + 1))), .val (.int (1 : Int32))] [(.int (1 : Int32)), (.ref b1), (.ref b1)])) _
    refine st2 _ ?_
    show Steps p.tables e below (T2.setTop (mkF m 31 #[.val (.ref ar), .val (.int (Int32.ofNat f)), .val (.int (Int32.ofNat (f + 1))), .val (.int (1 : Int32))] [(.ref b2), (.ref b1), (.ref b1)])) _
    refine XS.dup X2.here hx rfl (hb hby d2_31) rfl rfl ?_
    refine XS.iconst X2.here hx rfl (hb hby d2_32) ?_
    refine XS.aloadN X2.here hx rfl (hb hby d2_33) rfl rfl ?_
    refine XS.iloadN X2.here hx rfl (hb hby d2_34) rfl ?_
    show Steps p.tables e below (T2.setTop (mkF m 35 #[.val (.ref ar), .val (.int (Int32.ofNat f)), .val (.int (Int32.ofNat (f + 1))), .val (.int (1 : Int32))] [(.int (Int32.ofNat f)), (.ref ar), (.int (0 : Int32)), (.ref b2), (.ref b2), (.ref b1), (.ref b1)])) _
    refine X2.caload hx (j := (Int32.ofNat f)) (v := (.int (as.getD f 0))) (by rw [e2]; exact Ar3.1) (State.isArrayOf_alike hZ.alike Ar3.2.1) Ar3.2.2 hin3 (H3.at hin3 (own_ca as f (by omega))) (g := (mkF m 35 #[.val (.ref ar), .val (.int (Int32.ofNat f)), .val (.int (Int32.ofNat (f + 1))), .val (.int (1 : Int32))] [(.int (Int32.ofNat f)), (.ref ar), (.int (0 : Int32)), (.ref b2), (.ref b2), (.ref b1), (.ref b1)])) rfl rfl (hb hby d2_35) _ ?_
    show Steps p.tables e below (T2.setTop (mkF m 36 #[.val (.ref ar), .val (.int (Int32.ofNat f)), .val (.int (Int32.ofNat (f + 1))), .val (.int (1 : Int32))] [(.int (as.getD f 0)), (.int (0 : Int32)), (.ref b2), (.ref b2), (.ref b1), (.ref b1)])) _
    refine st5 _ ?_
    show Steps p.tables e below (T5.setTop (mkF m 37 #[.val (.ref ar), .val (.int (Int32.ofNat f)), .val (.int (Int32.ofNat (f + 1))), .val (.int (1 : Int32))] [(.ref b2), (.ref b1), (.ref b1)])) _
    refine st6.trans ?_
    show Steps p.tables e below (T6.setTop (mkF m 40 #[.val (.ref ar), .val (.int (Int32.ofNat f)), .val (.int (Int32.ofNat (f + 1))), .val (.int (1 : Int32))] [(.ref b1)])) _
    jvm_step X6.here [X6.here.top, hx, (hb hby d2_40), X6.method', Bd.returns, Value.isRef, FieldType.isReference]
    first | (intro acts; rw [hr _ acts rfl rfl rfl]) | rw [hr _ _ rfl rfl rfl]
    exact Steps.refl _
  · show own_QR Z ((as.drop f).take 1) h0 n0 _ T6.heap _
    exact ⟨b1, rfl, N6, sz_b1, (((((Keep.refl h0 []).ext E1).ext E2).wr W5 (Or.inr sz_b2)).trans Kq6 (allS (P := fun zz => zz ∈ ([] : List Addr) ∨ h0.size ≤ zz) (Or.inr sz_b1) all0)), (by rw [own_sl1 hc8 hfa]; exact ⟨t6, kb6, Eq6, Cq6, Fq6, Vq6, hp6, (Nat.le_of_ble_eq_true rfl)⟩)⟩
set_option maxRecDepth 65536 in
set_option maxHeartbeats 40000000 in
theorem rmSL2 (l : Launch) (Z : State) (a0 : Array Value) (hw : ∀ d ∈ tables_1, d.before a0 Z = true) (ws : List Jvm.Cond) (G1 : Int32) (G3 : Value) (ar : Addr) (ka : ClassId) (as : List Int32) (f : Nat) (h0 : Heap) (n0 : Nat) (Z0 : n0 ≤ h0.size) (EN : own_env Z G1 G3) (X00 : Old Z n0 h0) (V_ar : Arv Z h0 ar ka .char (Int32.ofNat as.length) (as.map Value.int) (.int (0 : Int32))) (hc8 : ∀ i, i < as.length → own_c8 (as.getD i 0)) (hfa : f + 2 ≤ as.length) (ha : as.length < 2 ^ 31) :
    MetFree l (⟨"com/example/atomize/atomize/http/FieldValueReaderNextElementPinLaw", "slice", "([CII)Ljava/lang/String;"⟩ : MethodName) (head1 (Jvm.Cond.code (⟨"com/example/atomize/atomize/http/FieldValueReaderNextElementPinLaw", "slice", "([CII)Ljava/lang/String;"⟩ : MethodName) method_4_code 4 (some (.object "java/lang/String")) :: ws) ({ frames := 4, cells := 6, slots := 12, locals := 66 } : Room)) (fun a_ U_ => a_ = #[(.ref ar), (.int (Int32.ofNat f)), (.int (Int32.ofNat (f + 2)))] ∧ Z.Warmed39 U_.vm ∧ U_.heap = h0 ∧ CHv Z consts_1 U_.vm h0) (fun _ _ _ _ _ => True) (fun _ U_ o_ U1_ => ∃ v_ L_, o_ = .returned v_ ∧ own_QR Z ((as.drop f).take 2) h0 n0 v_ U1_.heap L_ ∧ CHr Z consts_1 U_.vm U_.heap U1_.vm U1_.heap ∧ ReturnedEndW U_ o_ U1_ L_ ({ frames := 4, cells := 6, slots := 12, locals := 66 } : Room).cells ({ frames := 4, cells := 6, slots := 12, locals := 66 } : Room).slots) := by
  refine MetFree.of_bodySF (plainFor_of_name pn_2) hisR ?_
  intro p e s m args below meth c s₁ Bd hml0 hP hK
  obtain ⟨rfl, hZ, hh, H0⟩ := hP
  have hx := Bd.exec
  have hby := Bd.bytes
  have hml : c.maxLocals = 4 := hml0
  have hown : s.vm.findClass "com/example/atomize/atomize/http/FieldValueReaderNextElementPinLaw" = some m.cls := findClass_of_methodNamed Bd.named
  have hnm := (name_of_methodNamed Bd.named Bd.method).1
  have X0 : Stand p l e ({ frames := 4, cells := 6, slots := 12, locals := 66 } : Room) s m #[(.ref ar), (.int (Int32.ofNat f)), (.int (Int32.ofNat (f + 2)))] below meth c s₁ [] 0 0 := Stand.of_body Bd
  have e0 : s₁.heap = h0 := by rw [← hh, Bd.state]; rfl
  have N0 := Fr.nil n0
  have pre0 : ∀ tt, Steps p.tables e below (s₁.setTop (mkF m 0 #[.val (.ref ar), .val (.int (Int32.ofNat f)), .val (.int (Int32.ofNat (f + 2))), .unset] [])) tt → Steps p.tables e below (s₁.setTop (entryFrame m #[(.ref ar), (.int (Int32.ofNat f)), (.int (Int32.ofNat (f + 2)))] 4)) tt := fun tt kk => castTop (ef_2_rrr m ar (Int32.ofNat f) (Int32.ofNat (f + 2))) kk
  have hS0 : s.Since s.vm 0 := (State.WarmedH.refl s).since 0
  have hk0 : 0 ≤ h0.size := Nat.zero_le _
  have EN0 := EN
  obtain ⟨O2, P5, O4, rG3⟩ := EN
  have hws : ∀ d ∈ StrChars.Road.words, d.before a0 Z = true := fun d hd => hw d (own_w1 d hd)
  have hwl : ∀ d ∈ StrChars.Road.wordsLen, d.before a0 Z = true := fun d hd => hw d (own_w2 d hd)
  have hwc : ∀ d ∈ StrChars.Road.wordsChN, d.before a0 Z = true := fun d hd => hw d (own_w3 d hd)
  obtain ⟨T1, h1, X1, e1, E1, A1, D1, -, st1⟩ := newO X0 hx hZ hown (hw _ (List.mem_of_getElem? (i := 8) rfl)) (hw _ (List.mem_of_getElem? (i := 9) rfl)) (hw _ (List.mem_of_getElem? (i := 10) rfl)) e0 (g := (mkF m 46 #[.val (.ref ar), .val (.int (Int32.ofNat f)), .val (.int (Int32.ofNat (f + 2))), .val (.int (2 : Int32))] [])) rfl (hb hby d2_46) (by decide) (by decide)
  obtain ⟨b1, g1⟩ : ∃ z, z = h0.size := ⟨_, rfl⟩
  rw [← g1] at A1 D1 st1
  have g_b1 : n0 ≤ b1 := Nat.le_trans Z0 (Nat.le_of_eq g1.symm)
  have sz_b1 : h0.size ≤ b1 := Nat.le_trans (Nat.le_refl _) (Nat.le_of_eq g1.symm)
  have F1_value : Fld Z h1 b1 "java/lang/String" "value" "[B" .null := D1 (Or.inr (hw _ (List.mem_of_getElem? (i := 23) rfl))) (ty := (.array .byte)) (by decide)
  have F1_coder : Fld Z h1 b1 "java/lang/String" "coder" "B" (.int (0 : Int32)) := D1 (Or.inr (hw _ (List.mem_of_getElem? (i := 24) rfl))) (ty := .byte) (by decide)
  obtain ⟨T2, h2, k2, X2, e2, E2, A2, st2⟩ := newP X1 hx hZ (hw _ (List.mem_of_getElem? (i := 0) rfl)) e1 (g := (mkF m 51 #[.val (.ref ar), .val (.int (Int32.ofNat f)), .val (.int (Int32.ofNat (f + 2))), .val (.int (2 : Int32))] [(.int (2 : Int32)), (.ref b1), (.ref b1)])) rfl (hb hby d2_51) rfl (by decide) (cap := 2) (by decide) (by decide) (by decide) (by decide)
  obtain ⟨b2, g2⟩ : ∃ z, z = h1.size := ⟨_, rfl⟩
  rw [← g2] at A2 st2
  have g_b2 : n0 ≤ b2 := Nat.le_trans (Nat.le_trans Z0 E1.1) (Nat.le_of_eq g2.symm)
  have sz_b2 : h0.size ≤ b2 := Nat.le_trans E1.1 (Nat.le_of_eq g2.symm)
  have V2 : Arv Z h2 b2 k2 .char (2 : Int32) [(.int (0 : Int32)), (.int (0 : Int32))] (.int (0 : Int32)) := (Arv.new A2 (by decide)).pad (pad_rep [] (.int (0 : Int32)) 2)
  have f4 := ((V_ar.ext E1).ext E2)
  obtain ⟨c3, Ar3, -, S3, M3, H3, -⟩ := id f4
  have hin3 := inb_of (j := (Int32.ofNat f)) S3 (own_in (by omega) ha)
  obtain ⟨c5, Ar5, q5, S5, M5, H5, Gz5⟩ := id V2
  obtain ⟨T5, h5, X5, e5, W5, st5⟩ := stC X2 hx hZ e2 Ar5 (j := (0 : Int32)) (inb_of S5 ⟨by decide, by decide⟩) (g := (mkF m 58 #[.val (.ref ar), .val (.int (Int32.ofNat f)), .val (.int (Int32.ofNat (f + 2))), .val (.int (2 : Int32))] [(.int (as.getD f 0)), (.int (0 : Int32)), (.ref b2), (.ref b2), (.ref b1), (.ref b1)])) rfl rfl (hb hby d2_58)
  have V5 : Arv Z h5 b2 k2 .char (2 : Int32) [(.int (nar .char (as.getD f 0))), (.int (0 : Int32))] (.int (0 : Int32)) := Arv.set Ar5 q5 S5 M5 H5 Gz5 (fits_nar_char _) W5 0 rfl (Nat.le_of_ble_eq_true rfl)
  have N5 := Fr.snoc X5 N0 g_b2
  have f7 := (f4.other W5 (Nat.ne_of_lt (Nat.lt_of_lt_of_le (Nat.lt_of_lt_of_le V_ar.lt E1.1) (Nat.le_of_eq g2.symm))))
  obtain ⟨c6, Ar6, -, S6, M6, H6, -⟩ := id f7
  have hin6 := inb_of (j := (Int32.ofNat (f + 1))) S6 (own_in (by omega) ha)
  obtain ⟨c8, Ar8, q8, S8, M8, H8, Gz8⟩ := id V5
  obtain ⟨T8, h8, X8, e8, W8, st8⟩ := stC X5 hx hZ e5 Ar8 (j := (1 : Int32)) (inb_of S8 ⟨by decide, by decide⟩) (g := (mkF m 66 #[.val (.ref ar), .val (.int (Int32.ofNat f)), .val (.int (Int32.ofNat (f + 2))), .val (.int (2 : Int32))] [(.int (as.getD (f + 1) 0)), (.int (1 : Int32)), (.ref b2), (.ref b2), (.ref b1), (.ref b1)])) rfl rfl (hb hby d2_66)
  have V8 : Arv Z h8 b2 k2 .char (2 : Int32) [(.int (nar .char (as.getD f 0))), (.int (nar .char (as.getD (f + 1) 0)))] (.int (0 : Int32)) := Arv.set Ar8 q8 S8 M8 H8 Gz8 (fits_nar_char _) W8 1 rfl (Nat.le_of_ble_eq_true rfl)
  have N8 := Fr.snoc X8 N5 g_b2
  have f10 := (((A1.ext E2).wr W5).wr W8)
  have f11 := (((F1_value.ext E2).other W5 (Or.inl (Nat.ne_of_lt (Nat.lt_of_lt_of_le A1.lt (Nat.le_of_eq g2.symm))))).other W8 (Or.inl (Nat.ne_of_lt (Nat.lt_of_lt_of_le A1.lt (Nat.le_of_eq g2.symm)))))
  have f12 := (((F1_coder.ext E2).other W5 (Or.inl (Nat.ne_of_lt (Nat.lt_of_lt_of_le A1.lt (Nat.le_of_eq g2.symm))))).other W8 (Or.inl (Nat.ne_of_lt (Nat.lt_of_lt_of_le A1.lt (Nat.le_of_eq g2.symm)))))
  have hp9 : ∀ c ∈ ([(nar .char (as.getD f 0)), (nar .char (as.getD (f + 1) 0))] : List Int32), ¬ c < 0 ∧ ¬ (255 : Int32) < c := by
    intro c hc
    simp only [List.mem_cons, List.not_mem_nil, or_false] at hc
    rcases hc with rfl | rfl
    · exact own_c8n (hc8 f (by omega))
    · exact own_c8n (hc8 (f + 1) (by omega))
  have f13 := ((((X00.ext E1).ext E2).wr W5 g_b2).wr W8 g_b2)
  obtain ⟨_, _, ⟨T9, L9, k9, n9⟩, -, X9, ⟨Lc9, hQ9, l9, y9, z9⟩, st9⟩ := X8.specialBack hx (y := (⟨"java/lang/String", "<init>", "([C)V"⟩ : MethodName)) rfl hown (mvT hZ (hw _ (List.mem_of_getElem? (i := 11) rfl))) (mvT hZ (hw _ (List.mem_of_getElem? (i := 12) rfl))) (mvT hZ (hw _ (List.mem_of_getElem? (i := 13) rfl))) (by decide) (StrChars.Road.backV (W := 1) hZ hws (kI := 4) (hw _ (List.mem_of_getElem? (i := 9) rfl)) (cs := ([(nar .char (as.getD f 0)), (nar .char (as.getD (f + 1) 0))] : List Int32)) (bs := (([(nar .char (as.getD f 0)), (nar .char (as.getD (f + 1) 0))] : List Int32)).map (fun c => c.toInt8.toInt32)) (n := 2) g_b1 (Nat.le_trans Z0 (Nat.le_trans (Nat.le_trans (Nat.le_trans E1.1 E2.1) (Keep.of_wr W5).1) (Keep.of_wr W8).1)) f10 f11 f12 V8 (Sta.ext f13.2 O2) P5 rfl rfl (by decide) (by decide) hp9 rfl (by decide) (by decide)) (g := (mkF m 67 #[.val (.ref ar), .val (.int (Int32.ofNat f)), .val (.int (Int32.ofNat (f + 2))), .val (.int (2 : Int32))] [(.ref b2), (.ref b1), (.ref b1)])) rfl (by rw [hml]; rfl) (Steps.refl _) (a := b1) (argsL := [(.ref b2)]) (rest := [(.ref b1)]) (lenOf pd___C_V rfl) rfl (by show 2 * 0 + _ ≤ _; exact Nat.le_of_eq rfl) (hb hby d2_67) (fun _ _ => ⟨rfl, e8, (by decide : 2 + 1 ≤ _), (by decide : 6 + 2 ≤ _)⟩)
  dsimp only [Pt.U, Pt.locs, Pt.cells, Pt.slots] at X9 l9 y9 z9 st9 hQ9
  subst l9 y9 z9
  obtain ⟨rfl, Nq9, Kq9, Eq9, Cq9, t9, kb9, gt9, st_9, ne_9, Fq9, Vq9⟩ := hQ9
  have N9 := Fr.app N8 Nq9
  have C14 := CHr.keep ((((((Keep.refl h0 []).ext E1).ext E2).wr W5 (Or.inr sz_b2)).wr W8 (Or.inr sz_b2)).trans Kq9 (allS (P := fun zz => zz ∈ ([] : List Addr) ∨ h0.size ≤ zz) (Or.inr sz_b1) all0)) sf0 H0
  obtain ⟨fs, hr, hrun, hended, hfin⟩ := X9.leaveW hS0 ((Nat.le_trans hk0 (Nat.le_trans (Nat.le_trans (Nat.le_trans (Nat.le_trans E1.1 E2.1) (Keep.of_wr W5).1) (Keep.of_wr W8).1) Kq9.1))) (v := some (.ref b1)) (fun h => by rw [Bd.returns] at h; cases h)
  refine ⟨_, _, pre0 _ ?_, hrun, hended, _, _, rfl, ?_, (by show CHr Z consts_1 s.vm s.heap T9.vm T9.heap; rw [hh]; exact CHr.trans C14 (CHv.at (s := s) (vm0 := s.vm) X9 hZ (own_EW hw) C14.1)), hfin.1, hfin.2.1, hfin.2.2.1, hfin.2.2.2.mono (by decide) (by decide)⟩
  · show Steps p.tables e below (s₁.setTop (mkF m 0 #[.val (.ref ar), .val (.int (Int32.ofNat f)), .val (.int (Int32.ofNat (f + 2))), .unset] [])) _
    refine XS.iloadN X0.here hx rfl (hb hby d2_0) rfl ?_
    refine XS.iloadN X0.here hx rfl (hb hby d2_1) rfl ?_
    refine XS.isub X0.here hx rfl (hb hby d2_2) rfl ?_
    show Steps p.tables e below (s₁.setTop (mkF m 3 #[.val (.ref ar), .val (.int (Int32.ofNat f)), .val (.int (Int32.ofNat (f + 2))), .unset] [(.int ((Int32.ofNat (f + 2)) - (Int32.ofNat f)))])) _
    rw [(own_subm f 2)]
    show Steps p.tables e below (s₁.setTop (mkF m 3 #[.val (.ref ar), .val (.int (Int32.ofNat f)), .val (.int (Int32.ofNat (f + 2))), .unset] [(.int (2 : Int32))])) _
    refine XS.istoreN X0.here hx rfl (hb hby d2_3) rfl (l' := #[.val (.ref ar), .val (.int (Int32.ofNat f)), .val (.int (Int32.ofNat (f + 2))), .val (.int (2 : Int32))]) rfl ?_
    refine XS.iloadN X0.here hx rfl (hb hby d2_4) rfl ?_
    refine XS.ifYes X0.here hx rfl (pc0 := 5) (pc' := 19) rfl (hb hby d2_5) rfl ((if0 _ _).trans (tlt (by decide : (0 : Int32) < (2 : Int32))).2.2.1) (by decide) (by decide) ?_
    refine XS.iloadN X0.here hx rfl (hb hby d2_19) rfl ?_
    refine XS.iconst X0.here hx rfl (hb hby d2_20) ?_
    refine XS.icmpYes X0.here hx rfl (pc0 := 21) (pc' := 41) rfl (hb hby d2_21) rfl (feq (by decide : ¬ ((2 : Int32) = (1 : Int32)))).2 (by decide) (by decide) ?_
    refine XS.iloadN X0.here hx rfl (hb hby d2_41) rfl ?_
    refine XS.iconst X0.here hx rfl (hb hby d2_42) ?_
    refine XS.icmpNo X0.here hx rfl (hb hby d2_43) rfl (teq (by decide : (2 : Int32) = (2 : Int32))).2 ?_
    show Steps p.tables e below (s₁.setTop (mkF m 46 #[.val (.ref ar), .val (.int (Int32.ofNat f)), .val (.int (Int32.ofNat (f + 2))), .val (.int (2 : Int32))] [])) _
    refine st1 _ ?_
    show Steps p.tables e below (T1.setTop (mkF m 49 #[.val (.ref ar), .val (.int (Int32.ofNat f)), .val (.int (Int32.ofNat (f + 2))), .val (.int (2 : Int32))] [(.ref b1)])) _
    refine XS.dup X1.here hx rfl (hb hby d2_49) rfl rfl ?_
    refine XS.iconst X1.here hx rfl (hb hby d2_50) ?_
    show Steps p.tables e below (T1.setTop (mkF m 51 #[.val (.ref ar), .val (.int (Int32.ofNat f)), .val (.int (Int32.ofNat (f + 2))), .val (.int (2 : Int32))] [(.int (2 : Int32)), (.ref b1), (.ref b1)])) _
    refine st2 _ ?_
    show Steps p.tables e below (T2.setTop (mkF m 53 #[.val (.ref ar), .val (.int (Int32.ofNat f)), .val (.int (Int32.ofNat (f + 2))), .val (.int (2 : Int32))] [(.ref b2), (.ref b1), (.ref b1)])) _
    refine XS.dup X2.here hx rfl (hb hby d2_53) rfl rfl ?_
    refine XS.iconst X2.here hx rfl (hb hby d2_54) ?_
    refine XS.aloadN X2.here hx rfl (hb hby d2_55) rfl rfl ?_
    refine XS.iloadN X2.here hx rfl (hb hby d2_56) rfl ?_
    show Steps p.tables e below (T2.setTop (mkF m 57 #[.val (.ref ar), .val (.int (Int32.ofNat f)), .val (.int (Int32.ofNat (f + 2))), .val (.int (2 : Int32))] [(.int (Int32.ofNat f)), (.ref ar), (.int (0 : Int32)), (.ref b2), (.ref b2), (.ref b1), (.ref b1)])) _
    refine X2.caload hx (j := (Int32.ofNat f)) (v := (.int (as.getD f 0))) (by rw [e2]; exact Ar3.1) (State.isArrayOf_alike hZ.alike Ar3.2.1) Ar3.2.2 hin3 (H3.at hin3 (own_ca as f (by omega))) (g := (mkF m 57 #[.val (.ref ar), .val (.int (Int32.ofNat f)), .val (.int (Int32.ofNat (f + 2))), .val (.int (2 : Int32))] [(.int (Int32.ofNat f)), (.ref ar), (.int (0 : Int32)), (.ref b2), (.ref b2), (.ref b1), (.ref b1)])) rfl rfl (hb hby d2_57) _ ?_
    show Steps p.tables e below (T2.setTop (mkF m 58 #[.val (.ref ar), .val (.int (Int32.ofNat f)), .val (.int (Int32.ofNat (f + 2))), .val (.int (2 : Int32))] [(.int (as.getD f 0)), (.int (0 : Int32)), (.ref b2), (.ref b2), (.ref b1), (.ref b1)])) _
    refine st5 _ ?_
    show Steps p.tables e below (T5.setTop (mkF m 59 #[.val (.ref ar), .val (.int (Int32.ofNat f)), .val (.int (Int32.ofNat (f + 2))), .val (.int (2 : Int32))] [(.ref b2), (.ref b1), (.ref b1)])) _
    refine XS.dup X5.here hx rfl (hb hby d2_59) rfl rfl ?_
    refine XS.iconst X5.here hx rfl (hb hby d2_60) ?_
    refine XS.aloadN X5.here hx rfl (hb hby d2_61) rfl rfl ?_
    refine XS.iloadN X5.here hx rfl (hb hby d2_62) rfl ?_
    refine XS.iconst X5.here hx rfl (hb hby d2_63) ?_
    refine XS.iadd X5.here hx rfl (hb hby d2_64) rfl ?_
    show Steps p.tables e below (T5.setTop (mkF m 65 #[.val (.ref ar), .val (.int (Int32.ofNat f)), .val (.int (Int32.ofNat (f + 2))), .val (.int (2 : Int32))] [(.int ((Int32.ofNat f) + (1 : Int32))), (.ref ar), (.int (1 : Int32)), (.ref b2), (.ref b2), (.ref b1), (.ref b1)])) _
    rw [(own_add1 f)]
    show Steps p.tables e below (T5.setTop (mkF m 65 #[.val (.ref ar), .val (.int (Int32.ofNat f)), .val (.int (Int32.ofNat (f + 2))), .val (.int (2 : Int32))] [(.int (Int32.ofNat (f + 1))), (.ref ar), (.int (1 : Int32)), (.ref b2), (.ref b2), (.ref b1), (.ref b1)])) _
    refine X5.caload hx (j := (Int32.ofNat (f + 1))) (v := (.int (as.getD (f + 1) 0))) (by rw [e5]; exact Ar6.1) (State.isArrayOf_alike hZ.alike Ar6.2.1) Ar6.2.2 hin6 (H6.at hin6 (own_ca as (f + 1) (by omega))) (g := (mkF m 65 #[.val (.ref ar), .val (.int (Int32.ofNat f)), .val (.int (Int32.ofNat (f + 2))), .val (.int (2 : Int32))] [(.int (Int32.ofNat (f + 1))), (.ref ar), (.int (1 : Int32)), (.ref b2), (.ref b2), (.ref b1), (.ref b1)])) rfl rfl (hb hby d2_65) _ ?_
    show Steps p.tables e below (T5.setTop (mkF m 66 #[.val (.ref ar), .val (.int (Int32.ofNat f)), .val (.int (Int32.ofNat (f + 2))), .val (.int (2 : Int32))] [(.int (as.getD (f + 1) 0)), (.int (1 : Int32)), (.ref b2), (.ref b2), (.ref b1), (.ref b1)])) _
    refine st8 _ ?_
    show Steps p.tables e below (T8.setTop (mkF m 67 #[.val (.ref ar), .val (.int (Int32.ofNat f)), .val (.int (Int32.ofNat (f + 2))), .val (.int (2 : Int32))] [(.ref b2), (.ref b1), (.ref b1)])) _
    refine st9.trans ?_
    show Steps p.tables e below (T9.setTop (mkF m 70 #[.val (.ref ar), .val (.int (Int32.ofNat f)), .val (.int (Int32.ofNat (f + 2))), .val (.int (2 : Int32))] [(.ref b1)])) _
    jvm_step X9.here [X9.here.top, hx, (hb hby d2_70), X9.method', Bd.returns, Value.isRef, FieldType.isReference]
    first | (intro acts; rw [hr _ acts rfl rfl rfl]) | rw [hr _ _ rfl rfl rfl]
    exact Steps.refl _
  · show own_QR Z ((as.drop f).take 2) h0 n0 _ T9.heap _
    exact ⟨b1, rfl, N9, sz_b1, ((((((Keep.refl h0 []).ext E1).ext E2).wr W5 (Or.inr sz_b2)).wr W8 (Or.inr sz_b2)).trans Kq9 (allS (P := fun zz => zz ∈ ([] : List Addr) ∨ h0.size ≤ zz) (Or.inr sz_b1) all0)), (by rw [own_sl2 hc8 hfa]; exact ⟨t9, kb9, Eq9, Cq9, Fq9, Vq9, hp9, (Nat.le_of_ble_eq_true rfl)⟩)⟩
set_option maxRecDepth 65536 in
set_option maxHeartbeats 40000000 in
theorem rmSL3 (l : Launch) (Z : State) (a0 : Array Value) (hw : ∀ d ∈ tables_1, d.before a0 Z = true) (ws : List Jvm.Cond) (G1 : Int32) (G3 : Value) (ar : Addr) (ka : ClassId) (as : List Int32) (f : Nat) (h0 : Heap) (n0 : Nat) (Z0 : n0 ≤ h0.size) (EN : own_env Z G1 G3) (X00 : Old Z n0 h0) (V_ar : Arv Z h0 ar ka .char (Int32.ofNat as.length) (as.map Value.int) (.int (0 : Int32))) (hc8 : ∀ i, i < as.length → own_c8 (as.getD i 0)) (hfa : f + 3 ≤ as.length) (ha : as.length < 2 ^ 31) :
    MetFree l (⟨"com/example/atomize/atomize/http/FieldValueReaderNextElementPinLaw", "slice", "([CII)Ljava/lang/String;"⟩ : MethodName) (head1 (Jvm.Cond.code (⟨"com/example/atomize/atomize/http/FieldValueReaderNextElementPinLaw", "slice", "([CII)Ljava/lang/String;"⟩ : MethodName) method_4_code 4 (some (.object "java/lang/String")) :: ws) ({ frames := 4, cells := 6, slots := 12, locals := 66 } : Room)) (fun a_ U_ => a_ = #[(.ref ar), (.int (Int32.ofNat f)), (.int (Int32.ofNat (f + 3)))] ∧ Z.Warmed39 U_.vm ∧ U_.heap = h0 ∧ CHv Z consts_1 U_.vm h0) (fun _ _ _ _ _ => True) (fun _ U_ o_ U1_ => ∃ v_ L_, o_ = .returned v_ ∧ own_QR Z ((as.drop f).take 3) h0 n0 v_ U1_.heap L_ ∧ CHr Z consts_1 U_.vm U_.heap U1_.vm U1_.heap ∧ ReturnedEndW U_ o_ U1_ L_ ({ frames := 4, cells := 6, slots := 12, locals := 66 } : Room).cells ({ frames := 4, cells := 6, slots := 12, locals := 66 } : Room).slots) := by
  refine MetFree.of_bodySF (plainFor_of_name pn_2) hisR ?_
  intro p e s m args below meth c s₁ Bd hml0 hP hK
  obtain ⟨rfl, hZ, hh, H0⟩ := hP
  have hx := Bd.exec
  have hby := Bd.bytes
  have hml : c.maxLocals = 4 := hml0
  have hown : s.vm.findClass "com/example/atomize/atomize/http/FieldValueReaderNextElementPinLaw" = some m.cls := findClass_of_methodNamed Bd.named
  have hnm := (name_of_methodNamed Bd.named Bd.method).1
  have X0 : Stand p l e ({ frames := 4, cells := 6, slots := 12, locals := 66 } : Room) s m #[(.ref ar), (.int (Int32.ofNat f)), (.int (Int32.ofNat (f + 3)))] below meth c s₁ [] 0 0 := Stand.of_body Bd
  have e0 : s₁.heap = h0 := by rw [← hh, Bd.state]; rfl
  have N0 := Fr.nil n0
  have pre0 : ∀ tt, Steps p.tables e below (s₁.setTop (mkF m 0 #[.val (.ref ar), .val (.int (Int32.ofNat f)), .val (.int (Int32.ofNat (f + 3))), .unset] [])) tt → Steps p.tables e below (s₁.setTop (entryFrame m #[(.ref ar), (.int (Int32.ofNat f)), (.int (Int32.ofNat (f + 3)))] 4)) tt := fun tt kk => castTop (ef_2_rrr m ar (Int32.ofNat f) (Int32.ofNat (f + 3))) kk
  have hS0 : s.Since s.vm 0 := (State.WarmedH.refl s).since 0
  have hk0 : 0 ≤ h0.size := Nat.zero_le _
  have EN0 := EN
  obtain ⟨O2, P5, O4, rG3⟩ := EN
  have hws : ∀ d ∈ StrChars.Road.words, d.before a0 Z = true := fun d hd => hw d (own_w1 d hd)
  have hwl : ∀ d ∈ StrChars.Road.wordsLen, d.before a0 Z = true := fun d hd => hw d (own_w2 d hd)
  have hwc : ∀ d ∈ StrChars.Road.wordsChN, d.before a0 Z = true := fun d hd => hw d (own_w3 d hd)
  obtain ⟨T1, h1, X1, e1, E1, A1, D1, -, st1⟩ := newO X0 hx hZ hown (hw _ (List.mem_of_getElem? (i := 8) rfl)) (hw _ (List.mem_of_getElem? (i := 9) rfl)) (hw _ (List.mem_of_getElem? (i := 10) rfl)) e0 (g := (mkF m 76 #[.val (.ref ar), .val (.int (Int32.ofNat f)), .val (.int (Int32.ofNat (f + 3))), .val (.int (3 : Int32))] [])) rfl (hb hby d2_76) (by decide) (by decide)
  obtain ⟨b1, g1⟩ : ∃ z, z = h0.size := ⟨_, rfl⟩
  rw [← g1] at A1 D1 st1
  have g_b1 : n0 ≤ b1 := Nat.le_trans Z0 (Nat.le_of_eq g1.symm)
  have sz_b1 : h0.size ≤ b1 := Nat.le_trans (Nat.le_refl _) (Nat.le_of_eq g1.symm)
  have F1_value : Fld Z h1 b1 "java/lang/String" "value" "[B" .null := D1 (Or.inr (hw _ (List.mem_of_getElem? (i := 23) rfl))) (ty := (.array .byte)) (by decide)
  have F1_coder : Fld Z h1 b1 "java/lang/String" "coder" "B" (.int (0 : Int32)) := D1 (Or.inr (hw _ (List.mem_of_getElem? (i := 24) rfl))) (ty := .byte) (by decide)
  obtain ⟨T2, h2, k2, X2, e2, E2, A2, st2⟩ := newP X1 hx hZ (hw _ (List.mem_of_getElem? (i := 0) rfl)) e1 (g := (mkF m 81 #[.val (.ref ar), .val (.int (Int32.ofNat f)), .val (.int (Int32.ofNat (f + 3))), .val (.int (3 : Int32))] [(.int (3 : Int32)), (.ref b1), (.ref b1)])) rfl (hb hby d2_81) rfl (by decide) (cap := 3) (by decide) (by decide) (by decide) (by decide)
  obtain ⟨b2, g2⟩ : ∃ z, z = h1.size := ⟨_, rfl⟩
  rw [← g2] at A2 st2
  have g_b2 : n0 ≤ b2 := Nat.le_trans (Nat.le_trans Z0 E1.1) (Nat.le_of_eq g2.symm)
  have sz_b2 : h0.size ≤ b2 := Nat.le_trans E1.1 (Nat.le_of_eq g2.symm)
  have V2 : Arv Z h2 b2 k2 .char (3 : Int32) [(.int (0 : Int32)), (.int (0 : Int32)), (.int (0 : Int32))] (.int (0 : Int32)) := (Arv.new A2 (by decide)).pad (pad_rep [] (.int (0 : Int32)) 3)
  have f4 := ((V_ar.ext E1).ext E2)
  obtain ⟨c3, Ar3, -, S3, M3, H3, -⟩ := id f4
  have hin3 := inb_of (j := (Int32.ofNat f)) S3 (own_in (by omega) ha)
  obtain ⟨c5, Ar5, q5, S5, M5, H5, Gz5⟩ := id V2
  obtain ⟨T5, h5, X5, e5, W5, st5⟩ := stC X2 hx hZ e2 Ar5 (j := (0 : Int32)) (inb_of S5 ⟨by decide, by decide⟩) (g := (mkF m 88 #[.val (.ref ar), .val (.int (Int32.ofNat f)), .val (.int (Int32.ofNat (f + 3))), .val (.int (3 : Int32))] [(.int (as.getD f 0)), (.int (0 : Int32)), (.ref b2), (.ref b2), (.ref b1), (.ref b1)])) rfl rfl (hb hby d2_88)
  have V5 : Arv Z h5 b2 k2 .char (3 : Int32) [(.int (nar .char (as.getD f 0))), (.int (0 : Int32)), (.int (0 : Int32))] (.int (0 : Int32)) := Arv.set Ar5 q5 S5 M5 H5 Gz5 (fits_nar_char _) W5 0 rfl (Nat.le_of_ble_eq_true rfl)
  have N5 := Fr.snoc X5 N0 g_b2
  have f7 := (f4.other W5 (Nat.ne_of_lt (Nat.lt_of_lt_of_le (Nat.lt_of_lt_of_le V_ar.lt E1.1) (Nat.le_of_eq g2.symm))))
  obtain ⟨c6, Ar6, -, S6, M6, H6, -⟩ := id f7
  have hin6 := inb_of (j := (Int32.ofNat (f + 1))) S6 (own_in (by omega) ha)
  obtain ⟨c8, Ar8, q8, S8, M8, H8, Gz8⟩ := id V5
  obtain ⟨T8, h8, X8, e8, W8, st8⟩ := stC X5 hx hZ e5 Ar8 (j := (1 : Int32)) (inb_of S8 ⟨by decide, by decide⟩) (g := (mkF m 96 #[.val (.ref ar), .val (.int (Int32.ofNat f)), .val (.int (Int32.ofNat (f + 3))), .val (.int (3 : Int32))] [(.int (as.getD (f + 1) 0)), (.int (1 : Int32)), (.ref b2), (.ref b2), (.ref b1), (.ref b1)])) rfl rfl (hb hby d2_96)
  have V8 : Arv Z h8 b2 k2 .char (3 : Int32) [(.int (nar .char (as.getD f 0))), (.int (nar .char (as.getD (f + 1) 0))), (.int (0 : Int32))] (.int (0 : Int32)) := Arv.set Ar8 q8 S8 M8 H8 Gz8 (fits_nar_char _) W8 1 rfl (Nat.le_of_ble_eq_true rfl)
  have N8 := Fr.snoc X8 N5 g_b2
  have f10 := (f7.other W8 (Nat.ne_of_lt (Nat.lt_of_lt_of_le (Nat.lt_of_lt_of_le V_ar.lt E1.1) (Nat.le_of_eq g2.symm))))
  obtain ⟨c9, Ar9, -, S9, M9, H9, -⟩ := id f10
  have hin9 := inb_of (j := (Int32.ofNat (f + 2))) S9 (own_in (by omega) ha)
  obtain ⟨c11, Ar11, q11, S11, M11, H11, Gz11⟩ := id V8
  obtain ⟨T11, h11, X11, e11, W11, st11⟩ := stC X8 hx hZ e8 Ar11 (j := (2 : Int32)) (inb_of S11 ⟨by decide, by decide⟩) (g := (mkF m 104 #[.val (.ref ar), .val (.int (Int32.ofNat f)), .val (.int (Int32.ofNat (f + 3))), .val (.int (3 : Int32))] [(.int (as.getD (f + 2) 0)), (.int (2 : Int32)), (.ref b2), (.ref b2), (.ref b1), (.ref b1)])) rfl rfl (hb hby d2_104)
  have V11 : Arv Z h11 b2 k2 .char (3 : Int32) [(.int (nar .char (as.getD f 0))), (.int (nar .char (as.getD (f + 1) 0))), (.int (nar .char (as.getD (f + 2) 0)))] (.int (0 : Int32)) := Arv.set Ar11 q11 S11 M11 H11 Gz11 (fits_nar_char _) W11 2 rfl (Nat.le_of_ble_eq_true rfl)
  have N11 := Fr.snoc X11 N8 g_b2
  have f13 := ((((A1.ext E2).wr W5).wr W8).wr W11)
  have f14 := ((((F1_value.ext E2).other W5 (Or.inl (Nat.ne_of_lt (Nat.lt_of_lt_of_le A1.lt (Nat.le_of_eq g2.symm))))).other W8 (Or.inl (Nat.ne_of_lt (Nat.lt_of_lt_of_le A1.lt (Nat.le_of_eq g2.symm))))).other W11 (Or.inl (Nat.ne_of_lt (Nat.lt_of_lt_of_le A1.lt (Nat.le_of_eq g2.symm)))))
  have f15 := ((((F1_coder.ext E2).other W5 (Or.inl (Nat.ne_of_lt (Nat.lt_of_lt_of_le A1.lt (Nat.le_of_eq g2.symm))))).other W8 (Or.inl (Nat.ne_of_lt (Nat.lt_of_lt_of_le A1.lt (Nat.le_of_eq g2.symm))))).other W11 (Or.inl (Nat.ne_of_lt (Nat.lt_of_lt_of_le A1.lt (Nat.le_of_eq g2.symm)))))
  have hp12 : ∀ c ∈ ([(nar .char (as.getD f 0)), (nar .char (as.getD (f + 1) 0)), (nar .char (as.getD (f + 2) 0))] : List Int32), ¬ c < 0 ∧ ¬ (255 : Int32) < c := by
    intro c hc
    simp only [List.mem_cons, List.not_mem_nil, or_false] at hc
    rcases hc with rfl | rfl | rfl
    · exact own_c8n (hc8 f (by omega))
    · exact own_c8n (hc8 (f + 1) (by omega))
    · exact own_c8n (hc8 (f + 2) (by omega))
  have f16 := (((((X00.ext E1).ext E2).wr W5 g_b2).wr W8 g_b2).wr W11 g_b2)
  obtain ⟨_, _, ⟨T12, L12, k12, n12⟩, -, X12, ⟨Lc12, hQ12, l12, y12, z12⟩, st12⟩ := X11.specialBack hx (y := (⟨"java/lang/String", "<init>", "([C)V"⟩ : MethodName)) rfl hown (mvT hZ (hw _ (List.mem_of_getElem? (i := 11) rfl))) (mvT hZ (hw _ (List.mem_of_getElem? (i := 12) rfl))) (mvT hZ (hw _ (List.mem_of_getElem? (i := 13) rfl))) (by decide) (StrChars.Road.backV (W := 1) hZ hws (kI := 4) (hw _ (List.mem_of_getElem? (i := 9) rfl)) (cs := ([(nar .char (as.getD f 0)), (nar .char (as.getD (f + 1) 0)), (nar .char (as.getD (f + 2) 0))] : List Int32)) (bs := (([(nar .char (as.getD f 0)), (nar .char (as.getD (f + 1) 0)), (nar .char (as.getD (f + 2) 0))] : List Int32)).map (fun c => c.toInt8.toInt32)) (n := 3) g_b1 (Nat.le_trans Z0 (Nat.le_trans (Nat.le_trans (Nat.le_trans (Nat.le_trans E1.1 E2.1) (Keep.of_wr W5).1) (Keep.of_wr W8).1) (Keep.of_wr W11).1)) f13 f14 f15 V11 (Sta.ext f16.2 O2) P5 rfl rfl (by decide) (by decide) hp12 rfl (by decide) (by decide)) (g := (mkF m 105 #[.val (.ref ar), .val (.int (Int32.ofNat f)), .val (.int (Int32.ofNat (f + 3))), .val (.int (3 : Int32))] [(.ref b2), (.ref b1), (.ref b1)])) rfl (by rw [hml]; rfl) (Steps.refl _) (a := b1) (argsL := [(.ref b2)]) (rest := [(.ref b1)]) (lenOf pd___C_V rfl) rfl (by show 2 * 0 + _ ≤ _; exact Nat.le_of_eq rfl) (hb hby d2_105) (fun _ _ => ⟨rfl, e11, (by decide : 2 + 1 ≤ _), (by decide : 7 + 3 ≤ _)⟩)
  dsimp only [Pt.U, Pt.locs, Pt.cells, Pt.slots] at X12 l12 y12 z12 st12 hQ12
  subst l12 y12 z12
  obtain ⟨rfl, Nq12, Kq12, Eq12, Cq12, t12, kb12, gt12, st_12, ne_12, Fq12, Vq12⟩ := hQ12
  have N12 := Fr.app N11 Nq12
  have C17 := CHr.keep (((((((Keep.refl h0 []).ext E1).ext E2).wr W5 (Or.inr sz_b2)).wr W8 (Or.inr sz_b2)).wr W11 (Or.inr sz_b2)).trans Kq12 (allS (P := fun zz => zz ∈ ([] : List Addr) ∨ h0.size ≤ zz) (Or.inr sz_b1) all0)) sf0 H0
  obtain ⟨fs, hr, hrun, hended, hfin⟩ := X12.leaveW hS0 ((Nat.le_trans hk0 (Nat.le_trans (Nat.le_trans (Nat.le_trans (Nat.le_trans (Nat.le_trans E1.1 E2.1) (Keep.of_wr W5).1) (Keep.of_wr W8).1) (Keep.of_wr W11).1) Kq12.1))) (v := some (.ref b1)) (fun h => by rw [Bd.returns] at h; cases h)
  refine ⟨_, _, pre0 _ ?_, hrun, hended, _, _, rfl, ?_, (by show CHr Z consts_1 s.vm s.heap T12.vm T12.heap; rw [hh]; exact CHr.trans C17 (CHv.at (s := s) (vm0 := s.vm) X12 hZ (own_EW hw) C17.1)), hfin.1, hfin.2.1, hfin.2.2.1, hfin.2.2.2.mono (by decide) (by decide)⟩
  · show Steps p.tables e below (s₁.setTop (mkF m 0 #[.val (.ref ar), .val (.int (Int32.ofNat f)), .val (.int (Int32.ofNat (f + 3))), .unset] [])) _
    refine XS.iloadN X0.here hx rfl (hb hby d2_0) rfl ?_
    refine XS.iloadN X0.here hx rfl (hb hby d2_1) rfl ?_
    refine XS.isub X0.here hx rfl (hb hby d2_2) rfl ?_
    show Steps p.tables e below (s₁.setTop (mkF m 3 #[.val (.ref ar), .val (.int (Int32.ofNat f)), .val (.int (Int32.ofNat (f + 3))), .unset] [(.int ((Int32.ofNat (f + 3)) - (Int32.ofNat f)))])) _
    rw [(own_subm f 3)]
    show Steps p.tables e below (s₁.setTop (mkF m 3 #[.val (.ref ar), .val (.int (Int32.ofNat f)), .val (.int (Int32.ofNat (f + 3))), .unset] [(.int (3 : Int32))])) _
    refine XS.istoreN X0.here hx rfl (hb hby d2_3) rfl (l' := #[.val (.ref ar), .val (.int (Int32.ofNat f)), .val (.int (Int32.ofNat (f + 3))), .val (.int (3 : Int32))]) rfl ?_
    refine XS.iloadN X0.here hx rfl (hb hby d2_4) rfl ?_
    refine XS.ifYes X0.here hx rfl (pc0 := 5) (pc' := 19) rfl (hb hby d2_5) rfl ((if0 _ _).trans (tlt (by decide : (0 : Int32) < (3 : Int32))).2.2.1) (by decide) (by decide) ?_
    refine XS.iloadN X0.here hx rfl (hb hby d2_19) rfl ?_
    refine XS.iconst X0.here hx rfl (hb hby d2_20) ?_
    refine XS.icmpYes X0.here hx rfl (pc0 := 21) (pc' := 41) rfl (hb hby d2_21) rfl (feq (by decide : ¬ ((3 : Int32) = (1 : Int32)))).2 (by decide) (by decide) ?_
    refine XS.iloadN X0.here hx rfl (hb hby d2_41) rfl ?_
    refine XS.iconst X0.here hx rfl (hb hby d2_42) ?_
    refine XS.icmpYes X0.here hx rfl (pc0 := 43) (pc' := 71) rfl (hb hby d2_43) rfl (feq (by decide : ¬ ((3 : Int32) = (2 : Int32)))).2 (by decide) (by decide) ?_
    refine XS.iloadN X0.here hx rfl (hb hby d2_71) rfl ?_
    refine XS.iconst X0.here hx rfl (hb hby d2_72) ?_
    show Steps p.tables e below (s₁.setTop (mkF m 73 #[.val (.ref ar), .val (.int (Int32.ofNat f)), .val (.int (Int32.ofNat (f + 3))), .val (.int (3 : Int32))] [(.int (3 : Int32)), (.int (3 : Int32))])) _
    refine XS.icmpNo X0.here hx rfl (hb hby d2_73) rfl (teq (by decide : (3 : Int32) = (3 : Int32))).2 ?_
    show Steps p.tables e below (s₁.setTop (mkF m 76 #[.val (.ref ar), .val (.int (Int32.ofNat f)), .val (.int (Int32.ofNat (f + 3))), .val (.int (3 : Int32))] [])) _
    refine st1 _ ?_
    show Steps p.tables e below (T1.setTop (mkF m 79 #[.val (.ref ar), .val (.int (Int32.ofNat f)), .val (.int (Int32.ofNat (f + 3))), .val (.int (3 : Int32))] [(.ref b1)])) _
    refine XS.dup X1.here hx rfl (hb hby d2_79) rfl rfl ?_
    refine XS.iconst X1.here hx rfl (hb hby d2_80) ?_
    show Steps p.tables e below (T1.setTop (mkF m 81 #[.val (.ref ar), .val (.int (Int32.ofNat f)), .val (.int (Int32.ofNat (f + 3))), .val (.int (3 : Int32))] [(.int (3 : Int32)), (.ref b1), (.ref b1)])) _
    refine st2 _ ?_
    show Steps p.tables e below (T2.setTop (mkF m 83 #[.val (.ref ar), .val (.int (Int32.ofNat f)), .val (.int (Int32.ofNat (f + 3))), .val (.int (3 : Int32))] [(.ref b2), (.ref b1), (.ref b1)])) _
    refine XS.dup X2.here hx rfl (hb hby d2_83) rfl rfl ?_
    refine XS.iconst X2.here hx rfl (hb hby d2_84) ?_
    refine XS.aloadN X2.here hx rfl (hb hby d2_85) rfl rfl ?_
    refine XS.iloadN X2.here hx rfl (hb hby d2_86) rfl ?_
    show Steps p.tables e below (T2.setTop (mkF m 87 #[.val (.ref ar), .val (.int (Int32.ofNat f)), .val (.int (Int32.ofNat (f + 3))), .val (.int (3 : Int32))] [(.int (Int32.ofNat f)), (.ref ar), (.int (0 : Int32)), (.ref b2), (.ref b2), (.ref b1), (.ref b1)])) _
    refine X2.caload hx (j := (Int32.ofNat f)) (v := (.int (as.getD f 0))) (by rw [e2]; exact Ar3.1) (State.isArrayOf_alike hZ.alike Ar3.2.1) Ar3.2.2 hin3 (H3.at hin3 (own_ca as f (by omega))) (g := (mkF m 87 #[.val (.ref ar), .val (.int (Int32.ofNat f)), .val (.int (Int32.ofNat (f + 3))), .val (.int (3 : Int32))] [(.int (Int32.ofNat f)), (.ref ar), (.int (0 : Int32)), (.ref b2), (.ref b2), (.ref b1), (.ref b1)])) rfl rfl (hb hby d2_87) _ ?_
    show Steps p.tables e below (T2.setTop (mkF m 88 #[.val (.ref ar), .val (.int (Int32.ofNat f)), .val (.int (Int32.ofNat (f + 3))), .val (.int (3 : Int32))] [(.int (as.getD f 0)), (.int (0 : Int32)), (.ref b2), (.ref b2), (.ref b1), (.ref b1)])) _
    refine st5 _ ?_
    show Steps p.tables e below (T5.setTop (mkF m 89 #[.val (.ref ar), .val (.int (Int32.ofNat f)), .val (.int (Int32.ofNat (f + 3))), .val (.int (3 : Int32))] [(.ref b2), (.ref b1), (.ref b1)])) _
    refine XS.dup X5.here hx rfl (hb hby d2_89) rfl rfl ?_
    refine XS.iconst X5.here hx rfl (hb hby d2_90) ?_
    refine XS.aloadN X5.here hx rfl (hb hby d2_91) rfl rfl ?_
    refine XS.iloadN X5.here hx rfl (hb hby d2_92) rfl ?_
    refine XS.iconst X5.here hx rfl (hb hby d2_93) ?_
    refine XS.iadd X5.here hx rfl (hb hby d2_94) rfl ?_
    show Steps p.tables e below (T5.setTop (mkF m 95 #[.val (.ref ar), .val (.int (Int32.ofNat f)), .val (.int (Int32.ofNat (f + 3))), .val (.int (3 : Int32))] [(.int ((Int32.ofNat f) + (1 : Int32))), (.ref ar), (.int (1 : Int32)), (.ref b2), (.ref b2), (.ref b1), (.ref b1)])) _
    rw [(own_add1 f)]
    show Steps p.tables e below (T5.setTop (mkF m 95 #[.val (.ref ar), .val (.int (Int32.ofNat f)), .val (.int (Int32.ofNat (f + 3))), .val (.int (3 : Int32))] [(.int (Int32.ofNat (f + 1))), (.ref ar), (.int (1 : Int32)), (.ref b2), (.ref b2), (.ref b1), (.ref b1)])) _
    refine X5.caload hx (j := (Int32.ofNat (f + 1))) (v := (.int (as.getD (f + 1) 0))) (by rw [e5]; exact Ar6.1) (State.isArrayOf_alike hZ.alike Ar6.2.1) Ar6.2.2 hin6 (H6.at hin6 (own_ca as (f + 1) (by omega))) (g := (mkF m 95 #[.val (.ref ar), .val (.int (Int32.ofNat f)), .val (.int (Int32.ofNat (f + 3))), .val (.int (3 : Int32))] [(.int (Int32.ofNat (f + 1))), (.ref ar), (.int (1 : Int32)), (.ref b2), (.ref b2), (.ref b1), (.ref b1)])) rfl rfl (hb hby d2_95) _ ?_
    show Steps p.tables e below (T5.setTop (mkF m 96 #[.val (.ref ar), .val (.int (Int32.ofNat f)), .val (.int (Int32.ofNat (f + 3))), .val (.int (3 : Int32))] [(.int (as.getD (f + 1) 0)), (.int (1 : Int32)), (.ref b2), (.ref b2), (.ref b1), (.ref b1)])) _
    refine st8 _ ?_
    show Steps p.tables e below (T8.setTop (mkF m 97 #[.val (.ref ar), .val (.int (Int32.ofNat f)), .val (.int (Int32.ofNat (f + 3))), .val (.int (3 : Int32))] [(.ref b2), (.ref b1), (.ref b1)])) _
    refine XS.dup X8.here hx rfl (hb hby d2_97) rfl rfl ?_
    refine XS.iconst X8.here hx rfl (hb hby d2_98) ?_
    refine XS.aloadN X8.here hx rfl (hb hby d2_99) rfl rfl ?_
    refine XS.iloadN X8.here hx rfl (hb hby d2_100) rfl ?_
    refine XS.iconst X8.here hx rfl (hb hby d2_101) ?_
    refine XS.iadd X8.here hx rfl (hb hby d2_102) rfl ?_
    show Steps p.tables e below (T8.setTop (mkF m 103 #[.val (.ref ar), .val (.int (Int32.ofNat f)), .val (.int (Int32.ofNat (f + 3))), .val (.int (3 : Int32))] [(.int ((Int32.ofNat f) + (2 : Int32))), (.ref ar), (.int (2 : Int32)), (.ref b2), (.ref b2), (.ref b1), (.ref b1)])) _
    rw [(own_add2 f)]
    show Steps p.tables e below (T8.setTop (mkF m 103 #[.val (.ref ar), .val (.int (Int32.ofNat f)), .val (.int (Int32.ofNat (f + 3))), .val (.int (3 : Int32))] [(.int (Int32.ofNat (f + 2))), (.ref ar), (.int (2 : Int32)), (.ref b2), (.ref b2), (.ref b1), (.ref b1)])) _
    refine X8.caload hx (j := (Int32.ofNat (f + 2))) (v := (.int (as.getD (f + 2) 0))) (by rw [e8]; exact Ar9.1) (State.isArrayOf_alike hZ.alike Ar9.2.1) Ar9.2.2 hin9 (H9.at hin9 (own_ca as (f + 2) (by omega))) (g := (mkF m 103 #[.val (.ref ar), .val (.int (Int32.ofNat f)), .val (.int (Int32.ofNat (f + 3))), .val (.int (3 : Int32))] [(.int (Int32.ofNat (f + 2))), (.ref ar), (.int (2 : Int32)), (.ref b2), (.ref b2), (.ref b1), (.ref b1)])) rfl rfl (hb hby d2_103) _ ?_
    show Steps p.tables e below (T8.setTop (mkF m 104 #[.val (.ref ar), .val (.int (Int32.ofNat f)), .val (.int (Int32.ofNat (f + 3))), .val (.int (3 : Int32))] [(.int (as.getD (f + 2) 0)), (.int (2 : Int32)), (.ref b2), (.ref b2), (.ref b1), (.ref b1)])) _
    refine st11 _ ?_
    show Steps p.tables e below (T11.setTop (mkF m 105 #[.val (.ref ar), .val (.int (Int32.ofNat f)), .val (.int (Int32.ofNat (f + 3))), .val (.int (3 : Int32))] [(.ref b2), (.ref b1), (.ref b1)])) _
    refine st12.trans ?_
    show Steps p.tables e below (T12.setTop (mkF m 108 #[.val (.ref ar), .val (.int (Int32.ofNat f)), .val (.int (Int32.ofNat (f + 3))), .val (.int (3 : Int32))] [(.ref b1)])) _
    jvm_step X12.here [X12.here.top, hx, (hb hby d2_108), X12.method', Bd.returns, Value.isRef, FieldType.isReference]
    first | (intro acts; rw [hr _ acts rfl rfl rfl]) | rw [hr _ _ rfl rfl rfl]
    exact Steps.refl _
  · show own_QR Z ((as.drop f).take 3) h0 n0 _ T12.heap _
    exact ⟨b1, rfl, N12, sz_b1, (((((((Keep.refl h0 []).ext E1).ext E2).wr W5 (Or.inr sz_b2)).wr W8 (Or.inr sz_b2)).wr W11 (Or.inr sz_b2)).trans Kq12 (allS (P := fun zz => zz ∈ ([] : List Addr) ∨ h0.size ≤ zz) (Or.inr sz_b1) all0)), (by rw [own_sl3 hc8 hfa]; exact ⟨t12, kb12, Eq12, Cq12, Fq12, Vq12, hp12, (Nat.le_of_ble_eq_true rfl)⟩)⟩
set_option maxRecDepth 65536 in
set_option maxHeartbeats 40000000 in
theorem rmSL4 (l : Launch) (Z : State) (a0 : Array Value) (hw : ∀ d ∈ tables_1, d.before a0 Z = true) (ws : List Jvm.Cond) (G1 : Int32) (G3 : Value) (ar : Addr) (ka : ClassId) (as : List Int32) (f : Nat) (h0 : Heap) (n0 : Nat) (Z0 : n0 ≤ h0.size) (EN : own_env Z G1 G3) (X00 : Old Z n0 h0) (V_ar : Arv Z h0 ar ka .char (Int32.ofNat as.length) (as.map Value.int) (.int (0 : Int32))) (hc8 : ∀ i, i < as.length → own_c8 (as.getD i 0)) (hfa : f + 4 ≤ as.length) (ha : as.length < 2 ^ 31) :
    MetFree l (⟨"com/example/atomize/atomize/http/FieldValueReaderNextElementPinLaw", "slice", "([CII)Ljava/lang/String;"⟩ : MethodName) (head1 (Jvm.Cond.code (⟨"com/example/atomize/atomize/http/FieldValueReaderNextElementPinLaw", "slice", "([CII)Ljava/lang/String;"⟩ : MethodName) method_4_code 4 (some (.object "java/lang/String")) :: ws) ({ frames := 4, cells := 6, slots := 12, locals := 66 } : Room)) (fun a_ U_ => a_ = #[(.ref ar), (.int (Int32.ofNat f)), (.int (Int32.ofNat (f + 4)))] ∧ Z.Warmed39 U_.vm ∧ U_.heap = h0 ∧ CHv Z consts_1 U_.vm h0) (fun _ _ _ _ _ => True) (fun _ U_ o_ U1_ => ∃ v_ L_, o_ = .returned v_ ∧ own_QR Z ((as.drop f).take 4) h0 n0 v_ U1_.heap L_ ∧ CHr Z consts_1 U_.vm U_.heap U1_.vm U1_.heap ∧ ReturnedEndW U_ o_ U1_ L_ ({ frames := 4, cells := 6, slots := 12, locals := 66 } : Room).cells ({ frames := 4, cells := 6, slots := 12, locals := 66 } : Room).slots) := by
  refine MetFree.of_bodySF (plainFor_of_name pn_2) hisR ?_
  intro p e s m args below meth c s₁ Bd hml0 hP hK
  obtain ⟨rfl, hZ, hh, H0⟩ := hP
  have hx := Bd.exec
  have hby := Bd.bytes
  have hml : c.maxLocals = 4 := hml0
  have hown : s.vm.findClass "com/example/atomize/atomize/http/FieldValueReaderNextElementPinLaw" = some m.cls := findClass_of_methodNamed Bd.named
  have hnm := (name_of_methodNamed Bd.named Bd.method).1
  have X0 : Stand p l e ({ frames := 4, cells := 6, slots := 12, locals := 66 } : Room) s m #[(.ref ar), (.int (Int32.ofNat f)), (.int (Int32.ofNat (f + 4)))] below meth c s₁ [] 0 0 := Stand.of_body Bd
  have e0 : s₁.heap = h0 := by rw [← hh, Bd.state]; rfl
  have N0 := Fr.nil n0
  have pre0 : ∀ tt, Steps p.tables e below (s₁.setTop (mkF m 0 #[.val (.ref ar), .val (.int (Int32.ofNat f)), .val (.int (Int32.ofNat (f + 4))), .unset] [])) tt → Steps p.tables e below (s₁.setTop (entryFrame m #[(.ref ar), (.int (Int32.ofNat f)), (.int (Int32.ofNat (f + 4)))] 4)) tt := fun tt kk => castTop (ef_2_rrr m ar (Int32.ofNat f) (Int32.ofNat (f + 4))) kk
  have hS0 : s.Since s.vm 0 := (State.WarmedH.refl s).since 0
  have hk0 : 0 ≤ h0.size := Nat.zero_le _
  have EN0 := EN
  obtain ⟨O2, P5, O4, rG3⟩ := EN
  have hws : ∀ d ∈ StrChars.Road.words, d.before a0 Z = true := fun d hd => hw d (own_w1 d hd)
  have hwl : ∀ d ∈ StrChars.Road.wordsLen, d.before a0 Z = true := fun d hd => hw d (own_w2 d hd)
  have hwc : ∀ d ∈ StrChars.Road.wordsChN, d.before a0 Z = true := fun d hd => hw d (own_w3 d hd)
  obtain ⟨T1, h1, X1, e1, E1, A1, D1, -, st1⟩ := newO X0 hx hZ hown (hw _ (List.mem_of_getElem? (i := 8) rfl)) (hw _ (List.mem_of_getElem? (i := 9) rfl)) (hw _ (List.mem_of_getElem? (i := 10) rfl)) e0 (g := (mkF m 109 #[.val (.ref ar), .val (.int (Int32.ofNat f)), .val (.int (Int32.ofNat (f + 4))), .val (.int (4 : Int32))] [])) rfl (hb hby d2_109) (by decide) (by decide)
  obtain ⟨b1, g1⟩ : ∃ z, z = h0.size := ⟨_, rfl⟩
  rw [← g1] at A1 D1 st1
  have g_b1 : n0 ≤ b1 := Nat.le_trans Z0 (Nat.le_of_eq g1.symm)
  have sz_b1 : h0.size ≤ b1 := Nat.le_trans (Nat.le_refl _) (Nat.le_of_eq g1.symm)
  have F1_value : Fld Z h1 b1 "java/lang/String" "value" "[B" .null := D1 (Or.inr (hw _ (List.mem_of_getElem? (i := 23) rfl))) (ty := (.array .byte)) (by decide)
  have F1_coder : Fld Z h1 b1 "java/lang/String" "coder" "B" (.int (0 : Int32)) := D1 (Or.inr (hw _ (List.mem_of_getElem? (i := 24) rfl))) (ty := .byte) (by decide)
  obtain ⟨T2, h2, k2, X2, e2, E2, A2, st2⟩ := newP X1 hx hZ (hw _ (List.mem_of_getElem? (i := 0) rfl)) e1 (g := (mkF m 114 #[.val (.ref ar), .val (.int (Int32.ofNat f)), .val (.int (Int32.ofNat (f + 4))), .val (.int (4 : Int32))] [(.int (4 : Int32)), (.ref b1), (.ref b1)])) rfl (hb hby d2_114) rfl (by decide) (cap := 4) (by decide) (by decide) (by decide) (by decide)
  obtain ⟨b2, g2⟩ : ∃ z, z = h1.size := ⟨_, rfl⟩
  rw [← g2] at A2 st2
  have g_b2 : n0 ≤ b2 := Nat.le_trans (Nat.le_trans Z0 E1.1) (Nat.le_of_eq g2.symm)
  have sz_b2 : h0.size ≤ b2 := Nat.le_trans E1.1 (Nat.le_of_eq g2.symm)
  have V2 : Arv Z h2 b2 k2 .char (4 : Int32) [(.int (0 : Int32)), (.int (0 : Int32)), (.int (0 : Int32)), (.int (0 : Int32))] (.int (0 : Int32)) := (Arv.new A2 (by decide)).pad (pad_rep [] (.int (0 : Int32)) 4)
  have f4 := ((V_ar.ext E1).ext E2)
  obtain ⟨c3, Ar3, -, S3, M3, H3, -⟩ := id f4
  have hin3 := inb_of (j := (Int32.ofNat f)) S3 (own_in (by omega) ha)
  obtain ⟨c5, Ar5, q5, S5, M5, H5, Gz5⟩ := id V2
  obtain ⟨T5, h5, X5, e5, W5, st5⟩ := stC X2 hx hZ e2 Ar5 (j := (0 : Int32)) (inb_of S5 ⟨by decide, by decide⟩) (g := (mkF m 121 #[.val (.ref ar), .val (.int (Int32.ofNat f)), .val (.int (Int32.ofNat (f + 4))), .val (.int (4 : Int32))] [(.int (as.getD f 0)), (.int (0 : Int32)), (.ref b2), (.ref b2), (.ref b1), (.ref b1)])) rfl rfl (hb hby d2_121)
  have V5 : Arv Z h5 b2 k2 .char (4 : Int32) [(.int (nar .char (as.getD f 0))), (.int (0 : Int32)), (.int (0 : Int32)), (.int (0 : Int32))] (.int (0 : Int32)) := Arv.set Ar5 q5 S5 M5 H5 Gz5 (fits_nar_char _) W5 0 rfl (Nat.le_of_ble_eq_true rfl)
  have N5 := Fr.snoc X5 N0 g_b2
  have f7 := (f4.other W5 (Nat.ne_of_lt (Nat.lt_of_lt_of_le (Nat.lt_of_lt_of_le V_ar.lt E1.1) (Nat.le_of_eq g2.symm))))
  obtain ⟨c6, Ar6, -, S6, M6, H6, -⟩ := id f7
  have hin6 := inb_of (j := (Int32.ofNat (f + 1))) S6 (own_in (by omega) ha)
  obtain ⟨c8, Ar8, q8, S8, M8, H8, Gz8⟩ := id V5
  obtain ⟨T8, h8, X8, e8, W8, st8⟩ := stC X5 hx hZ e5 Ar8 (j := (1 : Int32)) (inb_of S8 ⟨by decide, by decide⟩) (g := (mkF m 129 #[.val (.ref ar), .val (.int (Int32.ofNat f)), .val (.int (Int32.ofNat (f + 4))), .val (.int (4 : Int32))] [(.int (as.getD (f + 1) 0)), (.int (1 : Int32)), (.ref b2), (.ref b2), (.ref b1), (.ref b1)])) rfl rfl (hb hby d2_129)
  have V8 : Arv Z h8 b2 k2 .char (4 : Int32) [(.int (nar .char (as.getD f 0))), (.int (nar .char (as.getD (f + 1) 0))), (.int (0 : Int32)), (.int (0 : Int32))] (.int (0 : Int32)) := Arv.set Ar8 q8 S8 M8 H8 Gz8 (fits_nar_char _) W8 1 rfl (Nat.le_of_ble_eq_true rfl)
  have N8 := Fr.snoc X8 N5 g_b2
  have f10 := (f7.other W8 (Nat.ne_of_lt (Nat.lt_of_lt_of_le (Nat.lt_of_lt_of_le V_ar.lt E1.1) (Nat.le_of_eq g2.symm))))
  obtain ⟨c9, Ar9, -, S9, M9, H9, -⟩ := id f10
  have hin9 := inb_of (j := (Int32.ofNat (f + 2))) S9 (own_in (by omega) ha)
  obtain ⟨c11, Ar11, q11, S11, M11, H11, Gz11⟩ := id V8
  obtain ⟨T11, h11, X11, e11, W11, st11⟩ := stC X8 hx hZ e8 Ar11 (j := (2 : Int32)) (inb_of S11 ⟨by decide, by decide⟩) (g := (mkF m 137 #[.val (.ref ar), .val (.int (Int32.ofNat f)), .val (.int (Int32.ofNat (f + 4))), .val (.int (4 : Int32))] [(.int (as.getD (f + 2) 0)), (.int (2 : Int32)), (.ref b2), (.ref b2), (.ref b1), (.ref b1)])) rfl rfl (hb hby d2_137)
  have V11 : Arv Z h11 b2 k2 .char (4 : Int32) [(.int (nar .char (as.getD f 0))), (.int (nar .char (as.getD (f + 1) 0))), (.int (nar .char (as.getD (f + 2) 0))), (.int (0 : Int32))] (.int (0 : Int32)) := Arv.set Ar11 q11 S11 M11 H11 Gz11 (fits_nar_char _) W11 2 rfl (Nat.le_of_ble_eq_true rfl)
  have N11 := Fr.snoc X11 N8 g_b2
  have f13 := (f10.other W11 (Nat.ne_of_lt (Nat.lt_of_lt_of_le (Nat.lt_of_lt_of_le V_ar.lt E1.1) (Nat.le_of_eq g2.symm))))
  obtain ⟨c12, Ar12, -, S12, M12, H12, -⟩ := id f13
  have hin12 := inb_of (j := (Int32.ofNat (f + 3))) S12 (own_in (by omega) ha)
  obtain ⟨c14, Ar14, q14, S14, M14, H14, Gz14⟩ := id V11
  obtain ⟨T14, h14, X14, e14, W14, st14⟩ := stC X11 hx hZ e11 Ar14 (j := (3 : Int32)) (inb_of S14 ⟨by decide, by decide⟩) (g := (mkF m 145 #[.val (.ref ar), .val (.int (Int32.ofNat f)), .val (.int (Int32.ofNat (f + 4))), .val (.int (4 : Int32))] [(.int (as.getD (f + 3) 0)), (.int (3 : Int32)), (.ref b2), (.ref b2), (.ref b1), (.ref b1)])) rfl rfl (hb hby d2_145)
  have V14 : Arv Z h14 b2 k2 .char (4 : Int32) [(.int (nar .char (as.getD f 0))), (.int (nar .char (as.getD (f + 1) 0))), (.int (nar .char (as.getD (f + 2) 0))), (.int (nar .char (as.getD (f + 3) 0)))] (.int (0 : Int32)) := Arv.set Ar14 q14 S14 M14 H14 Gz14 (fits_nar_char _) W14 3 rfl (Nat.le_of_ble_eq_true rfl)
  have N14 := Fr.snoc X14 N11 g_b2
  have f16 := (((((A1.ext E2).wr W5).wr W8).wr W11).wr W14)
  have f17 := (((((F1_value.ext E2).other W5 (Or.inl (Nat.ne_of_lt (Nat.lt_of_lt_of_le A1.lt (Nat.le_of_eq g2.symm))))).other W8 (Or.inl (Nat.ne_of_lt (Nat.lt_of_lt_of_le A1.lt (Nat.le_of_eq g2.symm))))).other W11 (Or.inl (Nat.ne_of_lt (Nat.lt_of_lt_of_le A1.lt (Nat.le_of_eq g2.symm))))).other W14 (Or.inl (Nat.ne_of_lt (Nat.lt_of_lt_of_le A1.lt (Nat.le_of_eq g2.symm)))))
  have f18 := (((((F1_coder.ext E2).other W5 (Or.inl (Nat.ne_of_lt (Nat.lt_of_lt_of_le A1.lt (Nat.le_of_eq g2.symm))))).other W8 (Or.inl (Nat.ne_of_lt (Nat.lt_of_lt_of_le A1.lt (Nat.le_of_eq g2.symm))))).other W11 (Or.inl (Nat.ne_of_lt (Nat.lt_of_lt_of_le A1.lt (Nat.le_of_eq g2.symm))))).other W14 (Or.inl (Nat.ne_of_lt (Nat.lt_of_lt_of_le A1.lt (Nat.le_of_eq g2.symm)))))
  have hp15 : ∀ c ∈ ([(nar .char (as.getD f 0)), (nar .char (as.getD (f + 1) 0)), (nar .char (as.getD (f + 2) 0)), (nar .char (as.getD (f + 3) 0))] : List Int32), ¬ c < 0 ∧ ¬ (255 : Int32) < c := by
    intro c hc
    simp only [List.mem_cons, List.not_mem_nil, or_false] at hc
    rcases hc with rfl | rfl | rfl | rfl
    · exact own_c8n (hc8 f (by omega))
    · exact own_c8n (hc8 (f + 1) (by omega))
    · exact own_c8n (hc8 (f + 2) (by omega))
    · exact own_c8n (hc8 (f + 3) (by omega))
  have f19 := ((((((X00.ext E1).ext E2).wr W5 g_b2).wr W8 g_b2).wr W11 g_b2).wr W14 g_b2)
  obtain ⟨_, _, ⟨T15, L15, k15, n15⟩, -, X15, ⟨Lc15, hQ15, l15, y15, z15⟩, st15⟩ := X14.specialBack hx (y := (⟨"java/lang/String", "<init>", "([C)V"⟩ : MethodName)) rfl hown (mvT hZ (hw _ (List.mem_of_getElem? (i := 11) rfl))) (mvT hZ (hw _ (List.mem_of_getElem? (i := 12) rfl))) (mvT hZ (hw _ (List.mem_of_getElem? (i := 13) rfl))) (by decide) (StrChars.Road.backV (W := 1) hZ hws (kI := 4) (hw _ (List.mem_of_getElem? (i := 9) rfl)) (cs := ([(nar .char (as.getD f 0)), (nar .char (as.getD (f + 1) 0)), (nar .char (as.getD (f + 2) 0)), (nar .char (as.getD (f + 3) 0))] : List Int32)) (bs := (([(nar .char (as.getD f 0)), (nar .char (as.getD (f + 1) 0)), (nar .char (as.getD (f + 2) 0)), (nar .char (as.getD (f + 3) 0))] : List Int32)).map (fun c => c.toInt8.toInt32)) (n := 4) g_b1 (Nat.le_trans Z0 (Nat.le_trans (Nat.le_trans (Nat.le_trans (Nat.le_trans (Nat.le_trans E1.1 E2.1) (Keep.of_wr W5).1) (Keep.of_wr W8).1) (Keep.of_wr W11).1) (Keep.of_wr W14).1)) f16 f17 f18 V14 (Sta.ext f19.2 O2) P5 rfl rfl (by decide) (by decide) hp15 rfl (by decide) (by decide)) (g := (mkF m 146 #[.val (.ref ar), .val (.int (Int32.ofNat f)), .val (.int (Int32.ofNat (f + 4))), .val (.int (4 : Int32))] [(.ref b2), (.ref b1), (.ref b1)])) rfl (by rw [hml]; rfl) (Steps.refl _) (a := b1) (argsL := [(.ref b2)]) (rest := [(.ref b1)]) (lenOf pd___C_V rfl) rfl (by show 2 * 0 + _ ≤ _; exact Nat.le_of_eq rfl) (hb hby d2_146) (fun _ _ => ⟨rfl, e14, (by decide : 2 + 1 ≤ _), (by decide : 8 + 4 ≤ _)⟩)
  dsimp only [Pt.U, Pt.locs, Pt.cells, Pt.slots] at X15 l15 y15 z15 st15 hQ15
  subst l15 y15 z15
  obtain ⟨rfl, Nq15, Kq15, Eq15, Cq15, t15, kb15, gt15, st_15, ne_15, Fq15, Vq15⟩ := hQ15
  have N15 := Fr.app N14 Nq15
  have C20 := CHr.keep ((((((((Keep.refl h0 []).ext E1).ext E2).wr W5 (Or.inr sz_b2)).wr W8 (Or.inr sz_b2)).wr W11 (Or.inr sz_b2)).wr W14 (Or.inr sz_b2)).trans Kq15 (allS (P := fun zz => zz ∈ ([] : List Addr) ∨ h0.size ≤ zz) (Or.inr sz_b1) all0)) sf0 H0
  obtain ⟨fs, hr, hrun, hended, hfin⟩ := X15.leaveW hS0 ((Nat.le_trans hk0 (Nat.le_trans (Nat.le_trans (Nat.le_trans (Nat.le_trans (Nat.le_trans (Nat.le_trans E1.1 E2.1) (Keep.of_wr W5).1) (Keep.of_wr W8).1) (Keep.of_wr W11).1) (Keep.of_wr W14).1) Kq15.1))) (v := some (.ref b1)) (fun h => by rw [Bd.returns] at h; cases h)
  refine ⟨_, _, pre0 _ ?_, hrun, hended, _, _, rfl, ?_, (by show CHr Z consts_1 s.vm s.heap T15.vm T15.heap; rw [hh]; exact CHr.trans C20 (CHv.at (s := s) (vm0 := s.vm) X15 hZ (own_EW hw) C20.1)), hfin.1, hfin.2.1, hfin.2.2.1, hfin.2.2.2.mono (by decide) (by decide)⟩
  · show Steps p.tables e below (s₁.setTop (mkF m 0 #[.val (.ref ar), .val (.int (Int32.ofNat f)), .val (.int (Int32.ofNat (f + 4))), .unset] [])) _
    refine XS.iloadN X0.here hx rfl (hb hby d2_0) rfl ?_
    refine XS.iloadN X0.here hx rfl (hb hby d2_1) rfl ?_
    refine XS.isub X0.here hx rfl (hb hby d2_2) rfl ?_
    show Steps p.tables e below (s₁.setTop (mkF m 3 #[.val (.ref ar), .val (.int (Int32.ofNat f)), .val (.int (Int32.ofNat (f + 4))), .unset] [(.int ((Int32.ofNat (f + 4)) - (Int32.ofNat f)))])) _
    rw [(own_subm f 4)]
    show Steps p.tables e below (s₁.setTop (mkF m 3 #[.val (.ref ar), .val (.int (Int32.ofNat f)), .val (.int (Int32.ofNat (f + 4))), .unset] [(.int (4 : Int32))])) _
    refine XS.istoreN X0.here hx rfl (hb hby d2_3) rfl (l' := #[.val (.ref ar), .val (.int (Int32.ofNat f)), .val (.int (Int32.ofNat (f + 4))), .val (.int (4 : Int32))]) rfl ?_
    refine XS.iloadN X0.here hx rfl (hb hby d2_4) rfl ?_
    refine XS.ifYes X0.here hx rfl (pc0 := 5) (pc' := 19) rfl (hb hby d2_5) rfl ((if0 _ _).trans (tlt (by decide : (0 : Int32) < (4 : Int32))).2.2.1) (by decide) (by decide) ?_
    refine XS.iloadN X0.here hx rfl (hb hby d2_19) rfl ?_
    refine XS.iconst X0.here hx rfl (hb hby d2_20) ?_
    refine XS.icmpYes X0.here hx rfl (pc0 := 21) (pc' := 41) rfl (hb hby d2_21) rfl (feq (by decide : ¬ ((4 : Int32) = (1 : Int32)))).2 (by decide) (by decide) ?_
    refine XS.iloadN X0.here hx rfl (hb hby d2_41) rfl ?_
    refine XS.iconst X0.here hx rfl (hb hby d2_42) ?_
    refine XS.icmpYes X0.here hx rfl (pc0 := 43) (pc' := 71) rfl (hb hby d2_43) rfl (feq (by decide : ¬ ((4 : Int32) = (2 : Int32)))).2 (by decide) (by decide) ?_
    refine XS.iloadN X0.here hx rfl (hb hby d2_71) rfl ?_
    refine XS.iconst X0.here hx rfl (hb hby d2_72) ?_
    show Steps p.tables e below (s₁.setTop (mkF m 73 #[.val (.ref ar), .val (.int (Int32.ofNat f)), .val (.int (Int32.ofNat (f + 4))), .val (.int (4 : Int32))] [(.int (3 : Int32)), (.int (4 : Int32))])) _
    refine XS.icmpYes X0.here hx rfl (pc0 := 73) (pc' := 109) rfl (hb hby d2_73) rfl (feq (by decide : ¬ ((4 : Int32) = (3 : Int32)))).2 (by decide) (by decide) ?_
    show Steps p.tables e below (s₁.setTop (mkF m 109 #[.val (.ref ar), .val (.int (Int32.ofNat f)), .val (.int (Int32.ofNat (f + 4))), .val (.int (4 : Int32))] [])) _
    refine st1 _ ?_
    show Steps p.tables e below (T1.setTop (mkF m 112 #[.val (.ref ar), .val (.int (Int32.ofNat f)), .val (.int (Int32.ofNat (f + 4))), .val (.int (4 : Int32))] [(.ref b1)])) _
    refine XS.dup X1.here hx rfl (hb hby d2_112) rfl rfl ?_
    refine XS.iconst X1.here hx rfl (hb hby d2_113) ?_
    show Steps p.tables e below (T1.setTop (mkF m 114 #[.val (.ref ar), .val (.int (Int32.ofNat f)), .val (.int (Int32.ofNat (f + 4))), .val (.int (4 : Int32))] [(.int (4 : Int32)), (.ref b1), (.ref b1)])) _
    refine st2 _ ?_
    show Steps p.tables e below (T2.setTop (mkF m 116 #[.val (.ref ar), .val (.int (Int32.ofNat f)), .val (.int (Int32.ofNat (f + 4))), .val (.int (4 : Int32))] [(.ref b2), (.ref b1), (.ref b1)])) _
    refine XS.dup X2.here hx rfl (hb hby d2_116) rfl rfl ?_
    refine XS.iconst X2.here hx rfl (hb hby d2_117) ?_
    refine XS.aloadN X2.here hx rfl (hb hby d2_118) rfl rfl ?_
    refine XS.iloadN X2.here hx rfl (hb hby d2_119) rfl ?_
    show Steps p.tables e below (T2.setTop (mkF m 120 #[.val (.ref ar), .val (.int (Int32.ofNat f)), .val (.int (Int32.ofNat (f + 4))), .val (.int (4 : Int32))] [(.int (Int32.ofNat f)), (.ref ar), (.int (0 : Int32)), (.ref b2), (.ref b2), (.ref b1), (.ref b1)])) _
    refine X2.caload hx (j := (Int32.ofNat f)) (v := (.int (as.getD f 0))) (by rw [e2]; exact Ar3.1) (State.isArrayOf_alike hZ.alike Ar3.2.1) Ar3.2.2 hin3 (H3.at hin3 (own_ca as f (by omega))) (g := (mkF m 120 #[.val (.ref ar), .val (.int (Int32.ofNat f)), .val (.int (Int32.ofNat (f + 4))), .val (.int (4 : Int32))] [(.int (Int32.ofNat f)), (.ref ar), (.int (0 : Int32)), (.ref b2), (.ref b2), (.ref b1), (.ref b1)])) rfl rfl (hb hby d2_120) _ ?_
    show Steps p.tables e below (T2.setTop (mkF m 121 #[.val (.ref ar), .val (.int (Int32.ofNat f)), .val (.int (Int32.ofNat (f + 4))), .val (.int (4 : Int32))] [(.int (as.getD f 0)), (.int (0 : Int32)), (.ref b2), (.ref b2), (.ref b1), (.ref b1)])) _
    refine st5 _ ?_
    show Steps p.tables e below (T5.setTop (mkF m 122 #[.val (.ref ar), .val (.int (Int32.ofNat f)), .val (.int (Int32.ofNat (f + 4))), .val (.int (4 : Int32))] [(.ref b2), (.ref b1), (.ref b1)])) _
    refine XS.dup X5.here hx rfl (hb hby d2_122) rfl rfl ?_
    refine XS.iconst X5.here hx rfl (hb hby d2_123) ?_
    refine XS.aloadN X5.here hx rfl (hb hby d2_124) rfl rfl ?_
    refine XS.iloadN X5.here hx rfl (hb hby d2_125) rfl ?_
    refine XS.iconst X5.here hx rfl (hb hby d2_126) ?_
    refine XS.iadd X5.here hx rfl (hb hby d2_127) rfl ?_
    show Steps p.tables e below (T5.setTop (mkF m 128 #[.val (.ref ar), .val (.int (Int32.ofNat f)), .val (.int (Int32.ofNat (f + 4))), .val (.int (4 : Int32))] [(.int ((Int32.ofNat f) + (1 : Int32))), (.ref ar), (.int (1 : Int32)), (.ref b2), (.ref b2), (.ref b1), (.ref b1)])) _
    rw [(own_add1 f)]
    show Steps p.tables e below (T5.setTop (mkF m 128 #[.val (.ref ar), .val (.int (Int32.ofNat f)), .val (.int (Int32.ofNat (f + 4))), .val (.int (4 : Int32))] [(.int (Int32.ofNat (f + 1))), (.ref ar), (.int (1 : Int32)), (.ref b2), (.ref b2), (.ref b1), (.ref b1)])) _
    refine X5.caload hx (j := (Int32.ofNat (f + 1))) (v := (.int (as.getD (f + 1) 0))) (by rw [e5]; exact Ar6.1) (State.isArrayOf_alike hZ.alike Ar6.2.1) Ar6.2.2 hin6 (H6.at hin6 (own_ca as (f + 1) (by omega))) (g := (mkF m 128 #[.val (.ref ar), .val (.int (Int32.ofNat f)), .val (.int (Int32.ofNat (f + 4))), .val (.int (4 : Int32))] [(.int (Int32.ofNat (f + 1))), (.ref ar), (.int (1 : Int32)), (.ref b2), (.ref b2), (.ref b1), (.ref b1)])) rfl rfl (hb hby d2_128) _ ?_
    show Steps p.tables e below (T5.setTop (mkF m 129 #[.val (.ref ar), .val (.int (Int32.ofNat f)), .val (.int (Int32.ofNat (f + 4))), .val (.int (4 : Int32))] [(.int (as.getD (f + 1) 0)), (.int (1 : Int32)), (.ref b2), (.ref b2), (.ref b1), (.ref b1)])) _
    refine st8 _ ?_
    show Steps p.tables e below (T8.setTop (mkF m 130 #[.val (.ref ar), .val (.int (Int32.ofNat f)), .val (.int (Int32.ofNat (f + 4))), .val (.int (4 : Int32))] [(.ref b2), (.ref b1), (.ref b1)])) _
    refine XS.dup X8.here hx rfl (hb hby d2_130) rfl rfl ?_
    refine XS.iconst X8.here hx rfl (hb hby d2_131) ?_
    refine XS.aloadN X8.here hx rfl (hb hby d2_132) rfl rfl ?_
    refine XS.iloadN X8.here hx rfl (hb hby d2_133) rfl ?_
    refine XS.iconst X8.here hx rfl (hb hby d2_134) ?_
    refine XS.iadd X8.here hx rfl (hb hby d2_135) rfl ?_
    show Steps p.tables e below (T8.setTop (mkF m 136 #[.val (.ref ar), .val (.int (Int32.ofNat f)), .val (.int (Int32.ofNat (f + 4))), .val (.int (4 : Int32))] [(.int ((Int32.ofNat f) + (2 : Int32))), (.ref ar), (.int (2 : Int32)), (.ref b2), (.ref b2), (.ref b1), (.ref b1)])) _
    rw [(own_add2 f)]
    show Steps p.tables e below (T8.setTop (mkF m 136 #[.val (.ref ar), .val (.int (Int32.ofNat f)), .val (.int (Int32.ofNat (f + 4))), .val (.int (4 : Int32))] [(.int (Int32.ofNat (f + 2))), (.ref ar), (.int (2 : Int32)), (.ref b2), (.ref b2), (.ref b1), (.ref b1)])) _
    refine X8.caload hx (j := (Int32.ofNat (f + 2))) (v := (.int (as.getD (f + 2) 0))) (by rw [e8]; exact Ar9.1) (State.isArrayOf_alike hZ.alike Ar9.2.1) Ar9.2.2 hin9 (H9.at hin9 (own_ca as (f + 2) (by omega))) (g := (mkF m 136 #[.val (.ref ar), .val (.int (Int32.ofNat f)), .val (.int (Int32.ofNat (f + 4))), .val (.int (4 : Int32))] [(.int (Int32.ofNat (f + 2))), (.ref ar), (.int (2 : Int32)), (.ref b2), (.ref b2), (.ref b1), (.ref b1)])) rfl rfl (hb hby d2_136) _ ?_
    show Steps p.tables e below (T8.setTop (mkF m 137 #[.val (.ref ar), .val (.int (Int32.ofNat f)), .val (.int (Int32.ofNat (f + 4))), .val (.int (4 : Int32))] [(.int (as.getD (f + 2) 0)), (.int (2 : Int32)), (.ref b2), (.ref b2), (.ref b1), (.ref b1)])) _
    refine st11 _ ?_
    show Steps p.tables e below (T11.setTop (mkF m 138 #[.val (.ref ar), .val (.int (Int32.ofNat f)), .val (.int (Int32.ofNat (f + 4))), .val (.int (4 : Int32))] [(.ref b2), (.ref b1), (.ref b1)])) _
    refine XS.dup X11.here hx rfl (hb hby d2_138) rfl rfl ?_
    refine XS.iconst X11.here hx rfl (hb hby d2_139) ?_
    refine XS.aloadN X11.here hx rfl (hb hby d2_140) rfl rfl ?_
    refine XS.iloadN X11.here hx rfl (hb hby d2_141) rfl ?_
    refine XS.iconst X11.here hx rfl (hb hby d2_142) ?_
    refine XS.iadd X11.here hx rfl (hb hby d2_143) rfl ?_
    show Steps p.tables e below (T11.setTop (mkF m 144 #[.val (.ref ar), .val (.int (Int32.ofNat f)), .val (.int (Int32.ofNat (f + 4))), .val (.int (4 : Int32))] [(.int ((Int32.ofNat f) + (3 : Int32))), (.ref ar), (.int (3 : Int32)), (.ref b2), (.ref b2), (.ref b1), (.ref b1)])) _
    rw [(own_add3 f)]
    show Steps p.tables e below (T11.setTop (mkF m 144 #[.val (.ref ar), .val (.int (Int32.ofNat f)), .val (.int (Int32.ofNat (f + 4))), .val (.int (4 : Int32))] [(.int (Int32.ofNat (f + 3))), (.ref ar), (.int (3 : Int32)), (.ref b2), (.ref b2), (.ref b1), (.ref b1)])) _
    refine X11.caload hx (j := (Int32.ofNat (f + 3))) (v := (.int (as.getD (f + 3) 0))) (by rw [e11]; exact Ar12.1) (State.isArrayOf_alike hZ.alike Ar12.2.1) Ar12.2.2 hin12 (H12.at hin12 (own_ca as (f + 3) (by omega))) (g := (mkF m 144 #[.val (.ref ar), .val (.int (Int32.ofNat f)), .val (.int (Int32.ofNat (f + 4))), .val (.int (4 : Int32))] [(.int (Int32.ofNat (f + 3))), (.ref ar), (.int (3 : Int32)), (.ref b2), (.ref b2), (.ref b1), (.ref b1)])) rfl rfl (hb hby d2_144) _ ?_
    show Steps p.tables e below (T11.setTop (mkF m 145 #[.val (.ref ar), .val (.int (Int32.ofNat f)), .val (.int (Int32.ofNat (f + 4))), .val (.int (4 : Int32))] [(.int (as.getD (f + 3) 0)), (.int (3 : Int32)), (.ref b2), (.ref b2), (.ref b1), (.ref b1)])) _
    refine st14 _ ?_
    show Steps p.tables e below (T14.setTop (mkF m 146 #[.val (.ref ar), .val (.int (Int32.ofNat f)), .val (.int (Int32.ofNat (f + 4))), .val (.int (4 : Int32))] [(.ref b2), (.ref b1), (.ref b1)])) _
    refine st15.trans ?_
    show Steps p.tables e below (T15.setTop (mkF m 149 #[.val (.ref ar), .val (.int (Int32.ofNat f)), .val (.int (Int32.ofNat (f + 4))), .val (.int (4 : Int32))] [(.ref b1)])) _
    jvm_step X15.here [X15.here.top, hx, (hb hby d2_149), X15.method', Bd.returns, Value.isRef, FieldType.isReference]
    first | (intro acts; rw [hr _ acts rfl rfl rfl]) | rw [hr _ _ rfl rfl rfl]
    exact Steps.refl _
  · show own_QR Z ((as.drop f).take 4) h0 n0 _ T15.heap _
    exact ⟨b1, rfl, N15, sz_b1, ((((((((Keep.refl h0 []).ext E1).ext E2).wr W5 (Or.inr sz_b2)).wr W8 (Or.inr sz_b2)).wr W11 (Or.inr sz_b2)).wr W14 (Or.inr sz_b2)).trans Kq15 (allS (P := fun zz => zz ∈ ([] : List Addr) ∨ h0.size ≤ zz) (Or.inr sz_b1) all0)), (by rw [own_sl4 hc8 hfa]; exact ⟨t15, kb15, Eq15, Cq15, Fq15, Vq15, hp15, (Nat.le_of_ble_eq_true rfl)⟩)⟩
theorem rmSL (l : Launch) (Z : State) (a0 : Array Value) (hw : ∀ d ∈ tables_1, d.before a0 Z = true) (ws : List Jvm.Cond) (G1 : Int32) (G3 : Value) (ar : Addr) (ka : ClassId) (as : List Int32) (f t m : Nat) (hm : t = f + m) (hm4 : m < 5) (h0 : Heap) (n0 : Nat) (Z0 : n0 ≤ h0.size) (EN : own_env Z G1 G3) (X00 : Old Z n0 h0) (V_ar : Arv Z h0 ar ka .char (Int32.ofNat as.length) (as.map Value.int) (.int (0 : Int32))) (hc8 : ∀ i, i < as.length → own_c8 (as.getD i 0)) (hfa : f + m ≤ as.length) (ha : as.length < 2 ^ 31) :
    MetFree l (⟨"com/example/atomize/atomize/http/FieldValueReaderNextElementPinLaw", "slice", "([CII)Ljava/lang/String;"⟩ : MethodName) (head1 (Jvm.Cond.code (⟨"com/example/atomize/atomize/http/FieldValueReaderNextElementPinLaw", "slice", "([CII)Ljava/lang/String;"⟩ : MethodName) method_4_code 4 (some (.object "java/lang/String")) :: ws) ({ frames := 4, cells := 6, slots := 12, locals := 66 } : Room)) (fun a_ U_ => a_ = #[(.ref ar), (.int (Int32.ofNat f)), (.int (Int32.ofNat t))] ∧ Z.Warmed39 U_.vm ∧ U_.heap = h0 ∧ CHv Z consts_1 U_.vm h0) (fun _ _ _ _ _ => True) (fun _ U_ o_ U1_ => ∃ v_ L_, o_ = .returned v_ ∧ own_QR Z ((as.drop f).take m) h0 n0 v_ U1_.heap L_ ∧ CHr Z consts_1 U_.vm U_.heap U1_.vm U1_.heap ∧ ReturnedEndW U_ o_ U1_ L_ ({ frames := 4, cells := 6, slots := 12, locals := 66 } : Room).cells ({ frames := 4, cells := 6, slots := 12, locals := 66 } : Room).slots) := by
  subst hm
  match m, hm4, hfa with
  | 0, _, hfa => exact rmSL0 l Z a0 hw ws G1 G3 ar ka as f h0 n0 Z0 EN X00 V_ar hc8 hfa ha
  | 1, _, hfa => exact rmSL1 l Z a0 hw ws G1 G3 ar ka as f h0 n0 Z0 EN X00 V_ar hc8 hfa ha
  | 2, _, hfa => exact rmSL2 l Z a0 hw ws G1 G3 ar ka as f h0 n0 Z0 EN X00 V_ar hc8 hfa ha
  | 3, _, hfa => exact rmSL3 l Z a0 hw ws G1 G3 ar ka as f h0 n0 Z0 EN X00 V_ar hc8 hfa ha
  | 4, _, hfa => exact rmSL4 l Z a0 hw ws G1 G3 ar ka as f h0 n0 Z0 EN X00 V_ar hc8 hfa ha
def own_QN (Z : State) (r x : Addr) (b : Int32) (k : Nat) (h0 : Heap) (n0 : Nat) (v : Option Value) (h : Heap) (L : List Loc) : Prop := v = some (.int b) ∧ Fr n0 L ∧ Keep h0 h [r] ∧ Exa Z h r "com/example/atomize/atomize/http/FieldValueReader" ∧ Fld Z h r "com/example/atomize/atomize/http/FieldValueReader" "text" "Ljava/lang/String;" (.ref x) ∧ Fld Z h r "com/example/atomize/atomize/http/FieldValueReader" "position" "I" (.int (Int32.ofNat k))
theorem d10_0 : decode prog_5_method_2_code 0 = .ok (.aload_n 0, 1) := by decide +kernel
theorem d10_1 : decode prog_5_method_2_code 1 = .ok (.getfield 19, 3) := by decide +kernel
theorem d10_4 : decode prog_5_method_2_code 4 = .ok (.aload_n 0, 1) := by decide +kernel
theorem d10_5 : decode prog_5_method_2_code 5 = .ok (.getfield 13, 3) := by decide +kernel
theorem pd___I : parseMethodDescriptor "()I" = some ⟨[], some .int⟩ := by decide +kernel
theorem d10_8 : decode prog_5_method_2_code 8 = .ok (.invokevirtual 23, 3) := by decide +kernel
theorem d10_11 : decode prog_5_method_2_code 11 = .ok (.if_icmp .ge 49, 3) := by decide +kernel
theorem d10_14 : decode prog_5_method_2_code 14 = .ok (.aload_n 0, 1) := by decide +kernel
theorem d10_15 : decode prog_5_method_2_code 15 = .ok (.getfield 13, 3) := by decide +kernel
theorem d10_18 : decode prog_5_method_2_code 18 = .ok (.aload_n 0, 1) := by decide +kernel
theorem d10_19 : decode prog_5_method_2_code 19 = .ok (.getfield 19, 3) := by decide +kernel
theorem pd__I_C : parseMethodDescriptor "(I)C" = some ⟨[.int], some .char⟩ := by decide +kernel
theorem d10_22 : decode prog_5_method_2_code 22 = .ok (.invokevirtual 29, 3) := by decide +kernel
theorem pd__C_Z : parseMethodDescriptor "(C)Z" = some ⟨[.char], some .boolean⟩ := by decide +kernel
theorem d10_25 : decode prog_5_method_2_code 25 = .ok (.invokestatic 33, 3) := by decide +kernel
theorem d10_28 : decode prog_5_method_2_code 28 = .ok (.ifCond .ne 19, 3) := by decide +kernel
theorem d10_47 : decode prog_5_method_2_code 47 = .ok (.aload_n 0, 1) := by decide +kernel
theorem d10_48 : decode prog_5_method_2_code 48 = .ok (.dup, 1) := by decide +kernel
theorem d10_49 : decode prog_5_method_2_code 49 = .ok (.getfield 19, 3) := by decide +kernel
theorem d10_52 : decode prog_5_method_2_code 52 = .ok (.iconst 1, 1) := by decide +kernel
theorem d10_53 : decode prog_5_method_2_code 53 = .ok (.iadd, 1) := by decide +kernel
theorem d10_54 : decode prog_5_method_2_code 54 = .ok (.putfield 19, 3) := by decide +kernel
theorem d10_57 : decode prog_5_method_2_code 57 = .ok (.goto (-57), 3) := by decide +kernel
theorem d10_31 : decode prog_5_method_2_code 31 = .ok (.aload_n 0, 1) := by decide +kernel
theorem d10_32 : decode prog_5_method_2_code 32 = .ok (.getfield 13, 3) := by decide +kernel
theorem d10_35 : decode prog_5_method_2_code 35 = .ok (.aload_n 0, 1) := by decide +kernel
theorem d10_36 : decode prog_5_method_2_code 36 = .ok (.getfield 19, 3) := by decide +kernel
theorem d10_39 : decode prog_5_method_2_code 39 = .ok (.invokevirtual 29, 3) := by decide +kernel
theorem d10_42 : decode prog_5_method_2_code 42 = .ok (.bipush 44, 2) := by decide +kernel
theorem d10_44 : decode prog_5_method_2_code 44 = .ok (.if_icmp .ne 16, 3) := by decide +kernel
theorem d10_60 : decode prog_5_method_2_code 60 = .ok (.aload_n 0, 1) := by decide +kernel
theorem d10_61 : decode prog_5_method_2_code 61 = .ok (.getfield 19, 3) := by decide +kernel
theorem d10_64 : decode prog_5_method_2_code 64 = .ok (.aload_n 0, 1) := by decide +kernel
theorem d10_65 : decode prog_5_method_2_code 65 = .ok (.getfield 13, 3) := by decide +kernel
theorem d10_68 : decode prog_5_method_2_code 68 = .ok (.invokevirtual 23, 3) := by decide +kernel
theorem d10_71 : decode prog_5_method_2_code 71 = .ok (.if_icmp .ge 7, 3) := by decide +kernel
theorem d10_74 : decode prog_5_method_2_code 74 = .ok (.iconst 1, 1) := by decide +kernel
theorem d10_75 : decode prog_5_method_2_code 75 = .ok (.goto 4, 3) := by decide +kernel
theorem d10_79 : decode prog_5_method_2_code 79 = .ok (.ireturn, 1) := by decide +kernel
theorem pn_10 : plainName "com/example/atomize/atomize/http/FieldValueReader" = true := by first | (simp [plainName, overriddenIn]; done) | decide +kernel
theorem ef_10_r (m : MethodId) (x0 : Addr) : entryFrame m #[(.ref x0)] 1 = mkF m 0 #[.val (.ref x0)] [] := by first | (simp [entryFrame, mkF, argsToLocals, Value.category]; done) | rfl
set_option maxRecDepth 65536 in
set_option maxHeartbeats 40000000 in
theorem neW_end {p : Program} {l : Launch} {e : Env} {s : State} {m : MethodId} {args : Array Value} {below : List Frame} {meth : Method} {c : Code} {s₁ : State} {L0 : List Loc} {Z : State} {a0 : Array Value} (G1 : Int32) (G3 : Value) (r : Addr) (x : Addr) (cs : List Int32) (j : Nat) (h0 : Heap) (n0 : Nat) (X0 : Stand p l e ({ frames := 4, cells := 0, slots := 0, locals := 53 } : Room) s m args below meth c s₁ L0 0 0) (hx : p.tables.exec = Jvm.exec) (hZ : Z.Warmed39 s.vm) (hw : ∀ d ∈ tables_1, d.before a0 Z = true) (hby : c.code = prog_5_method_2_code) (hml : c.maxLocals = 1) (hown : s.vm.findClass "com/example/atomize/atomize/http/FieldValueReader" = some m.cls) (e0 : s₁.heap = h0) (N0 : Fr n0 L0) (Z0 : n0 ≤ h0.size) (EN : own_env Z G1 G3) (X00 : Old Z n0 h0) (E_r : Exa Z h0 r "com/example/atomize/atomize/http/FieldValueReader") (F_text_r : Fld Z h0 r "com/example/atomize/atomize/http/FieldValueReader" "text" "Ljava/lang/String;" (.ref x)) (F_position_r : Fld Z h0 r "com/example/atomize/atomize/http/FieldValueReader" "position" "I" (.int (Int32.ofNat j))) (g_r : n0 ≤ r) (S_x : own_s Z h0 x cs) (hj : ¬ (j < cs.length)) (hjb : j < 2 ^ 31) :
    ∃ (T' : State) (h' : Heap) (L' : List Loc) , Stand p l e ({ frames := 4, cells := 0, slots := 0, locals := 53 } : Room) s m args below meth c T' L' 0 0 ∧ T'.heap = h' ∧ Fr n0 L' ∧ n0 ≤ h'.size ∧ Old Z n0 h' ∧ Keep h0 h' [r] ∧ Exa Z h' r "com/example/atomize/atomize/http/FieldValueReader" ∧ Fld Z h' r "com/example/atomize/atomize/http/FieldValueReader" "text" "Ljava/lang/String;" (.ref x) ∧ Fld Z h' r "com/example/atomize/atomize/http/FieldValueReader" "position" "I" (.int (Int32.ofNat j)) ∧ own_s Z h' x cs ∧ 
      ∀ target, Steps p.tables e below (T'.setTop (mkF m 60 #[.val (.ref r)] [])) target → Steps p.tables e below (s₁.setTop (mkF m 0 #[.val (.ref r)] [])) target := by
  have EN0 := EN
  obtain ⟨O2, P5, O4, rG3⟩ := EN
  have hws : ∀ d ∈ StrChars.Road.words, d.before a0 Z = true := fun d hd => hw d (own_w1 d hd)
  have hwl : ∀ d ∈ StrChars.Road.wordsLen, d.before a0 Z = true := fun d hd => hw d (own_w2 d hd)
  have hwc : ∀ d ∈ StrChars.Road.wordsChN, d.before a0 Z = true := fun d hd => hw d (own_w3 d hd)
  obtain ⟨b_x, k_x, E_x, C_x, V_x, K_x, hp_x, hl_x⟩ := id S_x
  obtain ⟨T1, X1, e1, st1⟩ := getF X0 hx hZ hown (host := "") (Or.inl (hw _ (List.mem_of_getElem? (i := 60) rfl))) Via.refl e0 F_position_r (g := (mkF m 1 #[.val (.ref r)] [(.ref r)])) rfl rfl (hb hby d10_1)
  obtain ⟨T2, X2, e2, st2⟩ := getF X1 hx hZ hown (host := "") (Or.inl (hw _ (List.mem_of_getElem? (i := 51) rfl))) Via.refl e1 F_text_r (g := (mkF m 5 #[.val (.ref r)] [(.ref r), (.int (Int32.ofNat j))])) rfl rfl (hb hby d10_5)
  obtain ⟨cq3, kq3, q3a, q3b, q3c⟩ := isOf hZ e2 E_x
  obtain ⟨_, _, ⟨T3, L3, k3, n3⟩, -, X3, ⟨Lc3, hQ3, l3, y3, z3⟩, st3⟩ := X2.virtualBack hx (y := (⟨"java/lang/String", "length", "()I"⟩ : MethodName)) (z := (⟨"java/lang/String", "length", "()I"⟩ : MethodName)) hown (mvT hZ (hw _ (List.mem_of_getElem? (i := 62) rfl))) (mvT hZ (hw _ (List.mem_of_getElem? (i := 63) rfl))) (notFace_of_selects (args := #[]) (mvT hZ (hw _ (List.mem_of_getElem? (i := 65) rfl)))) (mvT hZ (hw _ (List.mem_of_getElem? (i := 65) rfl))) (mvT hZ (hw _ (List.mem_of_getElem? (i := 64) rfl))) (by decide) (StrChars.Road.lenW (W := 1) hZ hwl (kI := 4) (hw _ (List.mem_of_getElem? (i := 9) rfl)) E_x V_x C_x K_x (StrChars.Road.codOf rfl fun c hc => (hp_x c hc).2) (own_up hp_x) (Sta.ext X00.2 O2) P5 (own_l4 hl_x) (by decide) (by decide)) q3a q3c (g := (mkF m 8 #[.val (.ref r)] [(.ref x), (.int (Int32.ofNat j))])) rfl (by rw [hml]; rfl) (Steps.refl _) (argsL := []) (rest := [(.int (Int32.ofNat j))]) (lenOf pd___I rfl) rfl (by show 2 * 0 + _ ≤ _; exact Nat.le_of_eq rfl) (hb hby d10_8) (fun _ _ => ⟨rfl, e2, (by decide : 0 + 0 ≤ _), (by decide : 0 + 0 ≤ _)⟩)
  dsimp only [Pt.U, Pt.locs, Pt.cells, Pt.slots] at X3 l3 y3 z3 st3 hQ3
  subst l3 y3 z3
  obtain ⟨rfl, rfl, eq3⟩ := hQ3
  have N3 := Fr.app N0 (Fr.nil n0)
  refine ⟨T3, h0, _, X3, eq3, N3, Z0, X00, (Keep.refl h0 [r]), E_r, F_text_r, F_position_r, ⟨b_x, k_x, E_x, C_x, V_x, K_x, hp_x, hl_x⟩, fun target kt => ?_⟩
  show Steps p.tables e below (s₁.setTop (mkF m 0 #[.val (.ref r)] [])) _
  refine XS.aloadN X0.here hx rfl (hb hby d10_0) rfl rfl ?_
  show Steps p.tables e below (s₁.setTop (mkF m 1 #[.val (.ref r)] [(.ref r)])) _
  refine st1 _ ?_
  show Steps p.tables e below (T1.setTop (mkF m 4 #[.val (.ref r)] [(.int (Int32.ofNat j))])) _
  refine XS.aloadN X1.here hx rfl (hb hby d10_4) rfl rfl ?_
  show Steps p.tables e below (T1.setTop (mkF m 5 #[.val (.ref r)] [(.ref r), (.int (Int32.ofNat j))])) _
  refine st2 _ ?_
  show Steps p.tables e below (T2.setTop (mkF m 8 #[.val (.ref r)] [(.ref x), (.int (Int32.ofNat j))])) _
  refine st3.trans ?_
  show Steps p.tables e below (T3.setTop (mkF m 11 #[.val (.ref r)] [(.int (Int32.ofNat cs.length)), (.int (Int32.ofNat j))])) _
  refine XS.icmpYes X3.here hx rfl (pc0 := 11) (pc' := 60) rfl (hb hby d10_11) rfl (flt (fun q => hj ((own_lt hjb (by omega)).mp q))).2.1 (by decide) (by decide) ?_
  exact kt
set_option maxRecDepth 65536 in
set_option maxHeartbeats 40000000 in
theorem neW_sp {p : Program} {l : Launch} {e : Env} {s : State} {m : MethodId} {args : Array Value} {below : List Frame} {meth : Method} {c : Code} {s₁ : State} {L0 : List Loc} {Z : State} {a0 : Array Value} (G1 : Int32) (G3 : Value) (r : Addr) (x : Addr) (cs : List Int32) (j : Nat) (h0 : Heap) (n0 : Nat) (X0 : Stand p l e ({ frames := 4, cells := 0, slots := 0, locals := 53 } : Room) s m args below meth c s₁ L0 0 0) (hx : p.tables.exec = Jvm.exec) (hZ : Z.Warmed39 s.vm) (hw : ∀ d ∈ tables_1, d.before a0 Z = true) (hby : c.code = prog_5_method_2_code) (hml : c.maxLocals = 1) (hown : s.vm.findClass "com/example/atomize/atomize/http/FieldValueReader" = some m.cls) (e0 : s₁.heap = h0) (N0 : Fr n0 L0) (Z0 : n0 ≤ h0.size) (EN : own_env Z G1 G3) (X00 : Old Z n0 h0) (E_r : Exa Z h0 r "com/example/atomize/atomize/http/FieldValueReader") (F_text_r : Fld Z h0 r "com/example/atomize/atomize/http/FieldValueReader" "text" "Ljava/lang/String;" (.ref x)) (F_position_r : Fld Z h0 r "com/example/atomize/atomize/http/FieldValueReader" "position" "I" (.int (Int32.ofNat j))) (g_r : n0 ≤ r) (S_x : own_s Z h0 x cs) (hj : j < cs.length) (h1 : ¬ ((own_sp (cs.getD j 0)) = (0 : Int32))) :
    ∃ (T' : State) (h' : Heap) (L' : List Loc) , Stand p l e ({ frames := 4, cells := 0, slots := 0, locals := 53 } : Room) s m args below meth c T' L' 0 0 ∧ T'.heap = h' ∧ Fr n0 L' ∧ n0 ≤ h'.size ∧ Old Z n0 h' ∧ Keep h0 h' [r] ∧ Exa Z h' r "com/example/atomize/atomize/http/FieldValueReader" ∧ Fld Z h' r "com/example/atomize/atomize/http/FieldValueReader" "text" "Ljava/lang/String;" (.ref x) ∧ Fld Z h' r "com/example/atomize/atomize/http/FieldValueReader" "position" "I" (.int (Int32.ofNat (j + 1))) ∧ own_s Z h' x cs ∧ 
      ∀ target, Steps p.tables e below (T'.setTop (mkF m 0 #[.val (.ref r)] [])) target → Steps p.tables e below (s₁.setTop (mkF m 0 #[.val (.ref r)] [])) target := by
  have EN0 := EN
  obtain ⟨O2, P5, O4, rG3⟩ := EN
  have hws : ∀ d ∈ StrChars.Road.words, d.before a0 Z = true := fun d hd => hw d (own_w1 d hd)
  have hwl : ∀ d ∈ StrChars.Road.wordsLen, d.before a0 Z = true := fun d hd => hw d (own_w2 d hd)
  have hwc : ∀ d ∈ StrChars.Road.wordsChN, d.before a0 Z = true := fun d hd => hw d (own_w3 d hd)
  obtain ⟨b_x, k_x, E_x, C_x, V_x, K_x, hp_x, hl_x⟩ := id S_x
  obtain ⟨T1, X1, e1, st1⟩ := getF X0 hx hZ hown (host := "") (Or.inl (hw _ (List.mem_of_getElem? (i := 60) rfl))) Via.refl e0 F_position_r (g := (mkF m 1 #[.val (.ref r)] [(.ref r)])) rfl rfl (hb hby d10_1)
  obtain ⟨T2, X2, e2, st2⟩ := getF X1 hx hZ hown (host := "") (Or.inl (hw _ (List.mem_of_getElem? (i := 51) rfl))) Via.refl e1 F_text_r (g := (mkF m 5 #[.val (.ref r)] [(.ref r), (.int (Int32.ofNat j))])) rfl rfl (hb hby d10_5)
  obtain ⟨cq3, kq3, q3a, q3b, q3c⟩ := isOf hZ e2 E_x
  obtain ⟨_, _, ⟨T3, L3, k3, n3⟩, -, X3, ⟨Lc3, hQ3, l3, y3, z3⟩, st3⟩ := X2.virtualBack hx (y := (⟨"java/lang/String", "length", "()I"⟩ : MethodName)) (z := (⟨"java/lang/String", "length", "()I"⟩ : MethodName)) hown (mvT hZ (hw _ (List.mem_of_getElem? (i := 62) rfl))) (mvT hZ (hw _ (List.mem_of_getElem? (i := 63) rfl))) (notFace_of_selects (args := #[]) (mvT hZ (hw _ (List.mem_of_getElem? (i := 65) rfl)))) (mvT hZ (hw _ (List.mem_of_getElem? (i := 65) rfl))) (mvT hZ (hw _ (List.mem_of_getElem? (i := 64) rfl))) (by decide) (StrChars.Road.lenW (W := 1) hZ hwl (kI := 4) (hw _ (List.mem_of_getElem? (i := 9) rfl)) E_x V_x C_x K_x (StrChars.Road.codOf rfl fun c hc => (hp_x c hc).2) (own_up hp_x) (Sta.ext X00.2 O2) P5 (own_l4 hl_x) (by decide) (by decide)) q3a q3c (g := (mkF m 8 #[.val (.ref r)] [(.ref x), (.int (Int32.ofNat j))])) rfl (by rw [hml]; rfl) (Steps.refl _) (argsL := []) (rest := [(.int (Int32.ofNat j))]) (lenOf pd___I rfl) rfl (by show 2 * 0 + _ ≤ _; exact Nat.le_of_eq rfl) (hb hby d10_8) (fun _ _ => ⟨rfl, e2, (by decide : 0 + 0 ≤ _), (by decide : 0 + 0 ≤ _)⟩)
  dsimp only [Pt.U, Pt.locs, Pt.cells, Pt.slots] at X3 l3 y3 z3 st3 hQ3
  subst l3 y3 z3
  obtain ⟨rfl, rfl, eq3⟩ := hQ3
  have N3 := Fr.app N0 (Fr.nil n0)
  obtain ⟨T4, X4, e4, st4⟩ := getF X3 hx hZ hown (host := "") (Or.inl (hw _ (List.mem_of_getElem? (i := 51) rfl))) Via.refl eq3 F_text_r (g := (mkF m 15 #[.val (.ref r)] [(.ref r)])) rfl rfl (hb hby d10_15)
  obtain ⟨T5, X5, e5, st5⟩ := getF X4 hx hZ hown (host := "") (Or.inl (hw _ (List.mem_of_getElem? (i := 60) rfl))) Via.refl e4 F_position_r (g := (mkF m 19 #[.val (.ref r)] [(.ref r), (.ref x)])) rfl rfl (hb hby d10_19)
  obtain ⟨cq6, kq6, q6a, q6b, q6c⟩ := isOf hZ e5 E_x
  obtain ⟨_, _, ⟨T6, L6, k6, n6⟩, -, X6, ⟨Lc6, hQ6, l6, y6, z6⟩, st6⟩ := X5.virtualBack hx (y := (⟨"java/lang/String", "charAt", "(I)C"⟩ : MethodName)) (z := (⟨"java/lang/String", "charAt", "(I)C"⟩ : MethodName)) hown (mvT hZ (hw _ (List.mem_of_getElem? (i := 90) rfl))) (mvT hZ (hw _ (List.mem_of_getElem? (i := 91) rfl))) (notFace_of_selects (args := #[]) (mvT hZ (hw _ (List.mem_of_getElem? (i := 93) rfl)))) (mvT hZ (hw _ (List.mem_of_getElem? (i := 93) rfl))) (mvT hZ (hw _ (List.mem_of_getElem? (i := 92) rfl))) (by decide) (StrChars.Road.chN (W := 0) hZ hwc (kI := 4) (hw _ (List.mem_of_getElem? (i := 9) rfl)) E_x V_x C_x K_x (StrChars.Road.codOf rfl fun c hc => (hp_x c hc).2) (own_up hp_x) (Sta.ext X00.2 O2) P5 (Sta.ext X00.2 O4) rG3 (own_l4 hl_x) (i := j) hj rfl (by decide) (by decide)) q6a q6c (g := (mkF m 22 #[.val (.ref r)] [(.int (Int32.ofNat j)), (.ref x)])) rfl (by rw [hml]; rfl) (Steps.refl _) (argsL := [(.int (Int32.ofNat j))]) (rest := []) (lenOf pd__I_C rfl) rfl (by show 2 * 0 + _ ≤ _; exact Nat.le_of_eq rfl) (hb hby d10_22) (fun _ _ => ⟨rfl, e5, (by decide : 0 + 0 ≤ _), (by decide : 0 + 0 ≤ _)⟩)
  dsimp only [Pt.U, Pt.locs, Pt.cells, Pt.slots] at X6 l6 y6 z6 st6 hQ6
  subst l6 y6 z6
  obtain ⟨rfl, rfl, eq6⟩ := hQ6
  have N6 := Fr.app N3 (Fr.nil n0)
  obtain ⟨_, _, ⟨T7, L7, k7, n7⟩, -, X7, ⟨Lc7, hQ7, l7, y7, z7⟩, st7⟩ := Jvm.LawKit.callS X6 hx (y := (⟨"com/example/atomize/atomize/http/FieldValueReader", "isSpace", "(C)Z"⟩ : MethodName)) hown (mvT hZ (hw _ (List.mem_of_getElem? (i := 112) rfl))) (mvT hZ (hw _ (List.mem_of_getElem? (i := 113) rfl))) (mvT hZ (hw _ (List.mem_of_getElem? (i := 42) rfl))) (mvT hZ (hw _ (List.mem_of_getElem? (i := 114) rfl))) (by decide) (backOf (W := 0) (rmSP l Z a0 hw [] (cs.getD j 0) h0 n0 Z0) hZ (hw _ (List.mem_of_getElem? (i := 114) rfl)) (hw _ (List.mem_of_getElem? (i := 42) rfl)) (by decide) (by decide)) (g := (mkF m 25 #[.val (.ref r)] [(.int (cs.getD j 0))])) rfl (by rw [hml]; rfl) (argsL := [(.int (cs.getD j 0))]) (rest := []) (lenOf pd__C_Z rfl) rfl (by show 2 * 0 + _ ≤ _; exact Nat.le_of_eq rfl) (hb hby d10_25) (fun _ _ => ⟨rfl, eq6, (by decide : 0 + 0 ≤ _), (by decide : 0 + 0 ≤ _)⟩)
  dsimp only [Pt.U, Pt.locs, Pt.cells, Pt.slots] at X7 l7 y7 z7 st7 hQ7
  subst l7 y7 z7
  obtain ⟨rfl, Nq7, eq7⟩ := hQ7
  have N7 := Fr.app N6 Nq7
  obtain ⟨T8, X8, e8, st8⟩ := getF X7 hx hZ hown (host := "") (Or.inl (hw _ (List.mem_of_getElem? (i := 60) rfl))) Via.refl eq7 F_position_r (g := (mkF m 49 #[.val (.ref r)] [(.ref r), (.ref r)])) rfl rfl (hb hby d10_49)
  obtain ⟨T9, h9, X9, e9, W9, st9⟩ := putF X8 hx hZ hown (host := "") (Or.inl (hw _ (List.mem_of_getElem? (i := 60) rfl))) Via.refl e8 F_position_r E_r (Or.inl (hw _ (List.mem_of_getElem? (i := 61) rfl))) (hw _ (List.mem_of_getElem? (i := 41) rfl)) (ty := .int) (by decide) rfl rfl (g := (mkF m 54 #[.val (.ref r)] [(.int (Int32.ofNat (j + 1))), (.ref r)])) rfl rfl (hb hby d10_54)
  have Fw9 := F_position_r.same W9
  have N9 := Fr.snoc X9 N7 g_r
  have f10 := (X00.wr W9 g_r)
  have f11 := (E_r.wr W9)
  have f12 := (F_text_r.other W9 (Or.inr (slot_ne (Or.inr (hw _ (List.mem_of_getElem? (i := 52) rfl))) (Or.inl (hw _ (List.mem_of_getElem? (i := 61) rfl))) (by decide) (t := (.object "java/lang/String")) (t' := .int) (by decide) (by decide))))
  have f13 := (E_x.wr W9)
  have f14 := (C_x.other W9 (Or.inl (Exa.ne E_x E_r (by decide))))
  have f15 := (V_x.other W9 (Or.inl (Exa.ne E_x E_r (by decide))))
  have f16 := (K_x.other W9 (Ne.symm (Exa.neArv E_r K_x (hw _ (List.mem_of_getElem? (i := 41) rfl)))))
  refine ⟨T9, h9, _, X9, e9, N9, (Nat.le_trans Z0 (Keep.of_wr W9).1), f10, ((Keep.refl h0 [r]).wr W9 (Or.inl (List.mem_of_getElem? (i := 0) rfl))), f11, f12, Fw9, ⟨b_x, k_x, f13, f14, f15, f16, hp_x, hl_x⟩, fun target kt => ?_⟩
  show Steps p.tables e below (s₁.setTop (mkF m 0 #[.val (.ref r)] [])) _
  refine XS.aloadN X0.here hx rfl (hb hby d10_0) rfl rfl ?_
  show Steps p.tables e below (s₁.setTop (mkF m 1 #[.val (.ref r)] [(.ref r)])) _
  refine st1 _ ?_
  show Steps p.tables e below (T1.setTop (mkF m 4 #[.val (.ref r)] [(.int (Int32.ofNat j))])) _
  refine XS.aloadN X1.here hx rfl (hb hby d10_4) rfl rfl ?_
  show Steps p.tables e below (T1.setTop (mkF m 5 #[.val (.ref r)] [(.ref r), (.int (Int32.ofNat j))])) _
  refine st2 _ ?_
  show Steps p.tables e below (T2.setTop (mkF m 8 #[.val (.ref r)] [(.ref x), (.int (Int32.ofNat j))])) _
  refine st3.trans ?_
  show Steps p.tables e below (T3.setTop (mkF m 11 #[.val (.ref r)] [(.int (Int32.ofNat cs.length)), (.int (Int32.ofNat j))])) _
  refine XS.icmpNo X3.here hx rfl (hb hby d10_11) rfl (tlt ((own_lt (by omega) (by omega)).mpr hj)).2.1 ?_
  refine XS.aloadN X3.here hx rfl (hb hby d10_14) rfl rfl ?_
  show Steps p.tables e below (T3.setTop (mkF m 15 #[.val (.ref r)] [(.ref r)])) _
  refine st4 _ ?_
  show Steps p.tables e below (T4.setTop (mkF m 18 #[.val (.ref r)] [(.ref x)])) _
  refine XS.aloadN X4.here hx rfl (hb hby d10_18) rfl rfl ?_
  show Steps p.tables e below (T4.setTop (mkF m 19 #[.val (.ref r)] [(.ref r), (.ref x)])) _
  refine st5 _ ?_
  show Steps p.tables e below (T5.setTop (mkF m 22 #[.val (.ref r)] [(.int (Int32.ofNat j)), (.ref x)])) _
  refine st6.trans ?_
  show Steps p.tables e below (T6.setTop (mkF m 25 #[.val (.ref r)] [(.int (cs.getD j 0))])) _
  refine st7 _ ?_
  show Steps p.tables e below (T7.setTop (mkF m 28 #[.val (.ref r)] [(.int (own_sp (cs.getD j 0)))])) _
  refine XS.ifYes X7.here hx rfl (pc0 := 28) (pc' := 47) rfl (hb hby d10_28) rfl ((if0 _ _).trans (feq h1).2) (by decide) (by decide) ?_
  refine XS.aloadN X7.here hx rfl (hb hby d10_47) rfl rfl ?_
  refine XS.dup X7.here hx rfl (hb hby d10_48) rfl rfl ?_
  show Steps p.tables e below (T7.setTop (mkF m 49 #[.val (.ref r)] [(.ref r), (.ref r)])) _
  refine st8 _ ?_
  show Steps p.tables e below (T8.setTop (mkF m 52 #[.val (.ref r)] [(.int (Int32.ofNat j)), (.ref r)])) _
  refine XS.iconst X8.here hx rfl (hb hby d10_52) ?_
  refine XS.iadd X8.here hx rfl (hb hby d10_53) rfl ?_
  show Steps p.tables e below (T8.setTop (mkF m 54 #[.val (.ref r)] [(.int ((Int32.ofNat j) + (1 : Int32))), (.ref r)])) _
  rw [(own_succ j)]
  show Steps p.tables e below (T8.setTop (mkF m 54 #[.val (.ref r)] [(.int (Int32.ofNat (j + 1))), (.ref r)])) _
  refine st9 _ ?_
  show Steps p.tables e below (T9.setTop (mkF m 57 #[.val (.ref r)] [])) _
  refine XS.goto X9.here hx rfl (pc0 := 57) (pc' := 0) rfl (hb hby d10_57) (by decide) (by decide) ?_
  exact kt
set_option maxRecDepth 65536 in
set_option maxHeartbeats 40000000 in
theorem neW_com {p : Program} {l : Launch} {e : Env} {s : State} {m : MethodId} {args : Array Value} {below : List Frame} {meth : Method} {c : Code} {s₁ : State} {L0 : List Loc} {Z : State} {a0 : Array Value} (G1 : Int32) (G3 : Value) (r : Addr) (x : Addr) (cs : List Int32) (j : Nat) (h0 : Heap) (n0 : Nat) (X0 : Stand p l e ({ frames := 4, cells := 0, slots := 0, locals := 53 } : Room) s m args below meth c s₁ L0 0 0) (hx : p.tables.exec = Jvm.exec) (hZ : Z.Warmed39 s.vm) (hw : ∀ d ∈ tables_1, d.before a0 Z = true) (hby : c.code = prog_5_method_2_code) (hml : c.maxLocals = 1) (hown : s.vm.findClass "com/example/atomize/atomize/http/FieldValueReader" = some m.cls) (e0 : s₁.heap = h0) (N0 : Fr n0 L0) (Z0 : n0 ≤ h0.size) (EN : own_env Z G1 G3) (X00 : Old Z n0 h0) (E_r : Exa Z h0 r "com/example/atomize/atomize/http/FieldValueReader") (F_text_r : Fld Z h0 r "com/example/atomize/atomize/http/FieldValueReader" "text" "Ljava/lang/String;" (.ref x)) (F_position_r : Fld Z h0 r "com/example/atomize/atomize/http/FieldValueReader" "position" "I" (.int (Int32.ofNat j))) (g_r : n0 ≤ r) (S_x : own_s Z h0 x cs) (hj : j < cs.length) (h1 : (own_sp (cs.getD j 0)) = (0 : Int32)) (h2 : (cs.getD j 0) = (44 : Int32)) :
    ∃ (T' : State) (h' : Heap) (L' : List Loc) , Stand p l e ({ frames := 4, cells := 0, slots := 0, locals := 53 } : Room) s m args below meth c T' L' 0 0 ∧ T'.heap = h' ∧ Fr n0 L' ∧ n0 ≤ h'.size ∧ Old Z n0 h' ∧ Keep h0 h' [r] ∧ Exa Z h' r "com/example/atomize/atomize/http/FieldValueReader" ∧ Fld Z h' r "com/example/atomize/atomize/http/FieldValueReader" "text" "Ljava/lang/String;" (.ref x) ∧ Fld Z h' r "com/example/atomize/atomize/http/FieldValueReader" "position" "I" (.int (Int32.ofNat (j + 1))) ∧ own_s Z h' x cs ∧ 
      ∀ target, Steps p.tables e below (T'.setTop (mkF m 0 #[.val (.ref r)] [])) target → Steps p.tables e below (s₁.setTop (mkF m 0 #[.val (.ref r)] [])) target := by
  have EN0 := EN
  obtain ⟨O2, P5, O4, rG3⟩ := EN
  have hws : ∀ d ∈ StrChars.Road.words, d.before a0 Z = true := fun d hd => hw d (own_w1 d hd)
  have hwl : ∀ d ∈ StrChars.Road.wordsLen, d.before a0 Z = true := fun d hd => hw d (own_w2 d hd)
  have hwc : ∀ d ∈ StrChars.Road.wordsChN, d.before a0 Z = true := fun d hd => hw d (own_w3 d hd)
  obtain ⟨b_x, k_x, E_x, C_x, V_x, K_x, hp_x, hl_x⟩ := id S_x
  obtain ⟨T1, X1, e1, st1⟩ := getF X0 hx hZ hown (host := "") (Or.inl (hw _ (List.mem_of_getElem? (i := 60) rfl))) Via.refl e0 F_position_r (g := (mkF m 1 #[.val (.ref r)] [(.ref r)])) rfl rfl (hb hby d10_1)
  obtain ⟨T2, X2, e2, st2⟩ := getF X1 hx hZ hown (host := "") (Or.inl (hw _ (List.mem_of_getElem? (i := 51) rfl))) Via.refl e1 F_text_r (g := (mkF m 5 #[.val (.ref r)] [(.ref r), (.int (Int32.ofNat j))])) rfl rfl (hb hby d10_5)
  obtain ⟨cq3, kq3, q3a, q3b, q3c⟩ := isOf hZ e2 E_x
  obtain ⟨_, _, ⟨T3, L3, k3, n3⟩, -, X3, ⟨Lc3, hQ3, l3, y3, z3⟩, st3⟩ := X2.virtualBack hx (y := (⟨"java/lang/String", "length", "()I"⟩ : MethodName)) (z := (⟨"java/lang/String", "length", "()I"⟩ : MethodName)) hown (mvT hZ (hw _ (List.mem_of_getElem? (i := 62) rfl))) (mvT hZ (hw _ (List.mem_of_getElem? (i := 63) rfl))) (notFace_of_selects (args := #[]) (mvT hZ (hw _ (List.mem_of_getElem? (i := 65) rfl)))) (mvT hZ (hw _ (List.mem_of_getElem? (i := 65) rfl))) (mvT hZ (hw _ (List.mem_of_getElem? (i := 64) rfl))) (by decide) (StrChars.Road.lenW (W := 1) hZ hwl (kI := 4) (hw _ (List.mem_of_getElem? (i := 9) rfl)) E_x V_x C_x K_x (StrChars.Road.codOf rfl fun c hc => (hp_x c hc).2) (own_up hp_x) (Sta.ext X00.2 O2) P5 (own_l4 hl_x) (by decide) (by decide)) q3a q3c (g := (mkF m 8 #[.val (.ref r)] [(.ref x), (.int (Int32.ofNat j))])) rfl (by rw [hml]; rfl) (Steps.refl _) (argsL := []) (rest := [(.int (Int32.ofNat j))]) (lenOf pd___I rfl) rfl (by show 2 * 0 + _ ≤ _; exact Nat.le_of_eq rfl) (hb hby d10_8) (fun _ _ => ⟨rfl, e2, (by decide : 0 + 0 ≤ _), (by decide : 0 + 0 ≤ _)⟩)
  dsimp only [Pt.U, Pt.locs, Pt.cells, Pt.slots] at X3 l3 y3 z3 st3 hQ3
  subst l3 y3 z3
  obtain ⟨rfl, rfl, eq3⟩ := hQ3
  have N3 := Fr.app N0 (Fr.nil n0)
  obtain ⟨T4, X4, e4, st4⟩ := getF X3 hx hZ hown (host := "") (Or.inl (hw _ (List.mem_of_getElem? (i := 51) rfl))) Via.refl eq3 F_text_r (g := (mkF m 15 #[.val (.ref r)] [(.ref r)])) rfl rfl (hb hby d10_15)
  obtain ⟨T5, X5, e5, st5⟩ := getF X4 hx hZ hown (host := "") (Or.inl (hw _ (List.mem_of_getElem? (i := 60) rfl))) Via.refl e4 F_position_r (g := (mkF m 19 #[.val (.ref r)] [(.ref r), (.ref x)])) rfl rfl (hb hby d10_19)
  obtain ⟨cq6, kq6, q6a, q6b, q6c⟩ := isOf hZ e5 E_x
  obtain ⟨_, _, ⟨T6, L6, k6, n6⟩, -, X6, ⟨Lc6, hQ6, l6, y6, z6⟩, st6⟩ := X5.virtualBack hx (y := (⟨"java/lang/String", "charAt", "(I)C"⟩ : MethodName)) (z := (⟨"java/lang/String", "charAt", "(I)C"⟩ : MethodName)) hown (mvT hZ (hw _ (List.mem_of_getElem? (i := 90) rfl))) (mvT hZ (hw _ (List.mem_of_getElem? (i := 91) rfl))) (notFace_of_selects (args := #[]) (mvT hZ (hw _ (List.mem_of_getElem? (i := 93) rfl)))) (mvT hZ (hw _ (List.mem_of_getElem? (i := 93) rfl))) (mvT hZ (hw _ (List.mem_of_getElem? (i := 92) rfl))) (by decide) (StrChars.Road.chN (W := 0) hZ hwc (kI := 4) (hw _ (List.mem_of_getElem? (i := 9) rfl)) E_x V_x C_x K_x (StrChars.Road.codOf rfl fun c hc => (hp_x c hc).2) (own_up hp_x) (Sta.ext X00.2 O2) P5 (Sta.ext X00.2 O4) rG3 (own_l4 hl_x) (i := j) hj rfl (by decide) (by decide)) q6a q6c (g := (mkF m 22 #[.val (.ref r)] [(.int (Int32.ofNat j)), (.ref x)])) rfl (by rw [hml]; rfl) (Steps.refl _) (argsL := [(.int (Int32.ofNat j))]) (rest := []) (lenOf pd__I_C rfl) rfl (by show 2 * 0 + _ ≤ _; exact Nat.le_of_eq rfl) (hb hby d10_22) (fun _ _ => ⟨rfl, e5, (by decide : 0 + 0 ≤ _), (by decide : 0 + 0 ≤ _)⟩)
  dsimp only [Pt.U, Pt.locs, Pt.cells, Pt.slots] at X6 l6 y6 z6 st6 hQ6
  subst l6 y6 z6
  obtain ⟨rfl, rfl, eq6⟩ := hQ6
  have N6 := Fr.app N3 (Fr.nil n0)
  obtain ⟨_, _, ⟨T7, L7, k7, n7⟩, -, X7, ⟨Lc7, hQ7, l7, y7, z7⟩, st7⟩ := Jvm.LawKit.callS X6 hx (y := (⟨"com/example/atomize/atomize/http/FieldValueReader", "isSpace", "(C)Z"⟩ : MethodName)) hown (mvT hZ (hw _ (List.mem_of_getElem? (i := 112) rfl))) (mvT hZ (hw _ (List.mem_of_getElem? (i := 113) rfl))) (mvT hZ (hw _ (List.mem_of_getElem? (i := 42) rfl))) (mvT hZ (hw _ (List.mem_of_getElem? (i := 114) rfl))) (by decide) (backOf (W := 0) (rmSP l Z a0 hw [] (cs.getD j 0) h0 n0 Z0) hZ (hw _ (List.mem_of_getElem? (i := 114) rfl)) (hw _ (List.mem_of_getElem? (i := 42) rfl)) (by decide) (by decide)) (g := (mkF m 25 #[.val (.ref r)] [(.int (cs.getD j 0))])) rfl (by rw [hml]; rfl) (argsL := [(.int (cs.getD j 0))]) (rest := []) (lenOf pd__C_Z rfl) rfl (by show 2 * 0 + _ ≤ _; exact Nat.le_of_eq rfl) (hb hby d10_25) (fun _ _ => ⟨rfl, eq6, (by decide : 0 + 0 ≤ _), (by decide : 0 + 0 ≤ _)⟩)
  dsimp only [Pt.U, Pt.locs, Pt.cells, Pt.slots] at X7 l7 y7 z7 st7 hQ7
  subst l7 y7 z7
  obtain ⟨rfl, Nq7, eq7⟩ := hQ7
  have N7 := Fr.app N6 Nq7
  obtain ⟨T8, X8, e8, st8⟩ := getF X7 hx hZ hown (host := "") (Or.inl (hw _ (List.mem_of_getElem? (i := 51) rfl))) Via.refl eq7 F_text_r (g := (mkF m 32 #[.val (.ref r)] [(.ref r)])) rfl rfl (hb hby d10_32)
  obtain ⟨T9, X9, e9, st9⟩ := getF X8 hx hZ hown (host := "") (Or.inl (hw _ (List.mem_of_getElem? (i := 60) rfl))) Via.refl e8 F_position_r (g := (mkF m 36 #[.val (.ref r)] [(.ref r), (.ref x)])) rfl rfl (hb hby d10_36)
  obtain ⟨cq10, kq10, q10a, q10b, q10c⟩ := isOf hZ e9 E_x
  obtain ⟨_, _, ⟨T10, L10, k10, n10⟩, -, X10, ⟨Lc10, hQ10, l10, y10, z10⟩, st10⟩ := X9.virtualBack hx (y := (⟨"java/lang/String", "charAt", "(I)C"⟩ : MethodName)) (z := (⟨"java/lang/String", "charAt", "(I)C"⟩ : MethodName)) hown (mvT hZ (hw _ (List.mem_of_getElem? (i := 90) rfl))) (mvT hZ (hw _ (List.mem_of_getElem? (i := 91) rfl))) (notFace_of_selects (args := #[]) (mvT hZ (hw _ (List.mem_of_getElem? (i := 93) rfl)))) (mvT hZ (hw _ (List.mem_of_getElem? (i := 93) rfl))) (mvT hZ (hw _ (List.mem_of_getElem? (i := 92) rfl))) (by decide) (StrChars.Road.chN (W := 0) hZ hwc (kI := 4) (hw _ (List.mem_of_getElem? (i := 9) rfl)) E_x V_x C_x K_x (StrChars.Road.codOf rfl fun c hc => (hp_x c hc).2) (own_up hp_x) (Sta.ext X00.2 O2) P5 (Sta.ext X00.2 O4) rG3 (own_l4 hl_x) (i := j) hj rfl (by decide) (by decide)) q10a q10c (g := (mkF m 39 #[.val (.ref r)] [(.int (Int32.ofNat j)), (.ref x)])) rfl (by rw [hml]; rfl) (Steps.refl _) (argsL := [(.int (Int32.ofNat j))]) (rest := []) (lenOf pd__I_C rfl) rfl (by show 2 * 0 + _ ≤ _; exact Nat.le_of_eq rfl) (hb hby d10_39) (fun _ _ => ⟨rfl, e9, (by decide : 0 + 0 ≤ _), (by decide : 0 + 0 ≤ _)⟩)
  dsimp only [Pt.U, Pt.locs, Pt.cells, Pt.slots] at X10 l10 y10 z10 st10 hQ10
  subst l10 y10 z10
  obtain ⟨rfl, rfl, eq10⟩ := hQ10
  have N10 := Fr.app N7 (Fr.nil n0)
  obtain ⟨T11, X11, e11, st11⟩ := getF X10 hx hZ hown (host := "") (Or.inl (hw _ (List.mem_of_getElem? (i := 60) rfl))) Via.refl eq10 F_position_r (g := (mkF m 49 #[.val (.ref r)] [(.ref r), (.ref r)])) rfl rfl (hb hby d10_49)
  obtain ⟨T12, h12, X12, e12, W12, st12⟩ := putF X11 hx hZ hown (host := "") (Or.inl (hw _ (List.mem_of_getElem? (i := 60) rfl))) Via.refl e11 F_position_r E_r (Or.inl (hw _ (List.mem_of_getElem? (i := 61) rfl))) (hw _ (List.mem_of_getElem? (i := 41) rfl)) (ty := .int) (by decide) rfl rfl (g := (mkF m 54 #[.val (.ref r)] [(.int (Int32.ofNat (j + 1))), (.ref r)])) rfl rfl (hb hby d10_54)
  have Fw12 := F_position_r.same W12
  have N12 := Fr.snoc X12 N10 g_r
  have f13 := (X00.wr W12 g_r)
  have f14 := (E_r.wr W12)
  have f15 := (F_text_r.other W12 (Or.inr (slot_ne (Or.inr (hw _ (List.mem_of_getElem? (i := 52) rfl))) (Or.inl (hw _ (List.mem_of_getElem? (i := 61) rfl))) (by decide) (t := (.object "java/lang/String")) (t' := .int) (by decide) (by decide))))
  have f16 := (E_x.wr W12)
  have f17 := (C_x.other W12 (Or.inl (Exa.ne E_x E_r (by decide))))
  have f18 := (V_x.other W12 (Or.inl (Exa.ne E_x E_r (by decide))))
  have f19 := (K_x.other W12 (Ne.symm (Exa.neArv E_r K_x (hw _ (List.mem_of_getElem? (i := 41) rfl)))))
  refine ⟨T12, h12, _, X12, e12, N12, (Nat.le_trans Z0 (Keep.of_wr W12).1), f13, ((Keep.refl h0 [r]).wr W12 (Or.inl (List.mem_of_getElem? (i := 0) rfl))), f14, f15, Fw12, ⟨b_x, k_x, f16, f17, f18, f19, hp_x, hl_x⟩, fun target kt => ?_⟩
  show Steps p.tables e below (s₁.setTop (mkF m 0 #[.val (.ref r)] [])) _
  refine XS.aloadN X0.here hx rfl (hb hby d10_0) rfl rfl ?_
  show Steps p.tables e below (s₁.setTop (mkF m 1 #[.val (.ref r)] [(.ref r)])) _
  refine st1 _ ?_
  show Steps p.tables e below (T1.setTop (mkF m 4 #[.val (.ref r)] [(.int (Int32.ofNat j))])) _
  refine XS.aloadN X1.here hx rfl (hb hby d10_4) rfl rfl ?_
  show Steps p.tables e below (T1.setTop (mkF m 5 #[.val (.ref r)] [(.ref r), (.int (Int32.ofNat j))])) _
  refine st2 _ ?_
  show Steps p.tables e below (T2.setTop (mkF m 8 #[.val (.ref r)] [(.ref x), (.int (Int32.ofNat j))])) _
  refine st3.trans ?_
  show Steps p.tables e below (T3.setTop (mkF m 11 #[.val (.ref r)] [(.int (Int32.ofNat cs.length)), (.int (Int32.ofNat j))])) _
  refine XS.icmpNo X3.here hx rfl (hb hby d10_11) rfl (tlt ((own_lt (by omega) (by omega)).mpr hj)).2.1 ?_
  refine XS.aloadN X3.here hx rfl (hb hby d10_14) rfl rfl ?_
  show Steps p.tables e below (T3.setTop (mkF m 15 #[.val (.ref r)] [(.ref r)])) _
  refine st4 _ ?_
  show Steps p.tables e below (T4.setTop (mkF m 18 #[.val (.ref r)] [(.ref x)])) _
  refine XS.aloadN X4.here hx rfl (hb hby d10_18) rfl rfl ?_
  show Steps p.tables e below (T4.setTop (mkF m 19 #[.val (.ref r)] [(.ref r), (.ref x)])) _
  refine st5 _ ?_
  show Steps p.tables e below (T5.setTop (mkF m 22 #[.val (.ref r)] [(.int (Int32.ofNat j)), (.ref x)])) _
  refine st6.trans ?_
  show Steps p.tables e below (T6.setTop (mkF m 25 #[.val (.ref r)] [(.int (cs.getD j 0))])) _
  refine st7 _ ?_
  show Steps p.tables e below (T7.setTop (mkF m 28 #[.val (.ref r)] [(.int (own_sp (cs.getD j 0)))])) _
  refine XS.ifNo X7.here hx rfl (hb hby d10_28) rfl ((if0 _ _).trans (teq h1).2) ?_
  refine XS.aloadN X7.here hx rfl (hb hby d10_31) rfl rfl ?_
  show Steps p.tables e below (T7.setTop (mkF m 32 #[.val (.ref r)] [(.ref r)])) _
  refine st8 _ ?_
  show Steps p.tables e below (T8.setTop (mkF m 35 #[.val (.ref r)] [(.ref x)])) _
  refine XS.aloadN X8.here hx rfl (hb hby d10_35) rfl rfl ?_
  show Steps p.tables e below (T8.setTop (mkF m 36 #[.val (.ref r)] [(.ref r), (.ref x)])) _
  refine st9 _ ?_
  show Steps p.tables e below (T9.setTop (mkF m 39 #[.val (.ref r)] [(.int (Int32.ofNat j)), (.ref x)])) _
  refine st10.trans ?_
  show Steps p.tables e below (T10.setTop (mkF m 42 #[.val (.ref r)] [(.int (cs.getD j 0))])) _
  refine XS.bipush X10.here hx rfl (hb hby d10_42) ?_
  refine XS.icmpNo X10.here hx rfl (hb hby d10_44) rfl (teq h2).2 ?_
  refine XS.aloadN X10.here hx rfl (hb hby d10_47) rfl rfl ?_
  refine XS.dup X10.here hx rfl (hb hby d10_48) rfl rfl ?_
  show Steps p.tables e below (T10.setTop (mkF m 49 #[.val (.ref r)] [(.ref r), (.ref r)])) _
  refine st11 _ ?_
  show Steps p.tables e below (T11.setTop (mkF m 52 #[.val (.ref r)] [(.int (Int32.ofNat j)), (.ref r)])) _
  refine XS.iconst X11.here hx rfl (hb hby d10_52) ?_
  refine XS.iadd X11.here hx rfl (hb hby d10_53) rfl ?_
  show Steps p.tables e below (T11.setTop (mkF m 54 #[.val (.ref r)] [(.int ((Int32.ofNat j) + (1 : Int32))), (.ref r)])) _
  rw [(own_succ j)]
  show Steps p.tables e below (T11.setTop (mkF m 54 #[.val (.ref r)] [(.int (Int32.ofNat (j + 1))), (.ref r)])) _
  refine st12 _ ?_
  show Steps p.tables e below (T12.setTop (mkF m 57 #[.val (.ref r)] [])) _
  refine XS.goto X12.here hx rfl (pc0 := 57) (pc' := 0) rfl (hb hby d10_57) (by decide) (by decide) ?_
  exact kt
set_option maxRecDepth 65536 in
set_option maxHeartbeats 40000000 in
theorem neW_no {p : Program} {l : Launch} {e : Env} {s : State} {m : MethodId} {args : Array Value} {below : List Frame} {meth : Method} {c : Code} {s₁ : State} {L0 : List Loc} {Z : State} {a0 : Array Value} (G1 : Int32) (G3 : Value) (r : Addr) (x : Addr) (cs : List Int32) (j : Nat) (h0 : Heap) (n0 : Nat) (X0 : Stand p l e ({ frames := 4, cells := 0, slots := 0, locals := 53 } : Room) s m args below meth c s₁ L0 0 0) (hx : p.tables.exec = Jvm.exec) (hZ : Z.Warmed39 s.vm) (hw : ∀ d ∈ tables_1, d.before a0 Z = true) (hby : c.code = prog_5_method_2_code) (hml : c.maxLocals = 1) (hown : s.vm.findClass "com/example/atomize/atomize/http/FieldValueReader" = some m.cls) (e0 : s₁.heap = h0) (N0 : Fr n0 L0) (Z0 : n0 ≤ h0.size) (EN : own_env Z G1 G3) (X00 : Old Z n0 h0) (E_r : Exa Z h0 r "com/example/atomize/atomize/http/FieldValueReader") (F_text_r : Fld Z h0 r "com/example/atomize/atomize/http/FieldValueReader" "text" "Ljava/lang/String;" (.ref x)) (F_position_r : Fld Z h0 r "com/example/atomize/atomize/http/FieldValueReader" "position" "I" (.int (Int32.ofNat j))) (g_r : n0 ≤ r) (S_x : own_s Z h0 x cs) (hj : j < cs.length) (h1 : (own_sp (cs.getD j 0)) = (0 : Int32)) (h2 : ¬ ((cs.getD j 0) = (44 : Int32))) :
    ∃ (T' : State) (h' : Heap) (L' : List Loc) , Stand p l e ({ frames := 4, cells := 0, slots := 0, locals := 53 } : Room) s m args below meth c T' L' 0 0 ∧ T'.heap = h' ∧ Fr n0 L' ∧ n0 ≤ h'.size ∧ Old Z n0 h' ∧ Keep h0 h' [r] ∧ Exa Z h' r "com/example/atomize/atomize/http/FieldValueReader" ∧ Fld Z h' r "com/example/atomize/atomize/http/FieldValueReader" "text" "Ljava/lang/String;" (.ref x) ∧ Fld Z h' r "com/example/atomize/atomize/http/FieldValueReader" "position" "I" (.int (Int32.ofNat j)) ∧ own_s Z h' x cs ∧ 
      ∀ target, Steps p.tables e below (T'.setTop (mkF m 60 #[.val (.ref r)] [])) target → Steps p.tables e below (s₁.setTop (mkF m 0 #[.val (.ref r)] [])) target := by
  have EN0 := EN
  obtain ⟨O2, P5, O4, rG3⟩ := EN
  have hws : ∀ d ∈ StrChars.Road.words, d.before a0 Z = true := fun d hd => hw d (own_w1 d hd)
  have hwl : ∀ d ∈ StrChars.Road.wordsLen, d.before a0 Z = true := fun d hd => hw d (own_w2 d hd)
  have hwc : ∀ d ∈ StrChars.Road.wordsChN, d.before a0 Z = true := fun d hd => hw d (own_w3 d hd)
  obtain ⟨b_x, k_x, E_x, C_x, V_x, K_x, hp_x, hl_x⟩ := id S_x
  obtain ⟨T1, X1, e1, st1⟩ := getF X0 hx hZ hown (host := "") (Or.inl (hw _ (List.mem_of_getElem? (i := 60) rfl))) Via.refl e0 F_position_r (g := (mkF m 1 #[.val (.ref r)] [(.ref r)])) rfl rfl (hb hby d10_1)
  obtain ⟨T2, X2, e2, st2⟩ := getF X1 hx hZ hown (host := "") (Or.inl (hw _ (List.mem_of_getElem? (i := 51) rfl))) Via.refl e1 F_text_r (g := (mkF m 5 #[.val (.ref r)] [(.ref r), (.int (Int32.ofNat j))])) rfl rfl (hb hby d10_5)
  obtain ⟨cq3, kq3, q3a, q3b, q3c⟩ := isOf hZ e2 E_x
  obtain ⟨_, _, ⟨T3, L3, k3, n3⟩, -, X3, ⟨Lc3, hQ3, l3, y3, z3⟩, st3⟩ := X2.virtualBack hx (y := (⟨"java/lang/String", "length", "()I"⟩ : MethodName)) (z := (⟨"java/lang/String", "length", "()I"⟩ : MethodName)) hown (mvT hZ (hw _ (List.mem_of_getElem? (i := 62) rfl))) (mvT hZ (hw _ (List.mem_of_getElem? (i := 63) rfl))) (notFace_of_selects (args := #[]) (mvT hZ (hw _ (List.mem_of_getElem? (i := 65) rfl)))) (mvT hZ (hw _ (List.mem_of_getElem? (i := 65) rfl))) (mvT hZ (hw _ (List.mem_of_getElem? (i := 64) rfl))) (by decide) (StrChars.Road.lenW (W := 1) hZ hwl (kI := 4) (hw _ (List.mem_of_getElem? (i := 9) rfl)) E_x V_x C_x K_x (StrChars.Road.codOf rfl fun c hc => (hp_x c hc).2) (own_up hp_x) (Sta.ext X00.2 O2) P5 (own_l4 hl_x) (by decide) (by decide)) q3a q3c (g := (mkF m 8 #[.val (.ref r)] [(.ref x), (.int (Int32.ofNat j))])) rfl (by rw [hml]; rfl) (Steps.refl _) (argsL := []) (rest := [(.int (Int32.ofNat j))]) (lenOf pd___I rfl) rfl (by show 2 * 0 + _ ≤ _; exact Nat.le_of_eq rfl) (hb hby d10_8) (fun _ _ => ⟨rfl, e2, (by decide : 0 + 0 ≤ _), (by decide : 0 + 0 ≤ _)⟩)
  dsimp only [Pt.U, Pt.locs, Pt.cells, Pt.slots] at X3 l3 y3 z3 st3 hQ3
  subst l3 y3 z3
  obtain ⟨rfl, rfl, eq3⟩ := hQ3
  have N3 := Fr.app N0 (Fr.nil n0)
  obtain ⟨T4, X4, e4, st4⟩ := getF X3 hx hZ hown (host := "") (Or.inl (hw _ (List.mem_of_getElem? (i := 51) rfl))) Via.refl eq3 F_text_r (g := (mkF m 15 #[.val (.ref r)] [(.ref r)])) rfl rfl (hb hby d10_15)
  obtain ⟨T5, X5, e5, st5⟩ := getF X4 hx hZ hown (host := "") (Or.inl (hw _ (List.mem_of_getElem? (i := 60) rfl))) Via.refl e4 F_position_r (g := (mkF m 19 #[.val (.ref r)] [(.ref r), (.ref x)])) rfl rfl (hb hby d10_19)
  obtain ⟨cq6, kq6, q6a, q6b, q6c⟩ := isOf hZ e5 E_x
  obtain ⟨_, _, ⟨T6, L6, k6, n6⟩, -, X6, ⟨Lc6, hQ6, l6, y6, z6⟩, st6⟩ := X5.virtualBack hx (y := (⟨"java/lang/String", "charAt", "(I)C"⟩ : MethodName)) (z := (⟨"java/lang/String", "charAt", "(I)C"⟩ : MethodName)) hown (mvT hZ (hw _ (List.mem_of_getElem? (i := 90) rfl))) (mvT hZ (hw _ (List.mem_of_getElem? (i := 91) rfl))) (notFace_of_selects (args := #[]) (mvT hZ (hw _ (List.mem_of_getElem? (i := 93) rfl)))) (mvT hZ (hw _ (List.mem_of_getElem? (i := 93) rfl))) (mvT hZ (hw _ (List.mem_of_getElem? (i := 92) rfl))) (by decide) (StrChars.Road.chN (W := 0) hZ hwc (kI := 4) (hw _ (List.mem_of_getElem? (i := 9) rfl)) E_x V_x C_x K_x (StrChars.Road.codOf rfl fun c hc => (hp_x c hc).2) (own_up hp_x) (Sta.ext X00.2 O2) P5 (Sta.ext X00.2 O4) rG3 (own_l4 hl_x) (i := j) hj rfl (by decide) (by decide)) q6a q6c (g := (mkF m 22 #[.val (.ref r)] [(.int (Int32.ofNat j)), (.ref x)])) rfl (by rw [hml]; rfl) (Steps.refl _) (argsL := [(.int (Int32.ofNat j))]) (rest := []) (lenOf pd__I_C rfl) rfl (by show 2 * 0 + _ ≤ _; exact Nat.le_of_eq rfl) (hb hby d10_22) (fun _ _ => ⟨rfl, e5, (by decide : 0 + 0 ≤ _), (by decide : 0 + 0 ≤ _)⟩)
  dsimp only [Pt.U, Pt.locs, Pt.cells, Pt.slots] at X6 l6 y6 z6 st6 hQ6
  subst l6 y6 z6
  obtain ⟨rfl, rfl, eq6⟩ := hQ6
  have N6 := Fr.app N3 (Fr.nil n0)
  obtain ⟨_, _, ⟨T7, L7, k7, n7⟩, -, X7, ⟨Lc7, hQ7, l7, y7, z7⟩, st7⟩ := Jvm.LawKit.callS X6 hx (y := (⟨"com/example/atomize/atomize/http/FieldValueReader", "isSpace", "(C)Z"⟩ : MethodName)) hown (mvT hZ (hw _ (List.mem_of_getElem? (i := 112) rfl))) (mvT hZ (hw _ (List.mem_of_getElem? (i := 113) rfl))) (mvT hZ (hw _ (List.mem_of_getElem? (i := 42) rfl))) (mvT hZ (hw _ (List.mem_of_getElem? (i := 114) rfl))) (by decide) (backOf (W := 0) (rmSP l Z a0 hw [] (cs.getD j 0) h0 n0 Z0) hZ (hw _ (List.mem_of_getElem? (i := 114) rfl)) (hw _ (List.mem_of_getElem? (i := 42) rfl)) (by decide) (by decide)) (g := (mkF m 25 #[.val (.ref r)] [(.int (cs.getD j 0))])) rfl (by rw [hml]; rfl) (argsL := [(.int (cs.getD j 0))]) (rest := []) (lenOf pd__C_Z rfl) rfl (by show 2 * 0 + _ ≤ _; exact Nat.le_of_eq rfl) (hb hby d10_25) (fun _ _ => ⟨rfl, eq6, (by decide : 0 + 0 ≤ _), (by decide : 0 + 0 ≤ _)⟩)
  dsimp only [Pt.U, Pt.locs, Pt.cells, Pt.slots] at X7 l7 y7 z7 st7 hQ7
  subst l7 y7 z7
  obtain ⟨rfl, Nq7, eq7⟩ := hQ7
  have N7 := Fr.app N6 Nq7
  obtain ⟨T8, X8, e8, st8⟩ := getF X7 hx hZ hown (host := "") (Or.inl (hw _ (List.mem_of_getElem? (i := 51) rfl))) Via.refl eq7 F_text_r (g := (mkF m 32 #[.val (.ref r)] [(.ref r)])) rfl rfl (hb hby d10_32)
  obtain ⟨T9, X9, e9, st9⟩ := getF X8 hx hZ hown (host := "") (Or.inl (hw _ (List.mem_of_getElem? (i := 60) rfl))) Via.refl e8 F_position_r (g := (mkF m 36 #[.val (.ref r)] [(.ref r), (.ref x)])) rfl rfl (hb hby d10_36)
  obtain ⟨cq10, kq10, q10a, q10b, q10c⟩ := isOf hZ e9 E_x
  obtain ⟨_, _, ⟨T10, L10, k10, n10⟩, -, X10, ⟨Lc10, hQ10, l10, y10, z10⟩, st10⟩ := X9.virtualBack hx (y := (⟨"java/lang/String", "charAt", "(I)C"⟩ : MethodName)) (z := (⟨"java/lang/String", "charAt", "(I)C"⟩ : MethodName)) hown (mvT hZ (hw _ (List.mem_of_getElem? (i := 90) rfl))) (mvT hZ (hw _ (List.mem_of_getElem? (i := 91) rfl))) (notFace_of_selects (args := #[]) (mvT hZ (hw _ (List.mem_of_getElem? (i := 93) rfl)))) (mvT hZ (hw _ (List.mem_of_getElem? (i := 93) rfl))) (mvT hZ (hw _ (List.mem_of_getElem? (i := 92) rfl))) (by decide) (StrChars.Road.chN (W := 0) hZ hwc (kI := 4) (hw _ (List.mem_of_getElem? (i := 9) rfl)) E_x V_x C_x K_x (StrChars.Road.codOf rfl fun c hc => (hp_x c hc).2) (own_up hp_x) (Sta.ext X00.2 O2) P5 (Sta.ext X00.2 O4) rG3 (own_l4 hl_x) (i := j) hj rfl (by decide) (by decide)) q10a q10c (g := (mkF m 39 #[.val (.ref r)] [(.int (Int32.ofNat j)), (.ref x)])) rfl (by rw [hml]; rfl) (Steps.refl _) (argsL := [(.int (Int32.ofNat j))]) (rest := []) (lenOf pd__I_C rfl) rfl (by show 2 * 0 + _ ≤ _; exact Nat.le_of_eq rfl) (hb hby d10_39) (fun _ _ => ⟨rfl, e9, (by decide : 0 + 0 ≤ _), (by decide : 0 + 0 ≤ _)⟩)
  dsimp only [Pt.U, Pt.locs, Pt.cells, Pt.slots] at X10 l10 y10 z10 st10 hQ10
  subst l10 y10 z10
  obtain ⟨rfl, rfl, eq10⟩ := hQ10
  have N10 := Fr.app N7 (Fr.nil n0)
  refine ⟨T10, h0, _, X10, eq10, N10, Z0, X00, (Keep.refl h0 [r]), E_r, F_text_r, F_position_r, ⟨b_x, k_x, E_x, C_x, V_x, K_x, hp_x, hl_x⟩, fun target kt => ?_⟩
  show Steps p.tables e below (s₁.setTop (mkF m 0 #[.val (.ref r)] [])) _
  refine XS.aloadN X0.here hx rfl (hb hby d10_0) rfl rfl ?_
  show Steps p.tables e below (s₁.setTop (mkF m 1 #[.val (.ref r)] [(.ref r)])) _
  refine st1 _ ?_
  show Steps p.tables e below (T1.setTop (mkF m 4 #[.val (.ref r)] [(.int (Int32.ofNat j))])) _
  refine XS.aloadN X1.here hx rfl (hb hby d10_4) rfl rfl ?_
  show Steps p.tables e below (T1.setTop (mkF m 5 #[.val (.ref r)] [(.ref r), (.int (Int32.ofNat j))])) _
  refine st2 _ ?_
  show Steps p.tables e below (T2.setTop (mkF m 8 #[.val (.ref r)] [(.ref x), (.int (Int32.ofNat j))])) _
  refine st3.trans ?_
  show Steps p.tables e below (T3.setTop (mkF m 11 #[.val (.ref r)] [(.int (Int32.ofNat cs.length)), (.int (Int32.ofNat j))])) _
  refine XS.icmpNo X3.here hx rfl (hb hby d10_11) rfl (tlt ((own_lt (by omega) (by omega)).mpr hj)).2.1 ?_
  refine XS.aloadN X3.here hx rfl (hb hby d10_14) rfl rfl ?_
  show Steps p.tables e below (T3.setTop (mkF m 15 #[.val (.ref r)] [(.ref r)])) _
  refine st4 _ ?_
  show Steps p.tables e below (T4.setTop (mkF m 18 #[.val (.ref r)] [(.ref x)])) _
  refine XS.aloadN X4.here hx rfl (hb hby d10_18) rfl rfl ?_
  show Steps p.tables e below (T4.setTop (mkF m 19 #[.val (.ref r)] [(.ref r), (.ref x)])) _
  refine st5 _ ?_
  show Steps p.tables e below (T5.setTop (mkF m 22 #[.val (.ref r)] [(.int (Int32.ofNat j)), (.ref x)])) _
  refine st6.trans ?_
  show Steps p.tables e below (T6.setTop (mkF m 25 #[.val (.ref r)] [(.int (cs.getD j 0))])) _
  refine st7 _ ?_
  show Steps p.tables e below (T7.setTop (mkF m 28 #[.val (.ref r)] [(.int (own_sp (cs.getD j 0)))])) _
  refine XS.ifNo X7.here hx rfl (hb hby d10_28) rfl ((if0 _ _).trans (teq h1).2) ?_
  refine XS.aloadN X7.here hx rfl (hb hby d10_31) rfl rfl ?_
  show Steps p.tables e below (T7.setTop (mkF m 32 #[.val (.ref r)] [(.ref r)])) _
  refine st8 _ ?_
  show Steps p.tables e below (T8.setTop (mkF m 35 #[.val (.ref r)] [(.ref x)])) _
  refine XS.aloadN X8.here hx rfl (hb hby d10_35) rfl rfl ?_
  show Steps p.tables e below (T8.setTop (mkF m 36 #[.val (.ref r)] [(.ref r), (.ref x)])) _
  refine st9 _ ?_
  show Steps p.tables e below (T9.setTop (mkF m 39 #[.val (.ref r)] [(.int (Int32.ofNat j)), (.ref x)])) _
  refine st10.trans ?_
  show Steps p.tables e below (T10.setTop (mkF m 42 #[.val (.ref r)] [(.int (cs.getD j 0))])) _
  refine XS.bipush X10.here hx rfl (hb hby d10_42) ?_
  refine XS.icmpYes X10.here hx rfl (pc0 := 44) (pc' := 60) rfl (hb hby d10_44) rfl (feq h2).2 (by decide) (by decide) ?_
  exact kt
theorem lpNE {p : Program} {l : Launch} {e : Env} {s : State} {m : MethodId} {args : Array Value} {below : List Frame} {meth : Method} {c : Code} {Z : State} {a0 : Array Value} (G1 : Int32) (G3 : Value) (r x : Addr) (cs : List Int32) (n0 : Nat) (hx : p.tables.exec = Jvm.exec) (hZ : Z.Warmed39 s.vm) (hw : ∀ d ∈ tables_1, d.before a0 Z = true) (hby : c.code = prog_5_method_2_code) (hml : c.maxLocals = 1) (hown : s.vm.findClass "com/example/atomize/atomize/http/FieldValueReader" = some m.cls) (EN : own_env Z G1 G3) (g_r : n0 ≤ r) :
    ∀ (q : Nat) (s₁ : State) (L0 : List Loc) (h0 : Heap) (j : Nat) (X0 : Stand p l e ({ frames := 4, cells := 0, slots := 0, locals := 53 } : Room) s m args below meth c s₁ L0 0 0) (e0 : s₁.heap = h0) (N0 : Fr n0 L0) (Z0 : n0 ≤ h0.size) (X00 : Old Z n0 h0) (E_r : Exa Z h0 r "com/example/atomize/atomize/http/FieldValueReader") (Ft : Fld Z h0 r "com/example/atomize/atomize/http/FieldValueReader" "text" "Ljava/lang/String;" (.ref x)) (Fp : Fld Z h0 r "com/example/atomize/atomize/http/FieldValueReader" "position" "I" (.int (Int32.ofNat j))) (S_x : own_s Z h0 x cs) (hj : j + q = cs.length),
    ∃ (T' : State) (h' : Heap) (L' : List Loc), Stand p l e ({ frames := 4, cells := 0, slots := 0, locals := 53 } : Room) s m args below meth c T' L' 0 0 ∧ T'.heap = h' ∧ Fr n0 L' ∧ n0 ≤ h'.size ∧ Old Z n0 h' ∧ Keep h0 h' [r] ∧ Exa Z h' r "com/example/atomize/atomize/http/FieldValueReader" ∧ Fld Z h' r "com/example/atomize/atomize/http/FieldValueReader" "text" "Ljava/lang/String;" (.ref x) ∧ Fld Z h' r "com/example/atomize/atomize/http/FieldValueReader" "position" "I" (.int (Int32.ofNat (own_k cs q j))) ∧ own_s Z h' x cs ∧
      ∀ target, Steps p.tables e below (T'.setTop (mkF m 60 #[.val (.ref r)] [])) target → Steps p.tables e below (s₁.setTop (mkF m 0 #[.val (.ref r)] [])) target := by
  intro q
  induction q with
  | zero =>
    intro s₁ L0 h0 j X0 e0 N0 Z0 X00 E_r Ft Fp S_x hj
    have hl : cs.length ≤ 4 := by obtain ⟨_, _, _, _, _, _, _, hl⟩ := S_x; exact hl
    exact neW_end G1 G3 r x cs j h0 n0 X0 hx hZ hw hby hml hown e0 N0 Z0 EN X00 E_r Ft Fp g_r S_x (by omega) (by omega)
  | succ q ih =>
    intro s₁ L0 h0 j X0 e0 N0 Z0 X00 E_r Ft Fp S_x hj
    by_cases h1 : own_sp (cs.getD j 0) = 0
    · by_cases h2 : cs.getD j 0 = 44
      · obtain ⟨T1, h1', L1, X1, f1, N1, Z1, O1, K1, E1, Ft1, Fp1, S1, st1⟩ := neW_com G1 G3 r x cs j h0 n0 X0 hx hZ hw hby hml hown e0 N0 Z0 EN X00 E_r Ft Fp g_r S_x (by omega) h1 h2
        obtain ⟨T2, h2', L2, X2, f2, N2, Z2, O2, K2, E2, Ft2, Fp2, S2, st2⟩ := ih T1 L1 h1' (j + 1) X1 f1 N1 Z1 O1 E1 Ft1 Fp1 S1 (by omega)
        refine ⟨T2, h2', L2, X2, f2, N2, Z2, O2, K1.trans K2 (fun x hx => Or.inl hx), E2, Ft2, ?_, S2, fun target kt => st1 _ (st2 _ kt)⟩
        rw [own_k, if_neg (fun z => ((own_skv _).mp z).2 h2)]; exact Fp2
      · rw [own_k, if_pos ((own_skv _).mpr ⟨h1, h2⟩)]
        exact neW_no G1 G3 r x cs j h0 n0 X0 hx hZ hw hby hml hown e0 N0 Z0 EN X00 E_r Ft Fp g_r S_x (by omega) h1 h2
    · obtain ⟨T1, h1', L1, X1, f1, N1, Z1, O1, K1, E1, Ft1, Fp1, S1, st1⟩ := neW_sp G1 G3 r x cs j h0 n0 X0 hx hZ hw hby hml hown e0 N0 Z0 EN X00 E_r Ft Fp g_r S_x (by omega) h1
      obtain ⟨T2, h2', L2, X2, f2, N2, Z2, O2, K2, E2, Ft2, Fp2, S2, st2⟩ := ih T1 L1 h1' (j + 1) X1 f1 N1 Z1 O1 E1 Ft1 Fp1 S1 (by omega)
      refine ⟨T2, h2', L2, X2, f2, N2, Z2, O2, K1.trans K2 (fun x hx => Or.inl hx), E2, Ft2, ?_, S2, fun target kt => st1 _ (st2 _ kt)⟩
      rw [own_k, if_neg (fun z => h1 ((own_skv _).mp z).1)]; exact Fp2
theorem d10_78 : decode prog_5_method_2_code 78 = .ok (.iconst 0, 1) := by decide +kernel
set_option maxRecDepth 65536 in
set_option maxHeartbeats 40000000 in
theorem rmNEt (l : Launch) (Z : State) (a0 : Array Value) (hw : ∀ d ∈ tables_1, d.before a0 Z = true) (ws : List Jvm.Cond) (G1 : Int32) (G3 : Value) (r : Addr) (x : Addr) (cs : List Int32) (j : Nat) (k : Nat) (h0 : Heap) (n0 : Nat) (Z0 : n0 ≤ h0.size) (EN : own_env Z G1 G3) (X00 : Old Z n0 h0) (E_r : Exa Z h0 r "com/example/atomize/atomize/http/FieldValueReader") (F_text_r : Fld Z h0 r "com/example/atomize/atomize/http/FieldValueReader" "text" "Ljava/lang/String;" (.ref x)) (F_position_r : Fld Z h0 r "com/example/atomize/atomize/http/FieldValueReader" "position" "I" (.int (Int32.ofNat j))) (g_r : n0 ≤ r) (S_x : own_s Z h0 x cs) (hj : j ≤ cs.length) (hk : own_k cs (cs.length - j) j = k) (hkn : k < cs.length) :
    MetFree l (⟨"com/example/atomize/atomize/http/FieldValueReader", "nextElement", "()Z"⟩ : MethodName) (head1 (Jvm.Cond.code (⟨"com/example/atomize/atomize/http/FieldValueReader", "nextElement", "()Z"⟩ : MethodName) prog_5_method_2_code 1 (some .boolean) :: ws) ({ frames := 4, cells := 0, slots := 0, locals := 53 } : Room)) (fun a_ U_ => a_ = #[(.ref r)] ∧ Z.Warmed39 U_.vm ∧ U_.heap = h0) (fun _ _ _ _ _ => True) (fun _ U_ o_ U1_ => ∃ v_ L_, o_ = .returned v_ ∧ own_QN Z r x (own_f k cs.length) k h0 n0 v_ U1_.heap L_ ∧ FrameEnd U_ o_ U1_ L_ ({ frames := 4, cells := 0, slots := 0, locals := 53 } : Room).cells ({ frames := 4, cells := 0, slots := 0, locals := 53 } : Room).slots) := by
  refine MetFree.of_bodySF (plainFor_of_name pn_10) hisR ?_
  intro p e s m args below meth c s₁ Bd hml0 hP hK
  obtain ⟨rfl, hZ, hh⟩ := hP
  have hx := Bd.exec
  have hby := Bd.bytes
  have hml : c.maxLocals = 1 := hml0
  have hown : s.vm.findClass "com/example/atomize/atomize/http/FieldValueReader" = some m.cls := findClass_of_methodNamed Bd.named
  have hnm := (name_of_methodNamed Bd.named Bd.method).1
  have X0 : Stand p l e ({ frames := 4, cells := 0, slots := 0, locals := 53 } : Room) s m #[(.ref r)] below meth c s₁ [] 0 0 := Stand.of_body Bd
  have e0 : s₁.heap = h0 := by rw [← hh, Bd.state]; rfl
  have N0 := Fr.nil n0
  have pre0 : ∀ tt, Steps p.tables e below (s₁.setTop (mkF m 0 #[.val (.ref r)] [])) tt → Steps p.tables e below (s₁.setTop (entryFrame m #[(.ref r)] 1)) tt := fun tt kk => castTop (ef_10_r m r) kk
  have EN0 := EN
  obtain ⟨O2, P5, O4, rG3⟩ := EN
  have hws : ∀ d ∈ StrChars.Road.words, d.before a0 Z = true := fun d hd => hw d (own_w1 d hd)
  have hwl : ∀ d ∈ StrChars.Road.wordsLen, d.before a0 Z = true := fun d hd => hw d (own_w2 d hd)
  have hwc : ∀ d ∈ StrChars.Road.wordsChN, d.before a0 Z = true := fun d hd => hw d (own_w3 d hd)
  obtain ⟨b_x, k_x, E_x, C_x, V_x, K_x, hp_x, hl_x⟩ := id S_x
  obtain ⟨T9, h9, L9, X9, e9, N9, Z9, O9, K9, Er9, Ft9, Fp9, S9, st9⟩ := lpNE G1 G3 r x cs n0 hx hZ hw hby hml hown EN0 g_r (cs.length - j) s₁ [] h0 j X0 e0 N0 Z0 X00 E_r F_text_r F_position_r S_x (by omega)
  rw [hk] at Fp9
  have hkb : k ≤ cs.length := by have := (own_k_le cs (cs.length - j) j).2; omega
  obtain ⟨bs9, ks9, Es9, Cs9, Vs9, Ks9, hps9, hls9⟩ := S9
  obtain ⟨T21, X21, e21, st21⟩ := getF X9 hx hZ hown (host := "") (Or.inl (hw _ (List.mem_of_getElem? (i := 60) rfl))) Via.refl e9 Fp9 (g := (mkF m 61 #[.val (.ref r)] [(.ref r)])) rfl rfl (hb hby d10_61)
  obtain ⟨T22, X22, e22, st22⟩ := getF X21 hx hZ hown (host := "") (Or.inl (hw _ (List.mem_of_getElem? (i := 51) rfl))) Via.refl e21 Ft9 (g := (mkF m 65 #[.val (.ref r)] [(.ref r), (.int (Int32.ofNat k))])) rfl rfl (hb hby d10_65)
  obtain ⟨cq23, kq23, q23a, q23b, q23c⟩ := isOf hZ e22 Es9
  obtain ⟨_, _, ⟨T23, L23, k23, n23⟩, -, X23, ⟨Lc23, hQ23, l23, y23, z23⟩, st23⟩ := X22.virtualBack hx (y := (⟨"java/lang/String", "length", "()I"⟩ : MethodName)) (z := (⟨"java/lang/String", "length", "()I"⟩ : MethodName)) hown (mvT hZ (hw _ (List.mem_of_getElem? (i := 62) rfl))) (mvT hZ (hw _ (List.mem_of_getElem? (i := 63) rfl))) (notFace_of_selects (args := #[]) (mvT hZ (hw _ (List.mem_of_getElem? (i := 65) rfl)))) (mvT hZ (hw _ (List.mem_of_getElem? (i := 65) rfl))) (mvT hZ (hw _ (List.mem_of_getElem? (i := 64) rfl))) (by decide) (StrChars.Road.lenW (W := 1) hZ hwl (kI := 4) (hw _ (List.mem_of_getElem? (i := 9) rfl)) Es9 Vs9 Cs9 Ks9 (StrChars.Road.codOf rfl fun c hc => (hps9 c hc).2) (own_up hps9) (Sta.ext O9.2 O2) P5 (own_l4 hls9) (by decide) (by decide)) q23a q23c (g := (mkF m 68 #[.val (.ref r)] [(.ref x), (.int (Int32.ofNat k))])) rfl (by rw [hml]; rfl) (Steps.refl _) (argsL := []) (rest := [(.int (Int32.ofNat k))]) (lenOf pd___I rfl) rfl (by show 2 * 0 + _ ≤ _; exact Nat.le_of_eq rfl) (hb hby d10_68) (fun _ _ => ⟨rfl, e22, (by decide : 0 + 0 ≤ _), (by decide : 0 + 0 ≤ _)⟩)
  dsimp only [Pt.U, Pt.locs, Pt.cells, Pt.slots] at X23 l23 y23 z23 st23 hQ23
  subst l23 y23 z23
  obtain ⟨rfl, rfl, eq23⟩ := hQ23
  have N23 := Fr.app N9 (Fr.nil n0)
  obtain ⟨fs, hr, hrun, hended, hW, hsame⟩ := X23.leave (v := some (.int (1 : Int32))) (fun h => by rw [Bd.returns] at h; cases h)
  refine ⟨_, _, pre0 _ ?_, hrun, hended, _, _, rfl, ?_, ⟨_, rfl⟩, hW, hsame.mono (by decide) (by decide)⟩
  · show Steps p.tables e below (s₁.setTop (mkF m 0 #[.val (.ref r)] [])) _
    refine st9 _ ?_
    show Steps p.tables e below (T9.setTop (mkF m 60 #[.val (.ref r)] [])) _
    refine XS.aloadN X9.here hx rfl (hb hby d10_60) rfl rfl ?_
    show Steps p.tables e below (T9.setTop (mkF m 61 #[.val (.ref r)] [(.ref r)])) _
    refine st21 _ ?_
    show Steps p.tables e below (T21.setTop (mkF m 64 #[.val (.ref r)] [(.int (Int32.ofNat k))])) _
    refine XS.aloadN X21.here hx rfl (hb hby d10_64) rfl rfl ?_
    show Steps p.tables e below (T21.setTop (mkF m 65 #[.val (.ref r)] [(.ref r), (.int (Int32.ofNat k))])) _
    refine st22 _ ?_
    show Steps p.tables e below (T22.setTop (mkF m 68 #[.val (.ref r)] [(.ref x), (.int (Int32.ofNat k))])) _
    refine st23.trans ?_
    show Steps p.tables e below (T23.setTop (mkF m 71 #[.val (.ref r)] [(.int (Int32.ofNat cs.length)), (.int (Int32.ofNat k))])) _
    refine XS.icmpNo X23.here hx rfl (hb hby d10_71) rfl (tlt ((own_lt (by omega) (by omega)).mpr hkn)).2.1 ?_
    refine XS.iconst X23.here hx rfl (hb hby d10_74) ?_
    refine XS.goto X23.here hx rfl (pc0 := 75) (pc' := 79) rfl (hb hby d10_75) (by decide) (by decide) ?_
    show Steps p.tables e below (T23.setTop (mkF m 79 #[.val (.ref r)] [(.int (1 : Int32))])) _
    exact retN X23 hx (t := .boolean) Bd.returns (by simp) (hb hby d10_79) hr
  · show own_QN Z r x (own_f k cs.length) k h0 n0 _ T23.heap _
    rw [eq23]
    exact ⟨by rw [own_f_t hkn], N23, ((Keep.refl h0 [r]).trans K9 (allS (P := fun zz => zz ∈ [r] ∨ h0.size ≤ zz) (Or.inl (List.mem_of_getElem? (i := 0) rfl)) all0)), Er9, Ft9, Fp9⟩
set_option maxRecDepth 65536 in
set_option maxHeartbeats 40000000 in
theorem rmNEf (l : Launch) (Z : State) (a0 : Array Value) (hw : ∀ d ∈ tables_1, d.before a0 Z = true) (ws : List Jvm.Cond) (G1 : Int32) (G3 : Value) (r : Addr) (x : Addr) (cs : List Int32) (j : Nat) (k : Nat) (h0 : Heap) (n0 : Nat) (Z0 : n0 ≤ h0.size) (EN : own_env Z G1 G3) (X00 : Old Z n0 h0) (E_r : Exa Z h0 r "com/example/atomize/atomize/http/FieldValueReader") (F_text_r : Fld Z h0 r "com/example/atomize/atomize/http/FieldValueReader" "text" "Ljava/lang/String;" (.ref x)) (F_position_r : Fld Z h0 r "com/example/atomize/atomize/http/FieldValueReader" "position" "I" (.int (Int32.ofNat j))) (g_r : n0 ≤ r) (S_x : own_s Z h0 x cs) (hj : j ≤ cs.length) (hk : own_k cs (cs.length - j) j = k) (hkn : ¬ (k < cs.length)) :
    MetFree l (⟨"com/example/atomize/atomize/http/FieldValueReader", "nextElement", "()Z"⟩ : MethodName) (head1 (Jvm.Cond.code (⟨"com/example/atomize/atomize/http/FieldValueReader", "nextElement", "()Z"⟩ : MethodName) prog_5_method_2_code 1 (some .boolean) :: ws) ({ frames := 4, cells := 0, slots := 0, locals := 53 } : Room)) (fun a_ U_ => a_ = #[(.ref r)] ∧ Z.Warmed39 U_.vm ∧ U_.heap = h0) (fun _ _ _ _ _ => True) (fun _ U_ o_ U1_ => ∃ v_ L_, o_ = .returned v_ ∧ own_QN Z r x (own_f k cs.length) k h0 n0 v_ U1_.heap L_ ∧ FrameEnd U_ o_ U1_ L_ ({ frames := 4, cells := 0, slots := 0, locals := 53 } : Room).cells ({ frames := 4, cells := 0, slots := 0, locals := 53 } : Room).slots) := by
  refine MetFree.of_bodySF (plainFor_of_name pn_10) hisR ?_
  intro p e s m args below meth c s₁ Bd hml0 hP hK
  obtain ⟨rfl, hZ, hh⟩ := hP
  have hx := Bd.exec
  have hby := Bd.bytes
  have hml : c.maxLocals = 1 := hml0
  have hown : s.vm.findClass "com/example/atomize/atomize/http/FieldValueReader" = some m.cls := findClass_of_methodNamed Bd.named
  have hnm := (name_of_methodNamed Bd.named Bd.method).1
  have X0 : Stand p l e ({ frames := 4, cells := 0, slots := 0, locals := 53 } : Room) s m #[(.ref r)] below meth c s₁ [] 0 0 := Stand.of_body Bd
  have e0 : s₁.heap = h0 := by rw [← hh, Bd.state]; rfl
  have N0 := Fr.nil n0
  have pre0 : ∀ tt, Steps p.tables e below (s₁.setTop (mkF m 0 #[.val (.ref r)] [])) tt → Steps p.tables e below (s₁.setTop (entryFrame m #[(.ref r)] 1)) tt := fun tt kk => castTop (ef_10_r m r) kk
  have EN0 := EN
  obtain ⟨O2, P5, O4, rG3⟩ := EN
  have hws : ∀ d ∈ StrChars.Road.words, d.before a0 Z = true := fun d hd => hw d (own_w1 d hd)
  have hwl : ∀ d ∈ StrChars.Road.wordsLen, d.before a0 Z = true := fun d hd => hw d (own_w2 d hd)
  have hwc : ∀ d ∈ StrChars.Road.wordsChN, d.before a0 Z = true := fun d hd => hw d (own_w3 d hd)
  obtain ⟨b_x, k_x, E_x, C_x, V_x, K_x, hp_x, hl_x⟩ := id S_x
  obtain ⟨T9, h9, L9, X9, e9, N9, Z9, O9, K9, Er9, Ft9, Fp9, S9, st9⟩ := lpNE G1 G3 r x cs n0 hx hZ hw hby hml hown EN0 g_r (cs.length - j) s₁ [] h0 j X0 e0 N0 Z0 X00 E_r F_text_r F_position_r S_x (by omega)
  rw [hk] at Fp9
  have hkb : k ≤ cs.length := by have := (own_k_le cs (cs.length - j) j).2; omega
  obtain ⟨bs9, ks9, Es9, Cs9, Vs9, Ks9, hps9, hls9⟩ := S9
  obtain ⟨T21, X21, e21, st21⟩ := getF X9 hx hZ hown (host := "") (Or.inl (hw _ (List.mem_of_getElem? (i := 60) rfl))) Via.refl e9 Fp9 (g := (mkF m 61 #[.val (.ref r)] [(.ref r)])) rfl rfl (hb hby d10_61)
  obtain ⟨T22, X22, e22, st22⟩ := getF X21 hx hZ hown (host := "") (Or.inl (hw _ (List.mem_of_getElem? (i := 51) rfl))) Via.refl e21 Ft9 (g := (mkF m 65 #[.val (.ref r)] [(.ref r), (.int (Int32.ofNat k))])) rfl rfl (hb hby d10_65)
  obtain ⟨cq23, kq23, q23a, q23b, q23c⟩ := isOf hZ e22 Es9
  obtain ⟨_, _, ⟨T23, L23, k23, n23⟩, -, X23, ⟨Lc23, hQ23, l23, y23, z23⟩, st23⟩ := X22.virtualBack hx (y := (⟨"java/lang/String", "length", "()I"⟩ : MethodName)) (z := (⟨"java/lang/String", "length", "()I"⟩ : MethodName)) hown (mvT hZ (hw _ (List.mem_of_getElem? (i := 62) rfl))) (mvT hZ (hw _ (List.mem_of_getElem? (i := 63) rfl))) (notFace_of_selects (args := #[]) (mvT hZ (hw _ (List.mem_of_getElem? (i := 65) rfl)))) (mvT hZ (hw _ (List.mem_of_getElem? (i := 65) rfl))) (mvT hZ (hw _ (List.mem_of_getElem? (i := 64) rfl))) (by decide) (StrChars.Road.lenW (W := 1) hZ hwl (kI := 4) (hw _ (List.mem_of_getElem? (i := 9) rfl)) Es9 Vs9 Cs9 Ks9 (StrChars.Road.codOf rfl fun c hc => (hps9 c hc).2) (own_up hps9) (Sta.ext O9.2 O2) P5 (own_l4 hls9) (by decide) (by decide)) q23a q23c (g := (mkF m 68 #[.val (.ref r)] [(.ref x), (.int (Int32.ofNat k))])) rfl (by rw [hml]; rfl) (Steps.refl _) (argsL := []) (rest := [(.int (Int32.ofNat k))]) (lenOf pd___I rfl) rfl (by show 2 * 0 + _ ≤ _; exact Nat.le_of_eq rfl) (hb hby d10_68) (fun _ _ => ⟨rfl, e22, (by decide : 0 + 0 ≤ _), (by decide : 0 + 0 ≤ _)⟩)
  dsimp only [Pt.U, Pt.locs, Pt.cells, Pt.slots] at X23 l23 y23 z23 st23 hQ23
  subst l23 y23 z23
  obtain ⟨rfl, rfl, eq23⟩ := hQ23
  have N23 := Fr.app N9 (Fr.nil n0)
  obtain ⟨fs, hr, hrun, hended, hW, hsame⟩ := X23.leave (v := some (.int (0 : Int32))) (fun h => by rw [Bd.returns] at h; cases h)
  refine ⟨_, _, pre0 _ ?_, hrun, hended, _, _, rfl, ?_, ⟨_, rfl⟩, hW, hsame.mono (by decide) (by decide)⟩
  · show Steps p.tables e below (s₁.setTop (mkF m 0 #[.val (.ref r)] [])) _
    refine st9 _ ?_
    show Steps p.tables e below (T9.setTop (mkF m 60 #[.val (.ref r)] [])) _
    refine XS.aloadN X9.here hx rfl (hb hby d10_60) rfl rfl ?_
    show Steps p.tables e below (T9.setTop (mkF m 61 #[.val (.ref r)] [(.ref r)])) _
    refine st21 _ ?_
    show Steps p.tables e below (T21.setTop (mkF m 64 #[.val (.ref r)] [(.int (Int32.ofNat k))])) _
    refine XS.aloadN X21.here hx rfl (hb hby d10_64) rfl rfl ?_
    show Steps p.tables e below (T21.setTop (mkF m 65 #[.val (.ref r)] [(.ref r), (.int (Int32.ofNat k))])) _
    refine st22 _ ?_
    show Steps p.tables e below (T22.setTop (mkF m 68 #[.val (.ref r)] [(.ref x), (.int (Int32.ofNat k))])) _
    refine st23.trans ?_
    show Steps p.tables e below (T23.setTop (mkF m 71 #[.val (.ref r)] [(.int (Int32.ofNat cs.length)), (.int (Int32.ofNat k))])) _
    refine XS.icmpYes X23.here hx rfl (pc0 := 71) (pc' := 78) rfl (hb hby d10_71) rfl (flt (fun q => hkn ((own_lt (by omega) (by omega)).mp q))).2.1 (by decide) (by decide) ?_
    refine XS.iconst X23.here hx rfl (hb hby d10_78) ?_
    show Steps p.tables e below (T23.setTop (mkF m 79 #[.val (.ref r)] [(.int (0 : Int32))])) _
    exact retN X23 hx (t := .boolean) Bd.returns (by simp) (hb hby d10_79) hr
  · show own_QN Z r x (own_f k cs.length) k h0 n0 _ T23.heap _
    rw [eq23]
    exact ⟨by rw [own_f_f hkn], N23, ((Keep.refl h0 [r]).trans K9 (allS (P := fun zz => zz ∈ [r] ∨ h0.size ≤ zz) (Or.inl (List.mem_of_getElem? (i := 0) rfl)) all0)), Er9, Ft9, Fp9⟩
theorem rmNE (l : Launch) (Z : State) (a0 : Array Value) (hw : ∀ d ∈ tables_1, d.before a0 Z = true) (ws : List Jvm.Cond) (G1 : Int32) (G3 : Value) (r : Addr) (x : Addr) (cs : List Int32) (j : Nat) (k : Nat) (h0 : Heap) (n0 : Nat) (Z0 : n0 ≤ h0.size) (EN : own_env Z G1 G3) (X00 : Old Z n0 h0) (E_r : Exa Z h0 r "com/example/atomize/atomize/http/FieldValueReader") (F_text_r : Fld Z h0 r "com/example/atomize/atomize/http/FieldValueReader" "text" "Ljava/lang/String;" (.ref x)) (F_position_r : Fld Z h0 r "com/example/atomize/atomize/http/FieldValueReader" "position" "I" (.int (Int32.ofNat j))) (g_r : n0 ≤ r) (S_x : own_s Z h0 x cs) (hj : j ≤ cs.length) (hk : own_k cs (cs.length - j) j = k) :
    MetFree l (⟨"com/example/atomize/atomize/http/FieldValueReader", "nextElement", "()Z"⟩ : MethodName) (head1 (Jvm.Cond.code (⟨"com/example/atomize/atomize/http/FieldValueReader", "nextElement", "()Z"⟩ : MethodName) prog_5_method_2_code 1 (some .boolean) :: ws) ({ frames := 4, cells := 0, slots := 0, locals := 53 } : Room)) (fun a_ U_ => a_ = #[(.ref r)] ∧ Z.Warmed39 U_.vm ∧ U_.heap = h0) (fun _ _ _ _ _ => True) (fun _ U_ o_ U1_ => ∃ v_ L_, o_ = .returned v_ ∧ own_QN Z r x (own_f k cs.length) k h0 n0 v_ U1_.heap L_ ∧ FrameEnd U_ o_ U1_ L_ ({ frames := 4, cells := 0, slots := 0, locals := 53 } : Room).cells ({ frames := 4, cells := 0, slots := 0, locals := 53 } : Room).slots) := by
  by_cases hkn : k < cs.length
  · exact rmNEt l Z a0 hw ws G1 G3 r x cs j k h0 n0 Z0 EN X00 E_r F_text_r F_position_r g_r S_x hj hk hkn
  · exact rmNEf l Z a0 hw ws G1 G3 r x cs j k h0 n0 Z0 EN X00 E_r F_text_r F_position_r g_r S_x hj hk hkn

theorem d15_0 : decode jdk_48_method_14_code 0 = .ok (.iconst 0, 1) := by decide +kernel
theorem d15_1 : decode jdk_48_method_14_code 1 = .ok (.istore 5, 2) := by decide +kernel
theorem d15_3 : decode jdk_48_method_14_code 3 = .ok (.iload 4, 2) := by decide +kernel
theorem d15_5 : decode jdk_48_method_14_code 5 = .ok (.bipush 7, 2) := by decide +kernel
theorem d15_7 : decode jdk_48_method_14_code 7 = .ok (.if_icmp .le 63, 3) := by decide +kernel
theorem d15_101 : decode jdk_48_method_14_code 101 = .ok (.iconst (-1), 1) := by decide +kernel
theorem d15_102 : decode jdk_48_method_14_code 102 = .ok (.ireturn, 1) := by decide +kernel
theorem pn_15 : plainName "jdk/internal/util/ArraysSupport" = true := by first | (simp [plainName, overriddenIn]; done) | decide +kernel
theorem ef_15_rrrrr (m : MethodId) (x0 : Addr) (x1 : Int32) (x2 : Addr) (x3 : Int32) (x4 : Int32) : entryFrame m #[(.ref x0), (.int x1), (.ref x2), (.int x3), (.int x4)] 8 = mkF m 0 #[.val (.ref x0), .val (.int x1), .val (.ref x2), .val (.int x3), .val (.int x4), .unset, .unset, .unset] [] := by first | (simp [entryFrame, mkF, argsToLocals, Value.category]; done) | rfl
theorem d15_70 : decode jdk_48_method_14_code 70 = .ok (.iload 5, 2) := by decide +kernel
theorem d15_72 : decode jdk_48_method_14_code 72 = .ok (.iload 4, 2) := by decide +kernel
theorem d15_74 : decode jdk_48_method_14_code 74 = .ok (.if_icmp .ge 27, 3) := by decide +kernel
theorem d15_77 : decode jdk_48_method_14_code 77 = .ok (.aload_n 0, 1) := by decide +kernel
theorem d15_78 : decode jdk_48_method_14_code 78 = .ok (.iload_n 1, 1) := by decide +kernel
theorem d15_79 : decode jdk_48_method_14_code 79 = .ok (.iload 5, 2) := by decide +kernel
theorem d15_81 : decode jdk_48_method_14_code 81 = .ok (.iadd, 1) := by decide +kernel
theorem d15_82 : decode jdk_48_method_14_code 82 = .ok (.baload, 1) := by decide +kernel
theorem d15_83 : decode jdk_48_method_14_code 83 = .ok (.aload_n 2, 1) := by decide +kernel
theorem d15_84 : decode jdk_48_method_14_code 84 = .ok (.iload_n 3, 1) := by decide +kernel
theorem d15_85 : decode jdk_48_method_14_code 85 = .ok (.iload 5, 2) := by decide +kernel
theorem d15_87 : decode jdk_48_method_14_code 87 = .ok (.iadd, 1) := by decide +kernel
theorem d15_88 : decode jdk_48_method_14_code 88 = .ok (.baload, 1) := by decide +kernel
theorem d15_89 : decode jdk_48_method_14_code 89 = .ok (.if_icmp .eq 6, 3) := by decide +kernel
theorem d15_95 : decode jdk_48_method_14_code 95 = .ok (.iinc 5 1, 3) := by decide +kernel
theorem d15_98 : decode jdk_48_method_14_code 98 = .ok (.goto (-28), 3) := by decide +kernel
set_option maxRecDepth 65536 in
set_option maxHeartbeats 40000000 in
theorem tnMM {p : Program} {l : Launch} {e : Env} {s : State} {m : MethodId} {args : Array Value} {below : List Frame} {meth : Method} {c : Code} {s₁ : State} {L0 : List Loc} {Z : State} {a0 : Array Value} (a : Addr) (ka : ClassId) (cs : List Int32) (j : Nat) (b : Addr) (kb : ClassId) (ds : List Int32) (i : Nat) (h0 : Heap) (n0 : Nat) (X0 : Stand p l e ({ frames := 0, cells := 0, slots := 0, locals := 0 } : Room) s m args below meth c s₁ L0 0 0) (hx : p.tables.exec = Jvm.exec) (hZ : Z.Warmed39 s.vm) (hw : ∀ d ∈ tables_1, d.before a0 Z = true) (hby : c.code = jdk_48_method_14_code) (hml : c.maxLocals = 8) (hown : s.vm.findClass "jdk/internal/util/ArraysSupport" = some m.cls) (e0 : s₁.heap = h0) (N0 : Fr n0 L0) (Z0 : n0 ≤ h0.size) (V_a : Arv Z h0 a ka .byte (Int32.ofNat cs.length) ((cs.map fun c => c.toInt8.toInt32).map Value.int) (.int (0 : Int32))) (V_b : Arv Z h0 b kb .byte (Int32.ofNat ds.length) ((ds.map fun c => c.toInt8.toInt32).map Value.int) (.int (0 : Int32))) (hc4 : cs.length ≤ 4) (hd : ∀ i, i < ds.length → cs.getD (j + i) 0 = ds.getD i 0) (hjl : j + ds.length ≤ cs.length) (hi : i < ds.length) :
    ∃ (T' : State) (h' : Heap) (L' : List Loc) , Stand p l e ({ frames := 0, cells := 0, slots := 0, locals := 0 } : Room) s m args below meth c T' L' 0 0 ∧ T'.heap = h' ∧ Fr n0 L' ∧ n0 ≤ h'.size ∧ h' = h0 ∧ 
      ∀ target, Steps p.tables e below (T'.setTop (mkF m 70 #[.val (.ref a), .val (.int (Int32.ofNat j)), .val (.ref b), .val (.int (0 : Int32)), .val (.int (Int32.ofNat ds.length)), .val (.int (Int32.ofNat (i + 1))), .unset, .unset] [])) target → Steps p.tables e below (s₁.setTop (mkF m 70 #[.val (.ref a), .val (.int (Int32.ofNat j)), .val (.ref b), .val (.int (0 : Int32)), .val (.int (Int32.ofNat ds.length)), .val (.int (Int32.ofNat i)), .unset, .unset] [])) target := by
  obtain ⟨c1, Ar1, -, S1, M1, H1, -⟩ := id V_a
  have hin1 := inb_of (j := (Int32.ofNat (j + i))) S1 (own_in (by omega) (by omega))
  obtain ⟨c2, Ar2, -, S2, M2, H2, -⟩ := id V_b
  have hin2 := inb_of (j := (Int32.ofNat i)) S2 (own_in (by omega) (by omega))
  refine ⟨s₁, h0, _, X0, e0, N0, Z0, rfl, fun target kt => ?_⟩
  show Steps p.tables e below (s₁.setTop (mkF m 70 #[.val (.ref a), .val (.int (Int32.ofNat j)), .val (.ref b), .val (.int (0 : Int32)), .val (.int (Int32.ofNat ds.length)), .val (.int (Int32.ofNat i)), .unset, .unset] [])) _
  refine XS.iload X0.here hx rfl (hb hby d15_70) rfl ?_
  refine XS.iload X0.here hx rfl (hb hby d15_72) rfl ?_
  refine XS.icmpNo X0.here hx rfl (hb hby d15_74) rfl (tlt ((own_lt (by omega) (by omega)).mpr hi)).2.1 ?_
  refine XS.aloadN X0.here hx rfl (hb hby d15_77) rfl rfl ?_
  refine XS.iloadN X0.here hx rfl (hb hby d15_78) rfl ?_
  refine XS.iload X0.here hx rfl (hb hby d15_79) rfl ?_
  refine XS.iadd X0.here hx rfl (hb hby d15_81) rfl ?_
  show Steps p.tables e below (s₁.setTop (mkF m 82 #[.val (.ref a), .val (.int (Int32.ofNat j)), .val (.ref b), .val (.int (0 : Int32)), .val (.int (Int32.ofNat ds.length)), .val (.int (Int32.ofNat i)), .unset, .unset] [(.int ((Int32.ofNat j) + (Int32.ofNat i))), (.ref a)])) _
  rw [(own_add (i := j) (j := i))]
  show Steps p.tables e below (s₁.setTop (mkF m 82 #[.val (.ref a), .val (.int (Int32.ofNat j)), .val (.ref b), .val (.int (0 : Int32)), .val (.int (Int32.ofNat ds.length)), .val (.int (Int32.ofNat i)), .unset, .unset] [(.int (Int32.ofNat (j + i))), (.ref a)])) _
  refine X0.baloadBytes hx (j := (Int32.ofNat (j + i))) (v := (.int ((cs.getD (j + i) 0).toInt8.toInt32))) (by rw [e0]; exact Ar1.1) (State.isArrayOf_alike hZ.alike Ar1.2.1) Ar1.2.2 hin1 (H1.at hin1 (own_lb cs (j + i) (by omega))) (g := (mkF m 82 #[.val (.ref a), .val (.int (Int32.ofNat j)), .val (.ref b), .val (.int (0 : Int32)), .val (.int (Int32.ofNat ds.length)), .val (.int (Int32.ofNat i)), .unset, .unset] [(.int (Int32.ofNat (j + i))), (.ref a)])) rfl rfl (hb hby d15_82) _ ?_
  show Steps p.tables e below (s₁.setTop (mkF m 83 #[.val (.ref a), .val (.int (Int32.ofNat j)), .val (.ref b), .val (.int (0 : Int32)), .val (.int (Int32.ofNat ds.length)), .val (.int (Int32.ofNat i)), .unset, .unset] [(.int ((cs.getD (j + i) 0).toInt8.toInt32))])) _
  refine XS.aloadN X0.here hx rfl (hb hby d15_83) rfl rfl ?_
  refine XS.iloadN X0.here hx rfl (hb hby d15_84) rfl ?_
  refine XS.iload X0.here hx rfl (hb hby d15_85) rfl ?_
  refine XS.iadd X0.here hx rfl (hb hby d15_87) rfl ?_
  show Steps p.tables e below (s₁.setTop (mkF m 88 #[.val (.ref a), .val (.int (Int32.ofNat j)), .val (.ref b), .val (.int (0 : Int32)), .val (.int (Int32.ofNat ds.length)), .val (.int (Int32.ofNat i)), .unset, .unset] [(.int ((0 : Int32) + (Int32.ofNat i))), (.ref b), (.int ((cs.getD (j + i) 0).toInt8.toInt32))])) _
  rw [(own_zadd i)]
  show Steps p.tables e below (s₁.setTop (mkF m 88 #[.val (.ref a), .val (.int (Int32.ofNat j)), .val (.ref b), .val (.int (0 : Int32)), .val (.int (Int32.ofNat ds.length)), .val (.int (Int32.ofNat i)), .unset, .unset] [(.int (Int32.ofNat i)), (.ref b), (.int ((cs.getD (j + i) 0).toInt8.toInt32))])) _
  refine X0.baloadBytes hx (j := (Int32.ofNat i)) (v := (.int ((ds.getD i 0).toInt8.toInt32))) (by rw [e0]; exact Ar2.1) (State.isArrayOf_alike hZ.alike Ar2.2.1) Ar2.2.2 hin2 (H2.at hin2 (own_lb ds i (by omega))) (g := (mkF m 88 #[.val (.ref a), .val (.int (Int32.ofNat j)), .val (.ref b), .val (.int (0 : Int32)), .val (.int (Int32.ofNat ds.length)), .val (.int (Int32.ofNat i)), .unset, .unset] [(.int (Int32.ofNat i)), (.ref b), (.int ((cs.getD (j + i) 0).toInt8.toInt32))])) rfl rfl (hb hby d15_88) _ ?_
  show Steps p.tables e below (s₁.setTop (mkF m 89 #[.val (.ref a), .val (.int (Int32.ofNat j)), .val (.ref b), .val (.int (0 : Int32)), .val (.int (Int32.ofNat ds.length)), .val (.int (Int32.ofNat i)), .unset, .unset] [(.int ((ds.getD i 0).toInt8.toInt32)), (.int ((cs.getD (j + i) 0).toInt8.toInt32))])) _
  refine XS.icmpYes X0.here hx rfl (pc0 := 89) (pc' := 95) rfl (hb hby d15_89) rfl (teq (congrArg (fun c : Int32 => c.toInt8.toInt32) (hd i hi))).1 (by decide) (by decide) ?_
  refine XS.iinc X0.here hx rfl (hb hby d15_95) rfl (l' := #[.val (.ref a), .val (.int (Int32.ofNat j)), .val (.ref b), .val (.int (0 : Int32)), .val (.int (Int32.ofNat ds.length)), .val (.int ((Int32.ofNat i) + (1 : Int32))), .unset, .unset]) rfl ?_
  refine XS.goto X0.here hx rfl (pc0 := 98) (pc' := 70) rfl (hb hby d15_98) (by decide) (by decide) ?_
  show Steps p.tables e below (s₁.setTop (mkF m 70 #[.val (.ref a), .val (.int (Int32.ofNat j)), .val (.ref b), .val (.int (0 : Int32)), .val (.int (Int32.ofNat ds.length)), .val (.int ((Int32.ofNat i) + (1 : Int32))), .unset, .unset] [])) _
  rw [(own_succ i)]
  show Steps p.tables e below (s₁.setTop (mkF m 70 #[.val (.ref a), .val (.int (Int32.ofNat j)), .val (.ref b), .val (.int (0 : Int32)), .val (.int (Int32.ofNat ds.length)), .val (.int (Int32.ofNat (i + 1))), .unset, .unset] [])) _
  exact kt
set_option maxRecDepth 65536 in
set_option maxHeartbeats 40000000 in
theorem lvMM {p : Program} {l : Launch} {e : Env} {s : State} {m : MethodId} {args : Array Value} {below : List Frame} {meth : Method} {c : Code} {s₁ : State} {L0 : List Loc} {Z : State} {a0 : Array Value} (a : Addr) (ka : ClassId) (cs : List Int32) (j : Nat) (b : Addr) (kb : ClassId) (ds : List Int32) (h0 : Heap) (n0 : Nat) (X0 : Stand p l e ({ frames := 0, cells := 0, slots := 0, locals := 0 } : Room) s m args below meth c s₁ L0 0 0) (hx : p.tables.exec = Jvm.exec) (hZ : Z.Warmed39 s.vm) (hw : ∀ d ∈ tables_1, d.before a0 Z = true) (hby : c.code = jdk_48_method_14_code) (hml : c.maxLocals = 8) (hown : s.vm.findClass "jdk/internal/util/ArraysSupport" = some m.cls) (e0 : s₁.heap = h0) (N0 : Fr n0 L0) (Z0 : n0 ≤ h0.size) :
    ∃ (T' : State) (h' : Heap) (L' : List Loc) , Stand p l e ({ frames := 0, cells := 0, slots := 0, locals := 0 } : Room) s m args below meth c T' L' 0 0 ∧ T'.heap = h' ∧ Fr n0 L' ∧ n0 ≤ h'.size ∧ h' = h0 ∧ 
      ∀ target, Steps p.tables e below (T'.setTop (mkF m 101 #[.val (.ref a), .val (.int (Int32.ofNat j)), .val (.ref b), .val (.int (0 : Int32)), .val (.int (Int32.ofNat ds.length)), .val (.int (Int32.ofNat ds.length)), .unset, .unset] [])) target → Steps p.tables e below (s₁.setTop (mkF m 70 #[.val (.ref a), .val (.int (Int32.ofNat j)), .val (.ref b), .val (.int (0 : Int32)), .val (.int (Int32.ofNat ds.length)), .val (.int (Int32.ofNat ds.length)), .unset, .unset] [])) target := by
  refine ⟨s₁, h0, _, X0, e0, N0, Z0, rfl, fun target kt => ?_⟩
  show Steps p.tables e below (s₁.setTop (mkF m 70 #[.val (.ref a), .val (.int (Int32.ofNat j)), .val (.ref b), .val (.int (0 : Int32)), .val (.int (Int32.ofNat ds.length)), .val (.int (Int32.ofNat ds.length)), .unset, .unset] [])) _
  refine XS.iload X0.here hx rfl (hb hby d15_70) rfl ?_
  refine XS.iload X0.here hx rfl (hb hby d15_72) rfl ?_
  refine XS.icmpYes X0.here hx rfl (pc0 := 74) (pc' := 101) rfl (hb hby d15_74) rfl (flt (Int32.lt_irrefl : ¬ ((Int32.ofNat ds.length) < (Int32.ofNat ds.length)))).2.1 (by decide) (by decide) ?_
  exact kt
theorem lpMM {p : Program} {l : Launch} {e : Env} {s : State} {m : MethodId} {args : Array Value} {below : List Frame} {meth : Method} {c : Code} {Z : State} {a0 : Array Value} (a : Addr) (ka : ClassId) (cs : List Int32) (j : Nat) (b : Addr) (kb : ClassId) (ds : List Int32) (n0 : Nat) (hx : p.tables.exec = Jvm.exec) (hZ : Z.Warmed39 s.vm) (hw : ∀ d ∈ tables_1, d.before a0 Z = true) (hby : c.code = jdk_48_method_14_code) (hml : c.maxLocals = 8) (hown : s.vm.findClass "jdk/internal/util/ArraysSupport" = some m.cls) (hc4 : cs.length ≤ 4) (hd : ∀ i, i < ds.length → cs.getD (j + i) 0 = ds.getD i 0) (hjl : j + ds.length ≤ cs.length) :
    ∀ (q : Nat) (s₁ : State) (L0 : List Loc) (h0 : Heap) (i : Nat) (X0 : Stand p l e ({ frames := 0, cells := 0, slots := 0, locals := 0 } : Room) s m args below meth c s₁ L0 0 0) (e0 : s₁.heap = h0) (N0 : Fr n0 L0) (Z0 : n0 ≤ h0.size) (V_a : Arv Z h0 a ka .byte (Int32.ofNat cs.length) ((cs.map fun c => c.toInt8.toInt32).map Value.int) (.int (0 : Int32))) (V_b : Arv Z h0 b kb .byte (Int32.ofNat ds.length) ((ds.map fun c => c.toInt8.toInt32).map Value.int) (.int (0 : Int32))) (hi : i + q = ds.length),
    ∃ (T' : State) (h' : Heap) (L' : List Loc), Stand p l e ({ frames := 0, cells := 0, slots := 0, locals := 0 } : Room) s m args below meth c T' L' 0 0 ∧ T'.heap = h' ∧ Fr n0 L' ∧ n0 ≤ h'.size ∧ h' = h0 ∧
      ∀ target, Steps p.tables e below (T'.setTop (mkF m 101 #[.val (.ref a), .val (.int (Int32.ofNat j)), .val (.ref b), .val (.int (0 : Int32)), .val (.int (Int32.ofNat ds.length)), .val (.int (Int32.ofNat ds.length)), .unset, .unset] [])) target → Steps p.tables e below (s₁.setTop (mkF m 70 #[.val (.ref a), .val (.int (Int32.ofNat j)), .val (.ref b), .val (.int (0 : Int32)), .val (.int (Int32.ofNat ds.length)), .val (.int (Int32.ofNat i)), .unset, .unset] [])) target := by
  intro q
  induction q with
  | zero =>
    intro s₁ L0 h0 i X0 e0 N0 Z0 V_a V_b hi
    obtain rfl : i = ds.length := by omega
    exact lvMM a ka cs j b kb ds h0 n0 X0 hx hZ hw hby hml hown e0 N0 Z0
  | succ q ih =>
    intro s₁ L0 h0 i X0 e0 N0 Z0 V_a V_b hi
    obtain ⟨T1, h1, L1, X1, f1, N1, Z1, hh, st1⟩ := tnMM a ka cs j b kb ds i h0 n0 X0 hx hZ hw hby hml hown e0 N0 Z0 V_a V_b hc4 hd hjl (by omega)
    subst hh
    obtain ⟨T2, h2, L2, X2, f2, N2, Z2, hh2, st2⟩ := ih T1 L1 _ (i + 1) X1 f1 N1 Z1 V_a V_b (by omega)
    exact ⟨T2, h2, L2, X2, f2, N2, Z2, hh2, fun target kt => st1 _ (st2 _ kt)⟩
set_option maxRecDepth 65536 in
set_option maxHeartbeats 40000000 in
theorem rmMM (l : Launch) (Z : State) (a0 : Array Value) (hw : ∀ d ∈ tables_1, d.before a0 Z = true) (ws : List Jvm.Cond) (a : Addr) (ka : ClassId) (cs : List Int32) (j : Nat) (b : Addr) (kb : ClassId) (ds : List Int32) (h0 : Heap) (n0 : Nat) (Z0 : n0 ≤ h0.size) (V_a : Arv Z h0 a ka .byte (Int32.ofNat cs.length) ((cs.map fun c => c.toInt8.toInt32).map Value.int) (.int (0 : Int32))) (V_b : Arv Z h0 b kb .byte (Int32.ofNat ds.length) ((ds.map fun c => c.toInt8.toInt32).map Value.int) (.int (0 : Int32))) (hc4 : cs.length ≤ 4) (hd : ∀ i, i < ds.length → cs.getD (j + i) 0 = ds.getD i 0) (hjl : j + ds.length ≤ cs.length) :
    MetFree l (⟨"jdk/internal/util/ArraysSupport", "mismatch", "([BI[BII)I"⟩ : MethodName) (head1 (Jvm.Cond.code (⟨"jdk/internal/util/ArraysSupport", "mismatch", "([BI[BII)I"⟩ : MethodName) jdk_48_method_14_code 8 (some .int) :: ws) ({ frames := 0, cells := 0, slots := 0, locals := 0 } : Room)) (fun a_ U_ => a_ = #[(.ref a), (.int (Int32.ofNat j)), (.ref b), (.int (0 : Int32)), (.int (Int32.ofNat ds.length))] ∧ Z.Warmed39 U_.vm ∧ U_.heap = h0) (fun _ _ _ _ _ => True) (fun _ U_ o_ U1_ => ∃ v_ L_, o_ = .returned v_ ∧ own_Q Z (some (.int (-1 : Int32))) h0 n0 v_ U1_.heap L_ ∧ FrameEnd U_ o_ U1_ L_ ({ frames := 0, cells := 0, slots := 0, locals := 0 } : Room).cells ({ frames := 0, cells := 0, slots := 0, locals := 0 } : Room).slots) := by
  refine MetFree.of_bodySF (plainFor_of_name pn_15) hisR ?_
  intro p e s m args below meth c s₁ Bd hml0 hP hK
  obtain ⟨rfl, hZ, hh⟩ := hP
  have hx := Bd.exec
  have hby := Bd.bytes
  have hml : c.maxLocals = 8 := hml0
  have hown : s.vm.findClass "jdk/internal/util/ArraysSupport" = some m.cls := findClass_of_methodNamed Bd.named
  have hnm := (name_of_methodNamed Bd.named Bd.method).1
  have X0 : Stand p l e ({ frames := 0, cells := 0, slots := 0, locals := 0 } : Room) s m #[(.ref a), (.int (Int32.ofNat j)), (.ref b), (.int (0 : Int32)), (.int (Int32.ofNat ds.length))] below meth c s₁ [] 0 0 := Stand.of_body Bd
  have e0 : s₁.heap = h0 := by rw [← hh, Bd.state]; rfl
  have N0 := Fr.nil n0
  have pre0 : ∀ tt, Steps p.tables e below (s₁.setTop (mkF m 0 #[.val (.ref a), .val (.int (Int32.ofNat j)), .val (.ref b), .val (.int (0 : Int32)), .val (.int (Int32.ofNat ds.length)), .unset, .unset, .unset] [])) tt → Steps p.tables e below (s₁.setTop (entryFrame m #[(.ref a), (.int (Int32.ofNat j)), (.ref b), (.int (0 : Int32)), (.int (Int32.ofNat ds.length))] 8)) tt := fun tt kk => castTop (ef_15_rrrrr m a (Int32.ofNat j) b (0 : Int32) (Int32.ofNat ds.length)) kk
  obtain ⟨T9, h9, L9, X9, e9, N9, Z9, hh9, st9⟩ := lpMM a ka cs j b kb ds n0 hx hZ hw hby hml hown hc4 hd hjl ds.length s₁ _ h0 0 X0 e0 N0 Z0 V_a V_b (by omega)
  have e9b := e9.trans hh9
  obtain ⟨fs, hr, hrun, hended, hW, hsame⟩ := X9.leave (v := some (.int (-1 : Int32))) (fun h => by rw [Bd.returns] at h; cases h)
  refine ⟨_, _, pre0 _ ?_, hrun, hended, _, _, rfl, ?_, ⟨_, rfl⟩, hW, hsame.mono (by decide) (by decide)⟩
  · show Steps p.tables e below (s₁.setTop (mkF m 0 #[.val (.ref a), .val (.int (Int32.ofNat j)), .val (.ref b), .val (.int (0 : Int32)), .val (.int (Int32.ofNat ds.length)), .unset, .unset, .unset] [])) _
    refine XS.iconst X0.here hx rfl (hb hby d15_0) ?_
    refine XS.istore X0.here hx rfl (hb hby d15_1) rfl (l' := #[.val (.ref a), .val (.int (Int32.ofNat j)), .val (.ref b), .val (.int (0 : Int32)), .val (.int (Int32.ofNat ds.length)), .val (.int (0 : Int32)), .unset, .unset]) rfl ?_
    refine XS.iload X0.here hx rfl (hb hby d15_3) rfl ?_
    refine XS.bipush X0.here hx rfl (hb hby d15_5) ?_
    refine XS.icmpYes X0.here hx rfl (pc0 := 7) (pc' := 70) rfl (hb hby d15_7) rfl (flt (fun q => absurd ((own_lt (i := 7) (by omega) (by omega)).mp q) (by omega))).2.2.2 (by decide) (by decide) ?_
    show Steps p.tables e below (s₁.setTop (mkF m 70 #[.val (.ref a), .val (.int (Int32.ofNat j)), .val (.ref b), .val (.int (0 : Int32)), .val (.int (Int32.ofNat ds.length)), .val (.int (0 : Int32)), .unset, .unset] [])) _
    refine st9 _ ?_
    show Steps p.tables e below (T9.setTop (mkF m 101 #[.val (.ref a), .val (.int (Int32.ofNat j)), .val (.ref b), .val (.int (0 : Int32)), .val (.int (Int32.ofNat ds.length)), .val (.int (Int32.ofNat ds.length)), .unset, .unset] [])) _
    refine XS.iconst X9.here hx rfl (hb hby d15_101) ?_
    show Steps p.tables e below (T9.setTop (mkF m 102 #[.val (.ref a), .val (.int (Int32.ofNat j)), .val (.ref b), .val (.int (0 : Int32)), .val (.int (Int32.ofNat ds.length)), .val (.int (Int32.ofNat ds.length)), .unset, .unset] [(.int (-1 : Int32))])) _
    exact retI X9 hx Bd.returns (hb hby d15_102) hr
  · show own_Q Z (some (.int (-1 : Int32))) h0 n0 _ T9.heap _
    rw [e9b]
    exact ⟨rfl, N9, rfl⟩
theorem d12_0 : decode jdk_42_method_152_code 0 = .ok (.getstatic 38, 3) := by decide +kernel
theorem d12_3 : decode jdk_42_method_152_code 3 = .ok (.ifCond .eq 10, 3) := by decide +kernel
theorem d12_6 : decode jdk_42_method_152_code 6 = .ok (.aload_n 0, 1) := by decide +kernel
theorem d12_7 : decode jdk_42_method_152_code 7 = .ok (.getfield 15, 3) := by decide +kernel
theorem d12_10 : decode jdk_42_method_152_code 10 = .ok (.goto 4, 3) := by decide +kernel
theorem d12_14 : decode jdk_42_method_152_code 14 = .ok (.ireturn, 1) := by decide +kernel
theorem pn_12 : plainName "java/lang/String" = true := by first | (simp [plainName, overriddenIn]; done) | decide +kernel
theorem ef_12_r (m : MethodId) (x0 : Addr) : entryFrame m #[(.ref x0)] 1 = mkF m 0 #[.val (.ref x0)] [] := by first | (simp [entryFrame, mkF, argsToLocals, Value.category]; done) | rfl
set_option maxRecDepth 65536 in
set_option maxHeartbeats 40000000 in
theorem rmCO (l : Launch) (Z : State) (a0 : Array Value) (hw : ∀ d ∈ tables_1, d.before a0 Z = true) (ws : List Jvm.Cond) (G1 : Int32) (G3 : Value) (x : Addr) (h0 : Heap) (n0 : Nat) (Z0 : n0 ≤ h0.size) (EN : own_env Z G1 G3) (X00 : Old Z n0 h0) (F_coder_x : Fld Z h0 x "java/lang/String" "coder" "B" (.int (0 : Int32))) :
    MetFree l (⟨"java/lang/String", "coder", "()B"⟩ : MethodName) (head1 (Jvm.Cond.code (⟨"java/lang/String", "coder", "()B"⟩ : MethodName) jdk_42_method_152_code 1 (some .byte) :: ws) ({ frames := 0, cells := 0, slots := 0, locals := 0 } : Room)) (fun a_ U_ => a_ = #[(.ref x)] ∧ Z.Warmed39 U_.vm ∧ U_.heap = h0) (fun _ _ _ _ _ => True) (fun _ U_ o_ U1_ => ∃ v_ L_, o_ = .returned v_ ∧ own_Q Z (some (.int (0 : Int32))) h0 n0 v_ U1_.heap L_ ∧ FrameEnd U_ o_ U1_ L_ ({ frames := 0, cells := 0, slots := 0, locals := 0 } : Room).cells ({ frames := 0, cells := 0, slots := 0, locals := 0 } : Room).slots) := by
  refine MetFree.of_bodySF (plainFor_of_name pn_12) hisR ?_
  intro p e s m args below meth c s₁ Bd hml0 hP hK
  obtain ⟨rfl, hZ, hh⟩ := hP
  have hx := Bd.exec
  have hby := Bd.bytes
  have hml : c.maxLocals = 1 := hml0
  have hown : s.vm.findClass "java/lang/String" = some m.cls := findClass_of_methodNamed Bd.named
  have hnm := (name_of_methodNamed Bd.named Bd.method).1
  have X0 : Stand p l e ({ frames := 0, cells := 0, slots := 0, locals := 0 } : Room) s m #[(.ref x)] below meth c s₁ [] 0 0 := Stand.of_body Bd
  have e0 : s₁.heap = h0 := by rw [← hh, Bd.state]; rfl
  have N0 := Fr.nil n0
  have pre0 : ∀ tt, Steps p.tables e below (s₁.setTop (mkF m 0 #[.val (.ref x)] [])) tt → Steps p.tables e below (s₁.setTop (entryFrame m #[(.ref x)] 1)) tt := fun tt kk => castTop (ef_12_r m x) kk
  have EN0 := EN
  obtain ⟨O2, P5, O4, rG3⟩ := EN
  have hws : ∀ d ∈ StrChars.Road.words, d.before a0 Z = true := fun d hd => hw d (own_w1 d hd)
  have hwl : ∀ d ∈ StrChars.Road.wordsLen, d.before a0 Z = true := fun d hd => hw d (own_w2 d hd)
  have hwc : ∀ d ∈ StrChars.Road.wordsChN, d.before a0 Z = true := fun d hd => hw d (own_w3 d hd)
  obtain ⟨T1, X1, e1, st1⟩ := getS2 X0 hx hZ hown (host := "") (Or.inl (hw _ (List.mem_of_getElem? (i := 29) rfl))) Via.refl e0 (Sta.ext X00.2 O2) (g := (mkF m 0 #[.val (.ref x)] [])) rfl (hb hby d12_0)
  obtain ⟨T2, X2, e2, st2⟩ := getF X1 hx hZ hown (host := "") (Or.inl (hw _ (List.mem_of_getElem? (i := 28) rfl))) Via.refl e1 F_coder_x (g := (mkF m 7 #[.val (.ref x)] [(.ref x)])) rfl rfl (hb hby d12_7)
  obtain ⟨fs, hr, hrun, hended, hW, hsame⟩ := X2.leave (v := some (.int (0 : Int32))) (fun h => by rw [Bd.returns] at h; cases h)
  refine ⟨_, _, pre0 _ ?_, hrun, hended, _, _, rfl, ?_, ⟨_, rfl⟩, hW, hsame.mono (by decide) (by decide)⟩
  · show Steps p.tables e below (s₁.setTop (mkF m 0 #[.val (.ref x)] [])) _
    refine st1 _ ?_
    show Steps p.tables e below (T1.setTop (mkF m 3 #[.val (.ref x)] [(.int G1)])) _
    refine XS.ifNo X1.here hx rfl (hb hby d12_3) rfl ((if0 _ _).trans (feq P5).1) ?_
    refine XS.aloadN X1.here hx rfl (hb hby d12_6) rfl rfl ?_
    show Steps p.tables e below (T1.setTop (mkF m 7 #[.val (.ref x)] [(.ref x)])) _
    refine st2 _ ?_
    show Steps p.tables e below (T2.setTop (mkF m 10 #[.val (.ref x)] [(.int (0 : Int32))])) _
    refine XS.goto X2.here hx rfl (pc0 := 10) (pc' := 14) rfl (hb hby d12_10) (by decide) (by decide) ?_
    show Steps p.tables e below (T2.setTop (mkF m 14 #[.val (.ref x)] [(.int (0 : Int32))])) _
    exact retN X2 hx (t := .byte) Bd.returns (by simp) (hb hby d12_14) hr
  · show own_Q Z (some (.int (0 : Int32))) h0 n0 _ T2.heap _
    rw [e2]
    exact ⟨rfl, N0, rfl⟩
theorem d14_0 : decode jdk_42_method_75_code 0 = .ok (.iload_n 2, 1) := by decide +kernel
theorem d14_1 : decode jdk_42_method_75_code 1 = .ok (.ifCond .lt 16, 3) := by decide +kernel
theorem d14_4 : decode jdk_42_method_75_code 4 = .ok (.iload_n 2, 1) := by decide +kernel
theorem d14_5 : decode jdk_42_method_75_code 5 = .ok (.aload_n 0, 1) := by decide +kernel
theorem d14_6 : decode jdk_42_method_75_code 6 = .ok (.invokevirtual 505, 3) := by decide +kernel
theorem d14_9 : decode jdk_42_method_75_code 9 = .ok (.aload_n 1, 1) := by decide +kernel
theorem d14_10 : decode jdk_42_method_75_code 10 = .ok (.invokevirtual 505, 3) := by decide +kernel
theorem d14_13 : decode jdk_42_method_75_code 13 = .ok (.isub, 1) := by decide +kernel
theorem d14_14 : decode jdk_42_method_75_code 14 = .ok (.if_icmp .le 5, 3) := by decide +kernel
theorem d14_19 : decode jdk_42_method_75_code 19 = .ok (.aload_n 0, 1) := by decide +kernel
theorem d14_20 : decode jdk_42_method_75_code 20 = .ok (.getfield 9, 3) := by decide +kernel
theorem d14_23 : decode jdk_42_method_75_code 23 = .ok (.astore_n 3, 1) := by decide +kernel
theorem d14_24 : decode jdk_42_method_75_code 24 = .ok (.aload_n 1, 1) := by decide +kernel
theorem d14_25 : decode jdk_42_method_75_code 25 = .ok (.getfield 9, 3) := by decide +kernel
theorem d14_28 : decode jdk_42_method_75_code 28 = .ok (.astore 4, 2) := by decide +kernel
theorem d14_30 : decode jdk_42_method_75_code 30 = .ok (.iconst 0, 1) := by decide +kernel
theorem d14_31 : decode jdk_42_method_75_code 31 = .ok (.istore 5, 2) := by decide +kernel
theorem d14_33 : decode jdk_42_method_75_code 33 = .ok (.aload 4, 2) := by decide +kernel
theorem d14_35 : decode jdk_42_method_75_code 35 = .ok (.arraylength, 1) := by decide +kernel
theorem d14_36 : decode jdk_42_method_75_code 36 = .ok (.istore 6, 2) := by decide +kernel
theorem d14_38 : decode jdk_42_method_75_code 38 = .ok (.aload_n 0, 1) := by decide +kernel
theorem pd___B : parseMethodDescriptor "()B" = some ⟨[], some .byte⟩ := by decide +kernel
theorem d14_39 : decode jdk_42_method_75_code 39 = .ok (.invokevirtual 335, 3) := by decide +kernel
theorem d14_42 : decode jdk_42_method_75_code 42 = .ok (.istore 7, 2) := by decide +kernel
theorem d14_44 : decode jdk_42_method_75_code 44 = .ok (.iload 7, 2) := by decide +kernel
theorem d14_46 : decode jdk_42_method_75_code 46 = .ok (.aload_n 1, 1) := by decide +kernel
theorem d14_47 : decode jdk_42_method_75_code 47 = .ok (.invokevirtual 335, 3) := by decide +kernel
theorem d14_50 : decode jdk_42_method_75_code 50 = .ok (.if_icmp .ne 32, 3) := by decide +kernel
theorem d14_53 : decode jdk_42_method_75_code 53 = .ok (.iload 7, 2) := by decide +kernel
theorem d14_55 : decode jdk_42_method_75_code 55 = .ok (.iconst 1, 1) := by decide +kernel
theorem d14_56 : decode jdk_42_method_75_code 56 = .ok (.if_icmp .ne 7, 3) := by decide +kernel
theorem d14_63 : decode jdk_42_method_75_code 63 = .ok (.aload_n 3, 1) := by decide +kernel
theorem d14_64 : decode jdk_42_method_75_code 64 = .ok (.iload_n 2, 1) := by decide +kernel
theorem d14_65 : decode jdk_42_method_75_code 65 = .ok (.aload 4, 2) := by decide +kernel
theorem d14_67 : decode jdk_42_method_75_code 67 = .ok (.iconst 0, 1) := by decide +kernel
theorem d14_68 : decode jdk_42_method_75_code 68 = .ok (.iload 6, 2) := by decide +kernel
theorem pd___BI_BII_I : parseMethodDescriptor "([BI[BII)I" = some ⟨[(.array .byte), .int, (.array .byte), .int, .int], some .int⟩ := by decide +kernel
theorem d14_70 : decode jdk_42_method_75_code 70 = .ok (.invokestatic 607, 3) := by decide +kernel
theorem d14_73 : decode jdk_42_method_75_code 73 = .ok (.ifCond .ge 7, 3) := by decide +kernel
theorem d14_76 : decode jdk_42_method_75_code 76 = .ok (.iconst 1, 1) := by decide +kernel
theorem d14_77 : decode jdk_42_method_75_code 77 = .ok (.goto 4, 3) := by decide +kernel
theorem d14_81 : decode jdk_42_method_75_code 81 = .ok (.ireturn, 1) := by decide +kernel
theorem pn_14 : plainName "java/lang/String" = true := by first | (simp [plainName, overriddenIn]; done) | decide +kernel
theorem ef_14_rrr (m : MethodId) (x0 : Addr) (x1 : Addr) (x2 : Int32) : entryFrame m #[(.ref x0), (.ref x1), (.int x2)] 8 = mkF m 0 #[.val (.ref x0), .val (.ref x1), .val (.int x2), .unset, .unset, .unset, .unset, .unset] [] := by first | (simp [entryFrame, mkF, argsToLocals, Value.category]; done) | rfl
set_option maxRecDepth 65536 in
set_option maxHeartbeats 40000000 in
theorem rmSW (l : Launch) (Z : State) (a0 : Array Value) (hw : ∀ d ∈ tables_1, d.before a0 Z = true) (ws : List Jvm.Cond) (G1 : Int32) (G3 : Value) (x : Addr) (y : Addr) (cs : List Int32) (ds : List Int32) (j : Nat) (h0 : Heap) (n0 : Nat) (Z0 : n0 ≤ h0.size) (EN : own_env Z G1 G3) (X00 : Old Z n0 h0) (S_x : own_s Z h0 x cs) (S_y : own_s Z h0 y ds) (hd : ∀ i, i < ds.length → cs.getD (j + i) 0 = ds.getD i 0) (hjl : j + ds.length ≤ cs.length) :
    MetFree l (⟨"java/lang/String", "startsWith", "(Ljava/lang/String;I)Z"⟩ : MethodName) (head1 (Jvm.Cond.code (⟨"java/lang/String", "startsWith", "(Ljava/lang/String;I)Z"⟩ : MethodName) jdk_42_method_75_code 8 (some .boolean) :: ws) ({ frames := 2, cells := 0, slots := 0, locals := 27 } : Room)) (fun a_ U_ => a_ = #[(.ref x), (.ref y), (.int (Int32.ofNat j))] ∧ Z.Warmed39 U_.vm ∧ U_.heap = h0) (fun _ _ _ _ _ => True) (fun _ U_ o_ U1_ => ∃ v_ L_, o_ = .returned v_ ∧ own_Q Z (some (.int (1 : Int32))) h0 n0 v_ U1_.heap L_ ∧ FrameEnd U_ o_ U1_ L_ ({ frames := 2, cells := 0, slots := 0, locals := 27 } : Room).cells ({ frames := 2, cells := 0, slots := 0, locals := 27 } : Room).slots) := by
  refine MetFree.of_bodySF (plainFor_of_name pn_14) hisR ?_
  intro p e s m args below meth c s₁ Bd hml0 hP hK
  obtain ⟨rfl, hZ, hh⟩ := hP
  have hx := Bd.exec
  have hby := Bd.bytes
  have hml : c.maxLocals = 8 := hml0
  have hown : s.vm.findClass "java/lang/String" = some m.cls := findClass_of_methodNamed Bd.named
  have hnm := (name_of_methodNamed Bd.named Bd.method).1
  have X0 : Stand p l e ({ frames := 2, cells := 0, slots := 0, locals := 27 } : Room) s m #[(.ref x), (.ref y), (.int (Int32.ofNat j))] below meth c s₁ [] 0 0 := Stand.of_body Bd
  have e0 : s₁.heap = h0 := by rw [← hh, Bd.state]; rfl
  have N0 := Fr.nil n0
  have pre0 : ∀ tt, Steps p.tables e below (s₁.setTop (mkF m 0 #[.val (.ref x), .val (.ref y), .val (.int (Int32.ofNat j)), .unset, .unset, .unset, .unset, .unset] [])) tt → Steps p.tables e below (s₁.setTop (entryFrame m #[(.ref x), (.ref y), (.int (Int32.ofNat j))] 8)) tt := fun tt kk => castTop (ef_14_rrr m x y (Int32.ofNat j)) kk
  have EN0 := EN
  obtain ⟨O2, P5, O4, rG3⟩ := EN
  have hws : ∀ d ∈ StrChars.Road.words, d.before a0 Z = true := fun d hd => hw d (own_w1 d hd)
  have hwl : ∀ d ∈ StrChars.Road.wordsLen, d.before a0 Z = true := fun d hd => hw d (own_w2 d hd)
  have hwc : ∀ d ∈ StrChars.Road.wordsChN, d.before a0 Z = true := fun d hd => hw d (own_w3 d hd)
  obtain ⟨b_x, k_x, E_x, C_x, V_x, K_x, hp_x, hl_x⟩ := id S_x
  obtain ⟨b_y, k_y, E_y, C_y, V_y, K_y, hp_y, hl_y⟩ := id S_y
  obtain ⟨cq1, kq1, q1a, q1b, q1c⟩ := isOf hZ e0 E_x
  obtain ⟨_, _, ⟨T1, L1, k1, n1⟩, -, X1, ⟨Lc1, hQ1, l1, y1, z1⟩, st1⟩ := X0.virtualBack hx (y := (⟨"java/lang/String", "length", "()I"⟩ : MethodName)) (z := (⟨"java/lang/String", "length", "()I"⟩ : MethodName)) hown (mvT hZ (hw _ (List.mem_of_getElem? (i := 82) rfl))) (mvT hZ (hw _ (List.mem_of_getElem? (i := 63) rfl))) (notFace_of_selects (args := #[]) (mvT hZ (hw _ (List.mem_of_getElem? (i := 65) rfl)))) (mvT hZ (hw _ (List.mem_of_getElem? (i := 65) rfl))) (mvT hZ (hw _ (List.mem_of_getElem? (i := 64) rfl))) (by decide) (StrChars.Road.lenW (W := 1) hZ hwl (kI := 4) (hw _ (List.mem_of_getElem? (i := 9) rfl)) E_x V_x C_x K_x (StrChars.Road.codOf rfl fun c hc => (hp_x c hc).2) (own_up hp_x) (Sta.ext X00.2 O2) P5 (own_l4 hl_x) (by decide) (by decide)) q1a q1c (g := (mkF m 6 #[.val (.ref x), .val (.ref y), .val (.int (Int32.ofNat j)), .unset, .unset, .unset, .unset, .unset] [(.ref x), (.int (Int32.ofNat j))])) rfl (by rw [hml]; rfl) (Steps.refl _) (argsL := []) (rest := [(.int (Int32.ofNat j))]) (lenOf pd___I rfl) rfl (by show 2 * 0 + _ ≤ _; exact Nat.le_of_eq rfl) (hb hby d14_6) (fun _ _ => ⟨rfl, e0, (by decide : 0 + 0 ≤ _), (by decide : 0 + 0 ≤ _)⟩)
  dsimp only [Pt.U, Pt.locs, Pt.cells, Pt.slots] at X1 l1 y1 z1 st1 hQ1
  subst l1 y1 z1
  obtain ⟨rfl, rfl, eq1⟩ := hQ1
  have N1 := Fr.app N0 (Fr.nil n0)
  obtain ⟨cq2, kq2, q2a, q2b, q2c⟩ := isOf hZ eq1 E_y
  obtain ⟨_, _, ⟨T2, L2, k2, n2⟩, -, X2, ⟨Lc2, hQ2, l2, y2, z2⟩, st2⟩ := X1.virtualBack hx (y := (⟨"java/lang/String", "length", "()I"⟩ : MethodName)) (z := (⟨"java/lang/String", "length", "()I"⟩ : MethodName)) hown (mvT hZ (hw _ (List.mem_of_getElem? (i := 82) rfl))) (mvT hZ (hw _ (List.mem_of_getElem? (i := 63) rfl))) (notFace_of_selects (args := #[]) (mvT hZ (hw _ (List.mem_of_getElem? (i := 65) rfl)))) (mvT hZ (hw _ (List.mem_of_getElem? (i := 65) rfl))) (mvT hZ (hw _ (List.mem_of_getElem? (i := 64) rfl))) (by decide) (StrChars.Road.lenW (W := 2) hZ hwl (kI := 4) (hw _ (List.mem_of_getElem? (i := 9) rfl)) E_y V_y C_y K_y (StrChars.Road.codOf rfl fun c hc => (hp_y c hc).2) (own_up hp_y) (Sta.ext X00.2 O2) P5 (own_l4 hl_y) (by decide) (by decide)) q2a q2c (g := (mkF m 10 #[.val (.ref x), .val (.ref y), .val (.int (Int32.ofNat j)), .unset, .unset, .unset, .unset, .unset] [(.ref y), (.int (Int32.ofNat cs.length)), (.int (Int32.ofNat j))])) rfl (by rw [hml]; rfl) (Steps.refl _) (argsL := []) (rest := [(.int (Int32.ofNat cs.length)), (.int (Int32.ofNat j))]) (lenOf pd___I rfl) rfl (by show 2 * 0 + _ ≤ _; exact Nat.le_of_eq rfl) (hb hby d14_10) (fun _ _ => ⟨rfl, eq1, (by decide : 0 + 0 ≤ _), (by decide : 0 + 0 ≤ _)⟩)
  dsimp only [Pt.U, Pt.locs, Pt.cells, Pt.slots] at X2 l2 y2 z2 st2 hQ2
  subst l2 y2 z2
  obtain ⟨rfl, rfl, eq2⟩ := hQ2
  have N2 := Fr.app N1 (Fr.nil n0)
  obtain ⟨T3, X3, e3, st3⟩ := getF X2 hx hZ hown (host := "") (Or.inl (hw _ (List.mem_of_getElem? (i := 27) rfl))) Via.refl eq2 V_x (g := (mkF m 20 #[.val (.ref x), .val (.ref y), .val (.int (Int32.ofNat j)), .unset, .unset, .unset, .unset, .unset] [(.ref x)])) rfl rfl (hb hby d14_20)
  obtain ⟨T4, X4, e4, st4⟩ := getF X3 hx hZ hown (host := "") (Or.inl (hw _ (List.mem_of_getElem? (i := 27) rfl))) Via.refl e3 V_y (g := (mkF m 25 #[.val (.ref x), .val (.ref y), .val (.int (Int32.ofNat j)), .val (.ref b_x), .unset, .unset, .unset, .unset] [(.ref y)])) rfl rfl (hb hby d14_25)
  obtain ⟨c5, Ar5, -, S5, M5, -, -⟩ := id K_y
  obtain ⟨cq6, kq6, q6a, q6b, q6c⟩ := isOf hZ e4 E_x
  obtain ⟨_, _, ⟨T6, L6, k6, n6⟩, -, X6, ⟨Lc6, hQ6, l6, y6, z6⟩, st6⟩ := X4.virtualBack hx (y := (⟨"java/lang/String", "coder", "()B"⟩ : MethodName)) (z := (⟨"java/lang/String", "coder", "()B"⟩ : MethodName)) hown (mvT hZ (hw _ (List.mem_of_getElem? (i := 67) rfl))) (mvT hZ (hw _ (List.mem_of_getElem? (i := 68) rfl))) (notFace_of_selects (args := #[]) (mvT hZ (hw _ (List.mem_of_getElem? (i := 70) rfl)))) (mvT hZ (hw _ (List.mem_of_getElem? (i := 70) rfl))) (mvT hZ (hw _ (List.mem_of_getElem? (i := 69) rfl))) (by decide) (backOf (W := 0) (rmCO l Z a0 hw [] G1 G3 x h0 n0 Z0 EN0 X00 C_x) hZ (hw _ (List.mem_of_getElem? (i := 71) rfl)) (hw _ (List.mem_of_getElem? (i := 10) rfl)) (by decide) (by decide)) q6a q6c (g := (mkF m 39 #[.val (.ref x), .val (.ref y), .val (.int (Int32.ofNat j)), .val (.ref b_x), .val (.ref b_y), .val (.int (0 : Int32)), .val (.int (Int32.ofNat ds.length)), .unset] [(.ref x)])) rfl (by rw [hml]; rfl) (Steps.refl _) (argsL := []) (rest := []) (lenOf pd___B rfl) rfl (by show 2 * 0 + _ ≤ _; exact Nat.le_of_eq rfl) (hb hby d14_39) (fun _ _ => ⟨rfl, e4, (by decide : 0 + 0 ≤ _), (by decide : 0 + 0 ≤ _)⟩)
  dsimp only [Pt.U, Pt.locs, Pt.cells, Pt.slots] at X6 l6 y6 z6 st6 hQ6
  subst l6 y6 z6
  obtain ⟨rfl, Nq6, eq6⟩ := hQ6
  have N6 := Fr.app N2 Nq6
  obtain ⟨cq7, kq7, q7a, q7b, q7c⟩ := isOf hZ eq6 E_y
  obtain ⟨_, _, ⟨T7, L7, k7, n7⟩, -, X7, ⟨Lc7, hQ7, l7, y7, z7⟩, st7⟩ := X6.virtualBack hx (y := (⟨"java/lang/String", "coder", "()B"⟩ : MethodName)) (z := (⟨"java/lang/String", "coder", "()B"⟩ : MethodName)) hown (mvT hZ (hw _ (List.mem_of_getElem? (i := 67) rfl))) (mvT hZ (hw _ (List.mem_of_getElem? (i := 68) rfl))) (notFace_of_selects (args := #[]) (mvT hZ (hw _ (List.mem_of_getElem? (i := 70) rfl)))) (mvT hZ (hw _ (List.mem_of_getElem? (i := 70) rfl))) (mvT hZ (hw _ (List.mem_of_getElem? (i := 69) rfl))) (by decide) (backOf (W := 1) (rmCO l Z a0 hw [] G1 G3 y h0 n0 Z0 EN0 X00 C_y) hZ (hw _ (List.mem_of_getElem? (i := 71) rfl)) (hw _ (List.mem_of_getElem? (i := 10) rfl)) (by decide) (by decide)) q7a q7c (g := (mkF m 47 #[.val (.ref x), .val (.ref y), .val (.int (Int32.ofNat j)), .val (.ref b_x), .val (.ref b_y), .val (.int (0 : Int32)), .val (.int (Int32.ofNat ds.length)), .val (.int (0 : Int32))] [(.ref y), (.int (0 : Int32))])) rfl (by rw [hml]; rfl) (Steps.refl _) (argsL := []) (rest := [(.int (0 : Int32))]) (lenOf pd___B rfl) rfl (by show 2 * 0 + _ ≤ _; exact Nat.le_of_eq rfl) (hb hby d14_47) (fun _ _ => ⟨rfl, eq6, (by decide : 0 + 0 ≤ _), (by decide : 0 + 0 ≤ _)⟩)
  dsimp only [Pt.U, Pt.locs, Pt.cells, Pt.slots] at X7 l7 y7 z7 st7 hQ7
  subst l7 y7 z7
  obtain ⟨rfl, Nq7, eq7⟩ := hQ7
  have N7 := Fr.app N6 Nq7
  obtain ⟨_, _, ⟨T8, L8, k8, n8⟩, -, X8, ⟨Lc8, hQ8, l8, y8, z8⟩, st8⟩ := Jvm.LawKit.callS X7 hx (y := (⟨"jdk/internal/util/ArraysSupport", "mismatch", "([BI[BII)I"⟩ : MethodName)) hown (mvT hZ (hw _ (List.mem_of_getElem? (i := 83) rfl))) (mvT hZ (hw _ (List.mem_of_getElem? (i := 84) rfl))) (mvT hZ (hw _ (List.mem_of_getElem? (i := 85) rfl))) (mvT hZ (hw _ (List.mem_of_getElem? (i := 86) rfl))) (by decide) (backOf (W := 0) (rmMM l Z a0 hw [] b_x k_x cs j b_y k_y ds h0 n0 Z0 K_x K_y hl_x hd hjl) hZ (hw _ (List.mem_of_getElem? (i := 86) rfl)) (hw _ (List.mem_of_getElem? (i := 85) rfl)) (by decide) (by decide)) (g := (mkF m 70 #[.val (.ref x), .val (.ref y), .val (.int (Int32.ofNat j)), .val (.ref b_x), .val (.ref b_y), .val (.int (0 : Int32)), .val (.int (Int32.ofNat ds.length)), .val (.int (0 : Int32))] [(.int (Int32.ofNat ds.length)), (.int (0 : Int32)), (.ref b_y), (.int (Int32.ofNat j)), (.ref b_x)])) rfl (by rw [hml]; rfl) (argsL := [(.ref b_x), (.int (Int32.ofNat j)), (.ref b_y), (.int (0 : Int32)), (.int (Int32.ofNat ds.length))]) (rest := []) (lenOf pd___BI_BII_I rfl) rfl (by show 2 * 0 + _ ≤ _; exact Nat.le_of_eq rfl) (hb hby d14_70) (fun _ _ => ⟨rfl, eq7, (by decide : 0 + 0 ≤ _), (by decide : 0 + 0 ≤ _)⟩)
  dsimp only [Pt.U, Pt.locs, Pt.cells, Pt.slots] at X8 l8 y8 z8 st8 hQ8
  subst l8 y8 z8
  obtain ⟨rfl, Nq8, eq8⟩ := hQ8
  have N8 := Fr.app N7 Nq8
  obtain ⟨fs, hr, hrun, hended, hW, hsame⟩ := X8.leave (v := some (.int (1 : Int32))) (fun h => by rw [Bd.returns] at h; cases h)
  refine ⟨_, _, pre0 _ ?_, hrun, hended, _, _, rfl, ?_, ⟨_, rfl⟩, hW, hsame.mono (by decide) (by decide)⟩
  · show Steps p.tables e below (s₁.setTop (mkF m 0 #[.val (.ref x), .val (.ref y), .val (.int (Int32.ofNat j)), .unset, .unset, .unset, .unset, .unset] [])) _
    refine XS.iloadN X0.here hx rfl (hb hby d14_0) rfl ?_
    refine XS.ifNo X0.here hx rfl (hb hby d14_1) rfl ((if0 _ _).trans (flt (own_n0 (by omega))).1) ?_
    refine XS.iloadN X0.here hx rfl (hb hby d14_4) rfl ?_
    refine XS.aloadN X0.here hx rfl (hb hby d14_5) rfl rfl ?_
    show Steps p.tables e below (s₁.setTop (mkF m 6 #[.val (.ref x), .val (.ref y), .val (.int (Int32.ofNat j)), .unset, .unset, .unset, .unset, .unset] [(.ref x), (.int (Int32.ofNat j))])) _
    refine st1.trans ?_
    show Steps p.tables e below (T1.setTop (mkF m 9 #[.val (.ref x), .val (.ref y), .val (.int (Int32.ofNat j)), .unset, .unset, .unset, .unset, .unset] [(.int (Int32.ofNat cs.length)), (.int (Int32.ofNat j))])) _
    refine XS.aloadN X1.here hx rfl (hb hby d14_9) rfl rfl ?_
    show Steps p.tables e below (T1.setTop (mkF m 10 #[.val (.ref x), .val (.ref y), .val (.int (Int32.ofNat j)), .unset, .unset, .unset, .unset, .unset] [(.ref y), (.int (Int32.ofNat cs.length)), (.int (Int32.ofNat j))])) _
    refine st2.trans ?_
    show Steps p.tables e below (T2.setTop (mkF m 13 #[.val (.ref x), .val (.ref y), .val (.int (Int32.ofNat j)), .unset, .unset, .unset, .unset, .unset] [(.int (Int32.ofNat ds.length)), (.int (Int32.ofNat cs.length)), (.int (Int32.ofNat j))])) _
    refine XS.isub X2.here hx rfl (hb hby d14_13) rfl ?_
    show Steps p.tables e below (T2.setTop (mkF m 14 #[.val (.ref x), .val (.ref y), .val (.int (Int32.ofNat j)), .unset, .unset, .unset, .unset, .unset] [(.int ((Int32.ofNat cs.length) - (Int32.ofNat ds.length))), (.int (Int32.ofNat j))])) _
    rw [(own_sub (i := cs.length) (j := ds.length) (by omega) (by omega))]
    show Steps p.tables e below (T2.setTop (mkF m 14 #[.val (.ref x), .val (.ref y), .val (.int (Int32.ofNat j)), .unset, .unset, .unset, .unset, .unset] [(.int (Int32.ofNat (cs.length - ds.length))), (.int (Int32.ofNat j))])) _
    refine XS.icmpYes X2.here hx rfl (pc0 := 14) (pc' := 19) rfl (hb hby d14_14) rfl (flt (fun q => absurd ((own_lt (by omega) (by omega)).mp q) (by omega))).2.2.2 (by decide) (by decide) ?_
    refine XS.aloadN X2.here hx rfl (hb hby d14_19) rfl rfl ?_
    show Steps p.tables e below (T2.setTop (mkF m 20 #[.val (.ref x), .val (.ref y), .val (.int (Int32.ofNat j)), .unset, .unset, .unset, .unset, .unset] [(.ref x)])) _
    refine st3 _ ?_
    show Steps p.tables e below (T3.setTop (mkF m 23 #[.val (.ref x), .val (.ref y), .val (.int (Int32.ofNat j)), .unset, .unset, .unset, .unset, .unset] [(.ref b_x)])) _
    refine XS.astoreN X3.here hx rfl (hb hby d14_23) rfl rfl (l' := #[.val (.ref x), .val (.ref y), .val (.int (Int32.ofNat j)), .val (.ref b_x), .unset, .unset, .unset, .unset]) rfl ?_
    refine XS.aloadN X3.here hx rfl (hb hby d14_24) rfl rfl ?_
    show Steps p.tables e below (T3.setTop (mkF m 25 #[.val (.ref x), .val (.ref y), .val (.int (Int32.ofNat j)), .val (.ref b_x), .unset, .unset, .unset, .unset] [(.ref y)])) _
    refine st4 _ ?_
    show Steps p.tables e below (T4.setTop (mkF m 28 #[.val (.ref x), .val (.ref y), .val (.int (Int32.ofNat j)), .val (.ref b_x), .unset, .unset, .unset, .unset] [(.ref b_y)])) _
    refine XS.astore X4.here hx rfl (hb hby d14_28) rfl rfl (l' := #[.val (.ref x), .val (.ref y), .val (.int (Int32.ofNat j)), .val (.ref b_x), .val (.ref b_y), .unset, .unset, .unset]) rfl ?_
    refine XS.iconst X4.here hx rfl (hb hby d14_30) ?_
    refine XS.istore X4.here hx rfl (hb hby d14_31) rfl (l' := #[.val (.ref x), .val (.ref y), .val (.int (Int32.ofNat j)), .val (.ref b_x), .val (.ref b_y), .val (.int (0 : Int32)), .unset, .unset]) rfl ?_
    refine XS.aload X4.here hx rfl (hb hby d14_33) rfl rfl ?_
    show Steps p.tables e below (T4.setTop (mkF m 35 #[.val (.ref x), .val (.ref y), .val (.int (Int32.ofNat j)), .val (.ref b_x), .val (.ref b_y), .val (.int (0 : Int32)), .unset, .unset] [(.ref b_y)])) _
    refine X4.arraylength hx (by rw [e4]; exact Ar5.1) (State.isArrayOf_alike hZ.alike Ar5.2.1) (g := (mkF m 35 #[.val (.ref x), .val (.ref y), .val (.int (Int32.ofNat j)), .val (.ref b_x), .val (.ref b_y), .val (.int (0 : Int32)), .unset, .unset] [(.ref b_y)])) rfl rfl (hb hby d14_35) _ ?_
    rw [len_of S5 M5]
    show Steps p.tables e below (T4.setTop (mkF m 36 #[.val (.ref x), .val (.ref y), .val (.int (Int32.ofNat j)), .val (.ref b_x), .val (.ref b_y), .val (.int (0 : Int32)), .unset, .unset] [(.int (Int32.ofNat ds.length))])) _
    refine XS.istore X4.here hx rfl (hb hby d14_36) rfl (l' := #[.val (.ref x), .val (.ref y), .val (.int (Int32.ofNat j)), .val (.ref b_x), .val (.ref b_y), .val (.int (0 : Int32)), .val (.int (Int32.ofNat ds.length)), .unset]) rfl ?_
    refine XS.aloadN X4.here hx rfl (hb hby d14_38) rfl rfl ?_
    show Steps p.tables e below (T4.setTop (mkF m 39 #[.val (.ref x), .val (.ref y), .val (.int (Int32.ofNat j)), .val (.ref b_x), .val (.ref b_y), .val (.int (0 : Int32)), .val (.int (Int32.ofNat ds.length)), .unset] [(.ref x)])) _
    refine st6.trans ?_
    show Steps p.tables e below (T6.setTop (mkF m 42 #[.val (.ref x), .val (.ref y), .val (.int (Int32.ofNat j)), .val (.ref b_x), .val (.ref b_y), .val (.int (0 : Int32)), .val (.int (Int32.ofNat ds.length)), .unset] [(.int (0 : Int32))])) _
    refine XS.istore X6.here hx rfl (hb hby d14_42) rfl (l' := #[.val (.ref x), .val (.ref y), .val (.int (Int32.ofNat j)), .val (.ref b_x), .val (.ref b_y), .val (.int (0 : Int32)), .val (.int (Int32.ofNat ds.length)), .val (.int (0 : Int32))]) rfl ?_
    refine XS.iload X6.here hx rfl (hb hby d14_44) rfl ?_
    refine XS.aloadN X6.here hx rfl (hb hby d14_46) rfl rfl ?_
    show Steps p.tables e below (T6.setTop (mkF m 47 #[.val (.ref x), .val (.ref y), .val (.int (Int32.ofNat j)), .val (.ref b_x), .val (.ref b_y), .val (.int (0 : Int32)), .val (.int (Int32.ofNat ds.length)), .val (.int (0 : Int32))] [(.ref y), (.int (0 : Int32))])) _
    refine st7.trans ?_
    show Steps p.tables e below (T7.setTop (mkF m 50 #[.val (.ref x), .val (.ref y), .val (.int (Int32.ofNat j)), .val (.ref b_x), .val (.ref b_y), .val (.int (0 : Int32)), .val (.int (Int32.ofNat ds.length)), .val (.int (0 : Int32))] [(.int (0 : Int32)), (.int (0 : Int32))])) _
    refine XS.icmpNo X7.here hx rfl (hb hby d14_50) rfl (teq (by decide : (0 : Int32) = (0 : Int32))).2 ?_
    refine XS.iload X7.here hx rfl (hb hby d14_53) rfl ?_
    refine XS.iconst X7.here hx rfl (hb hby d14_55) ?_
    refine XS.icmpYes X7.here hx rfl (pc0 := 56) (pc' := 63) rfl (hb hby d14_56) rfl (feq (by decide : ¬ ((0 : Int32) = (1 : Int32)))).2 (by decide) (by decide) ?_
    refine XS.aloadN X7.here hx rfl (hb hby d14_63) rfl rfl ?_
    refine XS.iloadN X7.here hx rfl (hb hby d14_64) rfl ?_
    refine XS.aload X7.here hx rfl (hb hby d14_65) rfl rfl ?_
    refine XS.iconst X7.here hx rfl (hb hby d14_67) ?_
    refine XS.iload X7.here hx rfl (hb hby d14_68) rfl ?_
    show Steps p.tables e below (T7.setTop (mkF m 70 #[.val (.ref x), .val (.ref y), .val (.int (Int32.ofNat j)), .val (.ref b_x), .val (.ref b_y), .val (.int (0 : Int32)), .val (.int (Int32.ofNat ds.length)), .val (.int (0 : Int32))] [(.int (Int32.ofNat ds.length)), (.int (0 : Int32)), (.ref b_y), (.int (Int32.ofNat j)), (.ref b_x)])) _
    refine st8 _ ?_
    show Steps p.tables e below (T8.setTop (mkF m 73 #[.val (.ref x), .val (.ref y), .val (.int (Int32.ofNat j)), .val (.ref b_x), .val (.ref b_y), .val (.int (0 : Int32)), .val (.int (Int32.ofNat ds.length)), .val (.int (0 : Int32))] [(.int (-1 : Int32))])) _
    refine XS.ifNo X8.here hx rfl (hb hby d14_73) rfl ((if0 _ _).trans (tlt (by decide : (-1 : Int32) < (0 : Int32))).2.1) ?_
    refine XS.iconst X8.here hx rfl (hb hby d14_76) ?_
    refine XS.goto X8.here hx rfl (pc0 := 77) (pc' := 81) rfl (hb hby d14_77) (by decide) (by decide) ?_
    show Steps p.tables e below (T8.setTop (mkF m 81 #[.val (.ref x), .val (.ref y), .val (.int (Int32.ofNat j)), .val (.ref b_x), .val (.ref b_y), .val (.int (0 : Int32)), .val (.int (Int32.ofNat ds.length)), .val (.int (0 : Int32))] [(.int (1 : Int32))])) _
    exact retN X8 hx (t := .boolean) Bd.returns (by simp) (hb hby d14_81) hr
  · show own_Q Z (some (.int (1 : Int32))) h0 n0 _ T8.heap _
    rw [eq8]
    exact ⟨rfl, N8, rfl⟩
def own_QA (Z : State) (r x : Addr) (k : Nat) (h0 : Heap) (n0 : Nat) (v : Option Value) (h : Heap) (L : List Loc) : Prop := v = some (.int (1 : Int32)) ∧ Fr n0 L ∧ Keep h0 h [r] ∧ Exa Z h r "com/example/atomize/atomize/http/FieldValueReader" ∧ Fld Z h r "com/example/atomize/atomize/http/FieldValueReader" "text" "Ljava/lang/String;" (.ref x) ∧ Fld Z h r "com/example/atomize/atomize/http/FieldValueReader" "position" "I" (.int (Int32.ofNat k))
theorem d13_0 : decode prog_5_method_4_code 0 = .ok (.aload_n 0, 1) := by decide +kernel
theorem d13_1 : decode prog_5_method_4_code 1 = .ok (.getfield 13, 3) := by decide +kernel
theorem d13_4 : decode prog_5_method_4_code 4 = .ok (.aload_n 1, 1) := by decide +kernel
theorem d13_5 : decode prog_5_method_4_code 5 = .ok (.aload_n 0, 1) := by decide +kernel
theorem d13_6 : decode prog_5_method_4_code 6 = .ok (.getfield 19, 3) := by decide +kernel
theorem pd__Ljava_lang_String_I_Z : parseMethodDescriptor "(Ljava/lang/String;I)Z" = some ⟨[(.object "java/lang/String"), .int], some .boolean⟩ := by decide +kernel
theorem d13_9 : decode prog_5_method_4_code 9 = .ok (.invokevirtual 45, 3) := by decide +kernel
theorem d13_12 : decode prog_5_method_4_code 12 = .ok (.istore_n 2, 1) := by decide +kernel
theorem d13_13 : decode prog_5_method_4_code 13 = .ok (.iload_n 2, 1) := by decide +kernel
theorem d13_14 : decode prog_5_method_4_code 14 = .ok (.ifCond .eq 16, 3) := by decide +kernel
theorem d13_17 : decode prog_5_method_4_code 17 = .ok (.aload_n 0, 1) := by decide +kernel
theorem d13_18 : decode prog_5_method_4_code 18 = .ok (.dup, 1) := by decide +kernel
theorem d13_19 : decode prog_5_method_4_code 19 = .ok (.getfield 19, 3) := by decide +kernel
theorem d13_22 : decode prog_5_method_4_code 22 = .ok (.aload_n 1, 1) := by decide +kernel
theorem d13_23 : decode prog_5_method_4_code 23 = .ok (.invokevirtual 23, 3) := by decide +kernel
theorem d13_26 : decode prog_5_method_4_code 26 = .ok (.iadd, 1) := by decide +kernel
theorem d13_27 : decode prog_5_method_4_code 27 = .ok (.putfield 19, 3) := by decide +kernel
theorem d13_30 : decode prog_5_method_4_code 30 = .ok (.iload_n 2, 1) := by decide +kernel
theorem d13_31 : decode prog_5_method_4_code 31 = .ok (.ireturn, 1) := by decide +kernel
theorem pn_13 : plainName "com/example/atomize/atomize/http/FieldValueReader" = true := by first | (simp [plainName, overriddenIn]; done) | decide +kernel
theorem ef_13_rr (m : MethodId) (x0 : Addr) (x1 : Addr) : entryFrame m #[(.ref x0), (.ref x1)] 3 = mkF m 0 #[.val (.ref x0), .val (.ref x1), .unset] [] := by first | (simp [entryFrame, mkF, argsToLocals, Value.category]; done) | rfl
set_option maxRecDepth 65536 in
set_option maxHeartbeats 40000000 in
theorem rmAP (l : Launch) (Z : State) (a0 : Array Value) (hw : ∀ d ∈ tables_1, d.before a0 Z = true) (ws : List Jvm.Cond) (G1 : Int32) (G3 : Value) (r : Addr) (x : Addr) (y : Addr) (cs : List Int32) (ds : List Int32) (j : Nat) (k : Nat) (h0 : Heap) (n0 : Nat) (Z0 : n0 ≤ h0.size) (EN : own_env Z G1 G3) (X00 : Old Z n0 h0) (E_r : Exa Z h0 r "com/example/atomize/atomize/http/FieldValueReader") (F_text_r : Fld Z h0 r "com/example/atomize/atomize/http/FieldValueReader" "text" "Ljava/lang/String;" (.ref x)) (F_position_r : Fld Z h0 r "com/example/atomize/atomize/http/FieldValueReader" "position" "I" (.int (Int32.ofNat j))) (g_r : n0 ≤ r) (S_x : own_s Z h0 x cs) (S_y : own_s Z h0 y ds) (hd : ∀ i, i < ds.length → cs.getD (j + i) 0 = ds.getD i 0) (hjl : j + ds.length ≤ cs.length) (hk : j + ds.length = k) :
    MetFree l (⟨"com/example/atomize/atomize/http/FieldValueReader", "accept", "(Ljava/lang/String;)Z"⟩ : MethodName) (head1 (Jvm.Cond.code (⟨"com/example/atomize/atomize/http/FieldValueReader", "accept", "(Ljava/lang/String;)Z"⟩ : MethodName) prog_5_method_4_code 3 (some .boolean) :: ws) ({ frames := 3, cells := 0, slots := 0, locals := 46 } : Room)) (fun a_ U_ => a_ = #[(.ref r), (.ref y)] ∧ Z.Warmed39 U_.vm ∧ U_.heap = h0) (fun _ _ _ _ _ => True) (fun _ U_ o_ U1_ => ∃ v_ L_, o_ = .returned v_ ∧ own_QA Z r x k h0 n0 v_ U1_.heap L_ ∧ FrameEnd U_ o_ U1_ L_ ({ frames := 3, cells := 0, slots := 0, locals := 46 } : Room).cells ({ frames := 3, cells := 0, slots := 0, locals := 46 } : Room).slots) := by
  refine MetFree.of_bodySF (plainFor_of_name pn_13) hisR ?_
  intro p e s m args below meth c s₁ Bd hml0 hP hK
  obtain ⟨rfl, hZ, hh⟩ := hP
  have hx := Bd.exec
  have hby := Bd.bytes
  have hml : c.maxLocals = 3 := hml0
  have hown : s.vm.findClass "com/example/atomize/atomize/http/FieldValueReader" = some m.cls := findClass_of_methodNamed Bd.named
  have hnm := (name_of_methodNamed Bd.named Bd.method).1
  have X0 : Stand p l e ({ frames := 3, cells := 0, slots := 0, locals := 46 } : Room) s m #[(.ref r), (.ref y)] below meth c s₁ [] 0 0 := Stand.of_body Bd
  have e0 : s₁.heap = h0 := by rw [← hh, Bd.state]; rfl
  have N0 := Fr.nil n0
  have pre0 : ∀ tt, Steps p.tables e below (s₁.setTop (mkF m 0 #[.val (.ref r), .val (.ref y), .unset] [])) tt → Steps p.tables e below (s₁.setTop (entryFrame m #[(.ref r), (.ref y)] 3)) tt := fun tt kk => castTop (ef_13_rr m r y) kk
  have EN0 := EN
  obtain ⟨O2, P5, O4, rG3⟩ := EN
  have hws : ∀ d ∈ StrChars.Road.words, d.before a0 Z = true := fun d hd => hw d (own_w1 d hd)
  have hwl : ∀ d ∈ StrChars.Road.wordsLen, d.before a0 Z = true := fun d hd => hw d (own_w2 d hd)
  have hwc : ∀ d ∈ StrChars.Road.wordsChN, d.before a0 Z = true := fun d hd => hw d (own_w3 d hd)
  obtain ⟨b_x, k_x, E_x, C_x, V_x, K_x, hp_x, hl_x⟩ := id S_x
  obtain ⟨b_y, k_y, E_y, C_y, V_y, K_y, hp_y, hl_y⟩ := id S_y
  obtain ⟨T1, X1, e1, st1⟩ := getF X0 hx hZ hown (host := "") (Or.inl (hw _ (List.mem_of_getElem? (i := 51) rfl))) Via.refl e0 F_text_r (g := (mkF m 1 #[.val (.ref r), .val (.ref y), .unset] [(.ref r)])) rfl rfl (hb hby d13_1)
  obtain ⟨T2, X2, e2, st2⟩ := getF X1 hx hZ hown (host := "") (Or.inl (hw _ (List.mem_of_getElem? (i := 60) rfl))) Via.refl e1 F_position_r (g := (mkF m 6 #[.val (.ref r), .val (.ref y), .unset] [(.ref r), (.ref y), (.ref x)])) rfl rfl (hb hby d13_6)
  obtain ⟨cq3, kq3, q3a, q3b, q3c⟩ := isOf hZ e2 E_x
  obtain ⟨_, _, ⟨T3, L3, k3, n3⟩, -, X3, ⟨Lc3, hQ3, l3, y3, z3⟩, st3⟩ := X2.virtualBack hx (y := (⟨"java/lang/String", "startsWith", "(Ljava/lang/String;I)Z"⟩ : MethodName)) (z := (⟨"java/lang/String", "startsWith", "(Ljava/lang/String;I)Z"⟩ : MethodName)) hown (mvT hZ (hw _ (List.mem_of_getElem? (i := 77) rfl))) (mvT hZ (hw _ (List.mem_of_getElem? (i := 78) rfl))) (notFace_of_selects (args := #[]) (mvT hZ (hw _ (List.mem_of_getElem? (i := 80) rfl)))) (mvT hZ (hw _ (List.mem_of_getElem? (i := 80) rfl))) (mvT hZ (hw _ (List.mem_of_getElem? (i := 79) rfl))) (by decide) (backOf (W := 0) (rmSW l Z a0 hw [] G1 G3 x y cs ds j h0 n0 Z0 EN0 X00 ⟨b_x, k_x, E_x, C_x, V_x, K_x, hp_x, hl_x⟩ ⟨b_y, k_y, E_y, C_y, V_y, K_y, hp_y, hl_y⟩ hd hjl) hZ (hw _ (List.mem_of_getElem? (i := 81) rfl)) (hw _ (List.mem_of_getElem? (i := 10) rfl)) (by decide) (by decide)) q3a q3c (g := (mkF m 9 #[.val (.ref r), .val (.ref y), .unset] [(.int (Int32.ofNat j)), (.ref y), (.ref x)])) rfl (by rw [hml]; rfl) (Steps.refl _) (argsL := [(.ref y), (.int (Int32.ofNat j))]) (rest := []) (lenOf pd__Ljava_lang_String_I_Z rfl) rfl (by show 2 * 0 + _ ≤ _; exact Nat.le_of_eq rfl) (hb hby d13_9) (fun _ _ => ⟨rfl, e2, (by decide : 0 + 0 ≤ _), (by decide : 0 + 0 ≤ _)⟩)
  dsimp only [Pt.U, Pt.locs, Pt.cells, Pt.slots] at X3 l3 y3 z3 st3 hQ3
  subst l3 y3 z3
  obtain ⟨rfl, Nq3, eq3⟩ := hQ3
  have N3 := Fr.app N0 Nq3
  obtain ⟨T4, X4, e4, st4⟩ := getF X3 hx hZ hown (host := "") (Or.inl (hw _ (List.mem_of_getElem? (i := 60) rfl))) Via.refl eq3 F_position_r (g := (mkF m 19 #[.val (.ref r), .val (.ref y), .val (.int (1 : Int32))] [(.ref r), (.ref r)])) rfl rfl (hb hby d13_19)
  obtain ⟨cq5, kq5, q5a, q5b, q5c⟩ := isOf hZ e4 E_y
  obtain ⟨_, _, ⟨T5, L5, k5, n5⟩, -, X5, ⟨Lc5, hQ5, l5, y5, z5⟩, st5⟩ := X4.virtualBack hx (y := (⟨"java/lang/String", "length", "()I"⟩ : MethodName)) (z := (⟨"java/lang/String", "length", "()I"⟩ : MethodName)) hown (mvT hZ (hw _ (List.mem_of_getElem? (i := 62) rfl))) (mvT hZ (hw _ (List.mem_of_getElem? (i := 63) rfl))) (notFace_of_selects (args := #[]) (mvT hZ (hw _ (List.mem_of_getElem? (i := 65) rfl)))) (mvT hZ (hw _ (List.mem_of_getElem? (i := 65) rfl))) (mvT hZ (hw _ (List.mem_of_getElem? (i := 64) rfl))) (by decide) (StrChars.Road.lenW (W := 2) hZ hwl (kI := 4) (hw _ (List.mem_of_getElem? (i := 9) rfl)) E_y V_y C_y K_y (StrChars.Road.codOf rfl fun c hc => (hp_y c hc).2) (own_up hp_y) (Sta.ext X00.2 O2) P5 (own_l4 hl_y) (by decide) (by decide)) q5a q5c (g := (mkF m 23 #[.val (.ref r), .val (.ref y), .val (.int (1 : Int32))] [(.ref y), (.int (Int32.ofNat j)), (.ref r)])) rfl (by rw [hml]; rfl) (Steps.refl _) (argsL := []) (rest := [(.int (Int32.ofNat j)), (.ref r)]) (lenOf pd___I rfl) rfl (by show 2 * 0 + _ ≤ _; exact Nat.le_of_eq rfl) (hb hby d13_23) (fun _ _ => ⟨rfl, e4, (by decide : 0 + 0 ≤ _), (by decide : 0 + 0 ≤ _)⟩)
  dsimp only [Pt.U, Pt.locs, Pt.cells, Pt.slots] at X5 l5 y5 z5 st5 hQ5
  subst l5 y5 z5
  obtain ⟨rfl, rfl, eq5⟩ := hQ5
  have N5 := Fr.app N3 (Fr.nil n0)
  obtain ⟨T6, h6, X6, e6, W6, st6⟩ := putF X5 hx hZ hown (host := "") (Or.inl (hw _ (List.mem_of_getElem? (i := 60) rfl))) Via.refl eq5 F_position_r E_r (Or.inl (hw _ (List.mem_of_getElem? (i := 61) rfl))) (hw _ (List.mem_of_getElem? (i := 41) rfl)) (ty := .int) (by decide) rfl rfl (g := (mkF m 27 #[.val (.ref r), .val (.ref y), .val (.int (1 : Int32))] [(.int (Int32.ofNat k)), (.ref r)])) rfl rfl (hb hby d13_27)
  have Fw6 := F_position_r.same W6
  have N6 := Fr.snoc X6 N5 g_r
  have f7 := (E_r.wr W6)
  have f8 := (F_text_r.other W6 (Or.inr (slot_ne (Or.inr (hw _ (List.mem_of_getElem? (i := 52) rfl))) (Or.inl (hw _ (List.mem_of_getElem? (i := 61) rfl))) (by decide) (t := (.object "java/lang/String")) (t' := .int) (by decide) (by decide))))
  obtain ⟨fs, hr, hrun, hended, hW, hsame⟩ := X6.leave (v := some (.int (1 : Int32))) (fun h => by rw [Bd.returns] at h; cases h)
  refine ⟨_, _, pre0 _ ?_, hrun, hended, _, _, rfl, ?_, ⟨_, rfl⟩, hW, hsame.mono (by decide) (by decide)⟩
  · show Steps p.tables e below (s₁.setTop (mkF m 0 #[.val (.ref r), .val (.ref y), .unset] [])) _
    refine XS.aloadN X0.here hx rfl (hb hby d13_0) rfl rfl ?_
    show Steps p.tables e below (s₁.setTop (mkF m 1 #[.val (.ref r), .val (.ref y), .unset] [(.ref r)])) _
    refine st1 _ ?_
    show Steps p.tables e below (T1.setTop (mkF m 4 #[.val (.ref r), .val (.ref y), .unset] [(.ref x)])) _
    refine XS.aloadN X1.here hx rfl (hb hby d13_4) rfl rfl ?_
    refine XS.aloadN X1.here hx rfl (hb hby d13_5) rfl rfl ?_
    show Steps p.tables e below (T1.setTop (mkF m 6 #[.val (.ref r), .val (.ref y), .unset] [(.ref r), (.ref y), (.ref x)])) _
    refine st2 _ ?_
    show Steps p.tables e below (T2.setTop (mkF m 9 #[.val (.ref r), .val (.ref y), .unset] [(.int (Int32.ofNat j)), (.ref y), (.ref x)])) _
    refine st3.trans ?_
    show Steps p.tables e below (T3.setTop (mkF m 12 #[.val (.ref r), .val (.ref y), .unset] [(.int (1 : Int32))])) _
    refine XS.istoreN X3.here hx rfl (hb hby d13_12) rfl (l' := #[.val (.ref r), .val (.ref y), .val (.int (1 : Int32))]) rfl ?_
    refine XS.iloadN X3.here hx rfl (hb hby d13_13) rfl ?_
    refine XS.ifNo X3.here hx rfl (hb hby d13_14) rfl ((if0 _ _).trans (feq (by decide : ¬ ((1 : Int32) = (0 : Int32)))).1) ?_
    refine XS.aloadN X3.here hx rfl (hb hby d13_17) rfl rfl ?_
    refine XS.dup X3.here hx rfl (hb hby d13_18) rfl rfl ?_
    show Steps p.tables e below (T3.setTop (mkF m 19 #[.val (.ref r), .val (.ref y), .val (.int (1 : Int32))] [(.ref r), (.ref r)])) _
    refine st4 _ ?_
    show Steps p.tables e below (T4.setTop (mkF m 22 #[.val (.ref r), .val (.ref y), .val (.int (1 : Int32))] [(.int (Int32.ofNat j)), (.ref r)])) _
    refine XS.aloadN X4.here hx rfl (hb hby d13_22) rfl rfl ?_
    show Steps p.tables e below (T4.setTop (mkF m 23 #[.val (.ref r), .val (.ref y), .val (.int (1 : Int32))] [(.ref y), (.int (Int32.ofNat j)), (.ref r)])) _
    refine st5.trans ?_
    show Steps p.tables e below (T5.setTop (mkF m 26 #[.val (.ref r), .val (.ref y), .val (.int (1 : Int32))] [(.int (Int32.ofNat ds.length)), (.int (Int32.ofNat j)), (.ref r)])) _
    refine XS.iadd X5.here hx rfl (hb hby d13_26) rfl ?_
    show Steps p.tables e below (T5.setTop (mkF m 27 #[.val (.ref r), .val (.ref y), .val (.int (1 : Int32))] [(.int ((Int32.ofNat j) + (Int32.ofNat ds.length))), (.ref r)])) _
    rw [(own_addj hk)]
    show Steps p.tables e below (T5.setTop (mkF m 27 #[.val (.ref r), .val (.ref y), .val (.int (1 : Int32))] [(.int (Int32.ofNat k)), (.ref r)])) _
    refine st6 _ ?_
    show Steps p.tables e below (T6.setTop (mkF m 30 #[.val (.ref r), .val (.ref y), .val (.int (1 : Int32))] [])) _
    refine XS.iloadN X6.here hx rfl (hb hby d13_30) rfl ?_
    show Steps p.tables e below (T6.setTop (mkF m 31 #[.val (.ref r), .val (.ref y), .val (.int (1 : Int32))] [(.int (1 : Int32))])) _
    exact retN X6 hx (t := .boolean) Bd.returns (by simp) (hb hby d13_31) hr
  · show own_QA Z r x k h0 n0 _ T6.heap _
    rw [e6]
    exact ⟨rfl, N6, ((Keep.refl h0 [r]).wr W6 (Or.inl (List.mem_of_getElem? (i := 0) rfl))), f7, f8, Fw6⟩
def own_QI (Z : State) (r x : Addr) (h0 : Heap) (n0 : Nat) (v : Option Value) (h : Heap) (L : List Loc) : Prop := v = none ∧ Fr n0 L ∧ Keep h0 h [r] ∧ Exa Z h r "com/example/atomize/atomize/http/FieldValueReader" ∧ Fld Z h r "com/example/atomize/atomize/http/FieldValueReader" "text" "Ljava/lang/String;" (.ref x) ∧ Fld Z h r "com/example/atomize/atomize/http/FieldValueReader" "position" "I" (.int (0 : Int32))
theorem d9_0 : decode prog_5_method_1_code 0 = .ok (.aload_n 0, 1) := by decide +kernel
theorem d9_1 : decode prog_5_method_1_code 1 = .ok (.invokespecial 1, 3) := by decide +kernel
theorem d9_4 : decode prog_5_method_1_code 4 = .ok (.aload_n 0, 1) := by decide +kernel
theorem d9_5 : decode prog_5_method_1_code 5 = .ok (.aload_n 1, 1) := by decide +kernel
theorem d9_6 : decode prog_5_method_1_code 6 = .ok (.putfield 7, 3) := by decide +kernel
theorem d9_9 : decode prog_5_method_1_code 9 = .ok (.aload_n 0, 1) := by decide +kernel
theorem d9_10 : decode prog_5_method_1_code 10 = .ok (.aload_n 2, 1) := by decide +kernel
theorem d9_11 : decode prog_5_method_1_code 11 = .ok (.putfield 13, 3) := by decide +kernel
theorem d9_14 : decode prog_5_method_1_code 14 = .ok (.aload_n 0, 1) := by decide +kernel
theorem d9_15 : decode prog_5_method_1_code 15 = .ok (.aload_n 3, 1) := by decide +kernel
theorem d9_16 : decode prog_5_method_1_code 16 = .ok (.putfield 16, 3) := by decide +kernel
theorem d9_19 : decode prog_5_method_1_code 19 = .ok (.return_, 1) := by decide +kernel
theorem pn_9 : plainName "com/example/atomize/atomize/http/FieldValueReader" = true := by first | (simp [plainName, overriddenIn]; done) | decide +kernel
theorem ef_9_rrrr (m : MethodId) (x0 : Addr) (x1 : Addr) (x2 : Addr) (x3 : Addr) : entryFrame m #[(.ref x0), (.ref x1), (.ref x2), (.ref x3)] 4 = mkF m 0 #[.val (.ref x0), .val (.ref x1), .val (.ref x2), .val (.ref x3)] [] := by first | (simp [entryFrame, mkF, argsToLocals, Value.category]; done) | rfl
set_option maxRecDepth 65536 in
set_option maxHeartbeats 40000000 in
theorem rmFI (l : Launch) (Z : State) (a0 : Array Value) (hw : ∀ d ∈ tables_1, d.before a0 Z = true) (ws : List Jvm.Cond) (r : Addr) (a1 : Addr) (x : Addr) (a2 : Addr) (h0 : Heap) (n0 : Nat) (Z0 : n0 ≤ h0.size) (E_r : Exa Z h0 r "com/example/atomize/atomize/http/FieldValueReader") (F_name_r : Fld Z h0 r "com/example/atomize/atomize/http/FieldValueReader" "name" "Ljava/lang/String;" .null) (F_text_r : Fld Z h0 r "com/example/atomize/atomize/http/FieldValueReader" "text" "Ljava/lang/String;" .null) (F_grammar_r : Fld Z h0 r "com/example/atomize/atomize/http/FieldValueReader" "grammar" "Ljava/lang/String;" .null) (F_position_r : Fld Z h0 r "com/example/atomize/atomize/http/FieldValueReader" "position" "I" (.int (0 : Int32))) (g_r : n0 ≤ r) :
    MetFree l (⟨"com/example/atomize/atomize/http/FieldValueReader", "<init>", "(Ljava/lang/String;Ljava/lang/String;Ljava/lang/String;)V"⟩ : MethodName) (head1 (Jvm.Cond.code (⟨"com/example/atomize/atomize/http/FieldValueReader", "<init>", "(Ljava/lang/String;Ljava/lang/String;Ljava/lang/String;)V"⟩ : MethodName) prog_5_method_1_code 4 none :: ws) ({ frames := 1, cells := 0, slots := 0, locals := 12 } : Room)) (fun a_ U_ => a_ = #[(.ref r), (.ref a1), (.ref x), (.ref a2)] ∧ Z.Warmed39 U_.vm ∧ U_.heap = h0) (fun _ _ _ _ _ => True) (fun _ U_ o_ U1_ => ∃ v_ L_, o_ = .returned v_ ∧ own_QI Z r x h0 n0 v_ U1_.heap L_ ∧ FrameEnd U_ o_ U1_ L_ ({ frames := 1, cells := 0, slots := 0, locals := 12 } : Room).cells ({ frames := 1, cells := 0, slots := 0, locals := 12 } : Room).slots) := by
  refine MetFree.of_bodySF (plainFor_of_name pn_9) hisR ?_
  intro p e s m args below meth c s₁ Bd hml0 hP hK
  obtain ⟨rfl, hZ, hh⟩ := hP
  have hx := Bd.exec
  have hby := Bd.bytes
  have hml : c.maxLocals = 4 := hml0
  have hown : s.vm.findClass "com/example/atomize/atomize/http/FieldValueReader" = some m.cls := findClass_of_methodNamed Bd.named
  have hnm := (name_of_methodNamed Bd.named Bd.method).1
  have X0 : Stand p l e ({ frames := 1, cells := 0, slots := 0, locals := 12 } : Room) s m #[(.ref r), (.ref a1), (.ref x), (.ref a2)] below meth c s₁ [] 0 0 := Stand.of_body Bd
  have e0 : s₁.heap = h0 := by rw [← hh, Bd.state]; rfl
  have N0 := Fr.nil n0
  have pre0 : ∀ tt, Steps p.tables e below (s₁.setTop (mkF m 0 #[.val (.ref r), .val (.ref a1), .val (.ref x), .val (.ref a2)] [])) tt → Steps p.tables e below (s₁.setTop (entryFrame m #[(.ref r), (.ref a1), (.ref x), (.ref a2)] 4)) tt := fun tt kk => castTop (ef_9_rrrr m r a1 x a2) kk
  obtain ⟨T1, X1, e1, st1⟩ := initO X0 hx hZ hown (hw _ (List.mem_of_getElem? (i := 48) rfl)) (hw _ (List.mem_of_getElem? (i := 19) rfl)) (hw _ (List.mem_of_getElem? (i := 20) rfl)) e0 (g := (mkF m 1 #[.val (.ref r), .val (.ref a1), .val (.ref x), .val (.ref a2)] [(.ref r)])) rfl (by rw [hml]; rfl) rfl (hb hby d9_1) (by decide) (W := 0) (by show 2 * 0 + _ ≤ _; exact Nat.le_of_eq rfl) (by decide)
  obtain ⟨T2, h2, X2, e2, W2, st2⟩ := putF X1 hx hZ hown (host := "") (Or.inl (hw _ (List.mem_of_getElem? (i := 49) rfl))) Via.refl e1 F_name_r E_r (Or.inr ⟨(hw _ (List.mem_of_getElem? (i := 50) rfl)), rfl, hnm⟩) (hw _ (List.mem_of_getElem? (i := 41) rfl)) (ty := (.object "java/lang/String")) (by decide) rfl rfl (g := (mkF m 6 #[.val (.ref r), .val (.ref a1), .val (.ref x), .val (.ref a2)] [(.ref a1), (.ref r)])) rfl rfl (hb hby d9_6)
  have Fw2 := F_name_r.same W2
  have N2 := Fr.snoc X2 N0 g_r
  have f4 := (E_r.wr W2)
  have f5 := (F_text_r.other W2 (Or.inr (slot_ne (Or.inr (hw _ (List.mem_of_getElem? (i := 52) rfl))) (Or.inr (hw _ (List.mem_of_getElem? (i := 50) rfl))) (by decide) (t := (.object "java/lang/String")) (t' := (.object "java/lang/String")) (by decide) (by decide))))
  obtain ⟨T3, h3, X3, e3, W3, st3⟩ := putF X2 hx hZ hown (host := "") (Or.inl (hw _ (List.mem_of_getElem? (i := 51) rfl))) Via.refl e2 f5 f4 (Or.inr ⟨(hw _ (List.mem_of_getElem? (i := 52) rfl)), rfl, hnm⟩) (hw _ (List.mem_of_getElem? (i := 41) rfl)) (ty := (.object "java/lang/String")) (by decide) rfl rfl (g := (mkF m 11 #[.val (.ref r), .val (.ref a1), .val (.ref x), .val (.ref a2)] [(.ref x), (.ref r)])) rfl rfl (hb hby d9_11)
  have Fw3 := f5.same W3
  have N3 := Fr.snoc X3 N2 g_r
  have f7 := (f4.wr W3)
  have f8 := ((F_grammar_r.other W2 (Or.inr (slot_ne (Or.inr (hw _ (List.mem_of_getElem? (i := 54) rfl))) (Or.inr (hw _ (List.mem_of_getElem? (i := 50) rfl))) (by decide) (t := (.object "java/lang/String")) (t' := (.object "java/lang/String")) (by decide) (by decide)))).other W3 (Or.inr (slot_ne (Or.inr (hw _ (List.mem_of_getElem? (i := 54) rfl))) (Or.inr (hw _ (List.mem_of_getElem? (i := 52) rfl))) (by decide) (t := (.object "java/lang/String")) (t' := (.object "java/lang/String")) (by decide) (by decide))))
  obtain ⟨T6, h6, X6, e6, W6, st6⟩ := putF X3 hx hZ hown (host := "") (Or.inl (hw _ (List.mem_of_getElem? (i := 53) rfl))) Via.refl e3 f8 f7 (Or.inr ⟨(hw _ (List.mem_of_getElem? (i := 54) rfl)), rfl, hnm⟩) (hw _ (List.mem_of_getElem? (i := 41) rfl)) (ty := (.object "java/lang/String")) (by decide) rfl rfl (g := (mkF m 16 #[.val (.ref r), .val (.ref a1), .val (.ref x), .val (.ref a2)] [(.ref a2), (.ref r)])) rfl rfl (hb hby d9_16)
  have Fw6 := f8.same W6
  have N6 := Fr.snoc X6 N3 g_r
  have f9 := (f7.wr W6)
  have f10 := (Fw3.other W6 (Or.inr (slot_ne (Or.inr (hw _ (List.mem_of_getElem? (i := 52) rfl))) (Or.inr (hw _ (List.mem_of_getElem? (i := 54) rfl))) (by decide) (t := (.object "java/lang/String")) (t' := (.object "java/lang/String")) (by decide) (by decide))))
  have f11 := (((F_position_r.other W2 (Or.inr (slot_ne (Or.inl (hw _ (List.mem_of_getElem? (i := 61) rfl))) (Or.inr (hw _ (List.mem_of_getElem? (i := 50) rfl))) (by decide) (t := .int) (t' := (.object "java/lang/String")) (by decide) (by decide)))).other W3 (Or.inr (slot_ne (Or.inl (hw _ (List.mem_of_getElem? (i := 61) rfl))) (Or.inr (hw _ (List.mem_of_getElem? (i := 52) rfl))) (by decide) (t := .int) (t' := (.object "java/lang/String")) (by decide) (by decide)))).other W6 (Or.inr (slot_ne (Or.inl (hw _ (List.mem_of_getElem? (i := 61) rfl))) (Or.inr (hw _ (List.mem_of_getElem? (i := 54) rfl))) (by decide) (t := .int) (t' := (.object "java/lang/String")) (by decide) (by decide))))
  obtain ⟨fs, hr, hrun, hended, hW, hsame⟩ := X6.leave (v := none) (fun _ => rfl)
  refine ⟨_, _, pre0 _ ?_, hrun, hended, _, _, rfl, ?_, ⟨_, rfl⟩, hW, hsame.mono (by decide) (by decide)⟩
  · show Steps p.tables e below (s₁.setTop (mkF m 0 #[.val (.ref r), .val (.ref a1), .val (.ref x), .val (.ref a2)] [])) _
    refine XS.aloadN X0.here hx rfl (hb hby d9_0) rfl rfl ?_
    show Steps p.tables e below (s₁.setTop (mkF m 1 #[.val (.ref r), .val (.ref a1), .val (.ref x), .val (.ref a2)] [(.ref r)])) _
    refine st1 _ ?_
    show Steps p.tables e below (T1.setTop (mkF m 4 #[.val (.ref r), .val (.ref a1), .val (.ref x), .val (.ref a2)] [])) _
    refine XS.aloadN X1.here hx rfl (hb hby d9_4) rfl rfl ?_
    refine XS.aloadN X1.here hx rfl (hb hby d9_5) rfl rfl ?_
    show Steps p.tables e below (T1.setTop (mkF m 6 #[.val (.ref r), .val (.ref a1), .val (.ref x), .val (.ref a2)] [(.ref a1), (.ref r)])) _
    refine st2 _ ?_
    show Steps p.tables e below (T2.setTop (mkF m 9 #[.val (.ref r), .val (.ref a1), .val (.ref x), .val (.ref a2)] [])) _
    refine XS.aloadN X2.here hx rfl (hb hby d9_9) rfl rfl ?_
    refine XS.aloadN X2.here hx rfl (hb hby d9_10) rfl rfl ?_
    show Steps p.tables e below (T2.setTop (mkF m 11 #[.val (.ref r), .val (.ref a1), .val (.ref x), .val (.ref a2)] [(.ref x), (.ref r)])) _
    refine st3 _ ?_
    show Steps p.tables e below (T3.setTop (mkF m 14 #[.val (.ref r), .val (.ref a1), .val (.ref x), .val (.ref a2)] [])) _
    refine XS.aloadN X3.here hx rfl (hb hby d9_14) rfl rfl ?_
    refine XS.aloadN X3.here hx rfl (hb hby d9_15) rfl rfl ?_
    show Steps p.tables e below (T3.setTop (mkF m 16 #[.val (.ref r), .val (.ref a1), .val (.ref x), .val (.ref a2)] [(.ref a2), (.ref r)])) _
    refine st6 _ ?_
    show Steps p.tables e below (T6.setTop (mkF m 19 #[.val (.ref r), .val (.ref a1), .val (.ref x), .val (.ref a2)] [])) _
    exact X6.returnOut hx Bd.returns (hb hby d9_19) hr
  · show own_QI Z r x h0 n0 _ T6.heap _
    rw [e6]
    exact ⟨rfl, N6, ((((Keep.refl h0 [r]).wr W2 (Or.inl (List.mem_of_getElem? (i := 0) rfl))).wr W3 (Or.inl (List.mem_of_getElem? (i := 0) rfl))).wr W6 (Or.inl (List.mem_of_getElem? (i := 0) rfl))), f9, f10, f11⟩
def Q0 (Z : State) (h0 : Heap) (n0 : Nat) (v : Option Value) (h : Heap) (L : List Loc) : Prop := v = some (.int 1) ∧ Fr n0 L
theorem own_ge1 {n : Nat} (h : ¬ (Int32.ofNat n) < (1 : Int32)) : 1 ≤ n := by
  match n, h with
  | 0, h => exact absurd (by decide) h
  | n + 1, _ => omega
set_option maxRecDepth 65536 in
set_option maxHeartbeats 40000000 in
theorem fr1 {p : Program} {l : Launch} {e : Env} {s : State} {m : MethodId} {args : Array Value} {below : List Frame} {meth : Method} {c : Code} {s₁ : State} {L0 : List Loc} {Z : State} {a0 : Array Value} (G1 : Int32) (G3 : Value) (p1 : Int32) (p2 : Int32) (p3 : Int32) (p4 : Int32) (p5 : Int32) (h0 : Heap) (n0 : Nat) (X0 : Stand p l e room_1 s m args below meth c s₁ L0 0 0) (hx : p.tables.exec = Jvm.exec) (hZ : Z.Warmed39 s.vm) (hw : ∀ d ∈ tables_1, d.before a0 Z = true) (hby : c.code = code) (hml : c.maxLocals = 19) (hown : s.vm.findClass "com/example/atomize/atomize/http/FieldValueReaderNextElementPinLaw" = some m.cls) (e0 : s₁.heap = h0) (N0 : Fr n0 L0) (Z0 : n0 ≤ h0.size) (EN : own_env Z G1 G3) (X00 : Old Z n0 h0) :
    ∃ (T' : State) (h' : Heap) (L' : List Loc) (ar : Addr) (ka : ClassId) (as : List Int32), Stand p l e room_1 s m args below meth c T' L' 1 4 ∧ T'.heap = h' ∧ Fr n0 L' ∧ n0 ≤ h'.size ∧ Old Z n0 h' ∧ Keep h0 h' [] ∧ Arv Z h' ar ka .char (Int32.ofNat as.length) (as.map Value.int) (.int (0 : Int32)) ∧ n0 ≤ ar ∧ h0.size ≤ ar ∧ as.length = 4 ∧ (∀ i, i < as.length → own_c8 (as.getD i 0)) ∧ 
      ∀ target, Steps p.tables e below (T'.setTop (mkF m 33 #[.val (.int p1), .val (.int p2), .val (.int p3), .val (.int p4), .val (.int p5), .val (.ref ar), .unset, .unset, .unset, .unset, .unset, .unset, .unset, .unset, .unset, .unset, .unset, .unset, .unset] [])) target → Steps p.tables e below (s₁.setTop (mkF m 0 #[.val (.int p1), .val (.int p2), .val (.int p3), .val (.int p4), .val (.int p5), .unset, .unset, .unset, .unset, .unset, .unset, .unset, .unset, .unset, .unset, .unset, .unset, .unset, .unset] [])) target := by
  have EN0 := EN
  obtain ⟨O2, P5, O4, rG3⟩ := EN
  have hws : ∀ d ∈ StrChars.Road.words, d.before a0 Z = true := fun d hd => hw d (own_w1 d hd)
  have hwl : ∀ d ∈ StrChars.Road.wordsLen, d.before a0 Z = true := fun d hd => hw d (own_w2 d hd)
  have hwc : ∀ d ∈ StrChars.Road.wordsChN, d.before a0 Z = true := fun d hd => hw d (own_w3 d hd)
  obtain ⟨T1, h1, k1, X1, e1, E1, A1, st1⟩ := newP X0 hx hZ (hw _ (List.mem_of_getElem? (i := 0) rfl)) e0 (g := (mkF m 1 #[.val (.int p1), .val (.int p2), .val (.int p3), .val (.int p4), .val (.int p5), .unset, .unset, .unset, .unset, .unset, .unset, .unset, .unset, .unset, .unset, .unset, .unset, .unset, .unset] [(.int (4 : Int32))])) rfl (hb hby at_1) rfl (by decide) (cap := 4) (by decide) (by decide) (by decide) (by decide)
  obtain ⟨b1, g1⟩ : ∃ z, z = h0.size := ⟨_, rfl⟩
  rw [← g1] at A1 st1
  have g_b1 : n0 ≤ b1 := Nat.le_trans Z0 (Nat.le_of_eq g1.symm)
  have sz_b1 : h0.size ≤ b1 := Nat.le_trans (Nat.le_refl _) (Nat.le_of_eq g1.symm)
  have V1 : Arv Z h1 b1 k1 .char (4 : Int32) [(.int (0 : Int32)), (.int (0 : Int32)), (.int (0 : Int32)), (.int (0 : Int32))] (.int (0 : Int32)) := (Arv.new A1 (by decide)).pad (pad_rep [] (.int (0 : Int32)) 4)
  obtain ⟨_, _, ⟨T2, L2, k2, n2⟩, -, X2, ⟨Lc2, hQ2, l2, y2, z2⟩, st2⟩ := Jvm.LawKit.callS X1 hx (y := (⟨"com/example/atomize/atomize/http/FieldValueReaderNextElementPinLaw", "draw", "(I)C"⟩ : MethodName)) hown (mvT hZ (hw _ (List.mem_of_getElem? (i := 1) rfl))) (mvT hZ (hw _ (List.mem_of_getElem? (i := 2) rfl))) (mvT hZ (hw _ (List.mem_of_getElem? (i := 3) rfl))) (mvT hZ (hw _ (List.mem_of_getElem? (i := 4) rfl))) (by decide) (backOf (W := 3) (rmDR l Z a0 hw [] p1 h1 n0 (Nat.le_trans Z0 E1.1)) hZ (hw _ (List.mem_of_getElem? (i := 4) rfl)) (hw _ (List.mem_of_getElem? (i := 3) rfl)) (by decide) (by decide)) (g := (mkF m 6 #[.val (.int p1), .val (.int p2), .val (.int p3), .val (.int p4), .val (.int p5), .unset, .unset, .unset, .unset, .unset, .unset, .unset, .unset, .unset, .unset, .unset, .unset, .unset, .unset] [(.int p1), (.int (0 : Int32)), (.ref b1), (.ref b1)])) rfl (by rw [hml]; rfl) (argsL := [(.int p1)]) (rest := [(.int (0 : Int32)), (.ref b1), (.ref b1)]) (lenOf pd__I_C rfl) rfl (by show 2 * 0 + _ ≤ _; exact Nat.le_of_eq rfl) (hb hby at_6) (fun _ _ => ⟨rfl, e1, (by decide : 1 + 0 ≤ _), (by decide : 4 + 0 ≤ _)⟩)
  dsimp only [Pt.U, Pt.locs, Pt.cells, Pt.slots] at X2 l2 y2 z2 st2 hQ2
  subst l2 y2 z2
  obtain ⟨r2, rfl, c82, Nq2, eq2⟩ := hQ2
  have N2 := Fr.app N0 Nq2
  obtain ⟨c3, Ar3, q3, S3, M3, H3, Gz3⟩ := id V1
  obtain ⟨T3, h3, X3, e3, W3, st3⟩ := stC X2 hx hZ eq2 Ar3 (j := (0 : Int32)) (inb_of S3 ⟨by decide, by decide⟩) (g := (mkF m 9 #[.val (.int p1), .val (.int p2), .val (.int p3), .val (.int p4), .val (.int p5), .unset, .unset, .unset, .unset, .unset, .unset, .unset, .unset, .unset, .unset, .unset, .unset, .unset, .unset] [(.int r2), (.int (0 : Int32)), (.ref b1), (.ref b1)])) rfl rfl (hb hby at_9)
  have V3 : Arv Z h3 b1 k1 .char (4 : Int32) [(.int (nar .char r2)), (.int (0 : Int32)), (.int (0 : Int32)), (.int (0 : Int32))] (.int (0 : Int32)) := Arv.set Ar3 q3 S3 M3 H3 Gz3 (fits_nar_char _) W3 0 rfl (Nat.le_of_ble_eq_true rfl)
  have N3 := Fr.snoc X3 N2 g_b1
  obtain ⟨_, _, ⟨T4, L4, k4, n4⟩, -, X4, ⟨Lc4, hQ4, l4, y4, z4⟩, st4⟩ := Jvm.LawKit.callS X3 hx (y := (⟨"com/example/atomize/atomize/http/FieldValueReaderNextElementPinLaw", "draw", "(I)C"⟩ : MethodName)) hown (mvT hZ (hw _ (List.mem_of_getElem? (i := 1) rfl))) (mvT hZ (hw _ (List.mem_of_getElem? (i := 2) rfl))) (mvT hZ (hw _ (List.mem_of_getElem? (i := 3) rfl))) (mvT hZ (hw _ (List.mem_of_getElem? (i := 4) rfl))) (by decide) (backOf (W := 3) (rmDR l Z a0 hw [] p2 h3 n0 (Nat.le_trans Z0 (Nat.le_trans E1.1 (Keep.of_wr W3).1))) hZ (hw _ (List.mem_of_getElem? (i := 4) rfl)) (hw _ (List.mem_of_getElem? (i := 3) rfl)) (by decide) (by decide)) (g := (mkF m 13 #[.val (.int p1), .val (.int p2), .val (.int p3), .val (.int p4), .val (.int p5), .unset, .unset, .unset, .unset, .unset, .unset, .unset, .unset, .unset, .unset, .unset, .unset, .unset, .unset] [(.int p2), (.int (1 : Int32)), (.ref b1), (.ref b1)])) rfl (by rw [hml]; rfl) (argsL := [(.int p2)]) (rest := [(.int (1 : Int32)), (.ref b1), (.ref b1)]) (lenOf pd__I_C rfl) rfl (by show 2 * 0 + _ ≤ _; exact Nat.le_of_eq rfl) (hb hby at_13) (fun _ _ => ⟨rfl, e3, (by decide : 1 + 0 ≤ _), (by decide : 4 + 0 ≤ _)⟩)
  dsimp only [Pt.U, Pt.locs, Pt.cells, Pt.slots] at X4 l4 y4 z4 st4 hQ4
  subst l4 y4 z4
  obtain ⟨r4, rfl, c84, Nq4, eq4⟩ := hQ4
  have N4 := Fr.app N3 Nq4
  obtain ⟨c5, Ar5, q5, S5, M5, H5, Gz5⟩ := id V3
  obtain ⟨T5, h5, X5, e5, W5, st5⟩ := stC X4 hx hZ eq4 Ar5 (j := (1 : Int32)) (inb_of S5 ⟨by decide, by decide⟩) (g := (mkF m 16 #[.val (.int p1), .val (.int p2), .val (.int p3), .val (.int p4), .val (.int p5), .unset, .unset, .unset, .unset, .unset, .unset, .unset, .unset, .unset, .unset, .unset, .unset, .unset, .unset] [(.int r4), (.int (1 : Int32)), (.ref b1), (.ref b1)])) rfl rfl (hb hby at_16)
  have V5 : Arv Z h5 b1 k1 .char (4 : Int32) [(.int (nar .char r2)), (.int (nar .char r4)), (.int (0 : Int32)), (.int (0 : Int32))] (.int (0 : Int32)) := Arv.set Ar5 q5 S5 M5 H5 Gz5 (fits_nar_char _) W5 1 rfl (Nat.le_of_ble_eq_true rfl)
  have N5 := Fr.snoc X5 N4 g_b1
  obtain ⟨_, _, ⟨T6, L6, k6, n6⟩, -, X6, ⟨Lc6, hQ6, l6, y6, z6⟩, st6⟩ := Jvm.LawKit.callS X5 hx (y := (⟨"com/example/atomize/atomize/http/FieldValueReaderNextElementPinLaw", "draw", "(I)C"⟩ : MethodName)) hown (mvT hZ (hw _ (List.mem_of_getElem? (i := 1) rfl))) (mvT hZ (hw _ (List.mem_of_getElem? (i := 2) rfl))) (mvT hZ (hw _ (List.mem_of_getElem? (i := 3) rfl))) (mvT hZ (hw _ (List.mem_of_getElem? (i := 4) rfl))) (by decide) (backOf (W := 3) (rmDR l Z a0 hw [] p3 h5 n0 (Nat.le_trans Z0 (Nat.le_trans (Nat.le_trans E1.1 (Keep.of_wr W3).1) (Keep.of_wr W5).1))) hZ (hw _ (List.mem_of_getElem? (i := 4) rfl)) (hw _ (List.mem_of_getElem? (i := 3) rfl)) (by decide) (by decide)) (g := (mkF m 20 #[.val (.int p1), .val (.int p2), .val (.int p3), .val (.int p4), .val (.int p5), .unset, .unset, .unset, .unset, .unset, .unset, .unset, .unset, .unset, .unset, .unset, .unset, .unset, .unset] [(.int p3), (.int (2 : Int32)), (.ref b1), (.ref b1)])) rfl (by rw [hml]; rfl) (argsL := [(.int p3)]) (rest := [(.int (2 : Int32)), (.ref b1), (.ref b1)]) (lenOf pd__I_C rfl) rfl (by show 2 * 0 + _ ≤ _; exact Nat.le_of_eq rfl) (hb hby at_20) (fun _ _ => ⟨rfl, e5, (by decide : 1 + 0 ≤ _), (by decide : 4 + 0 ≤ _)⟩)
  dsimp only [Pt.U, Pt.locs, Pt.cells, Pt.slots] at X6 l6 y6 z6 st6 hQ6
  subst l6 y6 z6
  obtain ⟨r6, rfl, c86, Nq6, eq6⟩ := hQ6
  have N6 := Fr.app N5 Nq6
  obtain ⟨c7, Ar7, q7, S7, M7, H7, Gz7⟩ := id V5
  obtain ⟨T7, h7, X7, e7, W7, st7⟩ := stC X6 hx hZ eq6 Ar7 (j := (2 : Int32)) (inb_of S7 ⟨by decide, by decide⟩) (g := (mkF m 23 #[.val (.int p1), .val (.int p2), .val (.int p3), .val (.int p4), .val (.int p5), .unset, .unset, .unset, .unset, .unset, .unset, .unset, .unset, .unset, .unset, .unset, .unset, .unset, .unset] [(.int r6), (.int (2 : Int32)), (.ref b1), (.ref b1)])) rfl rfl (hb hby at_23)
  have V7 : Arv Z h7 b1 k1 .char (4 : Int32) [(.int (nar .char r2)), (.int (nar .char r4)), (.int (nar .char r6)), (.int (0 : Int32))] (.int (0 : Int32)) := Arv.set Ar7 q7 S7 M7 H7 Gz7 (fits_nar_char _) W7 2 rfl (Nat.le_of_ble_eq_true rfl)
  have N7 := Fr.snoc X7 N6 g_b1
  obtain ⟨_, _, ⟨T8, L8, k8, n8⟩, -, X8, ⟨Lc8, hQ8, l8, y8, z8⟩, st8⟩ := Jvm.LawKit.callS X7 hx (y := (⟨"com/example/atomize/atomize/http/FieldValueReaderNextElementPinLaw", "draw", "(I)C"⟩ : MethodName)) hown (mvT hZ (hw _ (List.mem_of_getElem? (i := 1) rfl))) (mvT hZ (hw _ (List.mem_of_getElem? (i := 2) rfl))) (mvT hZ (hw _ (List.mem_of_getElem? (i := 3) rfl))) (mvT hZ (hw _ (List.mem_of_getElem? (i := 4) rfl))) (by decide) (backOf (W := 3) (rmDR l Z a0 hw [] p4 h7 n0 (Nat.le_trans Z0 (Nat.le_trans (Nat.le_trans (Nat.le_trans E1.1 (Keep.of_wr W3).1) (Keep.of_wr W5).1) (Keep.of_wr W7).1))) hZ (hw _ (List.mem_of_getElem? (i := 4) rfl)) (hw _ (List.mem_of_getElem? (i := 3) rfl)) (by decide) (by decide)) (g := (mkF m 27 #[.val (.int p1), .val (.int p2), .val (.int p3), .val (.int p4), .val (.int p5), .unset, .unset, .unset, .unset, .unset, .unset, .unset, .unset, .unset, .unset, .unset, .unset, .unset, .unset] [(.int p4), (.int (3 : Int32)), (.ref b1), (.ref b1)])) rfl (by rw [hml]; rfl) (argsL := [(.int p4)]) (rest := [(.int (3 : Int32)), (.ref b1), (.ref b1)]) (lenOf pd__I_C rfl) rfl (by show 2 * 0 + _ ≤ _; exact Nat.le_of_eq rfl) (hb hby at_27) (fun _ _ => ⟨rfl, e7, (by decide : 1 + 0 ≤ _), (by decide : 4 + 0 ≤ _)⟩)
  dsimp only [Pt.U, Pt.locs, Pt.cells, Pt.slots] at X8 l8 y8 z8 st8 hQ8
  subst l8 y8 z8
  obtain ⟨r8, rfl, c88, Nq8, eq8⟩ := hQ8
  have N8 := Fr.app N7 Nq8
  obtain ⟨c9, Ar9, q9, S9, M9, H9, Gz9⟩ := id V7
  obtain ⟨T9, h9, X9, e9, W9, st9⟩ := stC X8 hx hZ eq8 Ar9 (j := (3 : Int32)) (inb_of S9 ⟨by decide, by decide⟩) (g := (mkF m 30 #[.val (.int p1), .val (.int p2), .val (.int p3), .val (.int p4), .val (.int p5), .unset, .unset, .unset, .unset, .unset, .unset, .unset, .unset, .unset, .unset, .unset, .unset, .unset, .unset] [(.int r8), (.int (3 : Int32)), (.ref b1), (.ref b1)])) rfl rfl (hb hby at_30)
  have V9 : Arv Z h9 b1 k1 .char (4 : Int32) [(.int (nar .char r2)), (.int (nar .char r4)), (.int (nar .char r6)), (.int (nar .char r8))] (.int (0 : Int32)) := Arv.set Ar9 q9 S9 M9 H9 Gz9 (fits_nar_char _) W9 3 rfl (Nat.le_of_ble_eq_true rfl)
  have N9 := Fr.snoc X9 N8 g_b1
  have f10 := (((((X00.ext E1).wr W3 g_b1).wr W5 g_b1).wr W7 g_b1).wr W9 g_b1)
  refine ⟨T9, h9, _, b1, k1, [r2, r4, r6, r8], X9, e9, N9, (Nat.le_trans Z0 (Nat.le_trans (Nat.le_trans (Nat.le_trans (Nat.le_trans E1.1 (Keep.of_wr W3).1) (Keep.of_wr W5).1) (Keep.of_wr W7).1) (Keep.of_wr W9).1)), f10, ((((((Keep.refl h0 []).ext E1).wr W3 (Or.inr sz_b1)).wr W5 (Or.inr sz_b1)).wr W7 (Or.inr sz_b1)).wr W9 (Or.inr sz_b1)), (by have V_ := V9; rw [own_nar8 c82, own_nar8 c84, own_nar8 c86, own_nar8 c88] at V_; exact V_), g_b1, sz_b1, rfl, own_all4 c82 c84 c86 c88, fun target kt => ?_⟩
  show Steps p.tables e below (s₁.setTop (mkF m 0 #[.val (.int p1), .val (.int p2), .val (.int p3), .val (.int p4), .val (.int p5), .unset, .unset, .unset, .unset, .unset, .unset, .unset, .unset, .unset, .unset, .unset, .unset, .unset, .unset] [])) _
  refine XS.iconst X0.here hx rfl (hb hby at_0) ?_
  show Steps p.tables e below (s₁.setTop (mkF m 1 #[.val (.int p1), .val (.int p2), .val (.int p3), .val (.int p4), .val (.int p5), .unset, .unset, .unset, .unset, .unset, .unset, .unset, .unset, .unset, .unset, .unset, .unset, .unset, .unset] [(.int (4 : Int32))])) _
  refine st1 _ ?_
  show Steps p.tables e below (T1.setTop (mkF m 3 #[.val (.int p1), .val (.int p2), .val (.int p3), .val (.int p4), .val (.int p5), .unset, .unset, .unset, .unset, .unset, .unset, .unset, .unset, .unset, .unset, .unset, .unset, .unset, .unset] [(.ref b1)])) _
  refine XS.dup X1.here hx rfl (hb hby at_3) rfl rfl ?_
  refine XS.iconst X1.here hx rfl (hb hby at_4) ?_
  refine XS.iloadN X1.here hx rfl (hb hby at_5) rfl ?_
  show Steps p.tables e below (T1.setTop (mkF m 6 #[.val (.int p1), .val (.int p2), .val (.int p3), .val (.int p4), .val (.int p5), .unset, .unset, .unset, .unset, .unset, .unset, .unset, .unset, .unset, .unset, .unset, .unset, .unset, .unset] [(.int p1), (.int (0 : Int32)), (.ref b1), (.ref b1)])) _
  refine st2 _ ?_
  show Steps p.tables e below (T2.setTop (mkF m 9 #[.val (.int p1), .val (.int p2), .val (.int p3), .val (.int p4), .val (.int p5), .unset, .unset, .unset, .unset, .unset, .unset, .unset, .unset, .unset, .unset, .unset, .unset, .unset, .unset] [(.int r2), (.int (0 : Int32)), (.ref b1), (.ref b1)])) _
  refine st3 _ ?_
  show Steps p.tables e below (T3.setTop (mkF m 10 #[.val (.int p1), .val (.int p2), .val (.int p3), .val (.int p4), .val (.int p5), .unset, .unset, .unset, .unset, .unset, .unset, .unset, .unset, .unset, .unset, .unset, .unset, .unset, .unset] [(.ref b1)])) _
  refine XS.dup X3.here hx rfl (hb hby at_10) rfl rfl ?_
  refine XS.iconst X3.here hx rfl (hb hby at_11) ?_
  refine XS.iloadN X3.here hx rfl (hb hby at_12) rfl ?_
  show Steps p.tables e below (T3.setTop (mkF m 13 #[.val (.int p1), .val (.int p2), .val (.int p3), .val (.int p4), .val (.int p5), .unset, .unset, .unset, .unset, .unset, .unset, .unset, .unset, .unset, .unset, .unset, .unset, .unset, .unset] [(.int p2), (.int (1 : Int32)), (.ref b1), (.ref b1)])) _
  refine st4 _ ?_
  show Steps p.tables e below (T4.setTop (mkF m 16 #[.val (.int p1), .val (.int p2), .val (.int p3), .val (.int p4), .val (.int p5), .unset, .unset, .unset, .unset, .unset, .unset, .unset, .unset, .unset, .unset, .unset, .unset, .unset, .unset] [(.int r4), (.int (1 : Int32)), (.ref b1), (.ref b1)])) _
  refine st5 _ ?_
  show Steps p.tables e below (T5.setTop (mkF m 17 #[.val (.int p1), .val (.int p2), .val (.int p3), .val (.int p4), .val (.int p5), .unset, .unset, .unset, .unset, .unset, .unset, .unset, .unset, .unset, .unset, .unset, .unset, .unset, .unset] [(.ref b1)])) _
  refine XS.dup X5.here hx rfl (hb hby at_17) rfl rfl ?_
  refine XS.iconst X5.here hx rfl (hb hby at_18) ?_
  refine XS.iloadN X5.here hx rfl (hb hby at_19) rfl ?_
  show Steps p.tables e below (T5.setTop (mkF m 20 #[.val (.int p1), .val (.int p2), .val (.int p3), .val (.int p4), .val (.int p5), .unset, .unset, .unset, .unset, .unset, .unset, .unset, .unset, .unset, .unset, .unset, .unset, .unset, .unset] [(.int p3), (.int (2 : Int32)), (.ref b1), (.ref b1)])) _
  refine st6 _ ?_
  show Steps p.tables e below (T6.setTop (mkF m 23 #[.val (.int p1), .val (.int p2), .val (.int p3), .val (.int p4), .val (.int p5), .unset, .unset, .unset, .unset, .unset, .unset, .unset, .unset, .unset, .unset, .unset, .unset, .unset, .unset] [(.int r6), (.int (2 : Int32)), (.ref b1), (.ref b1)])) _
  refine st7 _ ?_
  show Steps p.tables e below (T7.setTop (mkF m 24 #[.val (.int p1), .val (.int p2), .val (.int p3), .val (.int p4), .val (.int p5), .unset, .unset, .unset, .unset, .unset, .unset, .unset, .unset, .unset, .unset, .unset, .unset, .unset, .unset] [(.ref b1)])) _
  refine XS.dup X7.here hx rfl (hb hby at_24) rfl rfl ?_
  refine XS.iconst X7.here hx rfl (hb hby at_25) ?_
  refine XS.iloadN X7.here hx rfl (hb hby at_26) rfl ?_
  show Steps p.tables e below (T7.setTop (mkF m 27 #[.val (.int p1), .val (.int p2), .val (.int p3), .val (.int p4), .val (.int p5), .unset, .unset, .unset, .unset, .unset, .unset, .unset, .unset, .unset, .unset, .unset, .unset, .unset, .unset] [(.int p4), (.int (3 : Int32)), (.ref b1), (.ref b1)])) _
  refine st8 _ ?_
  show Steps p.tables e below (T8.setTop (mkF m 30 #[.val (.int p1), .val (.int p2), .val (.int p3), .val (.int p4), .val (.int p5), .unset, .unset, .unset, .unset, .unset, .unset, .unset, .unset, .unset, .unset, .unset, .unset, .unset, .unset] [(.int r8), (.int (3 : Int32)), (.ref b1), (.ref b1)])) _
  refine st9 _ ?_
  show Steps p.tables e below (T9.setTop (mkF m 31 #[.val (.int p1), .val (.int p2), .val (.int p3), .val (.int p4), .val (.int p5), .unset, .unset, .unset, .unset, .unset, .unset, .unset, .unset, .unset, .unset, .unset, .unset, .unset, .unset] [(.ref b1)])) _
  refine XS.astore X9.here hx rfl (hb hby at_31) rfl rfl (l' := #[.val (.int p1), .val (.int p2), .val (.int p3), .val (.int p4), .val (.int p5), .val (.ref b1), .unset, .unset, .unset, .unset, .unset, .unset, .unset, .unset, .unset, .unset, .unset, .unset, .unset]) rfl ?_
  exact kt
set_option maxRecDepth 65536 in
set_option maxHeartbeats 40000000 in
theorem st0a {p : Program} {l : Launch} {e : Env} {s : State} {m : MethodId} {args : Array Value} {below : List Frame} {meth : Method} {c : Code} {s₁ : State} {L0 : List Loc} {Z : State} {a0 : Array Value} (p1 : Int32) (p2 : Int32) (p3 : Int32) (p4 : Int32) (p5 : Int32) (ar : Addr) (ka : ClassId) (as : List Int32) (n : Nat) (k : Nat) (q7 : Int32) (q8 : Int32) (h0 : Heap) (n0 : Nat) (X0 : Stand p l e room_1 s m args below meth c s₁ L0 1 4) (hx : p.tables.exec = Jvm.exec) (hZ : Z.Warmed39 s.vm) (hw : ∀ d ∈ tables_1, d.before a0 Z = true) (hby : c.code = code) (hml : c.maxLocals = 19) (hown : s.vm.findClass "com/example/atomize/atomize/http/FieldValueReaderNextElementPinLaw" = some m.cls) (e0 : s₁.heap = h0) (N0 : Fr n0 L0) (Z0 : n0 ≤ h0.size) (V_ar : Arv Z h0 ar ka .char (Int32.ofNat as.length) (as.map Value.int) (.int (0 : Int32))) (h4 : as.length = 4) (hn : n ≤ 4) (hk : ¬ (k < n)) (hkb : k ≤ 4) :
    ∃ (T' : State) (h' : Heap) (L' : List Loc) , Stand p l e room_1 s m args below meth c T' L' 1 4 ∧ T'.heap = h' ∧ Fr n0 L' ∧ n0 ≤ h'.size ∧ h' = h0 ∧ 
      ∀ target, Steps p.tables e below (T'.setTop (mkF m 101 #[.val (.int p1), .val (.int p2), .val (.int p3), .val (.int p4), .val (.int p5), .val (.ref ar), .val (.int (Int32.ofNat n)), .val (.int q7), .val (.int q8), .val (.int (Int32.ofNat k)), .unset, .unset, .unset, .unset, .unset, .unset, .unset, .unset, .unset] [])) target → Steps p.tables e below (s₁.setTop (mkF m 80 #[.val (.int p1), .val (.int p2), .val (.int p3), .val (.int p4), .val (.int p5), .val (.ref ar), .val (.int (Int32.ofNat n)), .val (.int q7), .val (.int q8), .val (.int (Int32.ofNat k)), .unset, .unset, .unset, .unset, .unset, .unset, .unset, .unset, .unset] [])) target := by
  refine ⟨s₁, h0, _, X0, e0, N0, Z0, rfl, fun target kt => ?_⟩
  show Steps p.tables e below (s₁.setTop (mkF m 80 #[.val (.int p1), .val (.int p2), .val (.int p3), .val (.int p4), .val (.int p5), .val (.ref ar), .val (.int (Int32.ofNat n)), .val (.int q7), .val (.int q8), .val (.int (Int32.ofNat k)), .unset, .unset, .unset, .unset, .unset, .unset, .unset, .unset, .unset] [])) _
  refine XS.iload X0.here hx rfl (hb hby at_80) rfl ?_
  refine XS.iload X0.here hx rfl (hb hby at_82) rfl ?_
  refine XS.icmpYes X0.here hx rfl (pc0 := 84) (pc' := 101) rfl (hb hby at_84) rfl (flt (fun q => hk ((own_lt (by omega) (by omega)).mp q))).2.1 (by decide) (by decide) ?_
  exact kt
set_option maxRecDepth 65536 in
set_option maxHeartbeats 40000000 in
theorem st0b {p : Program} {l : Launch} {e : Env} {s : State} {m : MethodId} {args : Array Value} {below : List Frame} {meth : Method} {c : Code} {s₁ : State} {L0 : List Loc} {Z : State} {a0 : Array Value} (p1 : Int32) (p2 : Int32) (p3 : Int32) (p4 : Int32) (p5 : Int32) (ar : Addr) (ka : ClassId) (as : List Int32) (n : Nat) (k : Nat) (q7 : Int32) (q8 : Int32) (h0 : Heap) (n0 : Nat) (X0 : Stand p l e room_1 s m args below meth c s₁ L0 1 4) (hx : p.tables.exec = Jvm.exec) (hZ : Z.Warmed39 s.vm) (hw : ∀ d ∈ tables_1, d.before a0 Z = true) (hby : c.code = code) (hml : c.maxLocals = 19) (hown : s.vm.findClass "com/example/atomize/atomize/http/FieldValueReaderNextElementPinLaw" = some m.cls) (e0 : s₁.heap = h0) (N0 : Fr n0 L0) (Z0 : n0 ≤ h0.size) (V_ar : Arv Z h0 ar ka .char (Int32.ofNat as.length) (as.map Value.int) (.int (0 : Int32))) (h4 : as.length = 4) (hn : n ≤ 4) (hk : k < n) (hkb : k ≤ 4) (hs : (own_sk (as.getD k 0)) = (0 : Int32)) :
    ∃ (T' : State) (h' : Heap) (L' : List Loc) , Stand p l e room_1 s m args below meth c T' L' 1 4 ∧ T'.heap = h' ∧ Fr n0 L' ∧ n0 ≤ h'.size ∧ h' = h0 ∧ 
      ∀ target, Steps p.tables e below (T'.setTop (mkF m 101 #[.val (.int p1), .val (.int p2), .val (.int p3), .val (.int p4), .val (.int p5), .val (.ref ar), .val (.int (Int32.ofNat n)), .val (.int q7), .val (.int q8), .val (.int (Int32.ofNat k)), .unset, .unset, .unset, .unset, .unset, .unset, .unset, .unset, .unset] [])) target → Steps p.tables e below (s₁.setTop (mkF m 80 #[.val (.int p1), .val (.int p2), .val (.int p3), .val (.int p4), .val (.int p5), .val (.ref ar), .val (.int (Int32.ofNat n)), .val (.int q7), .val (.int q8), .val (.int (Int32.ofNat k)), .unset, .unset, .unset, .unset, .unset, .unset, .unset, .unset, .unset] [])) target := by
  obtain ⟨c1, Ar1, -, S1, M1, H1, -⟩ := id V_ar
  have hin1 := inb_of (j := (Int32.ofNat k)) S1 (own_in (by omega) (by omega))
  obtain ⟨_, _, ⟨T2, L2, k2, n2⟩, -, X2, ⟨Lc2, hQ2, l2, y2, z2⟩, st2⟩ := Jvm.LawKit.callS X0 hx (y := (⟨"com/example/atomize/atomize/http/FieldValueReaderNextElementPinLaw", "skippable", "(C)Z"⟩ : MethodName)) hown (mvT hZ (hw _ (List.mem_of_getElem? (i := 87) rfl))) (mvT hZ (hw _ (List.mem_of_getElem? (i := 88) rfl))) (mvT hZ (hw _ (List.mem_of_getElem? (i := 3) rfl))) (mvT hZ (hw _ (List.mem_of_getElem? (i := 89) rfl))) (by decide) (backOf (W := 0) (rmSK l Z a0 hw [] (as.getD k 0) h0 n0 Z0) hZ (hw _ (List.mem_of_getElem? (i := 89) rfl)) (hw _ (List.mem_of_getElem? (i := 3) rfl)) (by decide) (by decide)) (g := (mkF m 92 #[.val (.int p1), .val (.int p2), .val (.int p3), .val (.int p4), .val (.int p5), .val (.ref ar), .val (.int (Int32.ofNat n)), .val (.int q7), .val (.int q8), .val (.int (Int32.ofNat k)), .unset, .unset, .unset, .unset, .unset, .unset, .unset, .unset, .unset] [(.int (as.getD k 0))])) rfl (by rw [hml]; rfl) (argsL := [(.int (as.getD k 0))]) (rest := []) (lenOf pd__C_Z rfl) rfl (by show 2 * 0 + _ ≤ _; exact Nat.le_of_eq rfl) (hb hby at_92) (fun _ _ => ⟨rfl, e0, (by decide : 1 + 0 ≤ _), (by decide : 4 + 0 ≤ _)⟩)
  dsimp only [Pt.U, Pt.locs, Pt.cells, Pt.slots] at X2 l2 y2 z2 st2 hQ2
  subst l2 y2 z2
  obtain ⟨rfl, Nq2, eq2⟩ := hQ2
  have N2 := Fr.app N0 Nq2
  refine ⟨T2, h0, _, X2, eq2, N2, Z0, rfl, fun target kt => ?_⟩
  show Steps p.tables e below (s₁.setTop (mkF m 80 #[.val (.int p1), .val (.int p2), .val (.int p3), .val (.int p4), .val (.int p5), .val (.ref ar), .val (.int (Int32.ofNat n)), .val (.int q7), .val (.int q8), .val (.int (Int32.ofNat k)), .unset, .unset, .unset, .unset, .unset, .unset, .unset, .unset, .unset] [])) _
  refine XS.iload X0.here hx rfl (hb hby at_80) rfl ?_
  refine XS.iload X0.here hx rfl (hb hby at_82) rfl ?_
  refine XS.icmpNo X0.here hx rfl (hb hby at_84) rfl (tlt ((own_lt (by omega) (by omega)).mpr hk)).2.1 ?_
  refine XS.aload X0.here hx rfl (hb hby at_87) rfl rfl ?_
  refine XS.iload X0.here hx rfl (hb hby at_89) rfl ?_
  show Steps p.tables e below (s₁.setTop (mkF m 91 #[.val (.int p1), .val (.int p2), .val (.int p3), .val (.int p4), .val (.int p5), .val (.ref ar), .val (.int (Int32.ofNat n)), .val (.int q7), .val (.int q8), .val (.int (Int32.ofNat k)), .unset, .unset, .unset, .unset, .unset, .unset, .unset, .unset, .unset] [(.int (Int32.ofNat k)), (.ref ar)])) _
  refine X0.caload hx (j := (Int32.ofNat k)) (v := (.int (as.getD k 0))) (by rw [e0]; exact Ar1.1) (State.isArrayOf_alike hZ.alike Ar1.2.1) Ar1.2.2 hin1 (H1.at hin1 (own_ca as k (by omega))) (g := (mkF m 91 #[.val (.int p1), .val (.int p2), .val (.int p3), .val (.int p4), .val (.int p5), .val (.ref ar), .val (.int (Int32.ofNat n)), .val (.int q7), .val (.int q8), .val (.int (Int32.ofNat k)), .unset, .unset, .unset, .unset, .unset, .unset, .unset, .unset, .unset] [(.int (Int32.ofNat k)), (.ref ar)])) rfl rfl (hb hby at_91) _ ?_
  show Steps p.tables e below (s₁.setTop (mkF m 92 #[.val (.int p1), .val (.int p2), .val (.int p3), .val (.int p4), .val (.int p5), .val (.ref ar), .val (.int (Int32.ofNat n)), .val (.int q7), .val (.int q8), .val (.int (Int32.ofNat k)), .unset, .unset, .unset, .unset, .unset, .unset, .unset, .unset, .unset] [(.int (as.getD k 0))])) _
  refine st2 _ ?_
  show Steps p.tables e below (T2.setTop (mkF m 95 #[.val (.int p1), .val (.int p2), .val (.int p3), .val (.int p4), .val (.int p5), .val (.ref ar), .val (.int (Int32.ofNat n)), .val (.int q7), .val (.int q8), .val (.int (Int32.ofNat k)), .unset, .unset, .unset, .unset, .unset, .unset, .unset, .unset, .unset] [(.int (own_sk (as.getD k 0)))])) _
  refine XS.ifYes X2.here hx rfl (pc0 := 95) (pc' := 101) rfl (hb hby at_95) rfl ((if0 _ _).trans (teq hs).1) (by decide) (by decide) ?_
  exact kt
set_option maxRecDepth 65536 in
set_option maxHeartbeats 40000000 in
theorem st0c {p : Program} {l : Launch} {e : Env} {s : State} {m : MethodId} {args : Array Value} {below : List Frame} {meth : Method} {c : Code} {s₁ : State} {L0 : List Loc} {Z : State} {a0 : Array Value} (p1 : Int32) (p2 : Int32) (p3 : Int32) (p4 : Int32) (p5 : Int32) (ar : Addr) (ka : ClassId) (as : List Int32) (n : Nat) (k : Nat) (q7 : Int32) (q8 : Int32) (h0 : Heap) (n0 : Nat) (X0 : Stand p l e room_1 s m args below meth c s₁ L0 1 4) (hx : p.tables.exec = Jvm.exec) (hZ : Z.Warmed39 s.vm) (hw : ∀ d ∈ tables_1, d.before a0 Z = true) (hby : c.code = code) (hml : c.maxLocals = 19) (hown : s.vm.findClass "com/example/atomize/atomize/http/FieldValueReaderNextElementPinLaw" = some m.cls) (e0 : s₁.heap = h0) (N0 : Fr n0 L0) (Z0 : n0 ≤ h0.size) (V_ar : Arv Z h0 ar ka .char (Int32.ofNat as.length) (as.map Value.int) (.int (0 : Int32))) (h4 : as.length = 4) (hn : n ≤ 4) (hk : k < n) (hkb : k ≤ 4) (hs : ¬ ((own_sk (as.getD k 0)) = (0 : Int32))) :
    ∃ (T' : State) (h' : Heap) (L' : List Loc) , Stand p l e room_1 s m args below meth c T' L' 1 4 ∧ T'.heap = h' ∧ Fr n0 L' ∧ n0 ≤ h'.size ∧ h' = h0 ∧ 
      ∀ target, Steps p.tables e below (T'.setTop (mkF m 101 #[.val (.int p1), .val (.int p2), .val (.int p3), .val (.int p4), .val (.int p5), .val (.ref ar), .val (.int (Int32.ofNat n)), .val (.int q7), .val (.int q8), .val (.int (Int32.ofNat (k + 1))), .unset, .unset, .unset, .unset, .unset, .unset, .unset, .unset, .unset] [])) target → Steps p.tables e below (s₁.setTop (mkF m 80 #[.val (.int p1), .val (.int p2), .val (.int p3), .val (.int p4), .val (.int p5), .val (.ref ar), .val (.int (Int32.ofNat n)), .val (.int q7), .val (.int q8), .val (.int (Int32.ofNat k)), .unset, .unset, .unset, .unset, .unset, .unset, .unset, .unset, .unset] [])) target := by
  obtain ⟨c1, Ar1, -, S1, M1, H1, -⟩ := id V_ar
  have hin1 := inb_of (j := (Int32.ofNat k)) S1 (own_in (by omega) (by omega))
  obtain ⟨_, _, ⟨T2, L2, k2, n2⟩, -, X2, ⟨Lc2, hQ2, l2, y2, z2⟩, st2⟩ := Jvm.LawKit.callS X0 hx (y := (⟨"com/example/atomize/atomize/http/FieldValueReaderNextElementPinLaw", "skippable", "(C)Z"⟩ : MethodName)) hown (mvT hZ (hw _ (List.mem_of_getElem? (i := 87) rfl))) (mvT hZ (hw _ (List.mem_of_getElem? (i := 88) rfl))) (mvT hZ (hw _ (List.mem_of_getElem? (i := 3) rfl))) (mvT hZ (hw _ (List.mem_of_getElem? (i := 89) rfl))) (by decide) (backOf (W := 0) (rmSK l Z a0 hw [] (as.getD k 0) h0 n0 Z0) hZ (hw _ (List.mem_of_getElem? (i := 89) rfl)) (hw _ (List.mem_of_getElem? (i := 3) rfl)) (by decide) (by decide)) (g := (mkF m 92 #[.val (.int p1), .val (.int p2), .val (.int p3), .val (.int p4), .val (.int p5), .val (.ref ar), .val (.int (Int32.ofNat n)), .val (.int q7), .val (.int q8), .val (.int (Int32.ofNat k)), .unset, .unset, .unset, .unset, .unset, .unset, .unset, .unset, .unset] [(.int (as.getD k 0))])) rfl (by rw [hml]; rfl) (argsL := [(.int (as.getD k 0))]) (rest := []) (lenOf pd__C_Z rfl) rfl (by show 2 * 0 + _ ≤ _; exact Nat.le_of_eq rfl) (hb hby at_92) (fun _ _ => ⟨rfl, e0, (by decide : 1 + 0 ≤ _), (by decide : 4 + 0 ≤ _)⟩)
  dsimp only [Pt.U, Pt.locs, Pt.cells, Pt.slots] at X2 l2 y2 z2 st2 hQ2
  subst l2 y2 z2
  obtain ⟨rfl, Nq2, eq2⟩ := hQ2
  have N2 := Fr.app N0 Nq2
  refine ⟨T2, h0, _, X2, eq2, N2, Z0, rfl, fun target kt => ?_⟩
  show Steps p.tables e below (s₁.setTop (mkF m 80 #[.val (.int p1), .val (.int p2), .val (.int p3), .val (.int p4), .val (.int p5), .val (.ref ar), .val (.int (Int32.ofNat n)), .val (.int q7), .val (.int q8), .val (.int (Int32.ofNat k)), .unset, .unset, .unset, .unset, .unset, .unset, .unset, .unset, .unset] [])) _
  refine XS.iload X0.here hx rfl (hb hby at_80) rfl ?_
  refine XS.iload X0.here hx rfl (hb hby at_82) rfl ?_
  refine XS.icmpNo X0.here hx rfl (hb hby at_84) rfl (tlt ((own_lt (by omega) (by omega)).mpr hk)).2.1 ?_
  refine XS.aload X0.here hx rfl (hb hby at_87) rfl rfl ?_
  refine XS.iload X0.here hx rfl (hb hby at_89) rfl ?_
  show Steps p.tables e below (s₁.setTop (mkF m 91 #[.val (.int p1), .val (.int p2), .val (.int p3), .val (.int p4), .val (.int p5), .val (.ref ar), .val (.int (Int32.ofNat n)), .val (.int q7), .val (.int q8), .val (.int (Int32.ofNat k)), .unset, .unset, .unset, .unset, .unset, .unset, .unset, .unset, .unset] [(.int (Int32.ofNat k)), (.ref ar)])) _
  refine X0.caload hx (j := (Int32.ofNat k)) (v := (.int (as.getD k 0))) (by rw [e0]; exact Ar1.1) (State.isArrayOf_alike hZ.alike Ar1.2.1) Ar1.2.2 hin1 (H1.at hin1 (own_ca as k (by omega))) (g := (mkF m 91 #[.val (.int p1), .val (.int p2), .val (.int p3), .val (.int p4), .val (.int p5), .val (.ref ar), .val (.int (Int32.ofNat n)), .val (.int q7), .val (.int q8), .val (.int (Int32.ofNat k)), .unset, .unset, .unset, .unset, .unset, .unset, .unset, .unset, .unset] [(.int (Int32.ofNat k)), (.ref ar)])) rfl rfl (hb hby at_91) _ ?_
  show Steps p.tables e below (s₁.setTop (mkF m 92 #[.val (.int p1), .val (.int p2), .val (.int p3), .val (.int p4), .val (.int p5), .val (.ref ar), .val (.int (Int32.ofNat n)), .val (.int q7), .val (.int q8), .val (.int (Int32.ofNat k)), .unset, .unset, .unset, .unset, .unset, .unset, .unset, .unset, .unset] [(.int (as.getD k 0))])) _
  refine st2 _ ?_
  show Steps p.tables e below (T2.setTop (mkF m 95 #[.val (.int p1), .val (.int p2), .val (.int p3), .val (.int p4), .val (.int p5), .val (.ref ar), .val (.int (Int32.ofNat n)), .val (.int q7), .val (.int q8), .val (.int (Int32.ofNat k)), .unset, .unset, .unset, .unset, .unset, .unset, .unset, .unset, .unset] [(.int (own_sk (as.getD k 0)))])) _
  refine XS.ifNo X2.here hx rfl (hb hby at_95) rfl ((if0 _ _).trans (feq hs).1) ?_
  refine XS.iinc X2.here hx rfl (hb hby at_98) rfl (l' := #[.val (.int p1), .val (.int p2), .val (.int p3), .val (.int p4), .val (.int p5), .val (.ref ar), .val (.int (Int32.ofNat n)), .val (.int q7), .val (.int q8), .val (.int ((Int32.ofNat k) + (1 : Int32))), .unset, .unset, .unset, .unset, .unset, .unset, .unset, .unset, .unset]) rfl ?_
  show Steps p.tables e below (T2.setTop (mkF m 101 #[.val (.int p1), .val (.int p2), .val (.int p3), .val (.int p4), .val (.int p5), .val (.ref ar), .val (.int (Int32.ofNat n)), .val (.int q7), .val (.int q8), .val (.int ((Int32.ofNat k) + (1 : Int32))), .unset, .unset, .unset, .unset, .unset, .unset, .unset, .unset, .unset] [])) _
  rw [(own_succ k)]
  show Steps p.tables e below (T2.setTop (mkF m 101 #[.val (.int p1), .val (.int p2), .val (.int p3), .val (.int p4), .val (.int p5), .val (.ref ar), .val (.int (Int32.ofNat n)), .val (.int q7), .val (.int q8), .val (.int (Int32.ofNat (k + 1))), .unset, .unset, .unset, .unset, .unset, .unset, .unset, .unset, .unset] [])) _
  exact kt
theorem stp0 {p : Program} {l : Launch} {e : Env} {s : State} {m : MethodId} {args : Array Value} {below : List Frame} {meth : Method} {c : Code} {s₁ : State} {L0 : List Loc} {Z : State} {a0 : Array Value} (p1 : Int32) (p2 : Int32) (p3 : Int32) (p4 : Int32) (p5 : Int32) (ar : Addr) (ka : ClassId) (as : List Int32) (n : Nat) (k : Nat) (q7 : Int32) (q8 : Int32) (h0 : Heap) (n0 : Nat) (X0 : Stand p l e room_1 s m args below meth c s₁ L0 1 4) (hx : p.tables.exec = Jvm.exec) (hZ : Z.Warmed39 s.vm) (hw : ∀ d ∈ tables_1, d.before a0 Z = true) (hby : c.code = code) (hml : c.maxLocals = 19) (hown : s.vm.findClass "com/example/atomize/atomize/http/FieldValueReaderNextElementPinLaw" = some m.cls) (e0 : s₁.heap = h0) (N0 : Fr n0 L0) (Z0 : n0 ≤ h0.size) (V_ar : Arv Z h0 ar ka .char (Int32.ofNat as.length) (as.map Value.int) (.int (0 : Int32))) (h4 : as.length = 4) (hn : n ≤ 4) (hkb : k ≤ 4) :
    ∃ (T' : State) (h' : Heap) (L' : List Loc) , Stand p l e room_1 s m args below meth c T' L' 1 4 ∧ T'.heap = h' ∧ Fr n0 L' ∧ n0 ≤ h'.size ∧ h' = h0 ∧ 
      ∀ target, Steps p.tables e below (T'.setTop (mkF m 101 #[.val (.int p1), .val (.int p2), .val (.int p3), .val (.int p4), .val (.int p5), .val (.ref ar), .val (.int (Int32.ofNat n)), .val (.int q7), .val (.int q8), .val (.int (Int32.ofNat (own_step as n k))), .unset, .unset, .unset, .unset, .unset, .unset, .unset, .unset, .unset] [])) target → Steps p.tables e below (s₁.setTop (mkF m 80 #[.val (.int p1), .val (.int p2), .val (.int p3), .val (.int p4), .val (.int p5), .val (.ref ar), .val (.int (Int32.ofNat n)), .val (.int q7), .val (.int q8), .val (.int (Int32.ofNat k)), .unset, .unset, .unset, .unset, .unset, .unset, .unset, .unset, .unset] [])) target := by
  by_cases hk : k < n
  · by_cases hs : (own_sk (as.getD k 0)) = (0 : Int32)
    · rw [show own_step as n k = k from if_neg (fun z => z.2 hs)]; exact st0b p1 p2 p3 p4 p5 ar ka as n k q7 q8 h0 n0 X0 hx hZ hw hby hml hown e0 N0 Z0 V_ar h4 hn hk hkb hs
    · rw [show own_step as n k = k + 1 from if_pos ⟨hk, hs⟩]; exact st0c p1 p2 p3 p4 p5 ar ka as n k q7 q8 h0 n0 X0 hx hZ hw hby hml hown e0 N0 Z0 V_ar h4 hn hk hkb hs
  · rw [show own_step as n k = k from if_neg (fun z => hk z.1)]; exact st0a p1 p2 p3 p4 p5 ar ka as n k q7 q8 h0 n0 X0 hx hZ hw hby hml hown e0 N0 Z0 V_ar h4 hn hk hkb
set_option maxRecDepth 65536 in
set_option maxHeartbeats 40000000 in
theorem st1a {p : Program} {l : Launch} {e : Env} {s : State} {m : MethodId} {args : Array Value} {below : List Frame} {meth : Method} {c : Code} {s₁ : State} {L0 : List Loc} {Z : State} {a0 : Array Value} (p1 : Int32) (p2 : Int32) (p3 : Int32) (p4 : Int32) (p5 : Int32) (ar : Addr) (ka : ClassId) (as : List Int32) (n : Nat) (k : Nat) (q7 : Int32) (q8 : Int32) (h0 : Heap) (n0 : Nat) (X0 : Stand p l e room_1 s m args below meth c s₁ L0 1 4) (hx : p.tables.exec = Jvm.exec) (hZ : Z.Warmed39 s.vm) (hw : ∀ d ∈ tables_1, d.before a0 Z = true) (hby : c.code = code) (hml : c.maxLocals = 19) (hown : s.vm.findClass "com/example/atomize/atomize/http/FieldValueReaderNextElementPinLaw" = some m.cls) (e0 : s₁.heap = h0) (N0 : Fr n0 L0) (Z0 : n0 ≤ h0.size) (V_ar : Arv Z h0 ar ka .char (Int32.ofNat as.length) (as.map Value.int) (.int (0 : Int32))) (h4 : as.length = 4) (hn : n ≤ 4) (hk : ¬ (k < n)) (hkb : k ≤ 4) :
    ∃ (T' : State) (h' : Heap) (L' : List Loc) , Stand p l e room_1 s m args below meth c T' L' 1 4 ∧ T'.heap = h' ∧ Fr n0 L' ∧ n0 ≤ h'.size ∧ h' = h0 ∧ 
      ∀ target, Steps p.tables e below (T'.setTop (mkF m 122 #[.val (.int p1), .val (.int p2), .val (.int p3), .val (.int p4), .val (.int p5), .val (.ref ar), .val (.int (Int32.ofNat n)), .val (.int q7), .val (.int q8), .val (.int (Int32.ofNat k)), .unset, .unset, .unset, .unset, .unset, .unset, .unset, .unset, .unset] [])) target → Steps p.tables e below (s₁.setTop (mkF m 101 #[.val (.int p1), .val (.int p2), .val (.int p3), .val (.int p4), .val (.int p5), .val (.ref ar), .val (.int (Int32.ofNat n)), .val (.int q7), .val (.int q8), .val (.int (Int32.ofNat k)), .unset, .unset, .unset, .unset, .unset, .unset, .unset, .unset, .unset] [])) target := by
  refine ⟨s₁, h0, _, X0, e0, N0, Z0, rfl, fun target kt => ?_⟩
  show Steps p.tables e below (s₁.setTop (mkF m 101 #[.val (.int p1), .val (.int p2), .val (.int p3), .val (.int p4), .val (.int p5), .val (.ref ar), .val (.int (Int32.ofNat n)), .val (.int q7), .val (.int q8), .val (.int (Int32.ofNat k)), .unset, .unset, .unset, .unset, .unset, .unset, .unset, .unset, .unset] [])) _
  refine XS.iload X0.here hx rfl (hb hby at_101) rfl ?_
  refine XS.iload X0.here hx rfl (hb hby at_103) rfl ?_
  refine XS.icmpYes X0.here hx rfl (pc0 := 105) (pc' := 122) rfl (hb hby at_105) rfl (flt (fun q => hk ((own_lt (by omega) (by omega)).mp q))).2.1 (by decide) (by decide) ?_
  exact kt
set_option maxRecDepth 65536 in
set_option maxHeartbeats 40000000 in
theorem st1b {p : Program} {l : Launch} {e : Env} {s : State} {m : MethodId} {args : Array Value} {below : List Frame} {meth : Method} {c : Code} {s₁ : State} {L0 : List Loc} {Z : State} {a0 : Array Value} (p1 : Int32) (p2 : Int32) (p3 : Int32) (p4 : Int32) (p5 : Int32) (ar : Addr) (ka : ClassId) (as : List Int32) (n : Nat) (k : Nat) (q7 : Int32) (q8 : Int32) (h0 : Heap) (n0 : Nat) (X0 : Stand p l e room_1 s m args below meth c s₁ L0 1 4) (hx : p.tables.exec = Jvm.exec) (hZ : Z.Warmed39 s.vm) (hw : ∀ d ∈ tables_1, d.before a0 Z = true) (hby : c.code = code) (hml : c.maxLocals = 19) (hown : s.vm.findClass "com/example/atomize/atomize/http/FieldValueReaderNextElementPinLaw" = some m.cls) (e0 : s₁.heap = h0) (N0 : Fr n0 L0) (Z0 : n0 ≤ h0.size) (V_ar : Arv Z h0 ar ka .char (Int32.ofNat as.length) (as.map Value.int) (.int (0 : Int32))) (h4 : as.length = 4) (hn : n ≤ 4) (hk : k < n) (hkb : k ≤ 4) (hs : (own_sk (as.getD k 0)) = (0 : Int32)) :
    ∃ (T' : State) (h' : Heap) (L' : List Loc) , Stand p l e room_1 s m args below meth c T' L' 1 4 ∧ T'.heap = h' ∧ Fr n0 L' ∧ n0 ≤ h'.size ∧ h' = h0 ∧ 
      ∀ target, Steps p.tables e below (T'.setTop (mkF m 122 #[.val (.int p1), .val (.int p2), .val (.int p3), .val (.int p4), .val (.int p5), .val (.ref ar), .val (.int (Int32.ofNat n)), .val (.int q7), .val (.int q8), .val (.int (Int32.ofNat k)), .unset, .unset, .unset, .unset, .unset, .unset, .unset, .unset, .unset] [])) target → Steps p.tables e below (s₁.setTop (mkF m 101 #[.val (.int p1), .val (.int p2), .val (.int p3), .val (.int p4), .val (.int p5), .val (.ref ar), .val (.int (Int32.ofNat n)), .val (.int q7), .val (.int q8), .val (.int (Int32.ofNat k)), .unset, .unset, .unset, .unset, .unset, .unset, .unset, .unset, .unset] [])) target := by
  obtain ⟨c1, Ar1, -, S1, M1, H1, -⟩ := id V_ar
  have hin1 := inb_of (j := (Int32.ofNat k)) S1 (own_in (by omega) (by omega))
  obtain ⟨_, _, ⟨T2, L2, k2, n2⟩, -, X2, ⟨Lc2, hQ2, l2, y2, z2⟩, st2⟩ := Jvm.LawKit.callS X0 hx (y := (⟨"com/example/atomize/atomize/http/FieldValueReaderNextElementPinLaw", "skippable", "(C)Z"⟩ : MethodName)) hown (mvT hZ (hw _ (List.mem_of_getElem? (i := 87) rfl))) (mvT hZ (hw _ (List.mem_of_getElem? (i := 88) rfl))) (mvT hZ (hw _ (List.mem_of_getElem? (i := 3) rfl))) (mvT hZ (hw _ (List.mem_of_getElem? (i := 89) rfl))) (by decide) (backOf (W := 0) (rmSK l Z a0 hw [] (as.getD k 0) h0 n0 Z0) hZ (hw _ (List.mem_of_getElem? (i := 89) rfl)) (hw _ (List.mem_of_getElem? (i := 3) rfl)) (by decide) (by decide)) (g := (mkF m 113 #[.val (.int p1), .val (.int p2), .val (.int p3), .val (.int p4), .val (.int p5), .val (.ref ar), .val (.int (Int32.ofNat n)), .val (.int q7), .val (.int q8), .val (.int (Int32.ofNat k)), .unset, .unset, .unset, .unset, .unset, .unset, .unset, .unset, .unset] [(.int (as.getD k 0))])) rfl (by rw [hml]; rfl) (argsL := [(.int (as.getD k 0))]) (rest := []) (lenOf pd__C_Z rfl) rfl (by show 2 * 0 + _ ≤ _; exact Nat.le_of_eq rfl) (hb hby at_113) (fun _ _ => ⟨rfl, e0, (by decide : 1 + 0 ≤ _), (by decide : 4 + 0 ≤ _)⟩)
  dsimp only [Pt.U, Pt.locs, Pt.cells, Pt.slots] at X2 l2 y2 z2 st2 hQ2
  subst l2 y2 z2
  obtain ⟨rfl, Nq2, eq2⟩ := hQ2
  have N2 := Fr.app N0 Nq2
  refine ⟨T2, h0, _, X2, eq2, N2, Z0, rfl, fun target kt => ?_⟩
  show Steps p.tables e below (s₁.setTop (mkF m 101 #[.val (.int p1), .val (.int p2), .val (.int p3), .val (.int p4), .val (.int p5), .val (.ref ar), .val (.int (Int32.ofNat n)), .val (.int q7), .val (.int q8), .val (.int (Int32.ofNat k)), .unset, .unset, .unset, .unset, .unset, .unset, .unset, .unset, .unset] [])) _
  refine XS.iload X0.here hx rfl (hb hby at_101) rfl ?_
  refine XS.iload X0.here hx rfl (hb hby at_103) rfl ?_
  refine XS.icmpNo X0.here hx rfl (hb hby at_105) rfl (tlt ((own_lt (by omega) (by omega)).mpr hk)).2.1 ?_
  refine XS.aload X0.here hx rfl (hb hby at_108) rfl rfl ?_
  refine XS.iload X0.here hx rfl (hb hby at_110) rfl ?_
  show Steps p.tables e below (s₁.setTop (mkF m 112 #[.val (.int p1), .val (.int p2), .val (.int p3), .val (.int p4), .val (.int p5), .val (.ref ar), .val (.int (Int32.ofNat n)), .val (.int q7), .val (.int q8), .val (.int (Int32.ofNat k)), .unset, .unset, .unset, .unset, .unset, .unset, .unset, .unset, .unset] [(.int (Int32.ofNat k)), (.ref ar)])) _
  refine X0.caload hx (j := (Int32.ofNat k)) (v := (.int (as.getD k 0))) (by rw [e0]; exact Ar1.1) (State.isArrayOf_alike hZ.alike Ar1.2.1) Ar1.2.2 hin1 (H1.at hin1 (own_ca as k (by omega))) (g := (mkF m 112 #[.val (.int p1), .val (.int p2), .val (.int p3), .val (.int p4), .val (.int p5), .val (.ref ar), .val (.int (Int32.ofNat n)), .val (.int q7), .val (.int q8), .val (.int (Int32.ofNat k)), .unset, .unset, .unset, .unset, .unset, .unset, .unset, .unset, .unset] [(.int (Int32.ofNat k)), (.ref ar)])) rfl rfl (hb hby at_112) _ ?_
  show Steps p.tables e below (s₁.setTop (mkF m 113 #[.val (.int p1), .val (.int p2), .val (.int p3), .val (.int p4), .val (.int p5), .val (.ref ar), .val (.int (Int32.ofNat n)), .val (.int q7), .val (.int q8), .val (.int (Int32.ofNat k)), .unset, .unset, .unset, .unset, .unset, .unset, .unset, .unset, .unset] [(.int (as.getD k 0))])) _
  refine st2 _ ?_
  show Steps p.tables e below (T2.setTop (mkF m 116 #[.val (.int p1), .val (.int p2), .val (.int p3), .val (.int p4), .val (.int p5), .val (.ref ar), .val (.int (Int32.ofNat n)), .val (.int q7), .val (.int q8), .val (.int (Int32.ofNat k)), .unset, .unset, .unset, .unset, .unset, .unset, .unset, .unset, .unset] [(.int (own_sk (as.getD k 0)))])) _
  refine XS.ifYes X2.here hx rfl (pc0 := 116) (pc' := 122) rfl (hb hby at_116) rfl ((if0 _ _).trans (teq hs).1) (by decide) (by decide) ?_
  exact kt
set_option maxRecDepth 65536 in
set_option maxHeartbeats 40000000 in
theorem st1c {p : Program} {l : Launch} {e : Env} {s : State} {m : MethodId} {args : Array Value} {below : List Frame} {meth : Method} {c : Code} {s₁ : State} {L0 : List Loc} {Z : State} {a0 : Array Value} (p1 : Int32) (p2 : Int32) (p3 : Int32) (p4 : Int32) (p5 : Int32) (ar : Addr) (ka : ClassId) (as : List Int32) (n : Nat) (k : Nat) (q7 : Int32) (q8 : Int32) (h0 : Heap) (n0 : Nat) (X0 : Stand p l e room_1 s m args below meth c s₁ L0 1 4) (hx : p.tables.exec = Jvm.exec) (hZ : Z.Warmed39 s.vm) (hw : ∀ d ∈ tables_1, d.before a0 Z = true) (hby : c.code = code) (hml : c.maxLocals = 19) (hown : s.vm.findClass "com/example/atomize/atomize/http/FieldValueReaderNextElementPinLaw" = some m.cls) (e0 : s₁.heap = h0) (N0 : Fr n0 L0) (Z0 : n0 ≤ h0.size) (V_ar : Arv Z h0 ar ka .char (Int32.ofNat as.length) (as.map Value.int) (.int (0 : Int32))) (h4 : as.length = 4) (hn : n ≤ 4) (hk : k < n) (hkb : k ≤ 4) (hs : ¬ ((own_sk (as.getD k 0)) = (0 : Int32))) :
    ∃ (T' : State) (h' : Heap) (L' : List Loc) , Stand p l e room_1 s m args below meth c T' L' 1 4 ∧ T'.heap = h' ∧ Fr n0 L' ∧ n0 ≤ h'.size ∧ h' = h0 ∧ 
      ∀ target, Steps p.tables e below (T'.setTop (mkF m 122 #[.val (.int p1), .val (.int p2), .val (.int p3), .val (.int p4), .val (.int p5), .val (.ref ar), .val (.int (Int32.ofNat n)), .val (.int q7), .val (.int q8), .val (.int (Int32.ofNat (k + 1))), .unset, .unset, .unset, .unset, .unset, .unset, .unset, .unset, .unset] [])) target → Steps p.tables e below (s₁.setTop (mkF m 101 #[.val (.int p1), .val (.int p2), .val (.int p3), .val (.int p4), .val (.int p5), .val (.ref ar), .val (.int (Int32.ofNat n)), .val (.int q7), .val (.int q8), .val (.int (Int32.ofNat k)), .unset, .unset, .unset, .unset, .unset, .unset, .unset, .unset, .unset] [])) target := by
  obtain ⟨c1, Ar1, -, S1, M1, H1, -⟩ := id V_ar
  have hin1 := inb_of (j := (Int32.ofNat k)) S1 (own_in (by omega) (by omega))
  obtain ⟨_, _, ⟨T2, L2, k2, n2⟩, -, X2, ⟨Lc2, hQ2, l2, y2, z2⟩, st2⟩ := Jvm.LawKit.callS X0 hx (y := (⟨"com/example/atomize/atomize/http/FieldValueReaderNextElementPinLaw", "skippable", "(C)Z"⟩ : MethodName)) hown (mvT hZ (hw _ (List.mem_of_getElem? (i := 87) rfl))) (mvT hZ (hw _ (List.mem_of_getElem? (i := 88) rfl))) (mvT hZ (hw _ (List.mem_of_getElem? (i := 3) rfl))) (mvT hZ (hw _ (List.mem_of_getElem? (i := 89) rfl))) (by decide) (backOf (W := 0) (rmSK l Z a0 hw [] (as.getD k 0) h0 n0 Z0) hZ (hw _ (List.mem_of_getElem? (i := 89) rfl)) (hw _ (List.mem_of_getElem? (i := 3) rfl)) (by decide) (by decide)) (g := (mkF m 113 #[.val (.int p1), .val (.int p2), .val (.int p3), .val (.int p4), .val (.int p5), .val (.ref ar), .val (.int (Int32.ofNat n)), .val (.int q7), .val (.int q8), .val (.int (Int32.ofNat k)), .unset, .unset, .unset, .unset, .unset, .unset, .unset, .unset, .unset] [(.int (as.getD k 0))])) rfl (by rw [hml]; rfl) (argsL := [(.int (as.getD k 0))]) (rest := []) (lenOf pd__C_Z rfl) rfl (by show 2 * 0 + _ ≤ _; exact Nat.le_of_eq rfl) (hb hby at_113) (fun _ _ => ⟨rfl, e0, (by decide : 1 + 0 ≤ _), (by decide : 4 + 0 ≤ _)⟩)
  dsimp only [Pt.U, Pt.locs, Pt.cells, Pt.slots] at X2 l2 y2 z2 st2 hQ2
  subst l2 y2 z2
  obtain ⟨rfl, Nq2, eq2⟩ := hQ2
  have N2 := Fr.app N0 Nq2
  refine ⟨T2, h0, _, X2, eq2, N2, Z0, rfl, fun target kt => ?_⟩
  show Steps p.tables e below (s₁.setTop (mkF m 101 #[.val (.int p1), .val (.int p2), .val (.int p3), .val (.int p4), .val (.int p5), .val (.ref ar), .val (.int (Int32.ofNat n)), .val (.int q7), .val (.int q8), .val (.int (Int32.ofNat k)), .unset, .unset, .unset, .unset, .unset, .unset, .unset, .unset, .unset] [])) _
  refine XS.iload X0.here hx rfl (hb hby at_101) rfl ?_
  refine XS.iload X0.here hx rfl (hb hby at_103) rfl ?_
  refine XS.icmpNo X0.here hx rfl (hb hby at_105) rfl (tlt ((own_lt (by omega) (by omega)).mpr hk)).2.1 ?_
  refine XS.aload X0.here hx rfl (hb hby at_108) rfl rfl ?_
  refine XS.iload X0.here hx rfl (hb hby at_110) rfl ?_
  show Steps p.tables e below (s₁.setTop (mkF m 112 #[.val (.int p1), .val (.int p2), .val (.int p3), .val (.int p4), .val (.int p5), .val (.ref ar), .val (.int (Int32.ofNat n)), .val (.int q7), .val (.int q8), .val (.int (Int32.ofNat k)), .unset, .unset, .unset, .unset, .unset, .unset, .unset, .unset, .unset] [(.int (Int32.ofNat k)), (.ref ar)])) _
  refine X0.caload hx (j := (Int32.ofNat k)) (v := (.int (as.getD k 0))) (by rw [e0]; exact Ar1.1) (State.isArrayOf_alike hZ.alike Ar1.2.1) Ar1.2.2 hin1 (H1.at hin1 (own_ca as k (by omega))) (g := (mkF m 112 #[.val (.int p1), .val (.int p2), .val (.int p3), .val (.int p4), .val (.int p5), .val (.ref ar), .val (.int (Int32.ofNat n)), .val (.int q7), .val (.int q8), .val (.int (Int32.ofNat k)), .unset, .unset, .unset, .unset, .unset, .unset, .unset, .unset, .unset] [(.int (Int32.ofNat k)), (.ref ar)])) rfl rfl (hb hby at_112) _ ?_
  show Steps p.tables e below (s₁.setTop (mkF m 113 #[.val (.int p1), .val (.int p2), .val (.int p3), .val (.int p4), .val (.int p5), .val (.ref ar), .val (.int (Int32.ofNat n)), .val (.int q7), .val (.int q8), .val (.int (Int32.ofNat k)), .unset, .unset, .unset, .unset, .unset, .unset, .unset, .unset, .unset] [(.int (as.getD k 0))])) _
  refine st2 _ ?_
  show Steps p.tables e below (T2.setTop (mkF m 116 #[.val (.int p1), .val (.int p2), .val (.int p3), .val (.int p4), .val (.int p5), .val (.ref ar), .val (.int (Int32.ofNat n)), .val (.int q7), .val (.int q8), .val (.int (Int32.ofNat k)), .unset, .unset, .unset, .unset, .unset, .unset, .unset, .unset, .unset] [(.int (own_sk (as.getD k 0)))])) _
  refine XS.ifNo X2.here hx rfl (hb hby at_116) rfl ((if0 _ _).trans (feq hs).1) ?_
  refine XS.iinc X2.here hx rfl (hb hby at_119) rfl (l' := #[.val (.int p1), .val (.int p2), .val (.int p3), .val (.int p4), .val (.int p5), .val (.ref ar), .val (.int (Int32.ofNat n)), .val (.int q7), .val (.int q8), .val (.int ((Int32.ofNat k) + (1 : Int32))), .unset, .unset, .unset, .unset, .unset, .unset, .unset, .unset, .unset]) rfl ?_
  show Steps p.tables e below (T2.setTop (mkF m 122 #[.val (.int p1), .val (.int p2), .val (.int p3), .val (.int p4), .val (.int p5), .val (.ref ar), .val (.int (Int32.ofNat n)), .val (.int q7), .val (.int q8), .val (.int ((Int32.ofNat k) + (1 : Int32))), .unset, .unset, .unset, .unset, .unset, .unset, .unset, .unset, .unset] [])) _
  rw [(own_succ k)]
  show Steps p.tables e below (T2.setTop (mkF m 122 #[.val (.int p1), .val (.int p2), .val (.int p3), .val (.int p4), .val (.int p5), .val (.ref ar), .val (.int (Int32.ofNat n)), .val (.int q7), .val (.int q8), .val (.int (Int32.ofNat (k + 1))), .unset, .unset, .unset, .unset, .unset, .unset, .unset, .unset, .unset] [])) _
  exact kt
theorem stp1 {p : Program} {l : Launch} {e : Env} {s : State} {m : MethodId} {args : Array Value} {below : List Frame} {meth : Method} {c : Code} {s₁ : State} {L0 : List Loc} {Z : State} {a0 : Array Value} (p1 : Int32) (p2 : Int32) (p3 : Int32) (p4 : Int32) (p5 : Int32) (ar : Addr) (ka : ClassId) (as : List Int32) (n : Nat) (k : Nat) (q7 : Int32) (q8 : Int32) (h0 : Heap) (n0 : Nat) (X0 : Stand p l e room_1 s m args below meth c s₁ L0 1 4) (hx : p.tables.exec = Jvm.exec) (hZ : Z.Warmed39 s.vm) (hw : ∀ d ∈ tables_1, d.before a0 Z = true) (hby : c.code = code) (hml : c.maxLocals = 19) (hown : s.vm.findClass "com/example/atomize/atomize/http/FieldValueReaderNextElementPinLaw" = some m.cls) (e0 : s₁.heap = h0) (N0 : Fr n0 L0) (Z0 : n0 ≤ h0.size) (V_ar : Arv Z h0 ar ka .char (Int32.ofNat as.length) (as.map Value.int) (.int (0 : Int32))) (h4 : as.length = 4) (hn : n ≤ 4) (hkb : k ≤ 4) :
    ∃ (T' : State) (h' : Heap) (L' : List Loc) , Stand p l e room_1 s m args below meth c T' L' 1 4 ∧ T'.heap = h' ∧ Fr n0 L' ∧ n0 ≤ h'.size ∧ h' = h0 ∧ 
      ∀ target, Steps p.tables e below (T'.setTop (mkF m 122 #[.val (.int p1), .val (.int p2), .val (.int p3), .val (.int p4), .val (.int p5), .val (.ref ar), .val (.int (Int32.ofNat n)), .val (.int q7), .val (.int q8), .val (.int (Int32.ofNat (own_step as n k))), .unset, .unset, .unset, .unset, .unset, .unset, .unset, .unset, .unset] [])) target → Steps p.tables e below (s₁.setTop (mkF m 101 #[.val (.int p1), .val (.int p2), .val (.int p3), .val (.int p4), .val (.int p5), .val (.ref ar), .val (.int (Int32.ofNat n)), .val (.int q7), .val (.int q8), .val (.int (Int32.ofNat k)), .unset, .unset, .unset, .unset, .unset, .unset, .unset, .unset, .unset] [])) target := by
  by_cases hk : k < n
  · by_cases hs : (own_sk (as.getD k 0)) = (0 : Int32)
    · rw [show own_step as n k = k from if_neg (fun z => z.2 hs)]; exact st1b p1 p2 p3 p4 p5 ar ka as n k q7 q8 h0 n0 X0 hx hZ hw hby hml hown e0 N0 Z0 V_ar h4 hn hk hkb hs
    · rw [show own_step as n k = k + 1 from if_pos ⟨hk, hs⟩]; exact st1c p1 p2 p3 p4 p5 ar ka as n k q7 q8 h0 n0 X0 hx hZ hw hby hml hown e0 N0 Z0 V_ar h4 hn hk hkb hs
  · rw [show own_step as n k = k from if_neg (fun z => hk z.1)]; exact st1a p1 p2 p3 p4 p5 ar ka as n k q7 q8 h0 n0 X0 hx hZ hw hby hml hown e0 N0 Z0 V_ar h4 hn hk hkb
set_option maxRecDepth 65536 in
set_option maxHeartbeats 40000000 in
theorem st2a {p : Program} {l : Launch} {e : Env} {s : State} {m : MethodId} {args : Array Value} {below : List Frame} {meth : Method} {c : Code} {s₁ : State} {L0 : List Loc} {Z : State} {a0 : Array Value} (p1 : Int32) (p2 : Int32) (p3 : Int32) (p4 : Int32) (p5 : Int32) (ar : Addr) (ka : ClassId) (as : List Int32) (n : Nat) (k : Nat) (q7 : Int32) (q8 : Int32) (h0 : Heap) (n0 : Nat) (X0 : Stand p l e room_1 s m args below meth c s₁ L0 1 4) (hx : p.tables.exec = Jvm.exec) (hZ : Z.Warmed39 s.vm) (hw : ∀ d ∈ tables_1, d.before a0 Z = true) (hby : c.code = code) (hml : c.maxLocals = 19) (hown : s.vm.findClass "com/example/atomize/atomize/http/FieldValueReaderNextElementPinLaw" = some m.cls) (e0 : s₁.heap = h0) (N0 : Fr n0 L0) (Z0 : n0 ≤ h0.size) (V_ar : Arv Z h0 ar ka .char (Int32.ofNat as.length) (as.map Value.int) (.int (0 : Int32))) (h4 : as.length = 4) (hn : n ≤ 4) (hk : ¬ (k < n)) (hkb : k ≤ 4) :
    ∃ (T' : State) (h' : Heap) (L' : List Loc) , Stand p l e room_1 s m args below meth c T' L' 1 4 ∧ T'.heap = h' ∧ Fr n0 L' ∧ n0 ≤ h'.size ∧ h' = h0 ∧ 
      ∀ target, Steps p.tables e below (T'.setTop (mkF m 143 #[.val (.int p1), .val (.int p2), .val (.int p3), .val (.int p4), .val (.int p5), .val (.ref ar), .val (.int (Int32.ofNat n)), .val (.int q7), .val (.int q8), .val (.int (Int32.ofNat k)), .unset, .unset, .unset, .unset, .unset, .unset, .unset, .unset, .unset] [])) target → Steps p.tables e below (s₁.setTop (mkF m 122 #[.val (.int p1), .val (.int p2), .val (.int p3), .val (.int p4), .val (.int p5), .val (.ref ar), .val (.int (Int32.ofNat n)), .val (.int q7), .val (.int q8), .val (.int (Int32.ofNat k)), .unset, .unset, .unset, .unset, .unset, .unset, .unset, .unset, .unset] [])) target := by
  refine ⟨s₁, h0, _, X0, e0, N0, Z0, rfl, fun target kt => ?_⟩
  show Steps p.tables e below (s₁.setTop (mkF m 122 #[.val (.int p1), .val (.int p2), .val (.int p3), .val (.int p4), .val (.int p5), .val (.ref ar), .val (.int (Int32.ofNat n)), .val (.int q7), .val (.int q8), .val (.int (Int32.ofNat k)), .unset, .unset, .unset, .unset, .unset, .unset, .unset, .unset, .unset] [])) _
  refine XS.iload X0.here hx rfl (hb hby at_122) rfl ?_
  refine XS.iload X0.here hx rfl (hb hby at_124) rfl ?_
  refine XS.icmpYes X0.here hx rfl (pc0 := 126) (pc' := 143) rfl (hb hby at_126) rfl (flt (fun q => hk ((own_lt (by omega) (by omega)).mp q))).2.1 (by decide) (by decide) ?_
  exact kt
set_option maxRecDepth 65536 in
set_option maxHeartbeats 40000000 in
theorem st2b {p : Program} {l : Launch} {e : Env} {s : State} {m : MethodId} {args : Array Value} {below : List Frame} {meth : Method} {c : Code} {s₁ : State} {L0 : List Loc} {Z : State} {a0 : Array Value} (p1 : Int32) (p2 : Int32) (p3 : Int32) (p4 : Int32) (p5 : Int32) (ar : Addr) (ka : ClassId) (as : List Int32) (n : Nat) (k : Nat) (q7 : Int32) (q8 : Int32) (h0 : Heap) (n0 : Nat) (X0 : Stand p l e room_1 s m args below meth c s₁ L0 1 4) (hx : p.tables.exec = Jvm.exec) (hZ : Z.Warmed39 s.vm) (hw : ∀ d ∈ tables_1, d.before a0 Z = true) (hby : c.code = code) (hml : c.maxLocals = 19) (hown : s.vm.findClass "com/example/atomize/atomize/http/FieldValueReaderNextElementPinLaw" = some m.cls) (e0 : s₁.heap = h0) (N0 : Fr n0 L0) (Z0 : n0 ≤ h0.size) (V_ar : Arv Z h0 ar ka .char (Int32.ofNat as.length) (as.map Value.int) (.int (0 : Int32))) (h4 : as.length = 4) (hn : n ≤ 4) (hk : k < n) (hkb : k ≤ 4) (hs : (own_sk (as.getD k 0)) = (0 : Int32)) :
    ∃ (T' : State) (h' : Heap) (L' : List Loc) , Stand p l e room_1 s m args below meth c T' L' 1 4 ∧ T'.heap = h' ∧ Fr n0 L' ∧ n0 ≤ h'.size ∧ h' = h0 ∧ 
      ∀ target, Steps p.tables e below (T'.setTop (mkF m 143 #[.val (.int p1), .val (.int p2), .val (.int p3), .val (.int p4), .val (.int p5), .val (.ref ar), .val (.int (Int32.ofNat n)), .val (.int q7), .val (.int q8), .val (.int (Int32.ofNat k)), .unset, .unset, .unset, .unset, .unset, .unset, .unset, .unset, .unset] [])) target → Steps p.tables e below (s₁.setTop (mkF m 122 #[.val (.int p1), .val (.int p2), .val (.int p3), .val (.int p4), .val (.int p5), .val (.ref ar), .val (.int (Int32.ofNat n)), .val (.int q7), .val (.int q8), .val (.int (Int32.ofNat k)), .unset, .unset, .unset, .unset, .unset, .unset, .unset, .unset, .unset] [])) target := by
  obtain ⟨c1, Ar1, -, S1, M1, H1, -⟩ := id V_ar
  have hin1 := inb_of (j := (Int32.ofNat k)) S1 (own_in (by omega) (by omega))
  obtain ⟨_, _, ⟨T2, L2, k2, n2⟩, -, X2, ⟨Lc2, hQ2, l2, y2, z2⟩, st2⟩ := Jvm.LawKit.callS X0 hx (y := (⟨"com/example/atomize/atomize/http/FieldValueReaderNextElementPinLaw", "skippable", "(C)Z"⟩ : MethodName)) hown (mvT hZ (hw _ (List.mem_of_getElem? (i := 87) rfl))) (mvT hZ (hw _ (List.mem_of_getElem? (i := 88) rfl))) (mvT hZ (hw _ (List.mem_of_getElem? (i := 3) rfl))) (mvT hZ (hw _ (List.mem_of_getElem? (i := 89) rfl))) (by decide) (backOf (W := 0) (rmSK l Z a0 hw [] (as.getD k 0) h0 n0 Z0) hZ (hw _ (List.mem_of_getElem? (i := 89) rfl)) (hw _ (List.mem_of_getElem? (i := 3) rfl)) (by decide) (by decide)) (g := (mkF m 134 #[.val (.int p1), .val (.int p2), .val (.int p3), .val (.int p4), .val (.int p5), .val (.ref ar), .val (.int (Int32.ofNat n)), .val (.int q7), .val (.int q8), .val (.int (Int32.ofNat k)), .unset, .unset, .unset, .unset, .unset, .unset, .unset, .unset, .unset] [(.int (as.getD k 0))])) rfl (by rw [hml]; rfl) (argsL := [(.int (as.getD k 0))]) (rest := []) (lenOf pd__C_Z rfl) rfl (by show 2 * 0 + _ ≤ _; exact Nat.le_of_eq rfl) (hb hby at_134) (fun _ _ => ⟨rfl, e0, (by decide : 1 + 0 ≤ _), (by decide : 4 + 0 ≤ _)⟩)
  dsimp only [Pt.U, Pt.locs, Pt.cells, Pt.slots] at X2 l2 y2 z2 st2 hQ2
  subst l2 y2 z2
  obtain ⟨rfl, Nq2, eq2⟩ := hQ2
  have N2 := Fr.app N0 Nq2
  refine ⟨T2, h0, _, X2, eq2, N2, Z0, rfl, fun target kt => ?_⟩
  show Steps p.tables e below (s₁.setTop (mkF m 122 #[.val (.int p1), .val (.int p2), .val (.int p3), .val (.int p4), .val (.int p5), .val (.ref ar), .val (.int (Int32.ofNat n)), .val (.int q7), .val (.int q8), .val (.int (Int32.ofNat k)), .unset, .unset, .unset, .unset, .unset, .unset, .unset, .unset, .unset] [])) _
  refine XS.iload X0.here hx rfl (hb hby at_122) rfl ?_
  refine XS.iload X0.here hx rfl (hb hby at_124) rfl ?_
  refine XS.icmpNo X0.here hx rfl (hb hby at_126) rfl (tlt ((own_lt (by omega) (by omega)).mpr hk)).2.1 ?_
  refine XS.aload X0.here hx rfl (hb hby at_129) rfl rfl ?_
  refine XS.iload X0.here hx rfl (hb hby at_131) rfl ?_
  show Steps p.tables e below (s₁.setTop (mkF m 133 #[.val (.int p1), .val (.int p2), .val (.int p3), .val (.int p4), .val (.int p5), .val (.ref ar), .val (.int (Int32.ofNat n)), .val (.int q7), .val (.int q8), .val (.int (Int32.ofNat k)), .unset, .unset, .unset, .unset, .unset, .unset, .unset, .unset, .unset] [(.int (Int32.ofNat k)), (.ref ar)])) _
  refine X0.caload hx (j := (Int32.ofNat k)) (v := (.int (as.getD k 0))) (by rw [e0]; exact Ar1.1) (State.isArrayOf_alike hZ.alike Ar1.2.1) Ar1.2.2 hin1 (H1.at hin1 (own_ca as k (by omega))) (g := (mkF m 133 #[.val (.int p1), .val (.int p2), .val (.int p3), .val (.int p4), .val (.int p5), .val (.ref ar), .val (.int (Int32.ofNat n)), .val (.int q7), .val (.int q8), .val (.int (Int32.ofNat k)), .unset, .unset, .unset, .unset, .unset, .unset, .unset, .unset, .unset] [(.int (Int32.ofNat k)), (.ref ar)])) rfl rfl (hb hby at_133) _ ?_
  show Steps p.tables e below (s₁.setTop (mkF m 134 #[.val (.int p1), .val (.int p2), .val (.int p3), .val (.int p4), .val (.int p5), .val (.ref ar), .val (.int (Int32.ofNat n)), .val (.int q7), .val (.int q8), .val (.int (Int32.ofNat k)), .unset, .unset, .unset, .unset, .unset, .unset, .unset, .unset, .unset] [(.int (as.getD k 0))])) _
  refine st2 _ ?_
  show Steps p.tables e below (T2.setTop (mkF m 137 #[.val (.int p1), .val (.int p2), .val (.int p3), .val (.int p4), .val (.int p5), .val (.ref ar), .val (.int (Int32.ofNat n)), .val (.int q7), .val (.int q8), .val (.int (Int32.ofNat k)), .unset, .unset, .unset, .unset, .unset, .unset, .unset, .unset, .unset] [(.int (own_sk (as.getD k 0)))])) _
  refine XS.ifYes X2.here hx rfl (pc0 := 137) (pc' := 143) rfl (hb hby at_137) rfl ((if0 _ _).trans (teq hs).1) (by decide) (by decide) ?_
  exact kt
set_option maxRecDepth 65536 in
set_option maxHeartbeats 40000000 in
theorem st2c {p : Program} {l : Launch} {e : Env} {s : State} {m : MethodId} {args : Array Value} {below : List Frame} {meth : Method} {c : Code} {s₁ : State} {L0 : List Loc} {Z : State} {a0 : Array Value} (p1 : Int32) (p2 : Int32) (p3 : Int32) (p4 : Int32) (p5 : Int32) (ar : Addr) (ka : ClassId) (as : List Int32) (n : Nat) (k : Nat) (q7 : Int32) (q8 : Int32) (h0 : Heap) (n0 : Nat) (X0 : Stand p l e room_1 s m args below meth c s₁ L0 1 4) (hx : p.tables.exec = Jvm.exec) (hZ : Z.Warmed39 s.vm) (hw : ∀ d ∈ tables_1, d.before a0 Z = true) (hby : c.code = code) (hml : c.maxLocals = 19) (hown : s.vm.findClass "com/example/atomize/atomize/http/FieldValueReaderNextElementPinLaw" = some m.cls) (e0 : s₁.heap = h0) (N0 : Fr n0 L0) (Z0 : n0 ≤ h0.size) (V_ar : Arv Z h0 ar ka .char (Int32.ofNat as.length) (as.map Value.int) (.int (0 : Int32))) (h4 : as.length = 4) (hn : n ≤ 4) (hk : k < n) (hkb : k ≤ 4) (hs : ¬ ((own_sk (as.getD k 0)) = (0 : Int32))) :
    ∃ (T' : State) (h' : Heap) (L' : List Loc) , Stand p l e room_1 s m args below meth c T' L' 1 4 ∧ T'.heap = h' ∧ Fr n0 L' ∧ n0 ≤ h'.size ∧ h' = h0 ∧ 
      ∀ target, Steps p.tables e below (T'.setTop (mkF m 143 #[.val (.int p1), .val (.int p2), .val (.int p3), .val (.int p4), .val (.int p5), .val (.ref ar), .val (.int (Int32.ofNat n)), .val (.int q7), .val (.int q8), .val (.int (Int32.ofNat (k + 1))), .unset, .unset, .unset, .unset, .unset, .unset, .unset, .unset, .unset] [])) target → Steps p.tables e below (s₁.setTop (mkF m 122 #[.val (.int p1), .val (.int p2), .val (.int p3), .val (.int p4), .val (.int p5), .val (.ref ar), .val (.int (Int32.ofNat n)), .val (.int q7), .val (.int q8), .val (.int (Int32.ofNat k)), .unset, .unset, .unset, .unset, .unset, .unset, .unset, .unset, .unset] [])) target := by
  obtain ⟨c1, Ar1, -, S1, M1, H1, -⟩ := id V_ar
  have hin1 := inb_of (j := (Int32.ofNat k)) S1 (own_in (by omega) (by omega))
  obtain ⟨_, _, ⟨T2, L2, k2, n2⟩, -, X2, ⟨Lc2, hQ2, l2, y2, z2⟩, st2⟩ := Jvm.LawKit.callS X0 hx (y := (⟨"com/example/atomize/atomize/http/FieldValueReaderNextElementPinLaw", "skippable", "(C)Z"⟩ : MethodName)) hown (mvT hZ (hw _ (List.mem_of_getElem? (i := 87) rfl))) (mvT hZ (hw _ (List.mem_of_getElem? (i := 88) rfl))) (mvT hZ (hw _ (List.mem_of_getElem? (i := 3) rfl))) (mvT hZ (hw _ (List.mem_of_getElem? (i := 89) rfl))) (by decide) (backOf (W := 0) (rmSK l Z a0 hw [] (as.getD k 0) h0 n0 Z0) hZ (hw _ (List.mem_of_getElem? (i := 89) rfl)) (hw _ (List.mem_of_getElem? (i := 3) rfl)) (by decide) (by decide)) (g := (mkF m 134 #[.val (.int p1), .val (.int p2), .val (.int p3), .val (.int p4), .val (.int p5), .val (.ref ar), .val (.int (Int32.ofNat n)), .val (.int q7), .val (.int q8), .val (.int (Int32.ofNat k)), .unset, .unset, .unset, .unset, .unset, .unset, .unset, .unset, .unset] [(.int (as.getD k 0))])) rfl (by rw [hml]; rfl) (argsL := [(.int (as.getD k 0))]) (rest := []) (lenOf pd__C_Z rfl) rfl (by show 2 * 0 + _ ≤ _; exact Nat.le_of_eq rfl) (hb hby at_134) (fun _ _ => ⟨rfl, e0, (by decide : 1 + 0 ≤ _), (by decide : 4 + 0 ≤ _)⟩)
  dsimp only [Pt.U, Pt.locs, Pt.cells, Pt.slots] at X2 l2 y2 z2 st2 hQ2
  subst l2 y2 z2
  obtain ⟨rfl, Nq2, eq2⟩ := hQ2
  have N2 := Fr.app N0 Nq2
  refine ⟨T2, h0, _, X2, eq2, N2, Z0, rfl, fun target kt => ?_⟩
  show Steps p.tables e below (s₁.setTop (mkF m 122 #[.val (.int p1), .val (.int p2), .val (.int p3), .val (.int p4), .val (.int p5), .val (.ref ar), .val (.int (Int32.ofNat n)), .val (.int q7), .val (.int q8), .val (.int (Int32.ofNat k)), .unset, .unset, .unset, .unset, .unset, .unset, .unset, .unset, .unset] [])) _
  refine XS.iload X0.here hx rfl (hb hby at_122) rfl ?_
  refine XS.iload X0.here hx rfl (hb hby at_124) rfl ?_
  refine XS.icmpNo X0.here hx rfl (hb hby at_126) rfl (tlt ((own_lt (by omega) (by omega)).mpr hk)).2.1 ?_
  refine XS.aload X0.here hx rfl (hb hby at_129) rfl rfl ?_
  refine XS.iload X0.here hx rfl (hb hby at_131) rfl ?_
  show Steps p.tables e below (s₁.setTop (mkF m 133 #[.val (.int p1), .val (.int p2), .val (.int p3), .val (.int p4), .val (.int p5), .val (.ref ar), .val (.int (Int32.ofNat n)), .val (.int q7), .val (.int q8), .val (.int (Int32.ofNat k)), .unset, .unset, .unset, .unset, .unset, .unset, .unset, .unset, .unset] [(.int (Int32.ofNat k)), (.ref ar)])) _
  refine X0.caload hx (j := (Int32.ofNat k)) (v := (.int (as.getD k 0))) (by rw [e0]; exact Ar1.1) (State.isArrayOf_alike hZ.alike Ar1.2.1) Ar1.2.2 hin1 (H1.at hin1 (own_ca as k (by omega))) (g := (mkF m 133 #[.val (.int p1), .val (.int p2), .val (.int p3), .val (.int p4), .val (.int p5), .val (.ref ar), .val (.int (Int32.ofNat n)), .val (.int q7), .val (.int q8), .val (.int (Int32.ofNat k)), .unset, .unset, .unset, .unset, .unset, .unset, .unset, .unset, .unset] [(.int (Int32.ofNat k)), (.ref ar)])) rfl rfl (hb hby at_133) _ ?_
  show Steps p.tables e below (s₁.setTop (mkF m 134 #[.val (.int p1), .val (.int p2), .val (.int p3), .val (.int p4), .val (.int p5), .val (.ref ar), .val (.int (Int32.ofNat n)), .val (.int q7), .val (.int q8), .val (.int (Int32.ofNat k)), .unset, .unset, .unset, .unset, .unset, .unset, .unset, .unset, .unset] [(.int (as.getD k 0))])) _
  refine st2 _ ?_
  show Steps p.tables e below (T2.setTop (mkF m 137 #[.val (.int p1), .val (.int p2), .val (.int p3), .val (.int p4), .val (.int p5), .val (.ref ar), .val (.int (Int32.ofNat n)), .val (.int q7), .val (.int q8), .val (.int (Int32.ofNat k)), .unset, .unset, .unset, .unset, .unset, .unset, .unset, .unset, .unset] [(.int (own_sk (as.getD k 0)))])) _
  refine XS.ifNo X2.here hx rfl (hb hby at_137) rfl ((if0 _ _).trans (feq hs).1) ?_
  refine XS.iinc X2.here hx rfl (hb hby at_140) rfl (l' := #[.val (.int p1), .val (.int p2), .val (.int p3), .val (.int p4), .val (.int p5), .val (.ref ar), .val (.int (Int32.ofNat n)), .val (.int q7), .val (.int q8), .val (.int ((Int32.ofNat k) + (1 : Int32))), .unset, .unset, .unset, .unset, .unset, .unset, .unset, .unset, .unset]) rfl ?_
  show Steps p.tables e below (T2.setTop (mkF m 143 #[.val (.int p1), .val (.int p2), .val (.int p3), .val (.int p4), .val (.int p5), .val (.ref ar), .val (.int (Int32.ofNat n)), .val (.int q7), .val (.int q8), .val (.int ((Int32.ofNat k) + (1 : Int32))), .unset, .unset, .unset, .unset, .unset, .unset, .unset, .unset, .unset] [])) _
  rw [(own_succ k)]
  show Steps p.tables e below (T2.setTop (mkF m 143 #[.val (.int p1), .val (.int p2), .val (.int p3), .val (.int p4), .val (.int p5), .val (.ref ar), .val (.int (Int32.ofNat n)), .val (.int q7), .val (.int q8), .val (.int (Int32.ofNat (k + 1))), .unset, .unset, .unset, .unset, .unset, .unset, .unset, .unset, .unset] [])) _
  exact kt
theorem stp2 {p : Program} {l : Launch} {e : Env} {s : State} {m : MethodId} {args : Array Value} {below : List Frame} {meth : Method} {c : Code} {s₁ : State} {L0 : List Loc} {Z : State} {a0 : Array Value} (p1 : Int32) (p2 : Int32) (p3 : Int32) (p4 : Int32) (p5 : Int32) (ar : Addr) (ka : ClassId) (as : List Int32) (n : Nat) (k : Nat) (q7 : Int32) (q8 : Int32) (h0 : Heap) (n0 : Nat) (X0 : Stand p l e room_1 s m args below meth c s₁ L0 1 4) (hx : p.tables.exec = Jvm.exec) (hZ : Z.Warmed39 s.vm) (hw : ∀ d ∈ tables_1, d.before a0 Z = true) (hby : c.code = code) (hml : c.maxLocals = 19) (hown : s.vm.findClass "com/example/atomize/atomize/http/FieldValueReaderNextElementPinLaw" = some m.cls) (e0 : s₁.heap = h0) (N0 : Fr n0 L0) (Z0 : n0 ≤ h0.size) (V_ar : Arv Z h0 ar ka .char (Int32.ofNat as.length) (as.map Value.int) (.int (0 : Int32))) (h4 : as.length = 4) (hn : n ≤ 4) (hkb : k ≤ 4) :
    ∃ (T' : State) (h' : Heap) (L' : List Loc) , Stand p l e room_1 s m args below meth c T' L' 1 4 ∧ T'.heap = h' ∧ Fr n0 L' ∧ n0 ≤ h'.size ∧ h' = h0 ∧ 
      ∀ target, Steps p.tables e below (T'.setTop (mkF m 143 #[.val (.int p1), .val (.int p2), .val (.int p3), .val (.int p4), .val (.int p5), .val (.ref ar), .val (.int (Int32.ofNat n)), .val (.int q7), .val (.int q8), .val (.int (Int32.ofNat (own_step as n k))), .unset, .unset, .unset, .unset, .unset, .unset, .unset, .unset, .unset] [])) target → Steps p.tables e below (s₁.setTop (mkF m 122 #[.val (.int p1), .val (.int p2), .val (.int p3), .val (.int p4), .val (.int p5), .val (.ref ar), .val (.int (Int32.ofNat n)), .val (.int q7), .val (.int q8), .val (.int (Int32.ofNat k)), .unset, .unset, .unset, .unset, .unset, .unset, .unset, .unset, .unset] [])) target := by
  by_cases hk : k < n
  · by_cases hs : (own_sk (as.getD k 0)) = (0 : Int32)
    · rw [show own_step as n k = k from if_neg (fun z => z.2 hs)]; exact st2b p1 p2 p3 p4 p5 ar ka as n k q7 q8 h0 n0 X0 hx hZ hw hby hml hown e0 N0 Z0 V_ar h4 hn hk hkb hs
    · rw [show own_step as n k = k + 1 from if_pos ⟨hk, hs⟩]; exact st2c p1 p2 p3 p4 p5 ar ka as n k q7 q8 h0 n0 X0 hx hZ hw hby hml hown e0 N0 Z0 V_ar h4 hn hk hkb hs
  · rw [show own_step as n k = k from if_neg (fun z => hk z.1)]; exact st2a p1 p2 p3 p4 p5 ar ka as n k q7 q8 h0 n0 X0 hx hZ hw hby hml hown e0 N0 Z0 V_ar h4 hn hk hkb
set_option maxRecDepth 65536 in
set_option maxHeartbeats 40000000 in
theorem st3a {p : Program} {l : Launch} {e : Env} {s : State} {m : MethodId} {args : Array Value} {below : List Frame} {meth : Method} {c : Code} {s₁ : State} {L0 : List Loc} {Z : State} {a0 : Array Value} (p1 : Int32) (p2 : Int32) (p3 : Int32) (p4 : Int32) (p5 : Int32) (ar : Addr) (ka : ClassId) (as : List Int32) (n : Nat) (k : Nat) (q7 : Int32) (q8 : Int32) (h0 : Heap) (n0 : Nat) (X0 : Stand p l e room_1 s m args below meth c s₁ L0 1 4) (hx : p.tables.exec = Jvm.exec) (hZ : Z.Warmed39 s.vm) (hw : ∀ d ∈ tables_1, d.before a0 Z = true) (hby : c.code = code) (hml : c.maxLocals = 19) (hown : s.vm.findClass "com/example/atomize/atomize/http/FieldValueReaderNextElementPinLaw" = some m.cls) (e0 : s₁.heap = h0) (N0 : Fr n0 L0) (Z0 : n0 ≤ h0.size) (V_ar : Arv Z h0 ar ka .char (Int32.ofNat as.length) (as.map Value.int) (.int (0 : Int32))) (h4 : as.length = 4) (hn : n ≤ 4) (hk : ¬ (k < n)) (hkb : k ≤ 4) :
    ∃ (T' : State) (h' : Heap) (L' : List Loc) , Stand p l e room_1 s m args below meth c T' L' 1 4 ∧ T'.heap = h' ∧ Fr n0 L' ∧ n0 ≤ h'.size ∧ h' = h0 ∧ 
      ∀ target, Steps p.tables e below (T'.setTop (mkF m 164 #[.val (.int p1), .val (.int p2), .val (.int p3), .val (.int p4), .val (.int p5), .val (.ref ar), .val (.int (Int32.ofNat n)), .val (.int q7), .val (.int q8), .val (.int (Int32.ofNat k)), .unset, .unset, .unset, .unset, .unset, .unset, .unset, .unset, .unset] [])) target → Steps p.tables e below (s₁.setTop (mkF m 143 #[.val (.int p1), .val (.int p2), .val (.int p3), .val (.int p4), .val (.int p5), .val (.ref ar), .val (.int (Int32.ofNat n)), .val (.int q7), .val (.int q8), .val (.int (Int32.ofNat k)), .unset, .unset, .unset, .unset, .unset, .unset, .unset, .unset, .unset] [])) target := by
  refine ⟨s₁, h0, _, X0, e0, N0, Z0, rfl, fun target kt => ?_⟩
  show Steps p.tables e below (s₁.setTop (mkF m 143 #[.val (.int p1), .val (.int p2), .val (.int p3), .val (.int p4), .val (.int p5), .val (.ref ar), .val (.int (Int32.ofNat n)), .val (.int q7), .val (.int q8), .val (.int (Int32.ofNat k)), .unset, .unset, .unset, .unset, .unset, .unset, .unset, .unset, .unset] [])) _
  refine XS.iload X0.here hx rfl (hb hby at_143) rfl ?_
  refine XS.iload X0.here hx rfl (hb hby at_145) rfl ?_
  refine XS.icmpYes X0.here hx rfl (pc0 := 147) (pc' := 164) rfl (hb hby at_147) rfl (flt (fun q => hk ((own_lt (by omega) (by omega)).mp q))).2.1 (by decide) (by decide) ?_
  exact kt
set_option maxRecDepth 65536 in
set_option maxHeartbeats 40000000 in
theorem st3b {p : Program} {l : Launch} {e : Env} {s : State} {m : MethodId} {args : Array Value} {below : List Frame} {meth : Method} {c : Code} {s₁ : State} {L0 : List Loc} {Z : State} {a0 : Array Value} (p1 : Int32) (p2 : Int32) (p3 : Int32) (p4 : Int32) (p5 : Int32) (ar : Addr) (ka : ClassId) (as : List Int32) (n : Nat) (k : Nat) (q7 : Int32) (q8 : Int32) (h0 : Heap) (n0 : Nat) (X0 : Stand p l e room_1 s m args below meth c s₁ L0 1 4) (hx : p.tables.exec = Jvm.exec) (hZ : Z.Warmed39 s.vm) (hw : ∀ d ∈ tables_1, d.before a0 Z = true) (hby : c.code = code) (hml : c.maxLocals = 19) (hown : s.vm.findClass "com/example/atomize/atomize/http/FieldValueReaderNextElementPinLaw" = some m.cls) (e0 : s₁.heap = h0) (N0 : Fr n0 L0) (Z0 : n0 ≤ h0.size) (V_ar : Arv Z h0 ar ka .char (Int32.ofNat as.length) (as.map Value.int) (.int (0 : Int32))) (h4 : as.length = 4) (hn : n ≤ 4) (hk : k < n) (hkb : k ≤ 4) (hs : (own_sk (as.getD k 0)) = (0 : Int32)) :
    ∃ (T' : State) (h' : Heap) (L' : List Loc) , Stand p l e room_1 s m args below meth c T' L' 1 4 ∧ T'.heap = h' ∧ Fr n0 L' ∧ n0 ≤ h'.size ∧ h' = h0 ∧ 
      ∀ target, Steps p.tables e below (T'.setTop (mkF m 164 #[.val (.int p1), .val (.int p2), .val (.int p3), .val (.int p4), .val (.int p5), .val (.ref ar), .val (.int (Int32.ofNat n)), .val (.int q7), .val (.int q8), .val (.int (Int32.ofNat k)), .unset, .unset, .unset, .unset, .unset, .unset, .unset, .unset, .unset] [])) target → Steps p.tables e below (s₁.setTop (mkF m 143 #[.val (.int p1), .val (.int p2), .val (.int p3), .val (.int p4), .val (.int p5), .val (.ref ar), .val (.int (Int32.ofNat n)), .val (.int q7), .val (.int q8), .val (.int (Int32.ofNat k)), .unset, .unset, .unset, .unset, .unset, .unset, .unset, .unset, .unset] [])) target := by
  obtain ⟨c1, Ar1, -, S1, M1, H1, -⟩ := id V_ar
  have hin1 := inb_of (j := (Int32.ofNat k)) S1 (own_in (by omega) (by omega))
  obtain ⟨_, _, ⟨T2, L2, k2, n2⟩, -, X2, ⟨Lc2, hQ2, l2, y2, z2⟩, st2⟩ := Jvm.LawKit.callS X0 hx (y := (⟨"com/example/atomize/atomize/http/FieldValueReaderNextElementPinLaw", "skippable", "(C)Z"⟩ : MethodName)) hown (mvT hZ (hw _ (List.mem_of_getElem? (i := 87) rfl))) (mvT hZ (hw _ (List.mem_of_getElem? (i := 88) rfl))) (mvT hZ (hw _ (List.mem_of_getElem? (i := 3) rfl))) (mvT hZ (hw _ (List.mem_of_getElem? (i := 89) rfl))) (by decide) (backOf (W := 0) (rmSK l Z a0 hw [] (as.getD k 0) h0 n0 Z0) hZ (hw _ (List.mem_of_getElem? (i := 89) rfl)) (hw _ (List.mem_of_getElem? (i := 3) rfl)) (by decide) (by decide)) (g := (mkF m 155 #[.val (.int p1), .val (.int p2), .val (.int p3), .val (.int p4), .val (.int p5), .val (.ref ar), .val (.int (Int32.ofNat n)), .val (.int q7), .val (.int q8), .val (.int (Int32.ofNat k)), .unset, .unset, .unset, .unset, .unset, .unset, .unset, .unset, .unset] [(.int (as.getD k 0))])) rfl (by rw [hml]; rfl) (argsL := [(.int (as.getD k 0))]) (rest := []) (lenOf pd__C_Z rfl) rfl (by show 2 * 0 + _ ≤ _; exact Nat.le_of_eq rfl) (hb hby at_155) (fun _ _ => ⟨rfl, e0, (by decide : 1 + 0 ≤ _), (by decide : 4 + 0 ≤ _)⟩)
  dsimp only [Pt.U, Pt.locs, Pt.cells, Pt.slots] at X2 l2 y2 z2 st2 hQ2
  subst l2 y2 z2
  obtain ⟨rfl, Nq2, eq2⟩ := hQ2
  have N2 := Fr.app N0 Nq2
  refine ⟨T2, h0, _, X2, eq2, N2, Z0, rfl, fun target kt => ?_⟩
  show Steps p.tables e below (s₁.setTop (mkF m 143 #[.val (.int p1), .val (.int p2), .val (.int p3), .val (.int p4), .val (.int p5), .val (.ref ar), .val (.int (Int32.ofNat n)), .val (.int q7), .val (.int q8), .val (.int (Int32.ofNat k)), .unset, .unset, .unset, .unset, .unset, .unset, .unset, .unset, .unset] [])) _
  refine XS.iload X0.here hx rfl (hb hby at_143) rfl ?_
  refine XS.iload X0.here hx rfl (hb hby at_145) rfl ?_
  refine XS.icmpNo X0.here hx rfl (hb hby at_147) rfl (tlt ((own_lt (by omega) (by omega)).mpr hk)).2.1 ?_
  refine XS.aload X0.here hx rfl (hb hby at_150) rfl rfl ?_
  refine XS.iload X0.here hx rfl (hb hby at_152) rfl ?_
  show Steps p.tables e below (s₁.setTop (mkF m 154 #[.val (.int p1), .val (.int p2), .val (.int p3), .val (.int p4), .val (.int p5), .val (.ref ar), .val (.int (Int32.ofNat n)), .val (.int q7), .val (.int q8), .val (.int (Int32.ofNat k)), .unset, .unset, .unset, .unset, .unset, .unset, .unset, .unset, .unset] [(.int (Int32.ofNat k)), (.ref ar)])) _
  refine X0.caload hx (j := (Int32.ofNat k)) (v := (.int (as.getD k 0))) (by rw [e0]; exact Ar1.1) (State.isArrayOf_alike hZ.alike Ar1.2.1) Ar1.2.2 hin1 (H1.at hin1 (own_ca as k (by omega))) (g := (mkF m 154 #[.val (.int p1), .val (.int p2), .val (.int p3), .val (.int p4), .val (.int p5), .val (.ref ar), .val (.int (Int32.ofNat n)), .val (.int q7), .val (.int q8), .val (.int (Int32.ofNat k)), .unset, .unset, .unset, .unset, .unset, .unset, .unset, .unset, .unset] [(.int (Int32.ofNat k)), (.ref ar)])) rfl rfl (hb hby at_154) _ ?_
  show Steps p.tables e below (s₁.setTop (mkF m 155 #[.val (.int p1), .val (.int p2), .val (.int p3), .val (.int p4), .val (.int p5), .val (.ref ar), .val (.int (Int32.ofNat n)), .val (.int q7), .val (.int q8), .val (.int (Int32.ofNat k)), .unset, .unset, .unset, .unset, .unset, .unset, .unset, .unset, .unset] [(.int (as.getD k 0))])) _
  refine st2 _ ?_
  show Steps p.tables e below (T2.setTop (mkF m 158 #[.val (.int p1), .val (.int p2), .val (.int p3), .val (.int p4), .val (.int p5), .val (.ref ar), .val (.int (Int32.ofNat n)), .val (.int q7), .val (.int q8), .val (.int (Int32.ofNat k)), .unset, .unset, .unset, .unset, .unset, .unset, .unset, .unset, .unset] [(.int (own_sk (as.getD k 0)))])) _
  refine XS.ifYes X2.here hx rfl (pc0 := 158) (pc' := 164) rfl (hb hby at_158) rfl ((if0 _ _).trans (teq hs).1) (by decide) (by decide) ?_
  exact kt
set_option maxRecDepth 65536 in
set_option maxHeartbeats 40000000 in
theorem st3c {p : Program} {l : Launch} {e : Env} {s : State} {m : MethodId} {args : Array Value} {below : List Frame} {meth : Method} {c : Code} {s₁ : State} {L0 : List Loc} {Z : State} {a0 : Array Value} (p1 : Int32) (p2 : Int32) (p3 : Int32) (p4 : Int32) (p5 : Int32) (ar : Addr) (ka : ClassId) (as : List Int32) (n : Nat) (k : Nat) (q7 : Int32) (q8 : Int32) (h0 : Heap) (n0 : Nat) (X0 : Stand p l e room_1 s m args below meth c s₁ L0 1 4) (hx : p.tables.exec = Jvm.exec) (hZ : Z.Warmed39 s.vm) (hw : ∀ d ∈ tables_1, d.before a0 Z = true) (hby : c.code = code) (hml : c.maxLocals = 19) (hown : s.vm.findClass "com/example/atomize/atomize/http/FieldValueReaderNextElementPinLaw" = some m.cls) (e0 : s₁.heap = h0) (N0 : Fr n0 L0) (Z0 : n0 ≤ h0.size) (V_ar : Arv Z h0 ar ka .char (Int32.ofNat as.length) (as.map Value.int) (.int (0 : Int32))) (h4 : as.length = 4) (hn : n ≤ 4) (hk : k < n) (hkb : k ≤ 4) (hs : ¬ ((own_sk (as.getD k 0)) = (0 : Int32))) :
    ∃ (T' : State) (h' : Heap) (L' : List Loc) , Stand p l e room_1 s m args below meth c T' L' 1 4 ∧ T'.heap = h' ∧ Fr n0 L' ∧ n0 ≤ h'.size ∧ h' = h0 ∧ 
      ∀ target, Steps p.tables e below (T'.setTop (mkF m 164 #[.val (.int p1), .val (.int p2), .val (.int p3), .val (.int p4), .val (.int p5), .val (.ref ar), .val (.int (Int32.ofNat n)), .val (.int q7), .val (.int q8), .val (.int (Int32.ofNat (k + 1))), .unset, .unset, .unset, .unset, .unset, .unset, .unset, .unset, .unset] [])) target → Steps p.tables e below (s₁.setTop (mkF m 143 #[.val (.int p1), .val (.int p2), .val (.int p3), .val (.int p4), .val (.int p5), .val (.ref ar), .val (.int (Int32.ofNat n)), .val (.int q7), .val (.int q8), .val (.int (Int32.ofNat k)), .unset, .unset, .unset, .unset, .unset, .unset, .unset, .unset, .unset] [])) target := by
  obtain ⟨c1, Ar1, -, S1, M1, H1, -⟩ := id V_ar
  have hin1 := inb_of (j := (Int32.ofNat k)) S1 (own_in (by omega) (by omega))
  obtain ⟨_, _, ⟨T2, L2, k2, n2⟩, -, X2, ⟨Lc2, hQ2, l2, y2, z2⟩, st2⟩ := Jvm.LawKit.callS X0 hx (y := (⟨"com/example/atomize/atomize/http/FieldValueReaderNextElementPinLaw", "skippable", "(C)Z"⟩ : MethodName)) hown (mvT hZ (hw _ (List.mem_of_getElem? (i := 87) rfl))) (mvT hZ (hw _ (List.mem_of_getElem? (i := 88) rfl))) (mvT hZ (hw _ (List.mem_of_getElem? (i := 3) rfl))) (mvT hZ (hw _ (List.mem_of_getElem? (i := 89) rfl))) (by decide) (backOf (W := 0) (rmSK l Z a0 hw [] (as.getD k 0) h0 n0 Z0) hZ (hw _ (List.mem_of_getElem? (i := 89) rfl)) (hw _ (List.mem_of_getElem? (i := 3) rfl)) (by decide) (by decide)) (g := (mkF m 155 #[.val (.int p1), .val (.int p2), .val (.int p3), .val (.int p4), .val (.int p5), .val (.ref ar), .val (.int (Int32.ofNat n)), .val (.int q7), .val (.int q8), .val (.int (Int32.ofNat k)), .unset, .unset, .unset, .unset, .unset, .unset, .unset, .unset, .unset] [(.int (as.getD k 0))])) rfl (by rw [hml]; rfl) (argsL := [(.int (as.getD k 0))]) (rest := []) (lenOf pd__C_Z rfl) rfl (by show 2 * 0 + _ ≤ _; exact Nat.le_of_eq rfl) (hb hby at_155) (fun _ _ => ⟨rfl, e0, (by decide : 1 + 0 ≤ _), (by decide : 4 + 0 ≤ _)⟩)
  dsimp only [Pt.U, Pt.locs, Pt.cells, Pt.slots] at X2 l2 y2 z2 st2 hQ2
  subst l2 y2 z2
  obtain ⟨rfl, Nq2, eq2⟩ := hQ2
  have N2 := Fr.app N0 Nq2
  refine ⟨T2, h0, _, X2, eq2, N2, Z0, rfl, fun target kt => ?_⟩
  show Steps p.tables e below (s₁.setTop (mkF m 143 #[.val (.int p1), .val (.int p2), .val (.int p3), .val (.int p4), .val (.int p5), .val (.ref ar), .val (.int (Int32.ofNat n)), .val (.int q7), .val (.int q8), .val (.int (Int32.ofNat k)), .unset, .unset, .unset, .unset, .unset, .unset, .unset, .unset, .unset] [])) _
  refine XS.iload X0.here hx rfl (hb hby at_143) rfl ?_
  refine XS.iload X0.here hx rfl (hb hby at_145) rfl ?_
  refine XS.icmpNo X0.here hx rfl (hb hby at_147) rfl (tlt ((own_lt (by omega) (by omega)).mpr hk)).2.1 ?_
  refine XS.aload X0.here hx rfl (hb hby at_150) rfl rfl ?_
  refine XS.iload X0.here hx rfl (hb hby at_152) rfl ?_
  show Steps p.tables e below (s₁.setTop (mkF m 154 #[.val (.int p1), .val (.int p2), .val (.int p3), .val (.int p4), .val (.int p5), .val (.ref ar), .val (.int (Int32.ofNat n)), .val (.int q7), .val (.int q8), .val (.int (Int32.ofNat k)), .unset, .unset, .unset, .unset, .unset, .unset, .unset, .unset, .unset] [(.int (Int32.ofNat k)), (.ref ar)])) _
  refine X0.caload hx (j := (Int32.ofNat k)) (v := (.int (as.getD k 0))) (by rw [e0]; exact Ar1.1) (State.isArrayOf_alike hZ.alike Ar1.2.1) Ar1.2.2 hin1 (H1.at hin1 (own_ca as k (by omega))) (g := (mkF m 154 #[.val (.int p1), .val (.int p2), .val (.int p3), .val (.int p4), .val (.int p5), .val (.ref ar), .val (.int (Int32.ofNat n)), .val (.int q7), .val (.int q8), .val (.int (Int32.ofNat k)), .unset, .unset, .unset, .unset, .unset, .unset, .unset, .unset, .unset] [(.int (Int32.ofNat k)), (.ref ar)])) rfl rfl (hb hby at_154) _ ?_
  show Steps p.tables e below (s₁.setTop (mkF m 155 #[.val (.int p1), .val (.int p2), .val (.int p3), .val (.int p4), .val (.int p5), .val (.ref ar), .val (.int (Int32.ofNat n)), .val (.int q7), .val (.int q8), .val (.int (Int32.ofNat k)), .unset, .unset, .unset, .unset, .unset, .unset, .unset, .unset, .unset] [(.int (as.getD k 0))])) _
  refine st2 _ ?_
  show Steps p.tables e below (T2.setTop (mkF m 158 #[.val (.int p1), .val (.int p2), .val (.int p3), .val (.int p4), .val (.int p5), .val (.ref ar), .val (.int (Int32.ofNat n)), .val (.int q7), .val (.int q8), .val (.int (Int32.ofNat k)), .unset, .unset, .unset, .unset, .unset, .unset, .unset, .unset, .unset] [(.int (own_sk (as.getD k 0)))])) _
  refine XS.ifNo X2.here hx rfl (hb hby at_158) rfl ((if0 _ _).trans (feq hs).1) ?_
  refine XS.iinc X2.here hx rfl (hb hby at_161) rfl (l' := #[.val (.int p1), .val (.int p2), .val (.int p3), .val (.int p4), .val (.int p5), .val (.ref ar), .val (.int (Int32.ofNat n)), .val (.int q7), .val (.int q8), .val (.int ((Int32.ofNat k) + (1 : Int32))), .unset, .unset, .unset, .unset, .unset, .unset, .unset, .unset, .unset]) rfl ?_
  show Steps p.tables e below (T2.setTop (mkF m 164 #[.val (.int p1), .val (.int p2), .val (.int p3), .val (.int p4), .val (.int p5), .val (.ref ar), .val (.int (Int32.ofNat n)), .val (.int q7), .val (.int q8), .val (.int ((Int32.ofNat k) + (1 : Int32))), .unset, .unset, .unset, .unset, .unset, .unset, .unset, .unset, .unset] [])) _
  rw [(own_succ k)]
  show Steps p.tables e below (T2.setTop (mkF m 164 #[.val (.int p1), .val (.int p2), .val (.int p3), .val (.int p4), .val (.int p5), .val (.ref ar), .val (.int (Int32.ofNat n)), .val (.int q7), .val (.int q8), .val (.int (Int32.ofNat (k + 1))), .unset, .unset, .unset, .unset, .unset, .unset, .unset, .unset, .unset] [])) _
  exact kt
theorem stp3 {p : Program} {l : Launch} {e : Env} {s : State} {m : MethodId} {args : Array Value} {below : List Frame} {meth : Method} {c : Code} {s₁ : State} {L0 : List Loc} {Z : State} {a0 : Array Value} (p1 : Int32) (p2 : Int32) (p3 : Int32) (p4 : Int32) (p5 : Int32) (ar : Addr) (ka : ClassId) (as : List Int32) (n : Nat) (k : Nat) (q7 : Int32) (q8 : Int32) (h0 : Heap) (n0 : Nat) (X0 : Stand p l e room_1 s m args below meth c s₁ L0 1 4) (hx : p.tables.exec = Jvm.exec) (hZ : Z.Warmed39 s.vm) (hw : ∀ d ∈ tables_1, d.before a0 Z = true) (hby : c.code = code) (hml : c.maxLocals = 19) (hown : s.vm.findClass "com/example/atomize/atomize/http/FieldValueReaderNextElementPinLaw" = some m.cls) (e0 : s₁.heap = h0) (N0 : Fr n0 L0) (Z0 : n0 ≤ h0.size) (V_ar : Arv Z h0 ar ka .char (Int32.ofNat as.length) (as.map Value.int) (.int (0 : Int32))) (h4 : as.length = 4) (hn : n ≤ 4) (hkb : k ≤ 4) :
    ∃ (T' : State) (h' : Heap) (L' : List Loc) , Stand p l e room_1 s m args below meth c T' L' 1 4 ∧ T'.heap = h' ∧ Fr n0 L' ∧ n0 ≤ h'.size ∧ h' = h0 ∧ 
      ∀ target, Steps p.tables e below (T'.setTop (mkF m 164 #[.val (.int p1), .val (.int p2), .val (.int p3), .val (.int p4), .val (.int p5), .val (.ref ar), .val (.int (Int32.ofNat n)), .val (.int q7), .val (.int q8), .val (.int (Int32.ofNat (own_step as n k))), .unset, .unset, .unset, .unset, .unset, .unset, .unset, .unset, .unset] [])) target → Steps p.tables e below (s₁.setTop (mkF m 143 #[.val (.int p1), .val (.int p2), .val (.int p3), .val (.int p4), .val (.int p5), .val (.ref ar), .val (.int (Int32.ofNat n)), .val (.int q7), .val (.int q8), .val (.int (Int32.ofNat k)), .unset, .unset, .unset, .unset, .unset, .unset, .unset, .unset, .unset] [])) target := by
  by_cases hk : k < n
  · by_cases hs : (own_sk (as.getD k 0)) = (0 : Int32)
    · rw [show own_step as n k = k from if_neg (fun z => z.2 hs)]; exact st3b p1 p2 p3 p4 p5 ar ka as n k q7 q8 h0 n0 X0 hx hZ hw hby hml hown e0 N0 Z0 V_ar h4 hn hk hkb hs
    · rw [show own_step as n k = k + 1 from if_pos ⟨hk, hs⟩]; exact st3c p1 p2 p3 p4 p5 ar ka as n k q7 q8 h0 n0 X0 hx hZ hw hby hml hown e0 N0 Z0 V_ar h4 hn hk hkb hs
  · rw [show own_step as n k = k from if_neg (fun z => hk z.1)]; exact st3a p1 p2 p3 p4 p5 ar ka as n k q7 q8 h0 n0 X0 hx hZ hw hby hml hown e0 N0 Z0 V_ar h4 hn hk hkb
theorem pd___CII_Ljava_lang_String_ : parseMethodDescriptor "([CII)Ljava/lang/String;" = some ⟨[(.array .char), .int, .int], some (.object "java/lang/String")⟩ := by decide +kernel
theorem own_mem28 : ("com/example/atomize/atomize/http/FieldValueReaderNextElementPinLaw", (28 : Nat)) ∈ consts_1 := by simp [consts_1]
theorem own_mem30 : ("com/example/atomize/atomize/http/FieldValueReaderNextElementPinLaw", (30 : Nat)) ∈ consts_1 := by simp [consts_1]
theorem pd__Ljava_lang_String_Ljava_lang_String_Ljava_lang_String__V : parseMethodDescriptor "(Ljava/lang/String;Ljava/lang/String;Ljava/lang/String;)V" = some ⟨[(.object "java/lang/String"), (.object "java/lang/String"), (.object "java/lang/String")], none⟩ := by decide +kernel
theorem pd___Z : parseMethodDescriptor "()Z" = some ⟨[], some .boolean⟩ := by decide +kernel
theorem pd__Ljava_lang_String__Z : parseMethodDescriptor "(Ljava/lang/String;)Z" = some ⟨[(.object "java/lang/String")], some .boolean⟩ := by decide +kernel
set_option maxRecDepth 65536 in
set_option maxHeartbeats 40000000 in
theorem cmpt {p : Program} {l : Launch} {e : Env} {s : State} {m : MethodId} {args : Array Value} {below : List Frame} {meth : Method} {c : Code} {s₁ : State} {L0 : List Loc} {Z : State} {a0 : Array Value} (p1 : Int32) (p2 : Int32) (p3 : Int32) (p4 : Int32) (p5 : Int32) (ar : Addr) (n : Nat) (k : Nat) (q7 : Int32) (q8 : Int32) (x10 : Addr) (x11 : Addr) (x12 : Addr) (r13 : Addr) (q16 : Int32) (q17 : Int32) (q18 : Int32) (h0 : Heap) (n0 : Nat) (X0 : Stand p l e room_1 s m args below meth c s₁ L0 24 128) (hx : p.tables.exec = Jvm.exec) (hZ : Z.Warmed39 s.vm) (hw : ∀ d ∈ tables_1, d.before a0 Z = true) (hby : c.code = code) (hml : c.maxLocals = 19) (hown : s.vm.findClass "com/example/atomize/atomize/http/FieldValueReaderNextElementPinLaw" = some m.cls) (e0 : s₁.heap = h0) (N0 : Fr n0 L0) (Z0 : n0 ≤ h0.size) (hn : n ≤ 4) (hkn : k ≤ n) (hk : k < n) :
    ∃ (T' : State) (h' : Heap) (L' : List Loc) , Stand p l e room_1 s m args below meth c T' L' 24 128 ∧ T'.heap = h' ∧ Fr n0 L' ∧ n0 ≤ h'.size ∧ h' = h0 ∧ 
      ∀ target, Steps p.tables e below (T'.setTop (mkF m 278 #[.val (.int p1), .val (.int p2), .val (.int p3), .val (.int p4), .val (.int p5), .val (.ref ar), .val (.int (Int32.ofNat n)), .val (.int q7), .val (.int q8), .val (.int (Int32.ofNat k)), .val (.ref x10), .val (.ref x11), .val (.ref x12), .val (.ref r13), .val (.int (1 : Int32)), .val (.int (own_f k n)), .val (.int q16), .val (.int q17), .val (.int q18)] [])) target → Steps p.tables e below (s₁.setTop (mkF m 256 #[.val (.int p1), .val (.int p2), .val (.int p3), .val (.int p4), .val (.int p5), .val (.ref ar), .val (.int (Int32.ofNat n)), .val (.int q7), .val (.int q8), .val (.int (Int32.ofNat k)), .val (.ref x10), .val (.ref x11), .val (.ref x12), .val (.ref r13), .val (.int (1 : Int32)), .val (.int (own_f k n)), .val (.int q16), .val (.int q17), .val (.int q18)] [])) target := by
  refine ⟨s₁, h0, _, X0, e0, N0, Z0, rfl, fun target kt => ?_⟩
  show Steps p.tables e below (s₁.setTop (mkF m 256 #[.val (.int p1), .val (.int p2), .val (.int p3), .val (.int p4), .val (.int p5), .val (.ref ar), .val (.int (Int32.ofNat n)), .val (.int q7), .val (.int q8), .val (.int (Int32.ofNat k)), .val (.ref x10), .val (.ref x11), .val (.ref x12), .val (.ref r13), .val (.int (1 : Int32)), .val (.int (own_f k n)), .val (.int q16), .val (.int q17), .val (.int q18)] [])) _
  refine XS.iload X0.here hx rfl (hb hby at_256) rfl ?_
  refine XS.ifNo X0.here hx rfl (hb hby at_258) rfl ((if0 _ _).trans (feq (by decide : ¬ ((1 : Int32) = (0 : Int32)))).1) ?_
  refine XS.iload X0.here hx rfl (hb hby at_261) rfl ?_
  refine XS.iload X0.here hx rfl (hb hby at_263) rfl ?_
  refine XS.iload X0.here hx rfl (hb hby at_265) rfl ?_
  refine XS.icmpNo X0.here hx rfl (hb hby at_267) rfl (tlt ((own_lt (by omega) (by omega)).mpr hk)).2.1 ?_
  refine XS.iconst X0.here hx rfl (hb hby at_270) ?_
  refine XS.goto X0.here hx rfl (pc0 := 271) (pc' := 275) rfl (hb hby at_271) (by decide) (by decide) ?_
  refine XS.icmpNo X0.here hx rfl (hb hby at_275) rfl (teq (own_f_t hk)).2 ?_
  exact kt
set_option maxRecDepth 65536 in
set_option maxHeartbeats 40000000 in
theorem cmpf {p : Program} {l : Launch} {e : Env} {s : State} {m : MethodId} {args : Array Value} {below : List Frame} {meth : Method} {c : Code} {s₁ : State} {L0 : List Loc} {Z : State} {a0 : Array Value} (p1 : Int32) (p2 : Int32) (p3 : Int32) (p4 : Int32) (p5 : Int32) (ar : Addr) (n : Nat) (k : Nat) (q7 : Int32) (q8 : Int32) (x10 : Addr) (x11 : Addr) (x12 : Addr) (r13 : Addr) (q16 : Int32) (q17 : Int32) (q18 : Int32) (h0 : Heap) (n0 : Nat) (X0 : Stand p l e room_1 s m args below meth c s₁ L0 24 128) (hx : p.tables.exec = Jvm.exec) (hZ : Z.Warmed39 s.vm) (hw : ∀ d ∈ tables_1, d.before a0 Z = true) (hby : c.code = code) (hml : c.maxLocals = 19) (hown : s.vm.findClass "com/example/atomize/atomize/http/FieldValueReaderNextElementPinLaw" = some m.cls) (e0 : s₁.heap = h0) (N0 : Fr n0 L0) (Z0 : n0 ≤ h0.size) (hn : n ≤ 4) (hkn : k ≤ n) (hk : ¬ (k < n)) :
    ∃ (T' : State) (h' : Heap) (L' : List Loc) , Stand p l e room_1 s m args below meth c T' L' 24 128 ∧ T'.heap = h' ∧ Fr n0 L' ∧ n0 ≤ h'.size ∧ h' = h0 ∧ 
      ∀ target, Steps p.tables e below (T'.setTop (mkF m 278 #[.val (.int p1), .val (.int p2), .val (.int p3), .val (.int p4), .val (.int p5), .val (.ref ar), .val (.int (Int32.ofNat n)), .val (.int q7), .val (.int q8), .val (.int (Int32.ofNat k)), .val (.ref x10), .val (.ref x11), .val (.ref x12), .val (.ref r13), .val (.int (1 : Int32)), .val (.int (own_f k n)), .val (.int q16), .val (.int q17), .val (.int q18)] [])) target → Steps p.tables e below (s₁.setTop (mkF m 256 #[.val (.int p1), .val (.int p2), .val (.int p3), .val (.int p4), .val (.int p5), .val (.ref ar), .val (.int (Int32.ofNat n)), .val (.int q7), .val (.int q8), .val (.int (Int32.ofNat k)), .val (.ref x10), .val (.ref x11), .val (.ref x12), .val (.ref r13), .val (.int (1 : Int32)), .val (.int (own_f k n)), .val (.int q16), .val (.int q17), .val (.int q18)] [])) target := by
  refine ⟨s₁, h0, _, X0, e0, N0, Z0, rfl, fun target kt => ?_⟩
  show Steps p.tables e below (s₁.setTop (mkF m 256 #[.val (.int p1), .val (.int p2), .val (.int p3), .val (.int p4), .val (.int p5), .val (.ref ar), .val (.int (Int32.ofNat n)), .val (.int q7), .val (.int q8), .val (.int (Int32.ofNat k)), .val (.ref x10), .val (.ref x11), .val (.ref x12), .val (.ref r13), .val (.int (1 : Int32)), .val (.int (own_f k n)), .val (.int q16), .val (.int q17), .val (.int q18)] [])) _
  refine XS.iload X0.here hx rfl (hb hby at_256) rfl ?_
  refine XS.ifNo X0.here hx rfl (hb hby at_258) rfl ((if0 _ _).trans (feq (by decide : ¬ ((1 : Int32) = (0 : Int32)))).1) ?_
  refine XS.iload X0.here hx rfl (hb hby at_261) rfl ?_
  refine XS.iload X0.here hx rfl (hb hby at_263) rfl ?_
  refine XS.iload X0.here hx rfl (hb hby at_265) rfl ?_
  refine XS.icmpYes X0.here hx rfl (pc0 := 267) (pc' := 274) rfl (hb hby at_267) rfl (flt (fun q => hk ((own_lt (by omega) (by omega)).mp q))).2.1 (by decide) (by decide) ?_
  refine XS.iconst X0.here hx rfl (hb hby at_274) ?_
  refine XS.icmpNo X0.here hx rfl (hb hby at_275) rfl (teq (own_f_f hk)).2 ?_
  exact kt
theorem cmpC {p : Program} {l : Launch} {e : Env} {s : State} {m : MethodId} {args : Array Value} {below : List Frame} {meth : Method} {c : Code} {s₁ : State} {L0 : List Loc} {Z : State} {a0 : Array Value} (p1 : Int32) (p2 : Int32) (p3 : Int32) (p4 : Int32) (p5 : Int32) (ar : Addr) (n : Nat) (k : Nat) (q7 : Int32) (q8 : Int32) (x10 : Addr) (x11 : Addr) (x12 : Addr) (r13 : Addr) (q16 : Int32) (q17 : Int32) (q18 : Int32) (h0 : Heap) (n0 : Nat) (X0 : Stand p l e room_1 s m args below meth c s₁ L0 24 128) (hx : p.tables.exec = Jvm.exec) (hZ : Z.Warmed39 s.vm) (hw : ∀ d ∈ tables_1, d.before a0 Z = true) (hby : c.code = code) (hml : c.maxLocals = 19) (hown : s.vm.findClass "com/example/atomize/atomize/http/FieldValueReaderNextElementPinLaw" = some m.cls) (e0 : s₁.heap = h0) (N0 : Fr n0 L0) (Z0 : n0 ≤ h0.size) (hn : n ≤ 4) (hkn : k ≤ n) :
    ∃ (T' : State) (h' : Heap) (L' : List Loc) , Stand p l e room_1 s m args below meth c T' L' 24 128 ∧ T'.heap = h' ∧ Fr n0 L' ∧ n0 ≤ h'.size ∧ h' = h0 ∧ 
      ∀ target, Steps p.tables e below (T'.setTop (mkF m 278 #[.val (.int p1), .val (.int p2), .val (.int p3), .val (.int p4), .val (.int p5), .val (.ref ar), .val (.int (Int32.ofNat n)), .val (.int q7), .val (.int q8), .val (.int (Int32.ofNat k)), .val (.ref x10), .val (.ref x11), .val (.ref x12), .val (.ref r13), .val (.int (1 : Int32)), .val (.int (own_f k n)), .val (.int q16), .val (.int q17), .val (.int q18)] [])) target → Steps p.tables e below (s₁.setTop (mkF m 256 #[.val (.int p1), .val (.int p2), .val (.int p3), .val (.int p4), .val (.int p5), .val (.ref ar), .val (.int (Int32.ofNat n)), .val (.int q7), .val (.int q8), .val (.int (Int32.ofNat k)), .val (.ref x10), .val (.ref x11), .val (.ref x12), .val (.ref r13), .val (.int (1 : Int32)), .val (.int (own_f k n)), .val (.int q16), .val (.int q17), .val (.int q18)] [])) target := by
  by_cases hk : k < n
  · exact cmpt p1 p2 p3 p4 p5 ar n k q7 q8 x10 x11 x12 r13 q16 q17 q18 h0 n0 X0 hx hZ hw hby hml hown e0 N0 Z0 hn hkn hk
  · exact cmpf p1 p2 p3 p4 p5 ar n k q7 q8 x10 x11 x12 r13 q16 q17 q18 h0 n0 X0 hx hZ hw hby hml hown e0 N0 Z0 hn hkn hk
theorem pn_0 : plainName "com/example/atomize/atomize/http/FieldValueReaderNextElementPinLaw" = true := by first | (simp [plainName, overriddenIn]; done) | decide +kernel
theorem ef_0_rrrrr (m : MethodId) (x0 : Int32) (x1 : Int32) (x2 : Int32) (x3 : Int32) (x4 : Int32) : entryFrame m #[(.int x0), (.int x1), (.int x2), (.int x3), (.int x4)] maxLocals = mkF m 0 #[.val (.int x0), .val (.int x1), .val (.int x2), .val (.int x3), .val (.int x4), .unset, .unset, .unset, .unset, .unset, .unset, .unset, .unset, .unset, .unset, .unset, .unset, .unset, .unset] [] := by first | (simp [entryFrame, mkF, argsToLocals, Value.category, maxLocals]; done) | rfl
set_option maxRecDepth 65536 in
set_option maxHeartbeats 40000000 in
theorem rm0_t (l : Launch) (Z : State) (a0 : Array Value) (hw : ∀ d ∈ tables_1, d.before a0 Z = true) (ws : List Jvm.Cond) (G1 : Int32) (G3 : Value) (p1 : Int32) (p2 : Int32) (p3 : Int32) (p4 : Int32) (p5 : Int32) (n : Nat) (h0 : Heap) (n0 : Nat) (Z0 : n0 ≤ h0.size) (EN : own_env Z G1 G3) (X00 : Old Z n0 h0) (hn5 : ((((p5.toUInt32 >>> ((1 : Int32) &&& 31).toUInt32).toInt32) &&& (7 : Int32)) % (5 : Int32)) = (Int32.ofNat n)) (hn : n ≤ 4) (hc48 : (p5 &&& (1 : Int32)) = (0 : Int32)) :
    MetFree l x (head1 (Jvm.Cond.code x code maxLocals ret :: ws) room_1) (fun a_ U_ => a_ = #[(.int p1), (.int p2), (.int p3), (.int p4), (.int p5)] ∧ Z.Warmed39 U_.vm ∧ U_.heap = h0 ∧ CHv Z consts_1 U_.vm h0) (fun _ _ _ _ _ => True) (fun _ U_ o_ U1_ => ∃ v_ L_, o_ = .returned v_ ∧ Q0 Z  h0 n0 v_ U1_.heap L_ ∧ ReturnedEndW U_ o_ U1_ L_ 40 3264) := by
  refine MetFree.of_bodySF (plainFor_of_name pn_0) hisR ?_
  intro p e s m args below meth c s₁ Bd hml0 hP hK
  obtain ⟨rfl, hZ, hh, H0⟩ := hP
  have hx := Bd.exec
  have hby := Bd.bytes
  have hml : c.maxLocals = 19 := hml0
  have hown : s.vm.findClass "com/example/atomize/atomize/http/FieldValueReaderNextElementPinLaw" = some m.cls := findClass_of_methodNamed Bd.named
  have hnm := (name_of_methodNamed Bd.named Bd.method).1
  have X0 : Stand p l e room_1 s m #[(.int p1), (.int p2), (.int p3), (.int p4), (.int p5)] below meth c s₁ [] 0 0 := Stand.of_body Bd
  have e0 : s₁.heap = h0 := by rw [← hh, Bd.state]; rfl
  have N0 := Fr.nil n0
  have pre0 : ∀ tt, Steps p.tables e below (s₁.setTop (mkF m 0 #[.val (.int p1), .val (.int p2), .val (.int p3), .val (.int p4), .val (.int p5), .unset, .unset, .unset, .unset, .unset, .unset, .unset, .unset, .unset, .unset, .unset, .unset, .unset, .unset] [])) tt → Steps p.tables e below (s₁.setTop (entryFrame m #[(.int p1), (.int p2), (.int p3), (.int p4), (.int p5)] maxLocals)) tt := fun tt kk => castTop (ef_0_rrrrr m p1 p2 p3 p4 p5) kk
  have hS0 : s.Since s.vm 0 := (State.WarmedH.refl s).since 0
  have hk0 : 0 ≤ h0.size := Nat.zero_le _
  have EN0 := EN
  obtain ⟨O2, P5, O4, rG3⟩ := EN
  have hws : ∀ d ∈ StrChars.Road.words, d.before a0 Z = true := fun d hd => hw d (own_w1 d hd)
  have hwl : ∀ d ∈ StrChars.Road.wordsLen, d.before a0 Z = true := fun d hd => hw d (own_w2 d hd)
  have hwc : ∀ d ∈ StrChars.Road.wordsChN, d.before a0 Z = true := fun d hd => hw d (own_w3 d hd)
  obtain ⟨T1, h1, L1, ar, ka, as, X1, e1, N1, Z1, O1, K1, V1, g_ar, sz_ar, h4, hc8, st1⟩ := fr1 G1 G3 p1 p2 p3 p4 p5 h0 n0 X0 hx hZ hw hby hml hown e0 N0 Z0 EN0 X00
  have ha : as.length < 2 ^ 31 := by omega
  have hs : 0 ≤ n := Nat.zero_le _
  have hb0 : 0 ≤ 4 := by omega
  have hq0 : 0 ≤ n := hs
  obtain ⟨Tv0, hv0, Lv0, Xv0, ev0, Nv0, Zv0, hhv0, stv0⟩ := stp0 p1 p2 p3 p4 p5 ar ka as n 0 (0 : Int32) (0 : Int32) h1 n0 X1 hx hZ hw hby hml hown e1 N1 (Nat.le_trans Z0 K1.1) V1 h4 hn (by omega)
  have ev0b := ev0.trans hhv0
  have hq1 : (own_step as n 0) ≤ n := own_step_le hq0
  obtain ⟨Tv1, hv1, Lv1, Xv1, ev1, Nv1, Zv1, hhv1, stv1⟩ := stp1 p1 p2 p3 p4 p5 ar ka as n (own_step as n 0) (0 : Int32) (0 : Int32) h1 n0 Xv0 hx hZ hw hby hml hown ev0b Nv0 (Nat.le_trans Z0 K1.1) V1 h4 hn (by omega)
  have ev1b := ev1.trans hhv1
  have hq2 : (own_step as n (own_step as n 0)) ≤ n := own_step_le hq1
  obtain ⟨Tv2, hv2, Lv2, Xv2, ev2, Nv2, Zv2, hhv2, stv2⟩ := stp2 p1 p2 p3 p4 p5 ar ka as n (own_step as n (own_step as n 0)) (0 : Int32) (0 : Int32) h1 n0 Xv1 hx hZ hw hby hml hown ev1b Nv1 (Nat.le_trans Z0 K1.1) V1 h4 hn (by omega)
  have ev2b := ev2.trans hhv2
  have hq3 : (own_step as n (own_step as n (own_step as n 0))) ≤ n := own_step_le hq2
  obtain ⟨Tv3, hv3, Lv3, Xv3, ev3, Nv3, Zv3, hhv3, stv3⟩ := stp3 p1 p2 p3 p4 p5 ar ka as n (own_step as n (own_step as n (own_step as n 0))) (0 : Int32) (0 : Int32) h1 n0 Xv2 hx hZ hw hby hml hown ev2b Nv2 (Nat.le_trans Z0 K1.1) V1 h4 hn (by omega)
  have ev3b := ev3.trans hhv3
  have hq4 : (own_step as n (own_step as n (own_step as n (own_step as n 0)))) ≤ n := own_step_le hq3
  obtain ⟨k, hk⟩ : ∃ k, own_k4 as n 0 = k := ⟨_, rfl⟩
  have hkn : k ≤ n := by rw [← hk]; exact own_k4_le hs
  have hTl : ((as.drop 0).take n).length = n := own_dl (by omega)
  have C12 := CHr.keep ((Keep.refl h0 []).trans K1 all0) sf0 H0
  obtain ⟨_, _, ⟨T11, L11, k11, n11⟩, -, X11', hS11', gr11, ⟨Lc11, hQ11, l11, y11, z11, Cx11⟩, st11⟩ := callSS Xv3 hx (y := (⟨"com/example/atomize/atomize/http/FieldValueReaderNextElementPinLaw", "slice", "([CII)Ljava/lang/String;"⟩ : MethodName)) hown (mvT hZ (hw _ (List.mem_of_getElem? (i := 5) rfl))) (mvT hZ (hw _ (List.mem_of_getElem? (i := 6) rfl))) (mvT hZ (hw _ (List.mem_of_getElem? (i := 3) rfl))) (mvT hZ (hw _ (List.mem_of_getElem? (i := 7) rfl))) (by decide) (backOfSH (W := 0) (s := s) (rmSL l Z a0 hw [] G1 G3 ar ka as 0 n n (Nat.zero_add n).symm (by omega) h1 n0 (Nat.le_trans Z0 K1.1) EN0 O1 V1 hc8 (by omega) ha) hZ (hw _ (List.mem_of_getElem? (i := 7) rfl)) (hw _ (List.mem_of_getElem? (i := 3) rfl)) (by decide) (by decide) (own_EW hw) C12.1) (g := (mkF m 169 #[.val (.int p1), .val (.int p2), .val (.int p3), .val (.int p4), .val (.int p5), .val (.ref ar), .val (.int (Int32.ofNat n)), .val (.int (0 : Int32)), .val (.int (0 : Int32)), .val (.int (Int32.ofNat k)), .unset, .unset, .unset, .unset, .unset, .unset, .unset, .unset, .unset] [(.int (Int32.ofNat n)), (.int (0 : Int32)), (.ref ar)])) rfl (by rw [hml]; rfl) (argsL := [(.ref ar), (.int (0 : Int32)), (.int (Int32.ofNat n))]) (rest := []) (lenOf pd___CII_Ljava_lang_String_ rfl) rfl (by show 2 * 0 + _ ≤ _; exact Nat.le_of_eq rfl) (hb hby at_169) (fun _ _ => ⟨rfl, ev3b, (by decide : 1 + 6 ≤ _), (by decide : 4 + 12 ≤ _)⟩)
  dsimp only [Pt.U, Pt.locs, Pt.cells, Pt.slots] at X11' hS11' gr11 Cx11 l11 y11 z11 st11 hQ11
  subst l11 y11 z11
  obtain ⟨X11, hS11, hZ11, hown11⟩ := rebS (s := s) (vm0 := s.vm) hS0 (by rw [ev3b]; exact (Nat.le_trans hk0 K1.1)) X11' hS11' gr11 hZ hown
  obtain ⟨x11, rfl, Nq11, sz11, Kq11, sq11⟩ := hQ11
  have C11 := CHr.trans C12 Cx11
  have N11 := Fr.app Nv3 Nq11
  have g11x : n0 ≤ x11 := Nat.le_trans (Nat.le_trans Z0 K1.1) sz11
  have lt11 := own_s_lt sq11
  obtain ⟨bs11, ks11, Es11, Cs11, Vs11, Ks11, hps11, hls11⟩ := sq11
  have f14 := (O1.keep Kq11 all0)
  have f15 := (V1.keep Kq11 nin0)
  obtain ⟨_, _, ⟨T13, L13, k13, n13⟩, -, X13', hS13', gr13, ⟨Lc13, hQ13, l13, y13, z13, Cx13⟩, st13⟩ := callSS X11 hx (y := (⟨"com/example/atomize/atomize/http/FieldValueReaderNextElementPinLaw", "slice", "([CII)Ljava/lang/String;"⟩ : MethodName)) hown11 (mvT hZ11 (hw _ (List.mem_of_getElem? (i := 5) rfl))) (mvT hZ11 (hw _ (List.mem_of_getElem? (i := 6) rfl))) (mvT hZ11 (hw _ (List.mem_of_getElem? (i := 3) rfl))) (mvT hZ11 (hw _ (List.mem_of_getElem? (i := 7) rfl))) (by decide) (backOfSH (W := 0) (s := s) (rmSL l Z a0 hw [] G1 G3 ar ka as 0 1 1 rfl (by decide) T11.heap n0 (Nat.le_trans Z0 (Nat.le_trans K1.1 Kq11.1)) EN0 f14 f15 hc8 (by omega) ha) hZ11 (hw _ (List.mem_of_getElem? (i := 7) rfl)) (hw _ (List.mem_of_getElem? (i := 3) rfl)) (by decide) (by decide) (own_EW hw) C11.1) (g := (mkF m 178 #[.val (.int p1), .val (.int p2), .val (.int p3), .val (.int p4), .val (.int p5), .val (.ref ar), .val (.int (Int32.ofNat n)), .val (.int (0 : Int32)), .val (.int (0 : Int32)), .val (.int (Int32.ofNat k)), .val (.ref x11), .unset, .unset, .unset, .unset, .unset, .unset, .unset, .unset] [(.int (1 : Int32)), (.int (0 : Int32)), (.ref ar)])) rfl (by rw [hml]; rfl) (argsL := [(.ref ar), (.int (0 : Int32)), (.int (1 : Int32))]) (rest := []) (lenOf pd___CII_Ljava_lang_String_ rfl) rfl (by show 2 * 0 + _ ≤ _; exact Nat.le_of_eq rfl) (hb hby at_178) (fun _ _ => ⟨rfl, rfl, (by decide : 7 + 6 ≤ _), (by decide : 16 + 12 ≤ _)⟩)
  dsimp only [Pt.U, Pt.locs, Pt.cells, Pt.slots] at X13' hS13' gr13 Cx13 l13 y13 z13 st13 hQ13
  subst l13 y13 z13
  obtain ⟨X13, hS13, hZ13, hown13⟩ := rebS (s := s) (vm0 := T11.vm) hS11 ((Nat.le_refl _)) X13' hS13' gr13 hZ11 hown11
  obtain ⟨x13, rfl, Nq13, sz13, Kq13, sq13⟩ := hQ13
  have C13 := CHr.trans C11 Cx13
  have N13 := Fr.app N11 Nq13
  have g13x : n0 ≤ x13 := Nat.le_trans (Nat.le_trans Z0 (Nat.le_trans K1.1 Kq11.1)) sz13
  have lt13 := own_s_lt sq13
  obtain ⟨bs13, ks13, Es13, Cs13, Vs13, Ks13, hps13, hls13⟩ := sq13
  have f17 := (f14.keep Kq13 all0)
  have f18 := (f15.keep Kq13 nin0)
  obtain ⟨_, _, ⟨T16, L16, k16, n16⟩, -, X16', hS16', gr16, ⟨Lc16, hQ16, l16, y16, z16, Cx16⟩, st16⟩ := callSS X13 hx (y := (⟨"com/example/atomize/atomize/http/FieldValueReaderNextElementPinLaw", "slice", "([CII)Ljava/lang/String;"⟩ : MethodName)) hown13 (mvT hZ13 (hw _ (List.mem_of_getElem? (i := 5) rfl))) (mvT hZ13 (hw _ (List.mem_of_getElem? (i := 6) rfl))) (mvT hZ13 (hw _ (List.mem_of_getElem? (i := 3) rfl))) (mvT hZ13 (hw _ (List.mem_of_getElem? (i := 7) rfl))) (by decide) (backOfSH (W := 0) (s := s) (rmSL l Z a0 hw [] G1 G3 ar ka as k n (n - k) (by omega) (by omega) T13.heap n0 (Nat.le_trans Z0 (Nat.le_trans (Nat.le_trans K1.1 Kq11.1) Kq13.1)) EN0 f17 f18 hc8 (by omega) ha) hZ13 (hw _ (List.mem_of_getElem? (i := 7) rfl)) (hw _ (List.mem_of_getElem? (i := 3) rfl)) (by decide) (by decide) (own_EW hw) C13.1) (g := (mkF m 189 #[.val (.int p1), .val (.int p2), .val (.int p3), .val (.int p4), .val (.int p5), .val (.ref ar), .val (.int (Int32.ofNat n)), .val (.int (0 : Int32)), .val (.int (0 : Int32)), .val (.int (Int32.ofNat k)), .val (.ref x11), .val (.ref x13), .unset, .unset, .unset, .unset, .unset, .unset, .unset] [(.int (Int32.ofNat n)), (.int (Int32.ofNat k)), (.ref ar)])) rfl (by rw [hml]; rfl) (argsL := [(.ref ar), (.int (Int32.ofNat k)), (.int (Int32.ofNat n))]) (rest := []) (lenOf pd___CII_Ljava_lang_String_ rfl) rfl (by show 2 * 0 + _ ≤ _; exact Nat.le_of_eq rfl) (hb hby at_189) (fun _ _ => ⟨rfl, rfl, (by decide : 13 + 6 ≤ _), (by decide : 28 + 12 ≤ _)⟩)
  dsimp only [Pt.U, Pt.locs, Pt.cells, Pt.slots] at X16' hS16' gr16 Cx16 l16 y16 z16 st16 hQ16
  subst l16 y16 z16
  obtain ⟨X16, hS16, hZ16, hown16⟩ := rebS (s := s) (vm0 := T13.vm) hS13 ((Nat.le_refl _)) X16' hS16' gr16 hZ13 hown13
  obtain ⟨x16, rfl, Nq16, sz16, Kq16, sq16⟩ := hQ16
  have C16 := CHr.trans C13 Cx16
  have N16 := Fr.app N13 Nq16
  have g16x : n0 ≤ x16 := Nat.le_trans (Nat.le_trans Z0 (Nat.le_trans (Nat.le_trans K1.1 Kq11.1) Kq13.1)) sz16
  have lt16 := own_s_lt sq16
  obtain ⟨bs16, ks16, Es16, Cs16, Vs16, Ks16, hps16, hls16⟩ := sq16
  obtain ⟨T19, h19, X19, e19, E19, A19, D19, -, st19⟩ := newO X16 hx hZ16 hown16 (hw _ (List.mem_of_getElem? (i := 40) rfl)) (hw _ (List.mem_of_getElem? (i := 41) rfl)) (hw _ (List.mem_of_getElem? (i := 42) rfl)) rfl (g := (mkF m 194 #[.val (.int p1), .val (.int p2), .val (.int p3), .val (.int p4), .val (.int p5), .val (.ref ar), .val (.int (Int32.ofNat n)), .val (.int (0 : Int32)), .val (.int (0 : Int32)), .val (.int (Int32.ofNat k)), .val (.ref x11), .val (.ref x13), .val (.ref x16), .unset, .unset, .unset, .unset, .unset, .unset] [])) rfl (hb hby at_194) (by decide) (by decide)
  obtain ⟨b19, g19⟩ : ∃ z, z = T16.heap.size := ⟨_, rfl⟩
  rw [← g19] at A19 D19 st19
  have g_b19 : n0 ≤ b19 := Nat.le_trans (Nat.le_trans Z0 (Nat.le_trans (Nat.le_trans (Nat.le_trans K1.1 Kq11.1) Kq13.1) Kq16.1)) (Nat.le_of_eq g19.symm)
  have sz_b19 : h0.size ≤ b19 := Nat.le_trans (Nat.le_trans (Nat.le_trans (Nat.le_trans K1.1 Kq11.1) Kq13.1) Kq16.1) (Nat.le_of_eq g19.symm)
  have F19_name : Fld Z h19 b19 "com/example/atomize/atomize/http/FieldValueReader" "name" "Ljava/lang/String;" .null := D19 (Or.inr (hw _ (List.mem_of_getElem? (i := 50) rfl))) (ty := (.object "java/lang/String")) (by decide)
  have F19_text : Fld Z h19 b19 "com/example/atomize/atomize/http/FieldValueReader" "text" "Ljava/lang/String;" .null := D19 (Or.inr (hw _ (List.mem_of_getElem? (i := 52) rfl))) (ty := (.object "java/lang/String")) (by decide)
  have F19_grammar : Fld Z h19 b19 "com/example/atomize/atomize/http/FieldValueReader" "grammar" "Ljava/lang/String;" .null := D19 (Or.inr (hw _ (List.mem_of_getElem? (i := 54) rfl))) (ty := (.object "java/lang/String")) (by decide)
  have F19_position : Fld Z h19 b19 "com/example/atomize/atomize/http/FieldValueReader" "position" "I" (.int (0 : Int32)) := D19 (Or.inl (hw _ (List.mem_of_getElem? (i := 61) rfl))) (ty := .int) (by decide)
  have C21 := CHr.trans C16 (CHr.ext E19 C16.1)
  obtain ⟨b20, T20, h20, k20, d20, kb20, X20, e20, E20, hS20, hk20, hZ20, hown20, Ea20, Ca20, Va20, Ka20, la20, lb20, Cx20, -, ne20, st20⟩ := ldcCH (s := s) (vm0 := T16.vm) X19 hx hZ16 hown16 (hw _ (List.mem_of_getElem? (i := 43) rfl)) (fun d hd => hw d (own_wS d hd)) e19 hS16 (Nat.le_trans (Nat.le_refl _) E19.1) (own_EW hw) own_mem28 C21.1 (vs := [Value.int (Jvm.Lit.byteI 76), Value.int (Jvm.Lit.byteI 105), Value.int (Jvm.Lit.byteI 110), Value.int (Jvm.Lit.byteI 107)]) (z := 4) ⟨by decide, rfl⟩ (by decide) rfl (g := (mkF m 198 #[.val (.int p1), .val (.int p2), .val (.int p3), .val (.int p4), .val (.int p5), .val (.ref ar), .val (.int (Int32.ofNat n)), .val (.int (0 : Int32)), .val (.int (0 : Int32)), .val (.int (Int32.ofNat k)), .val (.ref x11), .val (.ref x13), .val (.ref x16), .unset, .unset, .unset, .unset, .unset, .unset] [(.ref b19), (.ref b19)])) rfl (hb hby at_198) (n := 16) (by decide) (by decide) (by decide) (by decide)
  have C20 := CHr.trans C21 Cx20
  obtain ⟨b22, T22, h22, k22, d22, kb22, X22, e22, E22, hS22, hk22, hZ22, hown22, Ea22, Ca22, Va22, Ka22, la22, lb22, Cx22, -, ne22, st22⟩ := ldcCH (s := s) (vm0 := T20.vm) X20 hx hZ20 hown20 (hw _ (List.mem_of_getElem? (i := 44) rfl)) (fun d hd => hw d (own_wS d hd)) e20 hS20 hk20 (own_EW hw) own_mem30 C20.1 (vs := [Value.int (Jvm.Lit.byteI 97), Value.int (Jvm.Lit.byteI 32), Value.int (Jvm.Lit.byteI 108), Value.int (Jvm.Lit.byteI 105), Value.int (Jvm.Lit.byteI 115), Value.int (Jvm.Lit.byteI 116), Value.int (Jvm.Lit.byteI 32), Value.int (Jvm.Lit.byteI 111), Value.int (Jvm.Lit.byteI 102), Value.int (Jvm.Lit.byteI 32), Value.int (Jvm.Lit.byteI 108), Value.int (Jvm.Lit.byteI 105), Value.int (Jvm.Lit.byteI 110), Value.int (Jvm.Lit.byteI 107), Value.int (Jvm.Lit.byteI 115)]) (z := 15) ⟨by decide, rfl⟩ (by decide) rfl (g := (mkF m 202 #[.val (.int p1), .val (.int p2), .val (.int p3), .val (.int p4), .val (.int p5), .val (.ref ar), .val (.int (Int32.ofNat n)), .val (.int (0 : Int32)), .val (.int (0 : Int32)), .val (.int (Int32.ofNat k)), .val (.ref x11), .val (.ref x13), .val (.ref x16), .unset, .unset, .unset, .unset, .unset, .unset] [(.ref x11), (.ref b20), (.ref b19), (.ref b19)])) rfl (hb hby at_202) (n := 60) (by decide) (by decide) (by decide) (by decide)
  have C22 := CHr.trans C20 Cx22
  have f24 := ((A19.ext E20).ext E22)
  have f25 := ((F19_name.ext E20).ext E22)
  have f26 := ((F19_text.ext E20).ext E22)
  have f27 := ((F19_grammar.ext E20).ext E22)
  have f28 := ((F19_position.ext E20).ext E22)
  obtain ⟨_, _, ⟨T23, L23, k23, n23⟩, -, X23, ⟨Lc23, hQ23, l23, y23, z23⟩, st23⟩ := X22.specialBack hx (y := (⟨"com/example/atomize/atomize/http/FieldValueReader", "<init>", "(Ljava/lang/String;Ljava/lang/String;Ljava/lang/String;)V"⟩ : MethodName)) rfl hown22 (mvT hZ22 (hw _ (List.mem_of_getElem? (i := 45) rfl))) (mvT hZ22 (hw _ (List.mem_of_getElem? (i := 46) rfl))) (mvT hZ22 (hw _ (List.mem_of_getElem? (i := 47) rfl))) (by decide) (backOf (W := 1) (rmFI l Z a0 hw [] b19 b20 x11 b22 h22 n0 (Nat.le_trans Z0 (Nat.le_trans (Nat.le_trans (Nat.le_trans (Nat.le_trans (Nat.le_trans (Nat.le_trans K1.1 Kq11.1) Kq13.1) Kq16.1) E19.1) E20.1) E22.1)) f24 f25 f26 f27 f28 g_b19) hZ22 (hw _ (List.mem_of_getElem? (i := 47) rfl)) (hw _ (List.mem_of_getElem? (i := 42) rfl)) (by decide) (by decide)) (g := (mkF m 204 #[.val (.int p1), .val (.int p2), .val (.int p3), .val (.int p4), .val (.int p5), .val (.ref ar), .val (.int (Int32.ofNat n)), .val (.int (0 : Int32)), .val (.int (0 : Int32)), .val (.int (Int32.ofNat k)), .val (.ref x11), .val (.ref x13), .val (.ref x16), .unset, .unset, .unset, .unset, .unset, .unset] [(.ref b22), (.ref x11), (.ref b20), (.ref b19), (.ref b19)])) rfl (by rw [hml]; rfl) (Steps.refl _) (a := b19) (argsL := [(.ref b20), (.ref x11), (.ref b22)]) (rest := [(.ref b19)]) (lenOf pd__Ljava_lang_String_Ljava_lang_String_Ljava_lang_String__V rfl) rfl (by show 2 * 0 + _ ≤ _; exact Nat.le_of_eq rfl) (hb hby at_204) (fun _ _ => ⟨rfl, e22, (by decide : 24 + 0 ≤ _), (by decide : 128 + 0 ≤ _)⟩)
  dsimp only [Pt.U, Pt.locs, Pt.cells, Pt.slots] at X23 l23 y23 z23 st23 hQ23
  subst l23 y23 z23
  obtain ⟨rfl, Nq23, Kq23, Er23, Ft23, Fp23⟩ := hQ23
  have N23 := Fr.app N16 Nq23
  have f30 := (((((f17.keep Kq16 all0).ext E19).ext E20).ext E22).keep Kq23 (allS g_b19 all0))
  have f31 := ((((((Es11.keep Kq13).keep Kq16).ext E19).ext E20).ext E22).keep Kq23)
  have f32 := ((((((Cs11.keep Kq13 nin0).keep Kq16 nin0).ext E19).ext E20).ext E22).keep Kq23 (ninS (Nat.ne_of_lt (Nat.lt_of_lt_of_le (Nat.lt_of_lt_of_le lt11 (Nat.le_trans Kq13.1 Kq16.1)) (Nat.le_of_eq g19.symm))) nin0))
  have f33 := ((((((Vs11.keep Kq13 nin0).keep Kq16 nin0).ext E19).ext E20).ext E22).keep Kq23 (ninS (Nat.ne_of_lt (Nat.lt_of_lt_of_le (Nat.lt_of_lt_of_le lt11 (Nat.le_trans Kq13.1 Kq16.1)) (Nat.le_of_eq g19.symm))) nin0))
  have f34 := ((((((Ks11.keep Kq13 nin0).keep Kq16 nin0).ext E19).ext E20).ext E22).keep Kq23 (ninS (Nat.ne_of_lt (Nat.lt_of_lt_of_le (Nat.lt_of_lt_of_le Ks11.lt (Nat.le_trans Kq13.1 Kq16.1)) (Nat.le_of_eq g19.symm))) nin0))
  obtain ⟨cq29, kq29, q29a, q29b, q29c⟩ := isOf hZ22 rfl Er23
  obtain ⟨_, _, ⟨T29, L29, k29, n29⟩, -, X29, ⟨Lc29, hQ29, l29, y29, z29⟩, st29⟩ := X23.virtualBack hx (y := (⟨"com/example/atomize/atomize/http/FieldValueReader", "nextElement", "()Z"⟩ : MethodName)) (z := (⟨"com/example/atomize/atomize/http/FieldValueReader", "nextElement", "()Z"⟩ : MethodName)) hown22 (mvT hZ22 (hw _ (List.mem_of_getElem? (i := 55) rfl))) (mvT hZ22 (hw _ (List.mem_of_getElem? (i := 56) rfl))) (notFace_of_selects (args := #[]) (mvT hZ22 (hw _ (List.mem_of_getElem? (i := 58) rfl)))) (mvT hZ22 (hw _ (List.mem_of_getElem? (i := 58) rfl))) (mvT hZ22 (hw _ (List.mem_of_getElem? (i := 57) rfl))) (by decide) (backOf (W := 0) (rmNE l Z a0 hw [] G1 G3 b19 x11 ((as.drop 0).take n) 0 k T23.heap n0 (Nat.le_trans Z0 (Nat.le_trans (Nat.le_trans (Nat.le_trans (Nat.le_trans (Nat.le_trans (Nat.le_trans (Nat.le_trans K1.1 Kq11.1) Kq13.1) Kq16.1) E19.1) E20.1) E22.1) Kq23.1)) EN0 f30 Er23 Ft23 Fp23 g_b19 ⟨bs11, ks11, f31, f32, f33, f34, hps11, hls11⟩ (by rw [hTl]; exact hs) ((own_kk h4 hn hs).trans hk)) hZ22 (hw _ (List.mem_of_getElem? (i := 59) rfl)) (hw _ (List.mem_of_getElem? (i := 42) rfl)) (by decide) (by decide)) q29a q29c (g := (mkF m 228 #[.val (.int p1), .val (.int p2), .val (.int p3), .val (.int p4), .val (.int p5), .val (.ref ar), .val (.int (Int32.ofNat n)), .val (.int (0 : Int32)), .val (.int (0 : Int32)), .val (.int (Int32.ofNat k)), .val (.ref x11), .val (.ref x13), .val (.ref x16), .val (.ref b19), .val (.int (1 : Int32)), .unset, .unset, .unset, .unset] [(.ref b19)])) rfl (by rw [hml]; rfl) (Steps.refl _) (argsL := []) (rest := []) (lenOf pd___Z rfl) rfl (by show 2 * 0 + _ ≤ _; exact Nat.le_of_eq rfl) (hb hby at_228) (fun _ _ => ⟨rfl, rfl, (by decide : 24 + 0 ≤ _), (by decide : 128 + 0 ≤ _)⟩)
  dsimp only [Pt.U, Pt.locs, Pt.cells, Pt.slots] at X29 l29 y29 z29 st29 hQ29
  subst l29 y29 z29
  obtain ⟨rfl, Nq29, Kq29, Er29, Ft29, Fp29⟩ := hQ29
  have N29 := Fr.app N23 Nq29
  have f36 := (f30.keep Kq29 (allS g_b19 all0))
  have f37 := (f31.keep Kq29)
  have f38 := (f32.keep Kq29 (ninS (Nat.ne_of_lt (Nat.lt_of_lt_of_le (Nat.lt_of_lt_of_le lt11 (Nat.le_trans Kq13.1 Kq16.1)) (Nat.le_of_eq g19.symm))) nin0))
  have f39 := (f33.keep Kq29 (ninS (Nat.ne_of_lt (Nat.lt_of_lt_of_le (Nat.lt_of_lt_of_le lt11 (Nat.le_trans Kq13.1 Kq16.1)) (Nat.le_of_eq g19.symm))) nin0))
  have f40 := (f34.keep Kq29 (ninS (Nat.ne_of_lt (Nat.lt_of_lt_of_le (Nat.lt_of_lt_of_le Ks11.lt (Nat.le_trans Kq13.1 Kq16.1)) (Nat.le_of_eq g19.symm))) nin0))
  obtain ⟨cq35, kq35, q35a, q35b, q35c⟩ := isOf hZ22 rfl Er29
  obtain ⟨_, _, ⟨T35, L35, k35, n35⟩, -, X35, ⟨Lc35, hQ35, l35, y35, z35⟩, st35⟩ := X29.virtualBack hx (y := (⟨"com/example/atomize/atomize/http/FieldValueReader", "nextElement", "()Z"⟩ : MethodName)) (z := (⟨"com/example/atomize/atomize/http/FieldValueReader", "nextElement", "()Z"⟩ : MethodName)) hown22 (mvT hZ22 (hw _ (List.mem_of_getElem? (i := 55) rfl))) (mvT hZ22 (hw _ (List.mem_of_getElem? (i := 56) rfl))) (notFace_of_selects (args := #[]) (mvT hZ22 (hw _ (List.mem_of_getElem? (i := 58) rfl)))) (mvT hZ22 (hw _ (List.mem_of_getElem? (i := 58) rfl))) (mvT hZ22 (hw _ (List.mem_of_getElem? (i := 57) rfl))) (by decide) (backOf (W := 0) (rmNE l Z a0 hw [] G1 G3 b19 x11 ((as.drop 0).take n) k k T29.heap n0 (Nat.le_trans Z0 (Nat.le_trans (Nat.le_trans (Nat.le_trans (Nat.le_trans (Nat.le_trans (Nat.le_trans (Nat.le_trans (Nat.le_trans K1.1 Kq11.1) Kq13.1) Kq16.1) E19.1) E20.1) E22.1) Kq23.1) Kq29.1)) EN0 f36 Er29 Ft29 Fp29 g_b19 ⟨bs11, ks11, f37, f38, f39, f40, hps11, hls11⟩ (by rw [hTl]; exact hkn) (by have e_ := own_kk2 h4 hn hs; rw [hk] at e_; exact e_)) hZ22 (hw _ (List.mem_of_getElem? (i := 59) rfl)) (hw _ (List.mem_of_getElem? (i := 42) rfl)) (by decide) (by decide)) q35a q35c (g := (mkF m 235 #[.val (.int p1), .val (.int p2), .val (.int p3), .val (.int p4), .val (.int p5), .val (.ref ar), .val (.int (Int32.ofNat n)), .val (.int (0 : Int32)), .val (.int (0 : Int32)), .val (.int (Int32.ofNat k)), .val (.ref x11), .val (.ref x13), .val (.ref x16), .val (.ref b19), .val (.int (1 : Int32)), .val (.int (own_f k n)), .unset, .unset, .unset] [(.ref b19)])) rfl (by rw [hml]; rfl) (Steps.refl _) (argsL := []) (rest := []) (lenOf pd___Z rfl) rfl (by show 2 * 0 + _ ≤ _; exact Nat.le_of_eq rfl) (hb hby at_235) (fun _ _ => ⟨rfl, rfl, (by decide : 24 + 0 ≤ _), (by decide : 128 + 0 ≤ _)⟩)
  dsimp only [Pt.U, Pt.locs, Pt.cells, Pt.slots] at X35 l35 y35 z35 st35 hQ35
  subst l35 y35 z35
  obtain ⟨rfl, Nq35, Kq35, Er35, Ft35, Fp35⟩ := hQ35
  have N35 := Fr.app N29 Nq35
  have f42 := (f36.keep Kq35 (allS g_b19 all0))
  have f43 := (f37.keep Kq35)
  have f44 := (f38.keep Kq35 (ninS (Nat.ne_of_lt (Nat.lt_of_lt_of_le (Nat.lt_of_lt_of_le lt11 (Nat.le_trans Kq13.1 Kq16.1)) (Nat.le_of_eq g19.symm))) nin0))
  have f45 := (f39.keep Kq35 (ninS (Nat.ne_of_lt (Nat.lt_of_lt_of_le (Nat.lt_of_lt_of_le lt11 (Nat.le_trans Kq13.1 Kq16.1)) (Nat.le_of_eq g19.symm))) nin0))
  have f46 := (f40.keep Kq35 (ninS (Nat.ne_of_lt (Nat.lt_of_lt_of_le (Nat.lt_of_lt_of_le Ks11.lt (Nat.le_trans Kq13.1 Kq16.1)) (Nat.le_of_eq g19.symm))) nin0))
  have f47 := ((((((Es16.ext E19).ext E20).ext E22).keep Kq23).keep Kq29).keep Kq35)
  have f48 := ((((((Cs16.ext E19).ext E20).ext E22).keep Kq23 (ninS (Nat.ne_of_lt (Nat.lt_of_lt_of_le lt16 (Nat.le_of_eq g19.symm))) nin0)).keep Kq29 (ninS (Nat.ne_of_lt (Nat.lt_of_lt_of_le lt16 (Nat.le_of_eq g19.symm))) nin0)).keep Kq35 (ninS (Nat.ne_of_lt (Nat.lt_of_lt_of_le lt16 (Nat.le_of_eq g19.symm))) nin0))
  have f49 := ((((((Vs16.ext E19).ext E20).ext E22).keep Kq23 (ninS (Nat.ne_of_lt (Nat.lt_of_lt_of_le lt16 (Nat.le_of_eq g19.symm))) nin0)).keep Kq29 (ninS (Nat.ne_of_lt (Nat.lt_of_lt_of_le lt16 (Nat.le_of_eq g19.symm))) nin0)).keep Kq35 (ninS (Nat.ne_of_lt (Nat.lt_of_lt_of_le lt16 (Nat.le_of_eq g19.symm))) nin0))
  have f50 := ((((((Ks16.ext E19).ext E20).ext E22).keep Kq23 (ninS (Nat.ne_of_lt (Nat.lt_of_lt_of_le Ks16.lt (Nat.le_of_eq g19.symm))) nin0)).keep Kq29 (ninS (Nat.ne_of_lt (Nat.lt_of_lt_of_le Ks16.lt (Nat.le_of_eq g19.symm))) nin0)).keep Kq35 (ninS (Nat.ne_of_lt (Nat.lt_of_lt_of_le Ks16.lt (Nat.le_of_eq g19.symm))) nin0))
  obtain ⟨cq41, kq41, q41a, q41b, q41c⟩ := isOf hZ22 rfl Er35
  obtain ⟨_, _, ⟨T41, L41, k41, n41⟩, -, X41, ⟨Lc41, hQ41, l41, y41, z41⟩, st41⟩ := X35.virtualBack hx (y := (⟨"com/example/atomize/atomize/http/FieldValueReader", "accept", "(Ljava/lang/String;)Z"⟩ : MethodName)) (z := (⟨"com/example/atomize/atomize/http/FieldValueReader", "accept", "(Ljava/lang/String;)Z"⟩ : MethodName)) hown22 (mvT hZ22 (hw _ (List.mem_of_getElem? (i := 72) rfl))) (mvT hZ22 (hw _ (List.mem_of_getElem? (i := 73) rfl))) (notFace_of_selects (args := #[]) (mvT hZ22 (hw _ (List.mem_of_getElem? (i := 75) rfl)))) (mvT hZ22 (hw _ (List.mem_of_getElem? (i := 75) rfl))) (mvT hZ22 (hw _ (List.mem_of_getElem? (i := 74) rfl))) (by decide) (backOf (W := 0) (rmAP l Z a0 hw [] G1 G3 b19 x11 x16 ((as.drop 0).take n) ((as.drop k).take (n - k)) k n T35.heap n0 (Nat.le_trans Z0 (Nat.le_trans (Nat.le_trans (Nat.le_trans (Nat.le_trans (Nat.le_trans (Nat.le_trans (Nat.le_trans (Nat.le_trans (Nat.le_trans K1.1 Kq11.1) Kq13.1) Kq16.1) E19.1) E20.1) E22.1) Kq23.1) Kq29.1) Kq35.1)) EN0 f42 Er35 Ft35 Fp35 g_b19 ⟨bs11, ks11, f43, f44, f45, f46, hps11, hls11⟩ ⟨bs16, ks16, f47, f48, f49, f50, hps16, hls16⟩ (own_pre (by omega) (by omega)) (by rw [own_dl (by omega), hTl]; omega) (by rw [own_dl (by omega)]; omega)) hZ22 (hw _ (List.mem_of_getElem? (i := 76) rfl)) (hw _ (List.mem_of_getElem? (i := 42) rfl)) (by decide) (by decide)) q41a q41c (g := (mkF m 244 #[.val (.int p1), .val (.int p2), .val (.int p3), .val (.int p4), .val (.int p5), .val (.ref ar), .val (.int (Int32.ofNat n)), .val (.int (0 : Int32)), .val (.int (0 : Int32)), .val (.int (Int32.ofNat k)), .val (.ref x11), .val (.ref x13), .val (.ref x16), .val (.ref b19), .val (.int (1 : Int32)), .val (.int (own_f k n)), .val (.int (own_f k n)), .unset, .unset] [(.ref x16), (.ref b19)])) rfl (by rw [hml]; rfl) (Steps.refl _) (argsL := [(.ref x16)]) (rest := []) (lenOf pd__Ljava_lang_String__Z rfl) rfl (by show 2 * 0 + _ ≤ _; exact Nat.le_of_eq rfl) (hb hby at_244) (fun _ _ => ⟨rfl, rfl, (by decide : 24 + 0 ≤ _), (by decide : 128 + 0 ≤ _)⟩)
  dsimp only [Pt.U, Pt.locs, Pt.cells, Pt.slots] at X41 l41 y41 z41 st41 hQ41
  subst l41 y41 z41
  obtain ⟨rfl, Nq41, Kq41, Er41, Ft41, Fp41⟩ := hQ41
  have N41 := Fr.app N35 Nq41
  have f52 := (f42.keep Kq41 (allS g_b19 all0))
  have f53 := (f43.keep Kq41)
  have f54 := (f44.keep Kq41 (ninS (Nat.ne_of_lt (Nat.lt_of_lt_of_le (Nat.lt_of_lt_of_le lt11 (Nat.le_trans Kq13.1 Kq16.1)) (Nat.le_of_eq g19.symm))) nin0))
  have f55 := (f45.keep Kq41 (ninS (Nat.ne_of_lt (Nat.lt_of_lt_of_le (Nat.lt_of_lt_of_le lt11 (Nat.le_trans Kq13.1 Kq16.1)) (Nat.le_of_eq g19.symm))) nin0))
  have f56 := (f46.keep Kq41 (ninS (Nat.ne_of_lt (Nat.lt_of_lt_of_le (Nat.lt_of_lt_of_le Ks11.lt (Nat.le_trans Kq13.1 Kq16.1)) (Nat.le_of_eq g19.symm))) nin0))
  obtain ⟨cq51, kq51, q51a, q51b, q51c⟩ := isOf hZ22 rfl Er41
  obtain ⟨_, _, ⟨T51, L51, k51, n51⟩, -, X51, ⟨Lc51, hQ51, l51, y51, z51⟩, st51⟩ := X41.virtualBack hx (y := (⟨"com/example/atomize/atomize/http/FieldValueReader", "nextElement", "()Z"⟩ : MethodName)) (z := (⟨"com/example/atomize/atomize/http/FieldValueReader", "nextElement", "()Z"⟩ : MethodName)) hown22 (mvT hZ22 (hw _ (List.mem_of_getElem? (i := 55) rfl))) (mvT hZ22 (hw _ (List.mem_of_getElem? (i := 56) rfl))) (notFace_of_selects (args := #[]) (mvT hZ22 (hw _ (List.mem_of_getElem? (i := 58) rfl)))) (mvT hZ22 (hw _ (List.mem_of_getElem? (i := 58) rfl))) (mvT hZ22 (hw _ (List.mem_of_getElem? (i := 57) rfl))) (by decide) (backOf (W := 0) (rmNE l Z a0 hw [] G1 G3 b19 x11 ((as.drop 0).take n) n n T41.heap n0 (Nat.le_trans Z0 (Nat.le_trans (Nat.le_trans (Nat.le_trans (Nat.le_trans (Nat.le_trans (Nat.le_trans (Nat.le_trans (Nat.le_trans (Nat.le_trans (Nat.le_trans K1.1 Kq11.1) Kq13.1) Kq16.1) E19.1) E20.1) E22.1) Kq23.1) Kq29.1) Kq35.1) Kq41.1)) EN0 f52 Er41 Ft41 Fp41 g_b19 ⟨bs11, ks11, f53, f54, f55, f56, hps11, hls11⟩ (by rw [hTl]; exact Nat.le_refl _) (own_kn hTl)) hZ22 (hw _ (List.mem_of_getElem? (i := 59) rfl)) (hw _ (List.mem_of_getElem? (i := 42) rfl)) (by decide) (by decide)) q51a q51c (g := (mkF m 251 #[.val (.int p1), .val (.int p2), .val (.int p3), .val (.int p4), .val (.int p5), .val (.ref ar), .val (.int (Int32.ofNat n)), .val (.int (0 : Int32)), .val (.int (0 : Int32)), .val (.int (Int32.ofNat k)), .val (.ref x11), .val (.ref x13), .val (.ref x16), .val (.ref b19), .val (.int (1 : Int32)), .val (.int (own_f k n)), .val (.int (own_f k n)), .val (.int (1 : Int32)), .unset] [(.ref b19)])) rfl (by rw [hml]; rfl) (Steps.refl _) (argsL := []) (rest := []) (lenOf pd___Z rfl) rfl (by show 2 * 0 + _ ≤ _; exact Nat.le_of_eq rfl) (hb hby at_251) (fun _ _ => ⟨rfl, rfl, (by decide : 24 + 0 ≤ _), (by decide : 128 + 0 ≤ _)⟩)
  dsimp only [Pt.U, Pt.locs, Pt.cells, Pt.slots] at X51 l51 y51 z51 st51 hQ51
  subst l51 y51 z51
  obtain ⟨rfl, Nq51, Kq51, Er51, Ft51, Fp51⟩ := hQ51
  have N51 := Fr.app N41 Nq51
  obtain ⟨Tv9, hv9, Lv9, Xv9, ev9, Nv9, Zv9, hhv9, stv9⟩ := cmpC p1 p2 p3 p4 p5 ar n k (0 : Int32) (0 : Int32) x11 x13 x16 b19 (own_f k n) (1 : Int32) (0 : Int32) T51.heap n0 X51 hx hZ22 hw hby hml hown22 rfl N51 (Nat.le_trans Z0 (Nat.le_trans (Nat.le_trans (Nat.le_trans (Nat.le_trans (Nat.le_trans (Nat.le_trans (Nat.le_trans (Nat.le_trans (Nat.le_trans (Nat.le_trans (Nat.le_trans K1.1 Kq11.1) Kq13.1) Kq16.1) E19.1) E20.1) E22.1) Kq23.1) Kq29.1) Kq35.1) Kq41.1) Kq51.1)) hn hkn
  have ev9b := ev9.trans hhv9
  obtain ⟨fs, hr, hrun, hended, hfin⟩ := Xv9.leaveW hS22 (by rw [ev9b]; exact (Nat.le_trans hk22 (Nat.le_trans (Nat.le_trans (Nat.le_trans (Nat.le_trans Kq23.1 Kq29.1) Kq35.1) Kq41.1) Kq51.1))) (v := some (.int (1 : Int32))) (fun h => by rw [Bd.returns] at h; cases h)
  refine ⟨_, _, pre0 _ ?_, hrun, hended, _, _, rfl, ?_, hfin.1, hfin.2.1, hfin.2.2.1, hfin.2.2.2.mono (by decide) (by decide)⟩
  · show Steps p.tables e below (s₁.setTop (mkF m 0 #[.val (.int p1), .val (.int p2), .val (.int p3), .val (.int p4), .val (.int p5), .unset, .unset, .unset, .unset, .unset, .unset, .unset, .unset, .unset, .unset, .unset, .unset, .unset, .unset] [])) _
    refine st1 _ ?_
    show Steps p.tables e below (T1.setTop (mkF m 33 #[.val (.int p1), .val (.int p2), .val (.int p3), .val (.int p4), .val (.int p5), .val (.ref ar), .unset, .unset, .unset, .unset, .unset, .unset, .unset, .unset, .unset, .unset, .unset, .unset, .unset] [])) _
    refine XS.iload X1.here hx rfl (hb hby at_33) rfl ?_
    refine XS.iconst X1.here hx rfl (hb hby at_35) ?_
    refine XS.iushr X1.here hx rfl (hb hby at_36) rfl ?_
    refine XS.bipush X1.here hx rfl (hb hby at_37) ?_
    refine XS.iand X1.here hx rfl (hb hby at_39) rfl ?_
    refine XS.iconst X1.here hx rfl (hb hby at_40) ?_
    show Steps p.tables e below (T1.setTop (mkF m 41 #[.val (.int p1), .val (.int p2), .val (.int p3), .val (.int p4), .val (.int p5), .val (.ref ar), .unset, .unset, .unset, .unset, .unset, .unset, .unset, .unset, .unset, .unset, .unset, .unset, .unset] [(.int (5 : Int32)), (.int (((p5.toUInt32 >>> ((1 : Int32) &&& 31).toUInt32).toInt32) &&& (7 : Int32)))])) _
    refine iremM X1 hx (g := (mkF m 41 #[.val (.int p1), .val (.int p2), .val (.int p3), .val (.int p4), .val (.int p5), .val (.ref ar), .unset, .unset, .unset, .unset, .unset, .unset, .unset, .unset, .unset, .unset, .unset, .unset, .unset] [(.int (5 : Int32)), (.int (((p5.toUInt32 >>> ((1 : Int32) &&& 31).toUInt32).toInt32) &&& (7 : Int32)))])) rfl (hb hby at_41) rfl (by decide) ?_
    show Steps p.tables e below (T1.setTop (mkF m 42 #[.val (.int p1), .val (.int p2), .val (.int p3), .val (.int p4), .val (.int p5), .val (.ref ar), .unset, .unset, .unset, .unset, .unset, .unset, .unset, .unset, .unset, .unset, .unset, .unset, .unset] [(.int ((((p5.toUInt32 >>> ((1 : Int32) &&& 31).toUInt32).toInt32) &&& (7 : Int32)) % (5 : Int32)))])) _
    rw [hn5]
    show Steps p.tables e below (T1.setTop (mkF m 42 #[.val (.int p1), .val (.int p2), .val (.int p3), .val (.int p4), .val (.int p5), .val (.ref ar), .unset, .unset, .unset, .unset, .unset, .unset, .unset, .unset, .unset, .unset, .unset, .unset, .unset] [(.int (Int32.ofNat n))])) _
    refine XS.istore X1.here hx rfl (hb hby at_42) rfl (l' := #[.val (.int p1), .val (.int p2), .val (.int p3), .val (.int p4), .val (.int p5), .val (.ref ar), .val (.int (Int32.ofNat n)), .unset, .unset, .unset, .unset, .unset, .unset, .unset, .unset, .unset, .unset, .unset, .unset]) rfl ?_
    refine XS.iload X1.here hx rfl (hb hby at_44) rfl ?_
    refine XS.iconst X1.here hx rfl (hb hby at_46) ?_
    refine XS.iand X1.here hx rfl (hb hby at_47) rfl ?_
    refine XS.ifYes X1.here hx rfl (pc0 := 48) (pc' := 61) rfl (hb hby at_48) rfl ((if0 _ _).trans (teq hc48).1) (by decide) (by decide) ?_
    refine XS.iconst X1.here hx rfl (hb hby at_61) ?_
    refine XS.istore X1.here hx rfl (hb hby at_62) rfl (l' := #[.val (.int p1), .val (.int p2), .val (.int p3), .val (.int p4), .val (.int p5), .val (.ref ar), .val (.int (Int32.ofNat n)), .val (.int (0 : Int32)), .unset, .unset, .unset, .unset, .unset, .unset, .unset, .unset, .unset, .unset, .unset]) rfl ?_
    refine XS.iload X1.here hx rfl (hb hby at_64) rfl ?_
    refine XS.ifYes X1.here hx rfl (pc0 := 66) (pc' := 73) rfl (hb hby at_66) rfl ((if0 _ _).trans (teq (by decide : (0 : Int32) = (0 : Int32))).1) (by decide) (by decide) ?_
    refine XS.iconst X1.here hx rfl (hb hby at_73) ?_
    refine XS.istore X1.here hx rfl (hb hby at_74) rfl (l' := #[.val (.int p1), .val (.int p2), .val (.int p3), .val (.int p4), .val (.int p5), .val (.ref ar), .val (.int (Int32.ofNat n)), .val (.int (0 : Int32)), .val (.int (0 : Int32)), .unset, .unset, .unset, .unset, .unset, .unset, .unset, .unset, .unset, .unset]) rfl ?_
    show Steps p.tables e below (T1.setTop (mkF m 76 #[.val (.int p1), .val (.int p2), .val (.int p3), .val (.int p4), .val (.int p5), .val (.ref ar), .val (.int (Int32.ofNat n)), .val (.int (0 : Int32)), .val (.int (0 : Int32)), .unset, .unset, .unset, .unset, .unset, .unset, .unset, .unset, .unset, .unset] [])) _
    refine XS.iload X1.here hx rfl (hb hby at_76) rfl ?_
    refine XS.istore X1.here hx rfl (hb hby at_78) rfl (l' := #[.val (.int p1), .val (.int p2), .val (.int p3), .val (.int p4), .val (.int p5), .val (.ref ar), .val (.int (Int32.ofNat n)), .val (.int (0 : Int32)), .val (.int (0 : Int32)), .val (.int (0 : Int32)), .unset, .unset, .unset, .unset, .unset, .unset, .unset, .unset, .unset]) rfl ?_
    show Steps p.tables e below (T1.setTop (mkF m 80 #[.val (.int p1), .val (.int p2), .val (.int p3), .val (.int p4), .val (.int p5), .val (.ref ar), .val (.int (Int32.ofNat n)), .val (.int (0 : Int32)), .val (.int (0 : Int32)), .val (.int (Int32.ofNat 0)), .unset, .unset, .unset, .unset, .unset, .unset, .unset, .unset, .unset] [])) _
    show Steps p.tables e below (T1.setTop (mkF m 80 #[.val (.int p1), .val (.int p2), .val (.int p3), .val (.int p4), .val (.int p5), .val (.ref ar), .val (.int (Int32.ofNat n)), .val (.int (0 : Int32)), .val (.int (0 : Int32)), .val (.int (Int32.ofNat 0)), .unset, .unset, .unset, .unset, .unset, .unset, .unset, .unset, .unset] [])) _
    refine stv0 _ ?_
    show Steps p.tables e below (Tv0.setTop (mkF m 101 #[.val (.int p1), .val (.int p2), .val (.int p3), .val (.int p4), .val (.int p5), .val (.ref ar), .val (.int (Int32.ofNat n)), .val (.int (0 : Int32)), .val (.int (0 : Int32)), .val (.int (Int32.ofNat (own_step as n 0))), .unset, .unset, .unset, .unset, .unset, .unset, .unset, .unset, .unset] [])) _
    refine stv1 _ ?_
    show Steps p.tables e below (Tv1.setTop (mkF m 122 #[.val (.int p1), .val (.int p2), .val (.int p3), .val (.int p4), .val (.int p5), .val (.ref ar), .val (.int (Int32.ofNat n)), .val (.int (0 : Int32)), .val (.int (0 : Int32)), .val (.int (Int32.ofNat (own_step as n (own_step as n 0)))), .unset, .unset, .unset, .unset, .unset, .unset, .unset, .unset, .unset] [])) _
    refine stv2 _ ?_
    show Steps p.tables e below (Tv2.setTop (mkF m 143 #[.val (.int p1), .val (.int p2), .val (.int p3), .val (.int p4), .val (.int p5), .val (.ref ar), .val (.int (Int32.ofNat n)), .val (.int (0 : Int32)), .val (.int (0 : Int32)), .val (.int (Int32.ofNat (own_step as n (own_step as n (own_step as n 0))))), .unset, .unset, .unset, .unset, .unset, .unset, .unset, .unset, .unset] [])) _
    refine stv3 _ ?_
    show Steps p.tables e below (Tv3.setTop (mkF m 164 #[.val (.int p1), .val (.int p2), .val (.int p3), .val (.int p4), .val (.int p5), .val (.ref ar), .val (.int (Int32.ofNat n)), .val (.int (0 : Int32)), .val (.int (0 : Int32)), .val (.int (Int32.ofNat (own_step as n (own_step as n (own_step as n (own_step as n 0)))))), .unset, .unset, .unset, .unset, .unset, .unset, .unset, .unset, .unset] [])) _
    rw [(show (own_step as n (own_step as n (own_step as n (own_step as n 0)))) = k from hk)]
    show Steps p.tables e below (Tv3.setTop (mkF m 164 #[.val (.int p1), .val (.int p2), .val (.int p3), .val (.int p4), .val (.int p5), .val (.ref ar), .val (.int (Int32.ofNat n)), .val (.int (0 : Int32)), .val (.int (0 : Int32)), .val (.int (Int32.ofNat k)), .unset, .unset, .unset, .unset, .unset, .unset, .unset, .unset, .unset] [])) _
    show Steps p.tables e below (Tv3.setTop (mkF m 164 #[.val (.int p1), .val (.int p2), .val (.int p3), .val (.int p4), .val (.int p5), .val (.ref ar), .val (.int (Int32.ofNat n)), .val (.int (0 : Int32)), .val (.int (0 : Int32)), .val (.int (Int32.ofNat k)), .unset, .unset, .unset, .unset, .unset, .unset, .unset, .unset, .unset] [])) _
    refine XS.aload Xv3.here hx rfl (hb hby at_164) rfl rfl ?_
    refine XS.iconst Xv3.here hx rfl (hb hby at_166) ?_
    refine XS.iload Xv3.here hx rfl (hb hby at_167) rfl ?_
    show Steps p.tables e below (Tv3.setTop (mkF m 169 #[.val (.int p1), .val (.int p2), .val (.int p3), .val (.int p4), .val (.int p5), .val (.ref ar), .val (.int (Int32.ofNat n)), .val (.int (0 : Int32)), .val (.int (0 : Int32)), .val (.int (Int32.ofNat k)), .unset, .unset, .unset, .unset, .unset, .unset, .unset, .unset, .unset] [(.int (Int32.ofNat n)), (.int (0 : Int32)), (.ref ar)])) _
    refine st11.trans ?_
    show Steps p.tables e below (T11.setTop (mkF m 172 #[.val (.int p1), .val (.int p2), .val (.int p3), .val (.int p4), .val (.int p5), .val (.ref ar), .val (.int (Int32.ofNat n)), .val (.int (0 : Int32)), .val (.int (0 : Int32)), .val (.int (Int32.ofNat k)), .unset, .unset, .unset, .unset, .unset, .unset, .unset, .unset, .unset] [(.ref x11)])) _
    refine XS.astore X11.here hx rfl (hb hby at_172) rfl rfl (l' := #[.val (.int p1), .val (.int p2), .val (.int p3), .val (.int p4), .val (.int p5), .val (.ref ar), .val (.int (Int32.ofNat n)), .val (.int (0 : Int32)), .val (.int (0 : Int32)), .val (.int (Int32.ofNat k)), .val (.ref x11), .unset, .unset, .unset, .unset, .unset, .unset, .unset, .unset]) rfl ?_
    refine XS.aload X11.here hx rfl (hb hby at_174) rfl rfl ?_
    refine XS.iconst X11.here hx rfl (hb hby at_176) ?_
    refine XS.iconst X11.here hx rfl (hb hby at_177) ?_
    show Steps p.tables e below (T11.setTop (mkF m 178 #[.val (.int p1), .val (.int p2), .val (.int p3), .val (.int p4), .val (.int p5), .val (.ref ar), .val (.int (Int32.ofNat n)), .val (.int (0 : Int32)), .val (.int (0 : Int32)), .val (.int (Int32.ofNat k)), .val (.ref x11), .unset, .unset, .unset, .unset, .unset, .unset, .unset, .unset] [(.int (1 : Int32)), (.int (0 : Int32)), (.ref ar)])) _
    refine st13.trans ?_
    show Steps p.tables e below (T13.setTop (mkF m 181 #[.val (.int p1), .val (.int p2), .val (.int p3), .val (.int p4), .val (.int p5), .val (.ref ar), .val (.int (Int32.ofNat n)), .val (.int (0 : Int32)), .val (.int (0 : Int32)), .val (.int (Int32.ofNat k)), .val (.ref x11), .unset, .unset, .unset, .unset, .unset, .unset, .unset, .unset] [(.ref x13)])) _
    refine XS.astore X13.here hx rfl (hb hby at_181) rfl rfl (l' := #[.val (.int p1), .val (.int p2), .val (.int p3), .val (.int p4), .val (.int p5), .val (.ref ar), .val (.int (Int32.ofNat n)), .val (.int (0 : Int32)), .val (.int (0 : Int32)), .val (.int (Int32.ofNat k)), .val (.ref x11), .val (.ref x13), .unset, .unset, .unset, .unset, .unset, .unset, .unset]) rfl ?_
    refine XS.aload X13.here hx rfl (hb hby at_183) rfl rfl ?_
    refine XS.iload X13.here hx rfl (hb hby at_185) rfl ?_
    refine XS.iload X13.here hx rfl (hb hby at_187) rfl ?_
    show Steps p.tables e below (T13.setTop (mkF m 189 #[.val (.int p1), .val (.int p2), .val (.int p3), .val (.int p4), .val (.int p5), .val (.ref ar), .val (.int (Int32.ofNat n)), .val (.int (0 : Int32)), .val (.int (0 : Int32)), .val (.int (Int32.ofNat k)), .val (.ref x11), .val (.ref x13), .unset, .unset, .unset, .unset, .unset, .unset, .unset] [(.int (Int32.ofNat n)), (.int (Int32.ofNat k)), (.ref ar)])) _
    refine st16.trans ?_
    show Steps p.tables e below (T16.setTop (mkF m 192 #[.val (.int p1), .val (.int p2), .val (.int p3), .val (.int p4), .val (.int p5), .val (.ref ar), .val (.int (Int32.ofNat n)), .val (.int (0 : Int32)), .val (.int (0 : Int32)), .val (.int (Int32.ofNat k)), .val (.ref x11), .val (.ref x13), .unset, .unset, .unset, .unset, .unset, .unset, .unset] [(.ref x16)])) _
    refine XS.astore X16.here hx rfl (hb hby at_192) rfl rfl (l' := #[.val (.int p1), .val (.int p2), .val (.int p3), .val (.int p4), .val (.int p5), .val (.ref ar), .val (.int (Int32.ofNat n)), .val (.int (0 : Int32)), .val (.int (0 : Int32)), .val (.int (Int32.ofNat k)), .val (.ref x11), .val (.ref x13), .val (.ref x16), .unset, .unset, .unset, .unset, .unset, .unset]) rfl ?_
    show Steps p.tables e below (T16.setTop (mkF m 194 #[.val (.int p1), .val (.int p2), .val (.int p3), .val (.int p4), .val (.int p5), .val (.ref ar), .val (.int (Int32.ofNat n)), .val (.int (0 : Int32)), .val (.int (0 : Int32)), .val (.int (Int32.ofNat k)), .val (.ref x11), .val (.ref x13), .val (.ref x16), .unset, .unset, .unset, .unset, .unset, .unset] [])) _
    refine st19 _ ?_
    show Steps p.tables e below (T19.setTop (mkF m 197 #[.val (.int p1), .val (.int p2), .val (.int p3), .val (.int p4), .val (.int p5), .val (.ref ar), .val (.int (Int32.ofNat n)), .val (.int (0 : Int32)), .val (.int (0 : Int32)), .val (.int (Int32.ofNat k)), .val (.ref x11), .val (.ref x13), .val (.ref x16), .unset, .unset, .unset, .unset, .unset, .unset] [(.ref b19)])) _
    refine XS.dup X19.here hx rfl (hb hby at_197) rfl rfl ?_
    show Steps p.tables e below (T19.setTop (mkF m 198 #[.val (.int p1), .val (.int p2), .val (.int p3), .val (.int p4), .val (.int p5), .val (.ref ar), .val (.int (Int32.ofNat n)), .val (.int (0 : Int32)), .val (.int (0 : Int32)), .val (.int (Int32.ofNat k)), .val (.ref x11), .val (.ref x13), .val (.ref x16), .unset, .unset, .unset, .unset, .unset, .unset] [(.ref b19), (.ref b19)])) _
    refine st20 _ ?_
    show Steps p.tables e below (T20.setTop (mkF m 200 #[.val (.int p1), .val (.int p2), .val (.int p3), .val (.int p4), .val (.int p5), .val (.ref ar), .val (.int (Int32.ofNat n)), .val (.int (0 : Int32)), .val (.int (0 : Int32)), .val (.int (Int32.ofNat k)), .val (.ref x11), .val (.ref x13), .val (.ref x16), .unset, .unset, .unset, .unset, .unset, .unset] [(.ref b20), (.ref b19), (.ref b19)])) _
    refine XS.aload X20.here hx rfl (hb hby at_200) rfl rfl ?_
    show Steps p.tables e below (T20.setTop (mkF m 202 #[.val (.int p1), .val (.int p2), .val (.int p3), .val (.int p4), .val (.int p5), .val (.ref ar), .val (.int (Int32.ofNat n)), .val (.int (0 : Int32)), .val (.int (0 : Int32)), .val (.int (Int32.ofNat k)), .val (.ref x11), .val (.ref x13), .val (.ref x16), .unset, .unset, .unset, .unset, .unset, .unset] [(.ref x11), (.ref b20), (.ref b19), (.ref b19)])) _
    refine st22 _ ?_
    show Steps p.tables e below (T22.setTop (mkF m 204 #[.val (.int p1), .val (.int p2), .val (.int p3), .val (.int p4), .val (.int p5), .val (.ref ar), .val (.int (Int32.ofNat n)), .val (.int (0 : Int32)), .val (.int (0 : Int32)), .val (.int (Int32.ofNat k)), .val (.ref x11), .val (.ref x13), .val (.ref x16), .unset, .unset, .unset, .unset, .unset, .unset] [(.ref b22), (.ref x11), (.ref b20), (.ref b19), (.ref b19)])) _
    refine st23.trans ?_
    show Steps p.tables e below (T23.setTop (mkF m 207 #[.val (.int p1), .val (.int p2), .val (.int p3), .val (.int p4), .val (.int p5), .val (.ref ar), .val (.int (Int32.ofNat n)), .val (.int (0 : Int32)), .val (.int (0 : Int32)), .val (.int (Int32.ofNat k)), .val (.ref x11), .val (.ref x13), .val (.ref x16), .unset, .unset, .unset, .unset, .unset, .unset] [(.ref b19)])) _
    refine XS.astore X23.here hx rfl (hb hby at_207) rfl rfl (l' := #[.val (.int p1), .val (.int p2), .val (.int p3), .val (.int p4), .val (.int p5), .val (.ref ar), .val (.int (Int32.ofNat n)), .val (.int (0 : Int32)), .val (.int (0 : Int32)), .val (.int (Int32.ofNat k)), .val (.ref x11), .val (.ref x13), .val (.ref x16), .val (.ref b19), .unset, .unset, .unset, .unset, .unset]) rfl ?_
    refine XS.iconst X23.here hx rfl (hb hby at_209) ?_
    refine XS.istore X23.here hx rfl (hb hby at_210) rfl (l' := #[.val (.int p1), .val (.int p2), .val (.int p3), .val (.int p4), .val (.int p5), .val (.ref ar), .val (.int (Int32.ofNat n)), .val (.int (0 : Int32)), .val (.int (0 : Int32)), .val (.int (Int32.ofNat k)), .val (.ref x11), .val (.ref x13), .val (.ref x16), .val (.ref b19), .val (.int (1 : Int32)), .unset, .unset, .unset, .unset]) rfl ?_
    refine XS.iload X23.here hx rfl (hb hby at_212) rfl ?_
    refine XS.ifYes X23.here hx rfl (pc0 := 214) (pc' := 226) rfl (hb hby at_214) rfl ((if0 _ _).trans (teq (by decide : (0 : Int32) = (0 : Int32))).1) (by decide) (by decide) ?_
    refine XS.aload X23.here hx rfl (hb hby at_226) rfl rfl ?_
    show Steps p.tables e below (T23.setTop (mkF m 228 #[.val (.int p1), .val (.int p2), .val (.int p3), .val (.int p4), .val (.int p5), .val (.ref ar), .val (.int (Int32.ofNat n)), .val (.int (0 : Int32)), .val (.int (0 : Int32)), .val (.int (Int32.ofNat k)), .val (.ref x11), .val (.ref x13), .val (.ref x16), .val (.ref b19), .val (.int (1 : Int32)), .unset, .unset, .unset, .unset] [(.ref b19)])) _
    refine st29.trans ?_
    show Steps p.tables e below (T29.setTop (mkF m 231 #[.val (.int p1), .val (.int p2), .val (.int p3), .val (.int p4), .val (.int p5), .val (.ref ar), .val (.int (Int32.ofNat n)), .val (.int (0 : Int32)), .val (.int (0 : Int32)), .val (.int (Int32.ofNat k)), .val (.ref x11), .val (.ref x13), .val (.ref x16), .val (.ref b19), .val (.int (1 : Int32)), .unset, .unset, .unset, .unset] [(.int (own_f k ((as.drop 0).take n).length))])) _
    rw [(show own_f k ((as.drop 0).take n).length = own_f k n by rw [hTl])]
    show Steps p.tables e below (T29.setTop (mkF m 231 #[.val (.int p1), .val (.int p2), .val (.int p3), .val (.int p4), .val (.int p5), .val (.ref ar), .val (.int (Int32.ofNat n)), .val (.int (0 : Int32)), .val (.int (0 : Int32)), .val (.int (Int32.ofNat k)), .val (.ref x11), .val (.ref x13), .val (.ref x16), .val (.ref b19), .val (.int (1 : Int32)), .unset, .unset, .unset, .unset] [(.int (own_f k n))])) _
    refine XS.istore X29.here hx rfl (hb hby at_231) rfl (l' := #[.val (.int p1), .val (.int p2), .val (.int p3), .val (.int p4), .val (.int p5), .val (.ref ar), .val (.int (Int32.ofNat n)), .val (.int (0 : Int32)), .val (.int (0 : Int32)), .val (.int (Int32.ofNat k)), .val (.ref x11), .val (.ref x13), .val (.ref x16), .val (.ref b19), .val (.int (1 : Int32)), .val (.int (own_f k n)), .unset, .unset, .unset]) rfl ?_
    refine XS.aload X29.here hx rfl (hb hby at_233) rfl rfl ?_
    show Steps p.tables e below (T29.setTop (mkF m 235 #[.val (.int p1), .val (.int p2), .val (.int p3), .val (.int p4), .val (.int p5), .val (.ref ar), .val (.int (Int32.ofNat n)), .val (.int (0 : Int32)), .val (.int (0 : Int32)), .val (.int (Int32.ofNat k)), .val (.ref x11), .val (.ref x13), .val (.ref x16), .val (.ref b19), .val (.int (1 : Int32)), .val (.int (own_f k n)), .unset, .unset, .unset] [(.ref b19)])) _
    refine st35.trans ?_
    show Steps p.tables e below (T35.setTop (mkF m 238 #[.val (.int p1), .val (.int p2), .val (.int p3), .val (.int p4), .val (.int p5), .val (.ref ar), .val (.int (Int32.ofNat n)), .val (.int (0 : Int32)), .val (.int (0 : Int32)), .val (.int (Int32.ofNat k)), .val (.ref x11), .val (.ref x13), .val (.ref x16), .val (.ref b19), .val (.int (1 : Int32)), .val (.int (own_f k n)), .unset, .unset, .unset] [(.int (own_f k ((as.drop 0).take n).length))])) _
    rw [(show own_f k ((as.drop 0).take n).length = own_f k n by rw [hTl])]
    show Steps p.tables e below (T35.setTop (mkF m 238 #[.val (.int p1), .val (.int p2), .val (.int p3), .val (.int p4), .val (.int p5), .val (.ref ar), .val (.int (Int32.ofNat n)), .val (.int (0 : Int32)), .val (.int (0 : Int32)), .val (.int (Int32.ofNat k)), .val (.ref x11), .val (.ref x13), .val (.ref x16), .val (.ref b19), .val (.int (1 : Int32)), .val (.int (own_f k n)), .unset, .unset, .unset] [(.int (own_f k n))])) _
    refine XS.istore X35.here hx rfl (hb hby at_238) rfl (l' := #[.val (.int p1), .val (.int p2), .val (.int p3), .val (.int p4), .val (.int p5), .val (.ref ar), .val (.int (Int32.ofNat n)), .val (.int (0 : Int32)), .val (.int (0 : Int32)), .val (.int (Int32.ofNat k)), .val (.ref x11), .val (.ref x13), .val (.ref x16), .val (.ref b19), .val (.int (1 : Int32)), .val (.int (own_f k n)), .val (.int (own_f k n)), .unset, .unset]) rfl ?_
    refine XS.aload X35.here hx rfl (hb hby at_240) rfl rfl ?_
    refine XS.aload X35.here hx rfl (hb hby at_242) rfl rfl ?_
    show Steps p.tables e below (T35.setTop (mkF m 244 #[.val (.int p1), .val (.int p2), .val (.int p3), .val (.int p4), .val (.int p5), .val (.ref ar), .val (.int (Int32.ofNat n)), .val (.int (0 : Int32)), .val (.int (0 : Int32)), .val (.int (Int32.ofNat k)), .val (.ref x11), .val (.ref x13), .val (.ref x16), .val (.ref b19), .val (.int (1 : Int32)), .val (.int (own_f k n)), .val (.int (own_f k n)), .unset, .unset] [(.ref x16), (.ref b19)])) _
    refine st41.trans ?_
    show Steps p.tables e below (T41.setTop (mkF m 247 #[.val (.int p1), .val (.int p2), .val (.int p3), .val (.int p4), .val (.int p5), .val (.ref ar), .val (.int (Int32.ofNat n)), .val (.int (0 : Int32)), .val (.int (0 : Int32)), .val (.int (Int32.ofNat k)), .val (.ref x11), .val (.ref x13), .val (.ref x16), .val (.ref b19), .val (.int (1 : Int32)), .val (.int (own_f k n)), .val (.int (own_f k n)), .unset, .unset] [(.int (1 : Int32))])) _
    refine XS.istore X41.here hx rfl (hb hby at_247) rfl (l' := #[.val (.int p1), .val (.int p2), .val (.int p3), .val (.int p4), .val (.int p5), .val (.ref ar), .val (.int (Int32.ofNat n)), .val (.int (0 : Int32)), .val (.int (0 : Int32)), .val (.int (Int32.ofNat k)), .val (.ref x11), .val (.ref x13), .val (.ref x16), .val (.ref b19), .val (.int (1 : Int32)), .val (.int (own_f k n)), .val (.int (own_f k n)), .val (.int (1 : Int32)), .unset]) rfl ?_
    refine XS.aload X41.here hx rfl (hb hby at_249) rfl rfl ?_
    show Steps p.tables e below (T41.setTop (mkF m 251 #[.val (.int p1), .val (.int p2), .val (.int p3), .val (.int p4), .val (.int p5), .val (.ref ar), .val (.int (Int32.ofNat n)), .val (.int (0 : Int32)), .val (.int (0 : Int32)), .val (.int (Int32.ofNat k)), .val (.ref x11), .val (.ref x13), .val (.ref x16), .val (.ref b19), .val (.int (1 : Int32)), .val (.int (own_f k n)), .val (.int (own_f k n)), .val (.int (1 : Int32)), .unset] [(.ref b19)])) _
    refine st51.trans ?_
    show Steps p.tables e below (T51.setTop (mkF m 254 #[.val (.int p1), .val (.int p2), .val (.int p3), .val (.int p4), .val (.int p5), .val (.ref ar), .val (.int (Int32.ofNat n)), .val (.int (0 : Int32)), .val (.int (0 : Int32)), .val (.int (Int32.ofNat k)), .val (.ref x11), .val (.ref x13), .val (.ref x16), .val (.ref b19), .val (.int (1 : Int32)), .val (.int (own_f k n)), .val (.int (own_f k n)), .val (.int (1 : Int32)), .unset] [(.int (own_f n ((as.drop 0).take n).length))])) _
    rw [(show own_f n ((as.drop 0).take n).length = (0 : Int32) by rw [hTl]; exact own_f_self n)]
    show Steps p.tables e below (T51.setTop (mkF m 254 #[.val (.int p1), .val (.int p2), .val (.int p3), .val (.int p4), .val (.int p5), .val (.ref ar), .val (.int (Int32.ofNat n)), .val (.int (0 : Int32)), .val (.int (0 : Int32)), .val (.int (Int32.ofNat k)), .val (.ref x11), .val (.ref x13), .val (.ref x16), .val (.ref b19), .val (.int (1 : Int32)), .val (.int (own_f k n)), .val (.int (own_f k n)), .val (.int (1 : Int32)), .unset] [(.int (0 : Int32))])) _
    refine XS.istore X51.here hx rfl (hb hby at_254) rfl (l' := #[.val (.int p1), .val (.int p2), .val (.int p3), .val (.int p4), .val (.int p5), .val (.ref ar), .val (.int (Int32.ofNat n)), .val (.int (0 : Int32)), .val (.int (0 : Int32)), .val (.int (Int32.ofNat k)), .val (.ref x11), .val (.ref x13), .val (.ref x16), .val (.ref b19), .val (.int (1 : Int32)), .val (.int (own_f k n)), .val (.int (own_f k n)), .val (.int (1 : Int32)), .val (.int (0 : Int32))]) rfl ?_
    show Steps p.tables e below (T51.setTop (mkF m 256 #[.val (.int p1), .val (.int p2), .val (.int p3), .val (.int p4), .val (.int p5), .val (.ref ar), .val (.int (Int32.ofNat n)), .val (.int (0 : Int32)), .val (.int (0 : Int32)), .val (.int (Int32.ofNat k)), .val (.ref x11), .val (.ref x13), .val (.ref x16), .val (.ref b19), .val (.int (1 : Int32)), .val (.int (own_f k n)), .val (.int (own_f k n)), .val (.int (1 : Int32)), .val (.int (0 : Int32))] [])) _
    refine stv9 _ ?_
    show Steps p.tables e below (Tv9.setTop (mkF m 278 #[.val (.int p1), .val (.int p2), .val (.int p3), .val (.int p4), .val (.int p5), .val (.ref ar), .val (.int (Int32.ofNat n)), .val (.int (0 : Int32)), .val (.int (0 : Int32)), .val (.int (Int32.ofNat k)), .val (.ref x11), .val (.ref x13), .val (.ref x16), .val (.ref b19), .val (.int (1 : Int32)), .val (.int (own_f k n)), .val (.int (own_f k n)), .val (.int (1 : Int32)), .val (.int (0 : Int32))] [])) _
    refine XS.iload Xv9.here hx rfl (hb hby at_278) rfl ?_
    refine XS.iload Xv9.here hx rfl (hb hby at_280) rfl ?_
    refine XS.icmpNo Xv9.here hx rfl (hb hby at_282) rfl (teq (rfl : (own_f k n) = (own_f k n))).2 ?_
    refine XS.iload Xv9.here hx rfl (hb hby at_285) rfl ?_
    refine XS.ifNo Xv9.here hx rfl (hb hby at_287) rfl ((if0 _ _).trans (feq (by decide : ¬ ((1 : Int32) = (0 : Int32)))).1) ?_
    refine XS.iload Xv9.here hx rfl (hb hby at_290) rfl ?_
    refine XS.ifNo Xv9.here hx rfl (hb hby at_292) rfl ((if0 _ _).trans (teq (by decide : (0 : Int32) = (0 : Int32))).2) ?_
    refine XS.iconst Xv9.here hx rfl (hb hby at_295) ?_
    refine XS.goto Xv9.here hx rfl (pc0 := 296) (pc' := 300) rfl (hb hby at_296) (by decide) (by decide) ?_
    show Steps p.tables e below (Tv9.setTop (mkF m 300 #[.val (.int p1), .val (.int p2), .val (.int p3), .val (.int p4), .val (.int p5), .val (.ref ar), .val (.int (Int32.ofNat n)), .val (.int (0 : Int32)), .val (.int (0 : Int32)), .val (.int (Int32.ofNat k)), .val (.ref x11), .val (.ref x13), .val (.ref x16), .val (.ref b19), .val (.int (1 : Int32)), .val (.int (own_f k n)), .val (.int (own_f k n)), .val (.int (1 : Int32)), .val (.int (0 : Int32))] [(.int (1 : Int32))])) _
    exact retN Xv9 hx (t := .boolean) Bd.returns (by simp) (hb hby at_300) hr
  · show Q0 Z  h0 n0 _ Tv9.heap _
    rw [ev9b]
    exact ⟨rfl, Nv9⟩
set_option maxRecDepth 65536 in
set_option maxHeartbeats 40000000 in
theorem rm0_ft (l : Launch) (Z : State) (a0 : Array Value) (hw : ∀ d ∈ tables_1, d.before a0 Z = true) (ws : List Jvm.Cond) (G1 : Int32) (G3 : Value) (p1 : Int32) (p2 : Int32) (p3 : Int32) (p4 : Int32) (p5 : Int32) (n : Nat) (h0 : Heap) (n0 : Nat) (Z0 : n0 ≤ h0.size) (EN : own_env Z G1 G3) (X00 : Old Z n0 h0) (hn5 : ((((p5.toUInt32 >>> ((1 : Int32) &&& 31).toUInt32).toInt32) &&& (7 : Int32)) % (5 : Int32)) = (Int32.ofNat n)) (hn : n ≤ 4) (hc48 : ¬ ((p5 &&& (1 : Int32)) = (0 : Int32))) (hc54 : (Int32.ofNat n) < (1 : Int32)) :
    MetFree l x (head1 (Jvm.Cond.code x code maxLocals ret :: ws) room_1) (fun a_ U_ => a_ = #[(.int p1), (.int p2), (.int p3), (.int p4), (.int p5)] ∧ Z.Warmed39 U_.vm ∧ U_.heap = h0 ∧ CHv Z consts_1 U_.vm h0) (fun _ _ _ _ _ => True) (fun _ U_ o_ U1_ => ∃ v_ L_, o_ = .returned v_ ∧ Q0 Z  h0 n0 v_ U1_.heap L_ ∧ ReturnedEndW U_ o_ U1_ L_ 40 3264) := by
  refine MetFree.of_bodySF (plainFor_of_name pn_0) hisR ?_
  intro p e s m args below meth c s₁ Bd hml0 hP hK
  obtain ⟨rfl, hZ, hh, H0⟩ := hP
  have hx := Bd.exec
  have hby := Bd.bytes
  have hml : c.maxLocals = 19 := hml0
  have hown : s.vm.findClass "com/example/atomize/atomize/http/FieldValueReaderNextElementPinLaw" = some m.cls := findClass_of_methodNamed Bd.named
  have hnm := (name_of_methodNamed Bd.named Bd.method).1
  have X0 : Stand p l e room_1 s m #[(.int p1), (.int p2), (.int p3), (.int p4), (.int p5)] below meth c s₁ [] 0 0 := Stand.of_body Bd
  have e0 : s₁.heap = h0 := by rw [← hh, Bd.state]; rfl
  have N0 := Fr.nil n0
  have pre0 : ∀ tt, Steps p.tables e below (s₁.setTop (mkF m 0 #[.val (.int p1), .val (.int p2), .val (.int p3), .val (.int p4), .val (.int p5), .unset, .unset, .unset, .unset, .unset, .unset, .unset, .unset, .unset, .unset, .unset, .unset, .unset, .unset] [])) tt → Steps p.tables e below (s₁.setTop (entryFrame m #[(.int p1), (.int p2), (.int p3), (.int p4), (.int p5)] maxLocals)) tt := fun tt kk => castTop (ef_0_rrrrr m p1 p2 p3 p4 p5) kk
  have hS0 : s.Since s.vm 0 := (State.WarmedH.refl s).since 0
  have hk0 : 0 ≤ h0.size := Nat.zero_le _
  have EN0 := EN
  obtain ⟨O2, P5, O4, rG3⟩ := EN
  have hws : ∀ d ∈ StrChars.Road.words, d.before a0 Z = true := fun d hd => hw d (own_w1 d hd)
  have hwl : ∀ d ∈ StrChars.Road.wordsLen, d.before a0 Z = true := fun d hd => hw d (own_w2 d hd)
  have hwc : ∀ d ∈ StrChars.Road.wordsChN, d.before a0 Z = true := fun d hd => hw d (own_w3 d hd)
  obtain ⟨T1, h1, L1, ar, ka, as, X1, e1, N1, Z1, O1, K1, V1, g_ar, sz_ar, h4, hc8, st1⟩ := fr1 G1 G3 p1 p2 p3 p4 p5 h0 n0 X0 hx hZ hw hby hml hown e0 N0 Z0 EN0 X00
  have ha : as.length < 2 ^ 31 := by omega
  have hs : 0 ≤ n := Nat.zero_le _
  have hb0 : 0 ≤ 4 := by omega
  have hq0 : 0 ≤ n := hs
  obtain ⟨Tv0, hv0, Lv0, Xv0, ev0, Nv0, Zv0, hhv0, stv0⟩ := stp0 p1 p2 p3 p4 p5 ar ka as n 0 (0 : Int32) (0 : Int32) h1 n0 X1 hx hZ hw hby hml hown e1 N1 (Nat.le_trans Z0 K1.1) V1 h4 hn (by omega)
  have ev0b := ev0.trans hhv0
  have hq1 : (own_step as n 0) ≤ n := own_step_le hq0
  obtain ⟨Tv1, hv1, Lv1, Xv1, ev1, Nv1, Zv1, hhv1, stv1⟩ := stp1 p1 p2 p3 p4 p5 ar ka as n (own_step as n 0) (0 : Int32) (0 : Int32) h1 n0 Xv0 hx hZ hw hby hml hown ev0b Nv0 (Nat.le_trans Z0 K1.1) V1 h4 hn (by omega)
  have ev1b := ev1.trans hhv1
  have hq2 : (own_step as n (own_step as n 0)) ≤ n := own_step_le hq1
  obtain ⟨Tv2, hv2, Lv2, Xv2, ev2, Nv2, Zv2, hhv2, stv2⟩ := stp2 p1 p2 p3 p4 p5 ar ka as n (own_step as n (own_step as n 0)) (0 : Int32) (0 : Int32) h1 n0 Xv1 hx hZ hw hby hml hown ev1b Nv1 (Nat.le_trans Z0 K1.1) V1 h4 hn (by omega)
  have ev2b := ev2.trans hhv2
  have hq3 : (own_step as n (own_step as n (own_step as n 0))) ≤ n := own_step_le hq2
  obtain ⟨Tv3, hv3, Lv3, Xv3, ev3, Nv3, Zv3, hhv3, stv3⟩ := stp3 p1 p2 p3 p4 p5 ar ka as n (own_step as n (own_step as n (own_step as n 0))) (0 : Int32) (0 : Int32) h1 n0 Xv2 hx hZ hw hby hml hown ev2b Nv2 (Nat.le_trans Z0 K1.1) V1 h4 hn (by omega)
  have ev3b := ev3.trans hhv3
  have hq4 : (own_step as n (own_step as n (own_step as n (own_step as n 0)))) ≤ n := own_step_le hq3
  obtain ⟨k, hk⟩ : ∃ k, own_k4 as n 0 = k := ⟨_, rfl⟩
  have hkn : k ≤ n := by rw [← hk]; exact own_k4_le hs
  have hTl : ((as.drop 0).take n).length = n := own_dl (by omega)
  have C12 := CHr.keep ((Keep.refl h0 []).trans K1 all0) sf0 H0
  obtain ⟨_, _, ⟨T11, L11, k11, n11⟩, -, X11', hS11', gr11, ⟨Lc11, hQ11, l11, y11, z11, Cx11⟩, st11⟩ := callSS Xv3 hx (y := (⟨"com/example/atomize/atomize/http/FieldValueReaderNextElementPinLaw", "slice", "([CII)Ljava/lang/String;"⟩ : MethodName)) hown (mvT hZ (hw _ (List.mem_of_getElem? (i := 5) rfl))) (mvT hZ (hw _ (List.mem_of_getElem? (i := 6) rfl))) (mvT hZ (hw _ (List.mem_of_getElem? (i := 3) rfl))) (mvT hZ (hw _ (List.mem_of_getElem? (i := 7) rfl))) (by decide) (backOfSH (W := 0) (s := s) (rmSL l Z a0 hw [] G1 G3 ar ka as 0 n n (Nat.zero_add n).symm (by omega) h1 n0 (Nat.le_trans Z0 K1.1) EN0 O1 V1 hc8 (by omega) ha) hZ (hw _ (List.mem_of_getElem? (i := 7) rfl)) (hw _ (List.mem_of_getElem? (i := 3) rfl)) (by decide) (by decide) (own_EW hw) C12.1) (g := (mkF m 169 #[.val (.int p1), .val (.int p2), .val (.int p3), .val (.int p4), .val (.int p5), .val (.ref ar), .val (.int (Int32.ofNat n)), .val (.int (0 : Int32)), .val (.int (0 : Int32)), .val (.int (Int32.ofNat k)), .unset, .unset, .unset, .unset, .unset, .unset, .unset, .unset, .unset] [(.int (Int32.ofNat n)), (.int (0 : Int32)), (.ref ar)])) rfl (by rw [hml]; rfl) (argsL := [(.ref ar), (.int (0 : Int32)), (.int (Int32.ofNat n))]) (rest := []) (lenOf pd___CII_Ljava_lang_String_ rfl) rfl (by show 2 * 0 + _ ≤ _; exact Nat.le_of_eq rfl) (hb hby at_169) (fun _ _ => ⟨rfl, ev3b, (by decide : 1 + 6 ≤ _), (by decide : 4 + 12 ≤ _)⟩)
  dsimp only [Pt.U, Pt.locs, Pt.cells, Pt.slots] at X11' hS11' gr11 Cx11 l11 y11 z11 st11 hQ11
  subst l11 y11 z11
  obtain ⟨X11, hS11, hZ11, hown11⟩ := rebS (s := s) (vm0 := s.vm) hS0 (by rw [ev3b]; exact (Nat.le_trans hk0 K1.1)) X11' hS11' gr11 hZ hown
  obtain ⟨x11, rfl, Nq11, sz11, Kq11, sq11⟩ := hQ11
  have C11 := CHr.trans C12 Cx11
  have N11 := Fr.app Nv3 Nq11
  have g11x : n0 ≤ x11 := Nat.le_trans (Nat.le_trans Z0 K1.1) sz11
  have lt11 := own_s_lt sq11
  obtain ⟨bs11, ks11, Es11, Cs11, Vs11, Ks11, hps11, hls11⟩ := sq11
  have f14 := (O1.keep Kq11 all0)
  have f15 := (V1.keep Kq11 nin0)
  obtain ⟨_, _, ⟨T13, L13, k13, n13⟩, -, X13', hS13', gr13, ⟨Lc13, hQ13, l13, y13, z13, Cx13⟩, st13⟩ := callSS X11 hx (y := (⟨"com/example/atomize/atomize/http/FieldValueReaderNextElementPinLaw", "slice", "([CII)Ljava/lang/String;"⟩ : MethodName)) hown11 (mvT hZ11 (hw _ (List.mem_of_getElem? (i := 5) rfl))) (mvT hZ11 (hw _ (List.mem_of_getElem? (i := 6) rfl))) (mvT hZ11 (hw _ (List.mem_of_getElem? (i := 3) rfl))) (mvT hZ11 (hw _ (List.mem_of_getElem? (i := 7) rfl))) (by decide) (backOfSH (W := 0) (s := s) (rmSL l Z a0 hw [] G1 G3 ar ka as 0 1 1 rfl (by decide) T11.heap n0 (Nat.le_trans Z0 (Nat.le_trans K1.1 Kq11.1)) EN0 f14 f15 hc8 (by omega) ha) hZ11 (hw _ (List.mem_of_getElem? (i := 7) rfl)) (hw _ (List.mem_of_getElem? (i := 3) rfl)) (by decide) (by decide) (own_EW hw) C11.1) (g := (mkF m 178 #[.val (.int p1), .val (.int p2), .val (.int p3), .val (.int p4), .val (.int p5), .val (.ref ar), .val (.int (Int32.ofNat n)), .val (.int (0 : Int32)), .val (.int (0 : Int32)), .val (.int (Int32.ofNat k)), .val (.ref x11), .unset, .unset, .unset, .unset, .unset, .unset, .unset, .unset] [(.int (1 : Int32)), (.int (0 : Int32)), (.ref ar)])) rfl (by rw [hml]; rfl) (argsL := [(.ref ar), (.int (0 : Int32)), (.int (1 : Int32))]) (rest := []) (lenOf pd___CII_Ljava_lang_String_ rfl) rfl (by show 2 * 0 + _ ≤ _; exact Nat.le_of_eq rfl) (hb hby at_178) (fun _ _ => ⟨rfl, rfl, (by decide : 7 + 6 ≤ _), (by decide : 16 + 12 ≤ _)⟩)
  dsimp only [Pt.U, Pt.locs, Pt.cells, Pt.slots] at X13' hS13' gr13 Cx13 l13 y13 z13 st13 hQ13
  subst l13 y13 z13
  obtain ⟨X13, hS13, hZ13, hown13⟩ := rebS (s := s) (vm0 := T11.vm) hS11 ((Nat.le_refl _)) X13' hS13' gr13 hZ11 hown11
  obtain ⟨x13, rfl, Nq13, sz13, Kq13, sq13⟩ := hQ13
  have C13 := CHr.trans C11 Cx13
  have N13 := Fr.app N11 Nq13
  have g13x : n0 ≤ x13 := Nat.le_trans (Nat.le_trans Z0 (Nat.le_trans K1.1 Kq11.1)) sz13
  have lt13 := own_s_lt sq13
  obtain ⟨bs13, ks13, Es13, Cs13, Vs13, Ks13, hps13, hls13⟩ := sq13
  have f17 := (f14.keep Kq13 all0)
  have f18 := (f15.keep Kq13 nin0)
  obtain ⟨_, _, ⟨T16, L16, k16, n16⟩, -, X16', hS16', gr16, ⟨Lc16, hQ16, l16, y16, z16, Cx16⟩, st16⟩ := callSS X13 hx (y := (⟨"com/example/atomize/atomize/http/FieldValueReaderNextElementPinLaw", "slice", "([CII)Ljava/lang/String;"⟩ : MethodName)) hown13 (mvT hZ13 (hw _ (List.mem_of_getElem? (i := 5) rfl))) (mvT hZ13 (hw _ (List.mem_of_getElem? (i := 6) rfl))) (mvT hZ13 (hw _ (List.mem_of_getElem? (i := 3) rfl))) (mvT hZ13 (hw _ (List.mem_of_getElem? (i := 7) rfl))) (by decide) (backOfSH (W := 0) (s := s) (rmSL l Z a0 hw [] G1 G3 ar ka as k n (n - k) (by omega) (by omega) T13.heap n0 (Nat.le_trans Z0 (Nat.le_trans (Nat.le_trans K1.1 Kq11.1) Kq13.1)) EN0 f17 f18 hc8 (by omega) ha) hZ13 (hw _ (List.mem_of_getElem? (i := 7) rfl)) (hw _ (List.mem_of_getElem? (i := 3) rfl)) (by decide) (by decide) (own_EW hw) C13.1) (g := (mkF m 189 #[.val (.int p1), .val (.int p2), .val (.int p3), .val (.int p4), .val (.int p5), .val (.ref ar), .val (.int (Int32.ofNat n)), .val (.int (0 : Int32)), .val (.int (0 : Int32)), .val (.int (Int32.ofNat k)), .val (.ref x11), .val (.ref x13), .unset, .unset, .unset, .unset, .unset, .unset, .unset] [(.int (Int32.ofNat n)), (.int (Int32.ofNat k)), (.ref ar)])) rfl (by rw [hml]; rfl) (argsL := [(.ref ar), (.int (Int32.ofNat k)), (.int (Int32.ofNat n))]) (rest := []) (lenOf pd___CII_Ljava_lang_String_ rfl) rfl (by show 2 * 0 + _ ≤ _; exact Nat.le_of_eq rfl) (hb hby at_189) (fun _ _ => ⟨rfl, rfl, (by decide : 13 + 6 ≤ _), (by decide : 28 + 12 ≤ _)⟩)
  dsimp only [Pt.U, Pt.locs, Pt.cells, Pt.slots] at X16' hS16' gr16 Cx16 l16 y16 z16 st16 hQ16
  subst l16 y16 z16
  obtain ⟨X16, hS16, hZ16, hown16⟩ := rebS (s := s) (vm0 := T13.vm) hS13 ((Nat.le_refl _)) X16' hS16' gr16 hZ13 hown13
  obtain ⟨x16, rfl, Nq16, sz16, Kq16, sq16⟩ := hQ16
  have C16 := CHr.trans C13 Cx16
  have N16 := Fr.app N13 Nq16
  have g16x : n0 ≤ x16 := Nat.le_trans (Nat.le_trans Z0 (Nat.le_trans (Nat.le_trans K1.1 Kq11.1) Kq13.1)) sz16
  have lt16 := own_s_lt sq16
  obtain ⟨bs16, ks16, Es16, Cs16, Vs16, Ks16, hps16, hls16⟩ := sq16
  obtain ⟨T19, h19, X19, e19, E19, A19, D19, -, st19⟩ := newO X16 hx hZ16 hown16 (hw _ (List.mem_of_getElem? (i := 40) rfl)) (hw _ (List.mem_of_getElem? (i := 41) rfl)) (hw _ (List.mem_of_getElem? (i := 42) rfl)) rfl (g := (mkF m 194 #[.val (.int p1), .val (.int p2), .val (.int p3), .val (.int p4), .val (.int p5), .val (.ref ar), .val (.int (Int32.ofNat n)), .val (.int (0 : Int32)), .val (.int (0 : Int32)), .val (.int (Int32.ofNat k)), .val (.ref x11), .val (.ref x13), .val (.ref x16), .unset, .unset, .unset, .unset, .unset, .unset] [])) rfl (hb hby at_194) (by decide) (by decide)
  obtain ⟨b19, g19⟩ : ∃ z, z = T16.heap.size := ⟨_, rfl⟩
  rw [← g19] at A19 D19 st19
  have g_b19 : n0 ≤ b19 := Nat.le_trans (Nat.le_trans Z0 (Nat.le_trans (Nat.le_trans (Nat.le_trans K1.1 Kq11.1) Kq13.1) Kq16.1)) (Nat.le_of_eq g19.symm)
  have sz_b19 : h0.size ≤ b19 := Nat.le_trans (Nat.le_trans (Nat.le_trans (Nat.le_trans K1.1 Kq11.1) Kq13.1) Kq16.1) (Nat.le_of_eq g19.symm)
  have F19_name : Fld Z h19 b19 "com/example/atomize/atomize/http/FieldValueReader" "name" "Ljava/lang/String;" .null := D19 (Or.inr (hw _ (List.mem_of_getElem? (i := 50) rfl))) (ty := (.object "java/lang/String")) (by decide)
  have F19_text : Fld Z h19 b19 "com/example/atomize/atomize/http/FieldValueReader" "text" "Ljava/lang/String;" .null := D19 (Or.inr (hw _ (List.mem_of_getElem? (i := 52) rfl))) (ty := (.object "java/lang/String")) (by decide)
  have F19_grammar : Fld Z h19 b19 "com/example/atomize/atomize/http/FieldValueReader" "grammar" "Ljava/lang/String;" .null := D19 (Or.inr (hw _ (List.mem_of_getElem? (i := 54) rfl))) (ty := (.object "java/lang/String")) (by decide)
  have F19_position : Fld Z h19 b19 "com/example/atomize/atomize/http/FieldValueReader" "position" "I" (.int (0 : Int32)) := D19 (Or.inl (hw _ (List.mem_of_getElem? (i := 61) rfl))) (ty := .int) (by decide)
  have C21 := CHr.trans C16 (CHr.ext E19 C16.1)
  obtain ⟨b20, T20, h20, k20, d20, kb20, X20, e20, E20, hS20, hk20, hZ20, hown20, Ea20, Ca20, Va20, Ka20, la20, lb20, Cx20, -, ne20, st20⟩ := ldcCH (s := s) (vm0 := T16.vm) X19 hx hZ16 hown16 (hw _ (List.mem_of_getElem? (i := 43) rfl)) (fun d hd => hw d (own_wS d hd)) e19 hS16 (Nat.le_trans (Nat.le_refl _) E19.1) (own_EW hw) own_mem28 C21.1 (vs := [Value.int (Jvm.Lit.byteI 76), Value.int (Jvm.Lit.byteI 105), Value.int (Jvm.Lit.byteI 110), Value.int (Jvm.Lit.byteI 107)]) (z := 4) ⟨by decide, rfl⟩ (by decide) rfl (g := (mkF m 198 #[.val (.int p1), .val (.int p2), .val (.int p3), .val (.int p4), .val (.int p5), .val (.ref ar), .val (.int (Int32.ofNat n)), .val (.int (0 : Int32)), .val (.int (0 : Int32)), .val (.int (Int32.ofNat k)), .val (.ref x11), .val (.ref x13), .val (.ref x16), .unset, .unset, .unset, .unset, .unset, .unset] [(.ref b19), (.ref b19)])) rfl (hb hby at_198) (n := 16) (by decide) (by decide) (by decide) (by decide)
  have C20 := CHr.trans C21 Cx20
  obtain ⟨b22, T22, h22, k22, d22, kb22, X22, e22, E22, hS22, hk22, hZ22, hown22, Ea22, Ca22, Va22, Ka22, la22, lb22, Cx22, -, ne22, st22⟩ := ldcCH (s := s) (vm0 := T20.vm) X20 hx hZ20 hown20 (hw _ (List.mem_of_getElem? (i := 44) rfl)) (fun d hd => hw d (own_wS d hd)) e20 hS20 hk20 (own_EW hw) own_mem30 C20.1 (vs := [Value.int (Jvm.Lit.byteI 97), Value.int (Jvm.Lit.byteI 32), Value.int (Jvm.Lit.byteI 108), Value.int (Jvm.Lit.byteI 105), Value.int (Jvm.Lit.byteI 115), Value.int (Jvm.Lit.byteI 116), Value.int (Jvm.Lit.byteI 32), Value.int (Jvm.Lit.byteI 111), Value.int (Jvm.Lit.byteI 102), Value.int (Jvm.Lit.byteI 32), Value.int (Jvm.Lit.byteI 108), Value.int (Jvm.Lit.byteI 105), Value.int (Jvm.Lit.byteI 110), Value.int (Jvm.Lit.byteI 107), Value.int (Jvm.Lit.byteI 115)]) (z := 15) ⟨by decide, rfl⟩ (by decide) rfl (g := (mkF m 202 #[.val (.int p1), .val (.int p2), .val (.int p3), .val (.int p4), .val (.int p5), .val (.ref ar), .val (.int (Int32.ofNat n)), .val (.int (0 : Int32)), .val (.int (0 : Int32)), .val (.int (Int32.ofNat k)), .val (.ref x11), .val (.ref x13), .val (.ref x16), .unset, .unset, .unset, .unset, .unset, .unset] [(.ref x11), (.ref b20), (.ref b19), (.ref b19)])) rfl (hb hby at_202) (n := 60) (by decide) (by decide) (by decide) (by decide)
  have C22 := CHr.trans C20 Cx22
  have f24 := ((A19.ext E20).ext E22)
  have f25 := ((F19_name.ext E20).ext E22)
  have f26 := ((F19_text.ext E20).ext E22)
  have f27 := ((F19_grammar.ext E20).ext E22)
  have f28 := ((F19_position.ext E20).ext E22)
  obtain ⟨_, _, ⟨T23, L23, k23, n23⟩, -, X23, ⟨Lc23, hQ23, l23, y23, z23⟩, st23⟩ := X22.specialBack hx (y := (⟨"com/example/atomize/atomize/http/FieldValueReader", "<init>", "(Ljava/lang/String;Ljava/lang/String;Ljava/lang/String;)V"⟩ : MethodName)) rfl hown22 (mvT hZ22 (hw _ (List.mem_of_getElem? (i := 45) rfl))) (mvT hZ22 (hw _ (List.mem_of_getElem? (i := 46) rfl))) (mvT hZ22 (hw _ (List.mem_of_getElem? (i := 47) rfl))) (by decide) (backOf (W := 1) (rmFI l Z a0 hw [] b19 b20 x11 b22 h22 n0 (Nat.le_trans Z0 (Nat.le_trans (Nat.le_trans (Nat.le_trans (Nat.le_trans (Nat.le_trans (Nat.le_trans K1.1 Kq11.1) Kq13.1) Kq16.1) E19.1) E20.1) E22.1)) f24 f25 f26 f27 f28 g_b19) hZ22 (hw _ (List.mem_of_getElem? (i := 47) rfl)) (hw _ (List.mem_of_getElem? (i := 42) rfl)) (by decide) (by decide)) (g := (mkF m 204 #[.val (.int p1), .val (.int p2), .val (.int p3), .val (.int p4), .val (.int p5), .val (.ref ar), .val (.int (Int32.ofNat n)), .val (.int (0 : Int32)), .val (.int (0 : Int32)), .val (.int (Int32.ofNat k)), .val (.ref x11), .val (.ref x13), .val (.ref x16), .unset, .unset, .unset, .unset, .unset, .unset] [(.ref b22), (.ref x11), (.ref b20), (.ref b19), (.ref b19)])) rfl (by rw [hml]; rfl) (Steps.refl _) (a := b19) (argsL := [(.ref b20), (.ref x11), (.ref b22)]) (rest := [(.ref b19)]) (lenOf pd__Ljava_lang_String_Ljava_lang_String_Ljava_lang_String__V rfl) rfl (by show 2 * 0 + _ ≤ _; exact Nat.le_of_eq rfl) (hb hby at_204) (fun _ _ => ⟨rfl, e22, (by decide : 24 + 0 ≤ _), (by decide : 128 + 0 ≤ _)⟩)
  dsimp only [Pt.U, Pt.locs, Pt.cells, Pt.slots] at X23 l23 y23 z23 st23 hQ23
  subst l23 y23 z23
  obtain ⟨rfl, Nq23, Kq23, Er23, Ft23, Fp23⟩ := hQ23
  have N23 := Fr.app N16 Nq23
  have f30 := (((((f17.keep Kq16 all0).ext E19).ext E20).ext E22).keep Kq23 (allS g_b19 all0))
  have f31 := ((((((Es11.keep Kq13).keep Kq16).ext E19).ext E20).ext E22).keep Kq23)
  have f32 := ((((((Cs11.keep Kq13 nin0).keep Kq16 nin0).ext E19).ext E20).ext E22).keep Kq23 (ninS (Nat.ne_of_lt (Nat.lt_of_lt_of_le (Nat.lt_of_lt_of_le lt11 (Nat.le_trans Kq13.1 Kq16.1)) (Nat.le_of_eq g19.symm))) nin0))
  have f33 := ((((((Vs11.keep Kq13 nin0).keep Kq16 nin0).ext E19).ext E20).ext E22).keep Kq23 (ninS (Nat.ne_of_lt (Nat.lt_of_lt_of_le (Nat.lt_of_lt_of_le lt11 (Nat.le_trans Kq13.1 Kq16.1)) (Nat.le_of_eq g19.symm))) nin0))
  have f34 := ((((((Ks11.keep Kq13 nin0).keep Kq16 nin0).ext E19).ext E20).ext E22).keep Kq23 (ninS (Nat.ne_of_lt (Nat.lt_of_lt_of_le (Nat.lt_of_lt_of_le Ks11.lt (Nat.le_trans Kq13.1 Kq16.1)) (Nat.le_of_eq g19.symm))) nin0))
  obtain ⟨cq29, kq29, q29a, q29b, q29c⟩ := isOf hZ22 rfl Er23
  obtain ⟨_, _, ⟨T29, L29, k29, n29⟩, -, X29, ⟨Lc29, hQ29, l29, y29, z29⟩, st29⟩ := X23.virtualBack hx (y := (⟨"com/example/atomize/atomize/http/FieldValueReader", "nextElement", "()Z"⟩ : MethodName)) (z := (⟨"com/example/atomize/atomize/http/FieldValueReader", "nextElement", "()Z"⟩ : MethodName)) hown22 (mvT hZ22 (hw _ (List.mem_of_getElem? (i := 55) rfl))) (mvT hZ22 (hw _ (List.mem_of_getElem? (i := 56) rfl))) (notFace_of_selects (args := #[]) (mvT hZ22 (hw _ (List.mem_of_getElem? (i := 58) rfl)))) (mvT hZ22 (hw _ (List.mem_of_getElem? (i := 58) rfl))) (mvT hZ22 (hw _ (List.mem_of_getElem? (i := 57) rfl))) (by decide) (backOf (W := 0) (rmNE l Z a0 hw [] G1 G3 b19 x11 ((as.drop 0).take n) 0 k T23.heap n0 (Nat.le_trans Z0 (Nat.le_trans (Nat.le_trans (Nat.le_trans (Nat.le_trans (Nat.le_trans (Nat.le_trans (Nat.le_trans K1.1 Kq11.1) Kq13.1) Kq16.1) E19.1) E20.1) E22.1) Kq23.1)) EN0 f30 Er23 Ft23 Fp23 g_b19 ⟨bs11, ks11, f31, f32, f33, f34, hps11, hls11⟩ (by rw [hTl]; exact hs) ((own_kk h4 hn hs).trans hk)) hZ22 (hw _ (List.mem_of_getElem? (i := 59) rfl)) (hw _ (List.mem_of_getElem? (i := 42) rfl)) (by decide) (by decide)) q29a q29c (g := (mkF m 228 #[.val (.int p1), .val (.int p2), .val (.int p3), .val (.int p4), .val (.int p5), .val (.ref ar), .val (.int (Int32.ofNat n)), .val (.int (0 : Int32)), .val (.int (0 : Int32)), .val (.int (Int32.ofNat k)), .val (.ref x11), .val (.ref x13), .val (.ref x16), .val (.ref b19), .val (.int (1 : Int32)), .unset, .unset, .unset, .unset] [(.ref b19)])) rfl (by rw [hml]; rfl) (Steps.refl _) (argsL := []) (rest := []) (lenOf pd___Z rfl) rfl (by show 2 * 0 + _ ≤ _; exact Nat.le_of_eq rfl) (hb hby at_228) (fun _ _ => ⟨rfl, rfl, (by decide : 24 + 0 ≤ _), (by decide : 128 + 0 ≤ _)⟩)
  dsimp only [Pt.U, Pt.locs, Pt.cells, Pt.slots] at X29 l29 y29 z29 st29 hQ29
  subst l29 y29 z29
  obtain ⟨rfl, Nq29, Kq29, Er29, Ft29, Fp29⟩ := hQ29
  have N29 := Fr.app N23 Nq29
  have f36 := (f30.keep Kq29 (allS g_b19 all0))
  have f37 := (f31.keep Kq29)
  have f38 := (f32.keep Kq29 (ninS (Nat.ne_of_lt (Nat.lt_of_lt_of_le (Nat.lt_of_lt_of_le lt11 (Nat.le_trans Kq13.1 Kq16.1)) (Nat.le_of_eq g19.symm))) nin0))
  have f39 := (f33.keep Kq29 (ninS (Nat.ne_of_lt (Nat.lt_of_lt_of_le (Nat.lt_of_lt_of_le lt11 (Nat.le_trans Kq13.1 Kq16.1)) (Nat.le_of_eq g19.symm))) nin0))
  have f40 := (f34.keep Kq29 (ninS (Nat.ne_of_lt (Nat.lt_of_lt_of_le (Nat.lt_of_lt_of_le Ks11.lt (Nat.le_trans Kq13.1 Kq16.1)) (Nat.le_of_eq g19.symm))) nin0))
  obtain ⟨cq35, kq35, q35a, q35b, q35c⟩ := isOf hZ22 rfl Er29
  obtain ⟨_, _, ⟨T35, L35, k35, n35⟩, -, X35, ⟨Lc35, hQ35, l35, y35, z35⟩, st35⟩ := X29.virtualBack hx (y := (⟨"com/example/atomize/atomize/http/FieldValueReader", "nextElement", "()Z"⟩ : MethodName)) (z := (⟨"com/example/atomize/atomize/http/FieldValueReader", "nextElement", "()Z"⟩ : MethodName)) hown22 (mvT hZ22 (hw _ (List.mem_of_getElem? (i := 55) rfl))) (mvT hZ22 (hw _ (List.mem_of_getElem? (i := 56) rfl))) (notFace_of_selects (args := #[]) (mvT hZ22 (hw _ (List.mem_of_getElem? (i := 58) rfl)))) (mvT hZ22 (hw _ (List.mem_of_getElem? (i := 58) rfl))) (mvT hZ22 (hw _ (List.mem_of_getElem? (i := 57) rfl))) (by decide) (backOf (W := 0) (rmNE l Z a0 hw [] G1 G3 b19 x11 ((as.drop 0).take n) k k T29.heap n0 (Nat.le_trans Z0 (Nat.le_trans (Nat.le_trans (Nat.le_trans (Nat.le_trans (Nat.le_trans (Nat.le_trans (Nat.le_trans (Nat.le_trans K1.1 Kq11.1) Kq13.1) Kq16.1) E19.1) E20.1) E22.1) Kq23.1) Kq29.1)) EN0 f36 Er29 Ft29 Fp29 g_b19 ⟨bs11, ks11, f37, f38, f39, f40, hps11, hls11⟩ (by rw [hTl]; exact hkn) (by have e_ := own_kk2 h4 hn hs; rw [hk] at e_; exact e_)) hZ22 (hw _ (List.mem_of_getElem? (i := 59) rfl)) (hw _ (List.mem_of_getElem? (i := 42) rfl)) (by decide) (by decide)) q35a q35c (g := (mkF m 235 #[.val (.int p1), .val (.int p2), .val (.int p3), .val (.int p4), .val (.int p5), .val (.ref ar), .val (.int (Int32.ofNat n)), .val (.int (0 : Int32)), .val (.int (0 : Int32)), .val (.int (Int32.ofNat k)), .val (.ref x11), .val (.ref x13), .val (.ref x16), .val (.ref b19), .val (.int (1 : Int32)), .val (.int (own_f k n)), .unset, .unset, .unset] [(.ref b19)])) rfl (by rw [hml]; rfl) (Steps.refl _) (argsL := []) (rest := []) (lenOf pd___Z rfl) rfl (by show 2 * 0 + _ ≤ _; exact Nat.le_of_eq rfl) (hb hby at_235) (fun _ _ => ⟨rfl, rfl, (by decide : 24 + 0 ≤ _), (by decide : 128 + 0 ≤ _)⟩)
  dsimp only [Pt.U, Pt.locs, Pt.cells, Pt.slots] at X35 l35 y35 z35 st35 hQ35
  subst l35 y35 z35
  obtain ⟨rfl, Nq35, Kq35, Er35, Ft35, Fp35⟩ := hQ35
  have N35 := Fr.app N29 Nq35
  have f42 := (f36.keep Kq35 (allS g_b19 all0))
  have f43 := (f37.keep Kq35)
  have f44 := (f38.keep Kq35 (ninS (Nat.ne_of_lt (Nat.lt_of_lt_of_le (Nat.lt_of_lt_of_le lt11 (Nat.le_trans Kq13.1 Kq16.1)) (Nat.le_of_eq g19.symm))) nin0))
  have f45 := (f39.keep Kq35 (ninS (Nat.ne_of_lt (Nat.lt_of_lt_of_le (Nat.lt_of_lt_of_le lt11 (Nat.le_trans Kq13.1 Kq16.1)) (Nat.le_of_eq g19.symm))) nin0))
  have f46 := (f40.keep Kq35 (ninS (Nat.ne_of_lt (Nat.lt_of_lt_of_le (Nat.lt_of_lt_of_le Ks11.lt (Nat.le_trans Kq13.1 Kq16.1)) (Nat.le_of_eq g19.symm))) nin0))
  have f47 := ((((((Es16.ext E19).ext E20).ext E22).keep Kq23).keep Kq29).keep Kq35)
  have f48 := ((((((Cs16.ext E19).ext E20).ext E22).keep Kq23 (ninS (Nat.ne_of_lt (Nat.lt_of_lt_of_le lt16 (Nat.le_of_eq g19.symm))) nin0)).keep Kq29 (ninS (Nat.ne_of_lt (Nat.lt_of_lt_of_le lt16 (Nat.le_of_eq g19.symm))) nin0)).keep Kq35 (ninS (Nat.ne_of_lt (Nat.lt_of_lt_of_le lt16 (Nat.le_of_eq g19.symm))) nin0))
  have f49 := ((((((Vs16.ext E19).ext E20).ext E22).keep Kq23 (ninS (Nat.ne_of_lt (Nat.lt_of_lt_of_le lt16 (Nat.le_of_eq g19.symm))) nin0)).keep Kq29 (ninS (Nat.ne_of_lt (Nat.lt_of_lt_of_le lt16 (Nat.le_of_eq g19.symm))) nin0)).keep Kq35 (ninS (Nat.ne_of_lt (Nat.lt_of_lt_of_le lt16 (Nat.le_of_eq g19.symm))) nin0))
  have f50 := ((((((Ks16.ext E19).ext E20).ext E22).keep Kq23 (ninS (Nat.ne_of_lt (Nat.lt_of_lt_of_le Ks16.lt (Nat.le_of_eq g19.symm))) nin0)).keep Kq29 (ninS (Nat.ne_of_lt (Nat.lt_of_lt_of_le Ks16.lt (Nat.le_of_eq g19.symm))) nin0)).keep Kq35 (ninS (Nat.ne_of_lt (Nat.lt_of_lt_of_le Ks16.lt (Nat.le_of_eq g19.symm))) nin0))
  obtain ⟨cq41, kq41, q41a, q41b, q41c⟩ := isOf hZ22 rfl Er35
  obtain ⟨_, _, ⟨T41, L41, k41, n41⟩, -, X41, ⟨Lc41, hQ41, l41, y41, z41⟩, st41⟩ := X35.virtualBack hx (y := (⟨"com/example/atomize/atomize/http/FieldValueReader", "accept", "(Ljava/lang/String;)Z"⟩ : MethodName)) (z := (⟨"com/example/atomize/atomize/http/FieldValueReader", "accept", "(Ljava/lang/String;)Z"⟩ : MethodName)) hown22 (mvT hZ22 (hw _ (List.mem_of_getElem? (i := 72) rfl))) (mvT hZ22 (hw _ (List.mem_of_getElem? (i := 73) rfl))) (notFace_of_selects (args := #[]) (mvT hZ22 (hw _ (List.mem_of_getElem? (i := 75) rfl)))) (mvT hZ22 (hw _ (List.mem_of_getElem? (i := 75) rfl))) (mvT hZ22 (hw _ (List.mem_of_getElem? (i := 74) rfl))) (by decide) (backOf (W := 0) (rmAP l Z a0 hw [] G1 G3 b19 x11 x16 ((as.drop 0).take n) ((as.drop k).take (n - k)) k n T35.heap n0 (Nat.le_trans Z0 (Nat.le_trans (Nat.le_trans (Nat.le_trans (Nat.le_trans (Nat.le_trans (Nat.le_trans (Nat.le_trans (Nat.le_trans (Nat.le_trans K1.1 Kq11.1) Kq13.1) Kq16.1) E19.1) E20.1) E22.1) Kq23.1) Kq29.1) Kq35.1)) EN0 f42 Er35 Ft35 Fp35 g_b19 ⟨bs11, ks11, f43, f44, f45, f46, hps11, hls11⟩ ⟨bs16, ks16, f47, f48, f49, f50, hps16, hls16⟩ (own_pre (by omega) (by omega)) (by rw [own_dl (by omega), hTl]; omega) (by rw [own_dl (by omega)]; omega)) hZ22 (hw _ (List.mem_of_getElem? (i := 76) rfl)) (hw _ (List.mem_of_getElem? (i := 42) rfl)) (by decide) (by decide)) q41a q41c (g := (mkF m 244 #[.val (.int p1), .val (.int p2), .val (.int p3), .val (.int p4), .val (.int p5), .val (.ref ar), .val (.int (Int32.ofNat n)), .val (.int (0 : Int32)), .val (.int (0 : Int32)), .val (.int (Int32.ofNat k)), .val (.ref x11), .val (.ref x13), .val (.ref x16), .val (.ref b19), .val (.int (1 : Int32)), .val (.int (own_f k n)), .val (.int (own_f k n)), .unset, .unset] [(.ref x16), (.ref b19)])) rfl (by rw [hml]; rfl) (Steps.refl _) (argsL := [(.ref x16)]) (rest := []) (lenOf pd__Ljava_lang_String__Z rfl) rfl (by show 2 * 0 + _ ≤ _; exact Nat.le_of_eq rfl) (hb hby at_244) (fun _ _ => ⟨rfl, rfl, (by decide : 24 + 0 ≤ _), (by decide : 128 + 0 ≤ _)⟩)
  dsimp only [Pt.U, Pt.locs, Pt.cells, Pt.slots] at X41 l41 y41 z41 st41 hQ41
  subst l41 y41 z41
  obtain ⟨rfl, Nq41, Kq41, Er41, Ft41, Fp41⟩ := hQ41
  have N41 := Fr.app N35 Nq41
  have f52 := (f42.keep Kq41 (allS g_b19 all0))
  have f53 := (f43.keep Kq41)
  have f54 := (f44.keep Kq41 (ninS (Nat.ne_of_lt (Nat.lt_of_lt_of_le (Nat.lt_of_lt_of_le lt11 (Nat.le_trans Kq13.1 Kq16.1)) (Nat.le_of_eq g19.symm))) nin0))
  have f55 := (f45.keep Kq41 (ninS (Nat.ne_of_lt (Nat.lt_of_lt_of_le (Nat.lt_of_lt_of_le lt11 (Nat.le_trans Kq13.1 Kq16.1)) (Nat.le_of_eq g19.symm))) nin0))
  have f56 := (f46.keep Kq41 (ninS (Nat.ne_of_lt (Nat.lt_of_lt_of_le (Nat.lt_of_lt_of_le Ks11.lt (Nat.le_trans Kq13.1 Kq16.1)) (Nat.le_of_eq g19.symm))) nin0))
  obtain ⟨cq51, kq51, q51a, q51b, q51c⟩ := isOf hZ22 rfl Er41
  obtain ⟨_, _, ⟨T51, L51, k51, n51⟩, -, X51, ⟨Lc51, hQ51, l51, y51, z51⟩, st51⟩ := X41.virtualBack hx (y := (⟨"com/example/atomize/atomize/http/FieldValueReader", "nextElement", "()Z"⟩ : MethodName)) (z := (⟨"com/example/atomize/atomize/http/FieldValueReader", "nextElement", "()Z"⟩ : MethodName)) hown22 (mvT hZ22 (hw _ (List.mem_of_getElem? (i := 55) rfl))) (mvT hZ22 (hw _ (List.mem_of_getElem? (i := 56) rfl))) (notFace_of_selects (args := #[]) (mvT hZ22 (hw _ (List.mem_of_getElem? (i := 58) rfl)))) (mvT hZ22 (hw _ (List.mem_of_getElem? (i := 58) rfl))) (mvT hZ22 (hw _ (List.mem_of_getElem? (i := 57) rfl))) (by decide) (backOf (W := 0) (rmNE l Z a0 hw [] G1 G3 b19 x11 ((as.drop 0).take n) n n T41.heap n0 (Nat.le_trans Z0 (Nat.le_trans (Nat.le_trans (Nat.le_trans (Nat.le_trans (Nat.le_trans (Nat.le_trans (Nat.le_trans (Nat.le_trans (Nat.le_trans (Nat.le_trans K1.1 Kq11.1) Kq13.1) Kq16.1) E19.1) E20.1) E22.1) Kq23.1) Kq29.1) Kq35.1) Kq41.1)) EN0 f52 Er41 Ft41 Fp41 g_b19 ⟨bs11, ks11, f53, f54, f55, f56, hps11, hls11⟩ (by rw [hTl]; exact Nat.le_refl _) (own_kn hTl)) hZ22 (hw _ (List.mem_of_getElem? (i := 59) rfl)) (hw _ (List.mem_of_getElem? (i := 42) rfl)) (by decide) (by decide)) q51a q51c (g := (mkF m 251 #[.val (.int p1), .val (.int p2), .val (.int p3), .val (.int p4), .val (.int p5), .val (.ref ar), .val (.int (Int32.ofNat n)), .val (.int (0 : Int32)), .val (.int (0 : Int32)), .val (.int (Int32.ofNat k)), .val (.ref x11), .val (.ref x13), .val (.ref x16), .val (.ref b19), .val (.int (1 : Int32)), .val (.int (own_f k n)), .val (.int (own_f k n)), .val (.int (1 : Int32)), .unset] [(.ref b19)])) rfl (by rw [hml]; rfl) (Steps.refl _) (argsL := []) (rest := []) (lenOf pd___Z rfl) rfl (by show 2 * 0 + _ ≤ _; exact Nat.le_of_eq rfl) (hb hby at_251) (fun _ _ => ⟨rfl, rfl, (by decide : 24 + 0 ≤ _), (by decide : 128 + 0 ≤ _)⟩)
  dsimp only [Pt.U, Pt.locs, Pt.cells, Pt.slots] at X51 l51 y51 z51 st51 hQ51
  subst l51 y51 z51
  obtain ⟨rfl, Nq51, Kq51, Er51, Ft51, Fp51⟩ := hQ51
  have N51 := Fr.app N41 Nq51
  obtain ⟨Tv9, hv9, Lv9, Xv9, ev9, Nv9, Zv9, hhv9, stv9⟩ := cmpC p1 p2 p3 p4 p5 ar n k (0 : Int32) (0 : Int32) x11 x13 x16 b19 (own_f k n) (1 : Int32) (0 : Int32) T51.heap n0 X51 hx hZ22 hw hby hml hown22 rfl N51 (Nat.le_trans Z0 (Nat.le_trans (Nat.le_trans (Nat.le_trans (Nat.le_trans (Nat.le_trans (Nat.le_trans (Nat.le_trans (Nat.le_trans (Nat.le_trans (Nat.le_trans (Nat.le_trans K1.1 Kq11.1) Kq13.1) Kq16.1) E19.1) E20.1) E22.1) Kq23.1) Kq29.1) Kq35.1) Kq41.1) Kq51.1)) hn hkn
  have ev9b := ev9.trans hhv9
  obtain ⟨fs, hr, hrun, hended, hfin⟩ := Xv9.leaveW hS22 (by rw [ev9b]; exact (Nat.le_trans hk22 (Nat.le_trans (Nat.le_trans (Nat.le_trans (Nat.le_trans Kq23.1 Kq29.1) Kq35.1) Kq41.1) Kq51.1))) (v := some (.int (1 : Int32))) (fun h => by rw [Bd.returns] at h; cases h)
  refine ⟨_, _, pre0 _ ?_, hrun, hended, _, _, rfl, ?_, hfin.1, hfin.2.1, hfin.2.2.1, hfin.2.2.2.mono (by decide) (by decide)⟩
  · show Steps p.tables e below (s₁.setTop (mkF m 0 #[.val (.int p1), .val (.int p2), .val (.int p3), .val (.int p4), .val (.int p5), .unset, .unset, .unset, .unset, .unset, .unset, .unset, .unset, .unset, .unset, .unset, .unset, .unset, .unset] [])) _
    refine st1 _ ?_
    show Steps p.tables e below (T1.setTop (mkF m 33 #[.val (.int p1), .val (.int p2), .val (.int p3), .val (.int p4), .val (.int p5), .val (.ref ar), .unset, .unset, .unset, .unset, .unset, .unset, .unset, .unset, .unset, .unset, .unset, .unset, .unset] [])) _
    refine XS.iload X1.here hx rfl (hb hby at_33) rfl ?_
    refine XS.iconst X1.here hx rfl (hb hby at_35) ?_
    refine XS.iushr X1.here hx rfl (hb hby at_36) rfl ?_
    refine XS.bipush X1.here hx rfl (hb hby at_37) ?_
    refine XS.iand X1.here hx rfl (hb hby at_39) rfl ?_
    refine XS.iconst X1.here hx rfl (hb hby at_40) ?_
    show Steps p.tables e below (T1.setTop (mkF m 41 #[.val (.int p1), .val (.int p2), .val (.int p3), .val (.int p4), .val (.int p5), .val (.ref ar), .unset, .unset, .unset, .unset, .unset, .unset, .unset, .unset, .unset, .unset, .unset, .unset, .unset] [(.int (5 : Int32)), (.int (((p5.toUInt32 >>> ((1 : Int32) &&& 31).toUInt32).toInt32) &&& (7 : Int32)))])) _
    refine iremM X1 hx (g := (mkF m 41 #[.val (.int p1), .val (.int p2), .val (.int p3), .val (.int p4), .val (.int p5), .val (.ref ar), .unset, .unset, .unset, .unset, .unset, .unset, .unset, .unset, .unset, .unset, .unset, .unset, .unset] [(.int (5 : Int32)), (.int (((p5.toUInt32 >>> ((1 : Int32) &&& 31).toUInt32).toInt32) &&& (7 : Int32)))])) rfl (hb hby at_41) rfl (by decide) ?_
    show Steps p.tables e below (T1.setTop (mkF m 42 #[.val (.int p1), .val (.int p2), .val (.int p3), .val (.int p4), .val (.int p5), .val (.ref ar), .unset, .unset, .unset, .unset, .unset, .unset, .unset, .unset, .unset, .unset, .unset, .unset, .unset] [(.int ((((p5.toUInt32 >>> ((1 : Int32) &&& 31).toUInt32).toInt32) &&& (7 : Int32)) % (5 : Int32)))])) _
    rw [hn5]
    show Steps p.tables e below (T1.setTop (mkF m 42 #[.val (.int p1), .val (.int p2), .val (.int p3), .val (.int p4), .val (.int p5), .val (.ref ar), .unset, .unset, .unset, .unset, .unset, .unset, .unset, .unset, .unset, .unset, .unset, .unset, .unset] [(.int (Int32.ofNat n))])) _
    refine XS.istore X1.here hx rfl (hb hby at_42) rfl (l' := #[.val (.int p1), .val (.int p2), .val (.int p3), .val (.int p4), .val (.int p5), .val (.ref ar), .val (.int (Int32.ofNat n)), .unset, .unset, .unset, .unset, .unset, .unset, .unset, .unset, .unset, .unset, .unset, .unset]) rfl ?_
    refine XS.iload X1.here hx rfl (hb hby at_44) rfl ?_
    refine XS.iconst X1.here hx rfl (hb hby at_46) ?_
    refine XS.iand X1.here hx rfl (hb hby at_47) rfl ?_
    refine XS.ifNo X1.here hx rfl (hb hby at_48) rfl ((if0 _ _).trans (feq hc48).1) ?_
    refine XS.iload X1.here hx rfl (hb hby at_51) rfl ?_
    refine XS.iconst X1.here hx rfl (hb hby at_53) ?_
    refine XS.icmpYes X1.here hx rfl (pc0 := 54) (pc' := 61) rfl (hb hby at_54) rfl (tlt hc54).1 (by decide) (by decide) ?_
    refine XS.iconst X1.here hx rfl (hb hby at_61) ?_
    refine XS.istore X1.here hx rfl (hb hby at_62) rfl (l' := #[.val (.int p1), .val (.int p2), .val (.int p3), .val (.int p4), .val (.int p5), .val (.ref ar), .val (.int (Int32.ofNat n)), .val (.int (0 : Int32)), .unset, .unset, .unset, .unset, .unset, .unset, .unset, .unset, .unset, .unset, .unset]) rfl ?_
    refine XS.iload X1.here hx rfl (hb hby at_64) rfl ?_
    show Steps p.tables e below (T1.setTop (mkF m 66 #[.val (.int p1), .val (.int p2), .val (.int p3), .val (.int p4), .val (.int p5), .val (.ref ar), .val (.int (Int32.ofNat n)), .val (.int (0 : Int32)), .unset, .unset, .unset, .unset, .unset, .unset, .unset, .unset, .unset, .unset, .unset] [(.int (0 : Int32))])) _
    refine XS.ifYes X1.here hx rfl (pc0 := 66) (pc' := 73) rfl (hb hby at_66) rfl ((if0 _ _).trans (teq (by decide : (0 : Int32) = (0 : Int32))).1) (by decide) (by decide) ?_
    refine XS.iconst X1.here hx rfl (hb hby at_73) ?_
    refine XS.istore X1.here hx rfl (hb hby at_74) rfl (l' := #[.val (.int p1), .val (.int p2), .val (.int p3), .val (.int p4), .val (.int p5), .val (.ref ar), .val (.int (Int32.ofNat n)), .val (.int (0 : Int32)), .val (.int (0 : Int32)), .unset, .unset, .unset, .unset, .unset, .unset, .unset, .unset, .unset, .unset]) rfl ?_
    refine XS.iload X1.here hx rfl (hb hby at_76) rfl ?_
    refine XS.istore X1.here hx rfl (hb hby at_78) rfl (l' := #[.val (.int p1), .val (.int p2), .val (.int p3), .val (.int p4), .val (.int p5), .val (.ref ar), .val (.int (Int32.ofNat n)), .val (.int (0 : Int32)), .val (.int (0 : Int32)), .val (.int (0 : Int32)), .unset, .unset, .unset, .unset, .unset, .unset, .unset, .unset, .unset]) rfl ?_
    show Steps p.tables e below (T1.setTop (mkF m 80 #[.val (.int p1), .val (.int p2), .val (.int p3), .val (.int p4), .val (.int p5), .val (.ref ar), .val (.int (Int32.ofNat n)), .val (.int (0 : Int32)), .val (.int (0 : Int32)), .val (.int (Int32.ofNat 0)), .unset, .unset, .unset, .unset, .unset, .unset, .unset, .unset, .unset] [])) _
    show Steps p.tables e below (T1.setTop (mkF m 80 #[.val (.int p1), .val (.int p2), .val (.int p3), .val (.int p4), .val (.int p5), .val (.ref ar), .val (.int (Int32.ofNat n)), .val (.int (0 : Int32)), .val (.int (0 : Int32)), .val (.int (Int32.ofNat 0)), .unset, .unset, .unset, .unset, .unset, .unset, .unset, .unset, .unset] [])) _
    refine stv0 _ ?_
    show Steps p.tables e below (Tv0.setTop (mkF m 101 #[.val (.int p1), .val (.int p2), .val (.int p3), .val (.int p4), .val (.int p5), .val (.ref ar), .val (.int (Int32.ofNat n)), .val (.int (0 : Int32)), .val (.int (0 : Int32)), .val (.int (Int32.ofNat (own_step as n 0))), .unset, .unset, .unset, .unset, .unset, .unset, .unset, .unset, .unset] [])) _
    refine stv1 _ ?_
    show Steps p.tables e below (Tv1.setTop (mkF m 122 #[.val (.int p1), .val (.int p2), .val (.int p3), .val (.int p4), .val (.int p5), .val (.ref ar), .val (.int (Int32.ofNat n)), .val (.int (0 : Int32)), .val (.int (0 : Int32)), .val (.int (Int32.ofNat (own_step as n (own_step as n 0)))), .unset, .unset, .unset, .unset, .unset, .unset, .unset, .unset, .unset] [])) _
    refine stv2 _ ?_
    show Steps p.tables e below (Tv2.setTop (mkF m 143 #[.val (.int p1), .val (.int p2), .val (.int p3), .val (.int p4), .val (.int p5), .val (.ref ar), .val (.int (Int32.ofNat n)), .val (.int (0 : Int32)), .val (.int (0 : Int32)), .val (.int (Int32.ofNat (own_step as n (own_step as n (own_step as n 0))))), .unset, .unset, .unset, .unset, .unset, .unset, .unset, .unset, .unset] [])) _
    refine stv3 _ ?_
    show Steps p.tables e below (Tv3.setTop (mkF m 164 #[.val (.int p1), .val (.int p2), .val (.int p3), .val (.int p4), .val (.int p5), .val (.ref ar), .val (.int (Int32.ofNat n)), .val (.int (0 : Int32)), .val (.int (0 : Int32)), .val (.int (Int32.ofNat (own_step as n (own_step as n (own_step as n (own_step as n 0)))))), .unset, .unset, .unset, .unset, .unset, .unset, .unset, .unset, .unset] [])) _
    rw [(show (own_step as n (own_step as n (own_step as n (own_step as n 0)))) = k from hk)]
    show Steps p.tables e below (Tv3.setTop (mkF m 164 #[.val (.int p1), .val (.int p2), .val (.int p3), .val (.int p4), .val (.int p5), .val (.ref ar), .val (.int (Int32.ofNat n)), .val (.int (0 : Int32)), .val (.int (0 : Int32)), .val (.int (Int32.ofNat k)), .unset, .unset, .unset, .unset, .unset, .unset, .unset, .unset, .unset] [])) _
    show Steps p.tables e below (Tv3.setTop (mkF m 164 #[.val (.int p1), .val (.int p2), .val (.int p3), .val (.int p4), .val (.int p5), .val (.ref ar), .val (.int (Int32.ofNat n)), .val (.int (0 : Int32)), .val (.int (0 : Int32)), .val (.int (Int32.ofNat k)), .unset, .unset, .unset, .unset, .unset, .unset, .unset, .unset, .unset] [])) _
    refine XS.aload Xv3.here hx rfl (hb hby at_164) rfl rfl ?_
    refine XS.iconst Xv3.here hx rfl (hb hby at_166) ?_
    refine XS.iload Xv3.here hx rfl (hb hby at_167) rfl ?_
    show Steps p.tables e below (Tv3.setTop (mkF m 169 #[.val (.int p1), .val (.int p2), .val (.int p3), .val (.int p4), .val (.int p5), .val (.ref ar), .val (.int (Int32.ofNat n)), .val (.int (0 : Int32)), .val (.int (0 : Int32)), .val (.int (Int32.ofNat k)), .unset, .unset, .unset, .unset, .unset, .unset, .unset, .unset, .unset] [(.int (Int32.ofNat n)), (.int (0 : Int32)), (.ref ar)])) _
    refine st11.trans ?_
    show Steps p.tables e below (T11.setTop (mkF m 172 #[.val (.int p1), .val (.int p2), .val (.int p3), .val (.int p4), .val (.int p5), .val (.ref ar), .val (.int (Int32.ofNat n)), .val (.int (0 : Int32)), .val (.int (0 : Int32)), .val (.int (Int32.ofNat k)), .unset, .unset, .unset, .unset, .unset, .unset, .unset, .unset, .unset] [(.ref x11)])) _
    refine XS.astore X11.here hx rfl (hb hby at_172) rfl rfl (l' := #[.val (.int p1), .val (.int p2), .val (.int p3), .val (.int p4), .val (.int p5), .val (.ref ar), .val (.int (Int32.ofNat n)), .val (.int (0 : Int32)), .val (.int (0 : Int32)), .val (.int (Int32.ofNat k)), .val (.ref x11), .unset, .unset, .unset, .unset, .unset, .unset, .unset, .unset]) rfl ?_
    refine XS.aload X11.here hx rfl (hb hby at_174) rfl rfl ?_
    refine XS.iconst X11.here hx rfl (hb hby at_176) ?_
    refine XS.iconst X11.here hx rfl (hb hby at_177) ?_
    show Steps p.tables e below (T11.setTop (mkF m 178 #[.val (.int p1), .val (.int p2), .val (.int p3), .val (.int p4), .val (.int p5), .val (.ref ar), .val (.int (Int32.ofNat n)), .val (.int (0 : Int32)), .val (.int (0 : Int32)), .val (.int (Int32.ofNat k)), .val (.ref x11), .unset, .unset, .unset, .unset, .unset, .unset, .unset, .unset] [(.int (1 : Int32)), (.int (0 : Int32)), (.ref ar)])) _
    refine st13.trans ?_
    show Steps p.tables e below (T13.setTop (mkF m 181 #[.val (.int p1), .val (.int p2), .val (.int p3), .val (.int p4), .val (.int p5), .val (.ref ar), .val (.int (Int32.ofNat n)), .val (.int (0 : Int32)), .val (.int (0 : Int32)), .val (.int (Int32.ofNat k)), .val (.ref x11), .unset, .unset, .unset, .unset, .unset, .unset, .unset, .unset] [(.ref x13)])) _
    refine XS.astore X13.here hx rfl (hb hby at_181) rfl rfl (l' := #[.val (.int p1), .val (.int p2), .val (.int p3), .val (.int p4), .val (.int p5), .val (.ref ar), .val (.int (Int32.ofNat n)), .val (.int (0 : Int32)), .val (.int (0 : Int32)), .val (.int (Int32.ofNat k)), .val (.ref x11), .val (.ref x13), .unset, .unset, .unset, .unset, .unset, .unset, .unset]) rfl ?_
    refine XS.aload X13.here hx rfl (hb hby at_183) rfl rfl ?_
    refine XS.iload X13.here hx rfl (hb hby at_185) rfl ?_
    refine XS.iload X13.here hx rfl (hb hby at_187) rfl ?_
    show Steps p.tables e below (T13.setTop (mkF m 189 #[.val (.int p1), .val (.int p2), .val (.int p3), .val (.int p4), .val (.int p5), .val (.ref ar), .val (.int (Int32.ofNat n)), .val (.int (0 : Int32)), .val (.int (0 : Int32)), .val (.int (Int32.ofNat k)), .val (.ref x11), .val (.ref x13), .unset, .unset, .unset, .unset, .unset, .unset, .unset] [(.int (Int32.ofNat n)), (.int (Int32.ofNat k)), (.ref ar)])) _
    refine st16.trans ?_
    show Steps p.tables e below (T16.setTop (mkF m 192 #[.val (.int p1), .val (.int p2), .val (.int p3), .val (.int p4), .val (.int p5), .val (.ref ar), .val (.int (Int32.ofNat n)), .val (.int (0 : Int32)), .val (.int (0 : Int32)), .val (.int (Int32.ofNat k)), .val (.ref x11), .val (.ref x13), .unset, .unset, .unset, .unset, .unset, .unset, .unset] [(.ref x16)])) _
    refine XS.astore X16.here hx rfl (hb hby at_192) rfl rfl (l' := #[.val (.int p1), .val (.int p2), .val (.int p3), .val (.int p4), .val (.int p5), .val (.ref ar), .val (.int (Int32.ofNat n)), .val (.int (0 : Int32)), .val (.int (0 : Int32)), .val (.int (Int32.ofNat k)), .val (.ref x11), .val (.ref x13), .val (.ref x16), .unset, .unset, .unset, .unset, .unset, .unset]) rfl ?_
    show Steps p.tables e below (T16.setTop (mkF m 194 #[.val (.int p1), .val (.int p2), .val (.int p3), .val (.int p4), .val (.int p5), .val (.ref ar), .val (.int (Int32.ofNat n)), .val (.int (0 : Int32)), .val (.int (0 : Int32)), .val (.int (Int32.ofNat k)), .val (.ref x11), .val (.ref x13), .val (.ref x16), .unset, .unset, .unset, .unset, .unset, .unset] [])) _
    refine st19 _ ?_
    show Steps p.tables e below (T19.setTop (mkF m 197 #[.val (.int p1), .val (.int p2), .val (.int p3), .val (.int p4), .val (.int p5), .val (.ref ar), .val (.int (Int32.ofNat n)), .val (.int (0 : Int32)), .val (.int (0 : Int32)), .val (.int (Int32.ofNat k)), .val (.ref x11), .val (.ref x13), .val (.ref x16), .unset, .unset, .unset, .unset, .unset, .unset] [(.ref b19)])) _
    refine XS.dup X19.here hx rfl (hb hby at_197) rfl rfl ?_
    show Steps p.tables e below (T19.setTop (mkF m 198 #[.val (.int p1), .val (.int p2), .val (.int p3), .val (.int p4), .val (.int p5), .val (.ref ar), .val (.int (Int32.ofNat n)), .val (.int (0 : Int32)), .val (.int (0 : Int32)), .val (.int (Int32.ofNat k)), .val (.ref x11), .val (.ref x13), .val (.ref x16), .unset, .unset, .unset, .unset, .unset, .unset] [(.ref b19), (.ref b19)])) _
    refine st20 _ ?_
    show Steps p.tables e below (T20.setTop (mkF m 200 #[.val (.int p1), .val (.int p2), .val (.int p3), .val (.int p4), .val (.int p5), .val (.ref ar), .val (.int (Int32.ofNat n)), .val (.int (0 : Int32)), .val (.int (0 : Int32)), .val (.int (Int32.ofNat k)), .val (.ref x11), .val (.ref x13), .val (.ref x16), .unset, .unset, .unset, .unset, .unset, .unset] [(.ref b20), (.ref b19), (.ref b19)])) _
    refine XS.aload X20.here hx rfl (hb hby at_200) rfl rfl ?_
    show Steps p.tables e below (T20.setTop (mkF m 202 #[.val (.int p1), .val (.int p2), .val (.int p3), .val (.int p4), .val (.int p5), .val (.ref ar), .val (.int (Int32.ofNat n)), .val (.int (0 : Int32)), .val (.int (0 : Int32)), .val (.int (Int32.ofNat k)), .val (.ref x11), .val (.ref x13), .val (.ref x16), .unset, .unset, .unset, .unset, .unset, .unset] [(.ref x11), (.ref b20), (.ref b19), (.ref b19)])) _
    refine st22 _ ?_
    show Steps p.tables e below (T22.setTop (mkF m 204 #[.val (.int p1), .val (.int p2), .val (.int p3), .val (.int p4), .val (.int p5), .val (.ref ar), .val (.int (Int32.ofNat n)), .val (.int (0 : Int32)), .val (.int (0 : Int32)), .val (.int (Int32.ofNat k)), .val (.ref x11), .val (.ref x13), .val (.ref x16), .unset, .unset, .unset, .unset, .unset, .unset] [(.ref b22), (.ref x11), (.ref b20), (.ref b19), (.ref b19)])) _
    refine st23.trans ?_
    show Steps p.tables e below (T23.setTop (mkF m 207 #[.val (.int p1), .val (.int p2), .val (.int p3), .val (.int p4), .val (.int p5), .val (.ref ar), .val (.int (Int32.ofNat n)), .val (.int (0 : Int32)), .val (.int (0 : Int32)), .val (.int (Int32.ofNat k)), .val (.ref x11), .val (.ref x13), .val (.ref x16), .unset, .unset, .unset, .unset, .unset, .unset] [(.ref b19)])) _
    refine XS.astore X23.here hx rfl (hb hby at_207) rfl rfl (l' := #[.val (.int p1), .val (.int p2), .val (.int p3), .val (.int p4), .val (.int p5), .val (.ref ar), .val (.int (Int32.ofNat n)), .val (.int (0 : Int32)), .val (.int (0 : Int32)), .val (.int (Int32.ofNat k)), .val (.ref x11), .val (.ref x13), .val (.ref x16), .val (.ref b19), .unset, .unset, .unset, .unset, .unset]) rfl ?_
    refine XS.iconst X23.here hx rfl (hb hby at_209) ?_
    refine XS.istore X23.here hx rfl (hb hby at_210) rfl (l' := #[.val (.int p1), .val (.int p2), .val (.int p3), .val (.int p4), .val (.int p5), .val (.ref ar), .val (.int (Int32.ofNat n)), .val (.int (0 : Int32)), .val (.int (0 : Int32)), .val (.int (Int32.ofNat k)), .val (.ref x11), .val (.ref x13), .val (.ref x16), .val (.ref b19), .val (.int (1 : Int32)), .unset, .unset, .unset, .unset]) rfl ?_
    refine XS.iload X23.here hx rfl (hb hby at_212) rfl ?_
    refine XS.ifYes X23.here hx rfl (pc0 := 214) (pc' := 226) rfl (hb hby at_214) rfl ((if0 _ _).trans (teq (by decide : (0 : Int32) = (0 : Int32))).1) (by decide) (by decide) ?_
    refine XS.aload X23.here hx rfl (hb hby at_226) rfl rfl ?_
    show Steps p.tables e below (T23.setTop (mkF m 228 #[.val (.int p1), .val (.int p2), .val (.int p3), .val (.int p4), .val (.int p5), .val (.ref ar), .val (.int (Int32.ofNat n)), .val (.int (0 : Int32)), .val (.int (0 : Int32)), .val (.int (Int32.ofNat k)), .val (.ref x11), .val (.ref x13), .val (.ref x16), .val (.ref b19), .val (.int (1 : Int32)), .unset, .unset, .unset, .unset] [(.ref b19)])) _
    refine st29.trans ?_
    show Steps p.tables e below (T29.setTop (mkF m 231 #[.val (.int p1), .val (.int p2), .val (.int p3), .val (.int p4), .val (.int p5), .val (.ref ar), .val (.int (Int32.ofNat n)), .val (.int (0 : Int32)), .val (.int (0 : Int32)), .val (.int (Int32.ofNat k)), .val (.ref x11), .val (.ref x13), .val (.ref x16), .val (.ref b19), .val (.int (1 : Int32)), .unset, .unset, .unset, .unset] [(.int (own_f k ((as.drop 0).take n).length))])) _
    rw [(show own_f k ((as.drop 0).take n).length = own_f k n by rw [hTl])]
    show Steps p.tables e below (T29.setTop (mkF m 231 #[.val (.int p1), .val (.int p2), .val (.int p3), .val (.int p4), .val (.int p5), .val (.ref ar), .val (.int (Int32.ofNat n)), .val (.int (0 : Int32)), .val (.int (0 : Int32)), .val (.int (Int32.ofNat k)), .val (.ref x11), .val (.ref x13), .val (.ref x16), .val (.ref b19), .val (.int (1 : Int32)), .unset, .unset, .unset, .unset] [(.int (own_f k n))])) _
    refine XS.istore X29.here hx rfl (hb hby at_231) rfl (l' := #[.val (.int p1), .val (.int p2), .val (.int p3), .val (.int p4), .val (.int p5), .val (.ref ar), .val (.int (Int32.ofNat n)), .val (.int (0 : Int32)), .val (.int (0 : Int32)), .val (.int (Int32.ofNat k)), .val (.ref x11), .val (.ref x13), .val (.ref x16), .val (.ref b19), .val (.int (1 : Int32)), .val (.int (own_f k n)), .unset, .unset, .unset]) rfl ?_
    refine XS.aload X29.here hx rfl (hb hby at_233) rfl rfl ?_
    show Steps p.tables e below (T29.setTop (mkF m 235 #[.val (.int p1), .val (.int p2), .val (.int p3), .val (.int p4), .val (.int p5), .val (.ref ar), .val (.int (Int32.ofNat n)), .val (.int (0 : Int32)), .val (.int (0 : Int32)), .val (.int (Int32.ofNat k)), .val (.ref x11), .val (.ref x13), .val (.ref x16), .val (.ref b19), .val (.int (1 : Int32)), .val (.int (own_f k n)), .unset, .unset, .unset] [(.ref b19)])) _
    refine st35.trans ?_
    show Steps p.tables e below (T35.setTop (mkF m 238 #[.val (.int p1), .val (.int p2), .val (.int p3), .val (.int p4), .val (.int p5), .val (.ref ar), .val (.int (Int32.ofNat n)), .val (.int (0 : Int32)), .val (.int (0 : Int32)), .val (.int (Int32.ofNat k)), .val (.ref x11), .val (.ref x13), .val (.ref x16), .val (.ref b19), .val (.int (1 : Int32)), .val (.int (own_f k n)), .unset, .unset, .unset] [(.int (own_f k ((as.drop 0).take n).length))])) _
    rw [(show own_f k ((as.drop 0).take n).length = own_f k n by rw [hTl])]
    show Steps p.tables e below (T35.setTop (mkF m 238 #[.val (.int p1), .val (.int p2), .val (.int p3), .val (.int p4), .val (.int p5), .val (.ref ar), .val (.int (Int32.ofNat n)), .val (.int (0 : Int32)), .val (.int (0 : Int32)), .val (.int (Int32.ofNat k)), .val (.ref x11), .val (.ref x13), .val (.ref x16), .val (.ref b19), .val (.int (1 : Int32)), .val (.int (own_f k n)), .unset, .unset, .unset] [(.int (own_f k n))])) _
    refine XS.istore X35.here hx rfl (hb hby at_238) rfl (l' := #[.val (.int p1), .val (.int p2), .val (.int p3), .val (.int p4), .val (.int p5), .val (.ref ar), .val (.int (Int32.ofNat n)), .val (.int (0 : Int32)), .val (.int (0 : Int32)), .val (.int (Int32.ofNat k)), .val (.ref x11), .val (.ref x13), .val (.ref x16), .val (.ref b19), .val (.int (1 : Int32)), .val (.int (own_f k n)), .val (.int (own_f k n)), .unset, .unset]) rfl ?_
    refine XS.aload X35.here hx rfl (hb hby at_240) rfl rfl ?_
    refine XS.aload X35.here hx rfl (hb hby at_242) rfl rfl ?_
    show Steps p.tables e below (T35.setTop (mkF m 244 #[.val (.int p1), .val (.int p2), .val (.int p3), .val (.int p4), .val (.int p5), .val (.ref ar), .val (.int (Int32.ofNat n)), .val (.int (0 : Int32)), .val (.int (0 : Int32)), .val (.int (Int32.ofNat k)), .val (.ref x11), .val (.ref x13), .val (.ref x16), .val (.ref b19), .val (.int (1 : Int32)), .val (.int (own_f k n)), .val (.int (own_f k n)), .unset, .unset] [(.ref x16), (.ref b19)])) _
    refine st41.trans ?_
    show Steps p.tables e below (T41.setTop (mkF m 247 #[.val (.int p1), .val (.int p2), .val (.int p3), .val (.int p4), .val (.int p5), .val (.ref ar), .val (.int (Int32.ofNat n)), .val (.int (0 : Int32)), .val (.int (0 : Int32)), .val (.int (Int32.ofNat k)), .val (.ref x11), .val (.ref x13), .val (.ref x16), .val (.ref b19), .val (.int (1 : Int32)), .val (.int (own_f k n)), .val (.int (own_f k n)), .unset, .unset] [(.int (1 : Int32))])) _
    refine XS.istore X41.here hx rfl (hb hby at_247) rfl (l' := #[.val (.int p1), .val (.int p2), .val (.int p3), .val (.int p4), .val (.int p5), .val (.ref ar), .val (.int (Int32.ofNat n)), .val (.int (0 : Int32)), .val (.int (0 : Int32)), .val (.int (Int32.ofNat k)), .val (.ref x11), .val (.ref x13), .val (.ref x16), .val (.ref b19), .val (.int (1 : Int32)), .val (.int (own_f k n)), .val (.int (own_f k n)), .val (.int (1 : Int32)), .unset]) rfl ?_
    refine XS.aload X41.here hx rfl (hb hby at_249) rfl rfl ?_
    show Steps p.tables e below (T41.setTop (mkF m 251 #[.val (.int p1), .val (.int p2), .val (.int p3), .val (.int p4), .val (.int p5), .val (.ref ar), .val (.int (Int32.ofNat n)), .val (.int (0 : Int32)), .val (.int (0 : Int32)), .val (.int (Int32.ofNat k)), .val (.ref x11), .val (.ref x13), .val (.ref x16), .val (.ref b19), .val (.int (1 : Int32)), .val (.int (own_f k n)), .val (.int (own_f k n)), .val (.int (1 : Int32)), .unset] [(.ref b19)])) _
    refine st51.trans ?_
    show Steps p.tables e below (T51.setTop (mkF m 254 #[.val (.int p1), .val (.int p2), .val (.int p3), .val (.int p4), .val (.int p5), .val (.ref ar), .val (.int (Int32.ofNat n)), .val (.int (0 : Int32)), .val (.int (0 : Int32)), .val (.int (Int32.ofNat k)), .val (.ref x11), .val (.ref x13), .val (.ref x16), .val (.ref b19), .val (.int (1 : Int32)), .val (.int (own_f k n)), .val (.int (own_f k n)), .val (.int (1 : Int32)), .unset] [(.int (own_f n ((as.drop 0).take n).length))])) _
    rw [(show own_f n ((as.drop 0).take n).length = (0 : Int32) by rw [hTl]; exact own_f_self n)]
    show Steps p.tables e below (T51.setTop (mkF m 254 #[.val (.int p1), .val (.int p2), .val (.int p3), .val (.int p4), .val (.int p5), .val (.ref ar), .val (.int (Int32.ofNat n)), .val (.int (0 : Int32)), .val (.int (0 : Int32)), .val (.int (Int32.ofNat k)), .val (.ref x11), .val (.ref x13), .val (.ref x16), .val (.ref b19), .val (.int (1 : Int32)), .val (.int (own_f k n)), .val (.int (own_f k n)), .val (.int (1 : Int32)), .unset] [(.int (0 : Int32))])) _
    refine XS.istore X51.here hx rfl (hb hby at_254) rfl (l' := #[.val (.int p1), .val (.int p2), .val (.int p3), .val (.int p4), .val (.int p5), .val (.ref ar), .val (.int (Int32.ofNat n)), .val (.int (0 : Int32)), .val (.int (0 : Int32)), .val (.int (Int32.ofNat k)), .val (.ref x11), .val (.ref x13), .val (.ref x16), .val (.ref b19), .val (.int (1 : Int32)), .val (.int (own_f k n)), .val (.int (own_f k n)), .val (.int (1 : Int32)), .val (.int (0 : Int32))]) rfl ?_
    show Steps p.tables e below (T51.setTop (mkF m 256 #[.val (.int p1), .val (.int p2), .val (.int p3), .val (.int p4), .val (.int p5), .val (.ref ar), .val (.int (Int32.ofNat n)), .val (.int (0 : Int32)), .val (.int (0 : Int32)), .val (.int (Int32.ofNat k)), .val (.ref x11), .val (.ref x13), .val (.ref x16), .val (.ref b19), .val (.int (1 : Int32)), .val (.int (own_f k n)), .val (.int (own_f k n)), .val (.int (1 : Int32)), .val (.int (0 : Int32))] [])) _
    refine stv9 _ ?_
    show Steps p.tables e below (Tv9.setTop (mkF m 278 #[.val (.int p1), .val (.int p2), .val (.int p3), .val (.int p4), .val (.int p5), .val (.ref ar), .val (.int (Int32.ofNat n)), .val (.int (0 : Int32)), .val (.int (0 : Int32)), .val (.int (Int32.ofNat k)), .val (.ref x11), .val (.ref x13), .val (.ref x16), .val (.ref b19), .val (.int (1 : Int32)), .val (.int (own_f k n)), .val (.int (own_f k n)), .val (.int (1 : Int32)), .val (.int (0 : Int32))] [])) _
    refine XS.iload Xv9.here hx rfl (hb hby at_278) rfl ?_
    refine XS.iload Xv9.here hx rfl (hb hby at_280) rfl ?_
    refine XS.icmpNo Xv9.here hx rfl (hb hby at_282) rfl (teq (rfl : (own_f k n) = (own_f k n))).2 ?_
    refine XS.iload Xv9.here hx rfl (hb hby at_285) rfl ?_
    refine XS.ifNo Xv9.here hx rfl (hb hby at_287) rfl ((if0 _ _).trans (feq (by decide : ¬ ((1 : Int32) = (0 : Int32)))).1) ?_
    refine XS.iload Xv9.here hx rfl (hb hby at_290) rfl ?_
    refine XS.ifNo Xv9.here hx rfl (hb hby at_292) rfl ((if0 _ _).trans (teq (by decide : (0 : Int32) = (0 : Int32))).2) ?_
    refine XS.iconst Xv9.here hx rfl (hb hby at_295) ?_
    refine XS.goto Xv9.here hx rfl (pc0 := 296) (pc' := 300) rfl (hb hby at_296) (by decide) (by decide) ?_
    show Steps p.tables e below (Tv9.setTop (mkF m 300 #[.val (.int p1), .val (.int p2), .val (.int p3), .val (.int p4), .val (.int p5), .val (.ref ar), .val (.int (Int32.ofNat n)), .val (.int (0 : Int32)), .val (.int (0 : Int32)), .val (.int (Int32.ofNat k)), .val (.ref x11), .val (.ref x13), .val (.ref x16), .val (.ref b19), .val (.int (1 : Int32)), .val (.int (own_f k n)), .val (.int (own_f k n)), .val (.int (1 : Int32)), .val (.int (0 : Int32))] [(.int (1 : Int32))])) _
    exact retN Xv9 hx (t := .boolean) Bd.returns (by simp) (hb hby at_300) hr
  · show Q0 Z  h0 n0 _ Tv9.heap _
    rw [ev9b]
    exact ⟨rfl, Nv9⟩
set_option maxRecDepth 65536 in
set_option maxHeartbeats 40000000 in
theorem rm0_ff (l : Launch) (Z : State) (a0 : Array Value) (hw : ∀ d ∈ tables_1, d.before a0 Z = true) (ws : List Jvm.Cond) (G1 : Int32) (G3 : Value) (p1 : Int32) (p2 : Int32) (p3 : Int32) (p4 : Int32) (p5 : Int32) (n : Nat) (h0 : Heap) (n0 : Nat) (Z0 : n0 ≤ h0.size) (EN : own_env Z G1 G3) (X00 : Old Z n0 h0) (hn5 : ((((p5.toUInt32 >>> ((1 : Int32) &&& 31).toUInt32).toInt32) &&& (7 : Int32)) % (5 : Int32)) = (Int32.ofNat n)) (hn : n ≤ 4) (hc48 : ¬ ((p5 &&& (1 : Int32)) = (0 : Int32))) (hc54 : ¬ ((Int32.ofNat n) < (1 : Int32))) :
    MetFree l x (head1 (Jvm.Cond.code x code maxLocals ret :: ws) room_1) (fun a_ U_ => a_ = #[(.int p1), (.int p2), (.int p3), (.int p4), (.int p5)] ∧ Z.Warmed39 U_.vm ∧ U_.heap = h0 ∧ CHv Z consts_1 U_.vm h0) (fun _ _ _ _ _ => True) (fun _ U_ o_ U1_ => ∃ v_ L_, o_ = .returned v_ ∧ Q0 Z  h0 n0 v_ U1_.heap L_ ∧ ReturnedEndW U_ o_ U1_ L_ 40 3264) := by
  refine MetFree.of_bodySF (plainFor_of_name pn_0) hisR ?_
  intro p e s m args below meth c s₁ Bd hml0 hP hK
  obtain ⟨rfl, hZ, hh, H0⟩ := hP
  have hx := Bd.exec
  have hby := Bd.bytes
  have hml : c.maxLocals = 19 := hml0
  have hown : s.vm.findClass "com/example/atomize/atomize/http/FieldValueReaderNextElementPinLaw" = some m.cls := findClass_of_methodNamed Bd.named
  have hnm := (name_of_methodNamed Bd.named Bd.method).1
  have X0 : Stand p l e room_1 s m #[(.int p1), (.int p2), (.int p3), (.int p4), (.int p5)] below meth c s₁ [] 0 0 := Stand.of_body Bd
  have e0 : s₁.heap = h0 := by rw [← hh, Bd.state]; rfl
  have N0 := Fr.nil n0
  have pre0 : ∀ tt, Steps p.tables e below (s₁.setTop (mkF m 0 #[.val (.int p1), .val (.int p2), .val (.int p3), .val (.int p4), .val (.int p5), .unset, .unset, .unset, .unset, .unset, .unset, .unset, .unset, .unset, .unset, .unset, .unset, .unset, .unset] [])) tt → Steps p.tables e below (s₁.setTop (entryFrame m #[(.int p1), (.int p2), (.int p3), (.int p4), (.int p5)] maxLocals)) tt := fun tt kk => castTop (ef_0_rrrrr m p1 p2 p3 p4 p5) kk
  have hS0 : s.Since s.vm 0 := (State.WarmedH.refl s).since 0
  have hk0 : 0 ≤ h0.size := Nat.zero_le _
  have EN0 := EN
  obtain ⟨O2, P5, O4, rG3⟩ := EN
  have hws : ∀ d ∈ StrChars.Road.words, d.before a0 Z = true := fun d hd => hw d (own_w1 d hd)
  have hwl : ∀ d ∈ StrChars.Road.wordsLen, d.before a0 Z = true := fun d hd => hw d (own_w2 d hd)
  have hwc : ∀ d ∈ StrChars.Road.wordsChN, d.before a0 Z = true := fun d hd => hw d (own_w3 d hd)
  obtain ⟨T1, h1, L1, ar, ka, as, X1, e1, N1, Z1, O1, K1, V1, g_ar, sz_ar, h4, hc8, st1⟩ := fr1 G1 G3 p1 p2 p3 p4 p5 h0 n0 X0 hx hZ hw hby hml hown e0 N0 Z0 EN0 X00
  have ha : as.length < 2 ^ 31 := by omega
  have hs : 1 ≤ n := own_ge1 hc54
  have hb0 : 1 ≤ 4 := by omega
  have hq0 : 1 ≤ n := hs
  obtain ⟨Tv0, hv0, Lv0, Xv0, ev0, Nv0, Zv0, hhv0, stv0⟩ := stp0 p1 p2 p3 p4 p5 ar ka as n 1 (1 : Int32) (1 : Int32) h1 n0 X1 hx hZ hw hby hml hown e1 N1 (Nat.le_trans Z0 K1.1) V1 h4 hn (by omega)
  have ev0b := ev0.trans hhv0
  have hq1 : (own_step as n 1) ≤ n := own_step_le hq0
  obtain ⟨Tv1, hv1, Lv1, Xv1, ev1, Nv1, Zv1, hhv1, stv1⟩ := stp1 p1 p2 p3 p4 p5 ar ka as n (own_step as n 1) (1 : Int32) (1 : Int32) h1 n0 Xv0 hx hZ hw hby hml hown ev0b Nv0 (Nat.le_trans Z0 K1.1) V1 h4 hn (by omega)
  have ev1b := ev1.trans hhv1
  have hq2 : (own_step as n (own_step as n 1)) ≤ n := own_step_le hq1
  obtain ⟨Tv2, hv2, Lv2, Xv2, ev2, Nv2, Zv2, hhv2, stv2⟩ := stp2 p1 p2 p3 p4 p5 ar ka as n (own_step as n (own_step as n 1)) (1 : Int32) (1 : Int32) h1 n0 Xv1 hx hZ hw hby hml hown ev1b Nv1 (Nat.le_trans Z0 K1.1) V1 h4 hn (by omega)
  have ev2b := ev2.trans hhv2
  have hq3 : (own_step as n (own_step as n (own_step as n 1))) ≤ n := own_step_le hq2
  obtain ⟨Tv3, hv3, Lv3, Xv3, ev3, Nv3, Zv3, hhv3, stv3⟩ := stp3 p1 p2 p3 p4 p5 ar ka as n (own_step as n (own_step as n (own_step as n 1))) (1 : Int32) (1 : Int32) h1 n0 Xv2 hx hZ hw hby hml hown ev2b Nv2 (Nat.le_trans Z0 K1.1) V1 h4 hn (by omega)
  have ev3b := ev3.trans hhv3
  have hq4 : (own_step as n (own_step as n (own_step as n (own_step as n 1)))) ≤ n := own_step_le hq3
  obtain ⟨k, hk⟩ : ∃ k, own_k4 as n 1 = k := ⟨_, rfl⟩
  have hkn : k ≤ n := by rw [← hk]; exact own_k4_le hs
  have hTl : ((as.drop 0).take n).length = n := own_dl (by omega)
  have C12 := CHr.keep ((Keep.refl h0 []).trans K1 all0) sf0 H0
  obtain ⟨_, _, ⟨T11, L11, k11, n11⟩, -, X11', hS11', gr11, ⟨Lc11, hQ11, l11, y11, z11, Cx11⟩, st11⟩ := callSS Xv3 hx (y := (⟨"com/example/atomize/atomize/http/FieldValueReaderNextElementPinLaw", "slice", "([CII)Ljava/lang/String;"⟩ : MethodName)) hown (mvT hZ (hw _ (List.mem_of_getElem? (i := 5) rfl))) (mvT hZ (hw _ (List.mem_of_getElem? (i := 6) rfl))) (mvT hZ (hw _ (List.mem_of_getElem? (i := 3) rfl))) (mvT hZ (hw _ (List.mem_of_getElem? (i := 7) rfl))) (by decide) (backOfSH (W := 0) (s := s) (rmSL l Z a0 hw [] G1 G3 ar ka as 0 n n (Nat.zero_add n).symm (by omega) h1 n0 (Nat.le_trans Z0 K1.1) EN0 O1 V1 hc8 (by omega) ha) hZ (hw _ (List.mem_of_getElem? (i := 7) rfl)) (hw _ (List.mem_of_getElem? (i := 3) rfl)) (by decide) (by decide) (own_EW hw) C12.1) (g := (mkF m 169 #[.val (.int p1), .val (.int p2), .val (.int p3), .val (.int p4), .val (.int p5), .val (.ref ar), .val (.int (Int32.ofNat n)), .val (.int (1 : Int32)), .val (.int (1 : Int32)), .val (.int (Int32.ofNat k)), .unset, .unset, .unset, .unset, .unset, .unset, .unset, .unset, .unset] [(.int (Int32.ofNat n)), (.int (0 : Int32)), (.ref ar)])) rfl (by rw [hml]; rfl) (argsL := [(.ref ar), (.int (0 : Int32)), (.int (Int32.ofNat n))]) (rest := []) (lenOf pd___CII_Ljava_lang_String_ rfl) rfl (by show 2 * 0 + _ ≤ _; exact Nat.le_of_eq rfl) (hb hby at_169) (fun _ _ => ⟨rfl, ev3b, (by decide : 1 + 6 ≤ _), (by decide : 4 + 12 ≤ _)⟩)
  dsimp only [Pt.U, Pt.locs, Pt.cells, Pt.slots] at X11' hS11' gr11 Cx11 l11 y11 z11 st11 hQ11
  subst l11 y11 z11
  obtain ⟨X11, hS11, hZ11, hown11⟩ := rebS (s := s) (vm0 := s.vm) hS0 (by rw [ev3b]; exact (Nat.le_trans hk0 K1.1)) X11' hS11' gr11 hZ hown
  obtain ⟨x11, rfl, Nq11, sz11, Kq11, sq11⟩ := hQ11
  have C11 := CHr.trans C12 Cx11
  have N11 := Fr.app Nv3 Nq11
  have g11x : n0 ≤ x11 := Nat.le_trans (Nat.le_trans Z0 K1.1) sz11
  have lt11 := own_s_lt sq11
  obtain ⟨bs11, ks11, Es11, Cs11, Vs11, Ks11, hps11, hls11⟩ := sq11
  have f14 := (O1.keep Kq11 all0)
  have f15 := (V1.keep Kq11 nin0)
  obtain ⟨_, _, ⟨T13, L13, k13, n13⟩, -, X13', hS13', gr13, ⟨Lc13, hQ13, l13, y13, z13, Cx13⟩, st13⟩ := callSS X11 hx (y := (⟨"com/example/atomize/atomize/http/FieldValueReaderNextElementPinLaw", "slice", "([CII)Ljava/lang/String;"⟩ : MethodName)) hown11 (mvT hZ11 (hw _ (List.mem_of_getElem? (i := 5) rfl))) (mvT hZ11 (hw _ (List.mem_of_getElem? (i := 6) rfl))) (mvT hZ11 (hw _ (List.mem_of_getElem? (i := 3) rfl))) (mvT hZ11 (hw _ (List.mem_of_getElem? (i := 7) rfl))) (by decide) (backOfSH (W := 0) (s := s) (rmSL l Z a0 hw [] G1 G3 ar ka as 0 1 1 rfl (by decide) T11.heap n0 (Nat.le_trans Z0 (Nat.le_trans K1.1 Kq11.1)) EN0 f14 f15 hc8 (by omega) ha) hZ11 (hw _ (List.mem_of_getElem? (i := 7) rfl)) (hw _ (List.mem_of_getElem? (i := 3) rfl)) (by decide) (by decide) (own_EW hw) C11.1) (g := (mkF m 178 #[.val (.int p1), .val (.int p2), .val (.int p3), .val (.int p4), .val (.int p5), .val (.ref ar), .val (.int (Int32.ofNat n)), .val (.int (1 : Int32)), .val (.int (1 : Int32)), .val (.int (Int32.ofNat k)), .val (.ref x11), .unset, .unset, .unset, .unset, .unset, .unset, .unset, .unset] [(.int (1 : Int32)), (.int (0 : Int32)), (.ref ar)])) rfl (by rw [hml]; rfl) (argsL := [(.ref ar), (.int (0 : Int32)), (.int (1 : Int32))]) (rest := []) (lenOf pd___CII_Ljava_lang_String_ rfl) rfl (by show 2 * 0 + _ ≤ _; exact Nat.le_of_eq rfl) (hb hby at_178) (fun _ _ => ⟨rfl, rfl, (by decide : 7 + 6 ≤ _), (by decide : 16 + 12 ≤ _)⟩)
  dsimp only [Pt.U, Pt.locs, Pt.cells, Pt.slots] at X13' hS13' gr13 Cx13 l13 y13 z13 st13 hQ13
  subst l13 y13 z13
  obtain ⟨X13, hS13, hZ13, hown13⟩ := rebS (s := s) (vm0 := T11.vm) hS11 ((Nat.le_refl _)) X13' hS13' gr13 hZ11 hown11
  obtain ⟨x13, rfl, Nq13, sz13, Kq13, sq13⟩ := hQ13
  have C13 := CHr.trans C11 Cx13
  have N13 := Fr.app N11 Nq13
  have g13x : n0 ≤ x13 := Nat.le_trans (Nat.le_trans Z0 (Nat.le_trans K1.1 Kq11.1)) sz13
  have lt13 := own_s_lt sq13
  obtain ⟨bs13, ks13, Es13, Cs13, Vs13, Ks13, hps13, hls13⟩ := sq13
  have f17 := (f14.keep Kq13 all0)
  have f18 := (f15.keep Kq13 nin0)
  obtain ⟨_, _, ⟨T16, L16, k16, n16⟩, -, X16', hS16', gr16, ⟨Lc16, hQ16, l16, y16, z16, Cx16⟩, st16⟩ := callSS X13 hx (y := (⟨"com/example/atomize/atomize/http/FieldValueReaderNextElementPinLaw", "slice", "([CII)Ljava/lang/String;"⟩ : MethodName)) hown13 (mvT hZ13 (hw _ (List.mem_of_getElem? (i := 5) rfl))) (mvT hZ13 (hw _ (List.mem_of_getElem? (i := 6) rfl))) (mvT hZ13 (hw _ (List.mem_of_getElem? (i := 3) rfl))) (mvT hZ13 (hw _ (List.mem_of_getElem? (i := 7) rfl))) (by decide) (backOfSH (W := 0) (s := s) (rmSL l Z a0 hw [] G1 G3 ar ka as k n (n - k) (by omega) (by omega) T13.heap n0 (Nat.le_trans Z0 (Nat.le_trans (Nat.le_trans K1.1 Kq11.1) Kq13.1)) EN0 f17 f18 hc8 (by omega) ha) hZ13 (hw _ (List.mem_of_getElem? (i := 7) rfl)) (hw _ (List.mem_of_getElem? (i := 3) rfl)) (by decide) (by decide) (own_EW hw) C13.1) (g := (mkF m 189 #[.val (.int p1), .val (.int p2), .val (.int p3), .val (.int p4), .val (.int p5), .val (.ref ar), .val (.int (Int32.ofNat n)), .val (.int (1 : Int32)), .val (.int (1 : Int32)), .val (.int (Int32.ofNat k)), .val (.ref x11), .val (.ref x13), .unset, .unset, .unset, .unset, .unset, .unset, .unset] [(.int (Int32.ofNat n)), (.int (Int32.ofNat k)), (.ref ar)])) rfl (by rw [hml]; rfl) (argsL := [(.ref ar), (.int (Int32.ofNat k)), (.int (Int32.ofNat n))]) (rest := []) (lenOf pd___CII_Ljava_lang_String_ rfl) rfl (by show 2 * 0 + _ ≤ _; exact Nat.le_of_eq rfl) (hb hby at_189) (fun _ _ => ⟨rfl, rfl, (by decide : 13 + 6 ≤ _), (by decide : 28 + 12 ≤ _)⟩)
  dsimp only [Pt.U, Pt.locs, Pt.cells, Pt.slots] at X16' hS16' gr16 Cx16 l16 y16 z16 st16 hQ16
  subst l16 y16 z16
  obtain ⟨X16, hS16, hZ16, hown16⟩ := rebS (s := s) (vm0 := T13.vm) hS13 ((Nat.le_refl _)) X16' hS16' gr16 hZ13 hown13
  obtain ⟨x16, rfl, Nq16, sz16, Kq16, sq16⟩ := hQ16
  have C16 := CHr.trans C13 Cx16
  have N16 := Fr.app N13 Nq16
  have g16x : n0 ≤ x16 := Nat.le_trans (Nat.le_trans Z0 (Nat.le_trans (Nat.le_trans K1.1 Kq11.1) Kq13.1)) sz16
  have lt16 := own_s_lt sq16
  obtain ⟨bs16, ks16, Es16, Cs16, Vs16, Ks16, hps16, hls16⟩ := sq16
  obtain ⟨T19, h19, X19, e19, E19, A19, D19, -, st19⟩ := newO X16 hx hZ16 hown16 (hw _ (List.mem_of_getElem? (i := 40) rfl)) (hw _ (List.mem_of_getElem? (i := 41) rfl)) (hw _ (List.mem_of_getElem? (i := 42) rfl)) rfl (g := (mkF m 194 #[.val (.int p1), .val (.int p2), .val (.int p3), .val (.int p4), .val (.int p5), .val (.ref ar), .val (.int (Int32.ofNat n)), .val (.int (1 : Int32)), .val (.int (1 : Int32)), .val (.int (Int32.ofNat k)), .val (.ref x11), .val (.ref x13), .val (.ref x16), .unset, .unset, .unset, .unset, .unset, .unset] [])) rfl (hb hby at_194) (by decide) (by decide)
  obtain ⟨b19, g19⟩ : ∃ z, z = T16.heap.size := ⟨_, rfl⟩
  rw [← g19] at A19 D19 st19
  have g_b19 : n0 ≤ b19 := Nat.le_trans (Nat.le_trans Z0 (Nat.le_trans (Nat.le_trans (Nat.le_trans K1.1 Kq11.1) Kq13.1) Kq16.1)) (Nat.le_of_eq g19.symm)
  have sz_b19 : h0.size ≤ b19 := Nat.le_trans (Nat.le_trans (Nat.le_trans (Nat.le_trans K1.1 Kq11.1) Kq13.1) Kq16.1) (Nat.le_of_eq g19.symm)
  have F19_name : Fld Z h19 b19 "com/example/atomize/atomize/http/FieldValueReader" "name" "Ljava/lang/String;" .null := D19 (Or.inr (hw _ (List.mem_of_getElem? (i := 50) rfl))) (ty := (.object "java/lang/String")) (by decide)
  have F19_text : Fld Z h19 b19 "com/example/atomize/atomize/http/FieldValueReader" "text" "Ljava/lang/String;" .null := D19 (Or.inr (hw _ (List.mem_of_getElem? (i := 52) rfl))) (ty := (.object "java/lang/String")) (by decide)
  have F19_grammar : Fld Z h19 b19 "com/example/atomize/atomize/http/FieldValueReader" "grammar" "Ljava/lang/String;" .null := D19 (Or.inr (hw _ (List.mem_of_getElem? (i := 54) rfl))) (ty := (.object "java/lang/String")) (by decide)
  have F19_position : Fld Z h19 b19 "com/example/atomize/atomize/http/FieldValueReader" "position" "I" (.int (0 : Int32)) := D19 (Or.inl (hw _ (List.mem_of_getElem? (i := 61) rfl))) (ty := .int) (by decide)
  have C21 := CHr.trans C16 (CHr.ext E19 C16.1)
  obtain ⟨b20, T20, h20, k20, d20, kb20, X20, e20, E20, hS20, hk20, hZ20, hown20, Ea20, Ca20, Va20, Ka20, la20, lb20, Cx20, -, ne20, st20⟩ := ldcCH (s := s) (vm0 := T16.vm) X19 hx hZ16 hown16 (hw _ (List.mem_of_getElem? (i := 43) rfl)) (fun d hd => hw d (own_wS d hd)) e19 hS16 (Nat.le_trans (Nat.le_refl _) E19.1) (own_EW hw) own_mem28 C21.1 (vs := [Value.int (Jvm.Lit.byteI 76), Value.int (Jvm.Lit.byteI 105), Value.int (Jvm.Lit.byteI 110), Value.int (Jvm.Lit.byteI 107)]) (z := 4) ⟨by decide, rfl⟩ (by decide) rfl (g := (mkF m 198 #[.val (.int p1), .val (.int p2), .val (.int p3), .val (.int p4), .val (.int p5), .val (.ref ar), .val (.int (Int32.ofNat n)), .val (.int (1 : Int32)), .val (.int (1 : Int32)), .val (.int (Int32.ofNat k)), .val (.ref x11), .val (.ref x13), .val (.ref x16), .unset, .unset, .unset, .unset, .unset, .unset] [(.ref b19), (.ref b19)])) rfl (hb hby at_198) (n := 16) (by decide) (by decide) (by decide) (by decide)
  have C20 := CHr.trans C21 Cx20
  obtain ⟨b22, T22, h22, k22, d22, kb22, X22, e22, E22, hS22, hk22, hZ22, hown22, Ea22, Ca22, Va22, Ka22, la22, lb22, Cx22, -, ne22, st22⟩ := ldcCH (s := s) (vm0 := T20.vm) X20 hx hZ20 hown20 (hw _ (List.mem_of_getElem? (i := 44) rfl)) (fun d hd => hw d (own_wS d hd)) e20 hS20 hk20 (own_EW hw) own_mem30 C20.1 (vs := [Value.int (Jvm.Lit.byteI 97), Value.int (Jvm.Lit.byteI 32), Value.int (Jvm.Lit.byteI 108), Value.int (Jvm.Lit.byteI 105), Value.int (Jvm.Lit.byteI 115), Value.int (Jvm.Lit.byteI 116), Value.int (Jvm.Lit.byteI 32), Value.int (Jvm.Lit.byteI 111), Value.int (Jvm.Lit.byteI 102), Value.int (Jvm.Lit.byteI 32), Value.int (Jvm.Lit.byteI 108), Value.int (Jvm.Lit.byteI 105), Value.int (Jvm.Lit.byteI 110), Value.int (Jvm.Lit.byteI 107), Value.int (Jvm.Lit.byteI 115)]) (z := 15) ⟨by decide, rfl⟩ (by decide) rfl (g := (mkF m 202 #[.val (.int p1), .val (.int p2), .val (.int p3), .val (.int p4), .val (.int p5), .val (.ref ar), .val (.int (Int32.ofNat n)), .val (.int (1 : Int32)), .val (.int (1 : Int32)), .val (.int (Int32.ofNat k)), .val (.ref x11), .val (.ref x13), .val (.ref x16), .unset, .unset, .unset, .unset, .unset, .unset] [(.ref x11), (.ref b20), (.ref b19), (.ref b19)])) rfl (hb hby at_202) (n := 60) (by decide) (by decide) (by decide) (by decide)
  have C22 := CHr.trans C20 Cx22
  have f24 := ((A19.ext E20).ext E22)
  have f25 := ((F19_name.ext E20).ext E22)
  have f26 := ((F19_text.ext E20).ext E22)
  have f27 := ((F19_grammar.ext E20).ext E22)
  have f28 := ((F19_position.ext E20).ext E22)
  obtain ⟨_, _, ⟨T23, L23, k23, n23⟩, -, X23, ⟨Lc23, hQ23, l23, y23, z23⟩, st23⟩ := X22.specialBack hx (y := (⟨"com/example/atomize/atomize/http/FieldValueReader", "<init>", "(Ljava/lang/String;Ljava/lang/String;Ljava/lang/String;)V"⟩ : MethodName)) rfl hown22 (mvT hZ22 (hw _ (List.mem_of_getElem? (i := 45) rfl))) (mvT hZ22 (hw _ (List.mem_of_getElem? (i := 46) rfl))) (mvT hZ22 (hw _ (List.mem_of_getElem? (i := 47) rfl))) (by decide) (backOf (W := 1) (rmFI l Z a0 hw [] b19 b20 x11 b22 h22 n0 (Nat.le_trans Z0 (Nat.le_trans (Nat.le_trans (Nat.le_trans (Nat.le_trans (Nat.le_trans (Nat.le_trans K1.1 Kq11.1) Kq13.1) Kq16.1) E19.1) E20.1) E22.1)) f24 f25 f26 f27 f28 g_b19) hZ22 (hw _ (List.mem_of_getElem? (i := 47) rfl)) (hw _ (List.mem_of_getElem? (i := 42) rfl)) (by decide) (by decide)) (g := (mkF m 204 #[.val (.int p1), .val (.int p2), .val (.int p3), .val (.int p4), .val (.int p5), .val (.ref ar), .val (.int (Int32.ofNat n)), .val (.int (1 : Int32)), .val (.int (1 : Int32)), .val (.int (Int32.ofNat k)), .val (.ref x11), .val (.ref x13), .val (.ref x16), .unset, .unset, .unset, .unset, .unset, .unset] [(.ref b22), (.ref x11), (.ref b20), (.ref b19), (.ref b19)])) rfl (by rw [hml]; rfl) (Steps.refl _) (a := b19) (argsL := [(.ref b20), (.ref x11), (.ref b22)]) (rest := [(.ref b19)]) (lenOf pd__Ljava_lang_String_Ljava_lang_String_Ljava_lang_String__V rfl) rfl (by show 2 * 0 + _ ≤ _; exact Nat.le_of_eq rfl) (hb hby at_204) (fun _ _ => ⟨rfl, e22, (by decide : 24 + 0 ≤ _), (by decide : 128 + 0 ≤ _)⟩)
  dsimp only [Pt.U, Pt.locs, Pt.cells, Pt.slots] at X23 l23 y23 z23 st23 hQ23
  subst l23 y23 z23
  obtain ⟨rfl, Nq23, Kq23, Er23, Ft23, Fp23⟩ := hQ23
  have N23 := Fr.app N16 Nq23
  have f30 := (((((f17.keep Kq16 all0).ext E19).ext E20).ext E22).keep Kq23 (allS g_b19 all0))
  have f31 := ((((((Es11.keep Kq13).keep Kq16).ext E19).ext E20).ext E22).keep Kq23)
  have f32 := ((((((Cs11.keep Kq13 nin0).keep Kq16 nin0).ext E19).ext E20).ext E22).keep Kq23 (ninS (Nat.ne_of_lt (Nat.lt_of_lt_of_le (Nat.lt_of_lt_of_le lt11 (Nat.le_trans Kq13.1 Kq16.1)) (Nat.le_of_eq g19.symm))) nin0))
  have f33 := ((((((Vs11.keep Kq13 nin0).keep Kq16 nin0).ext E19).ext E20).ext E22).keep Kq23 (ninS (Nat.ne_of_lt (Nat.lt_of_lt_of_le (Nat.lt_of_lt_of_le lt11 (Nat.le_trans Kq13.1 Kq16.1)) (Nat.le_of_eq g19.symm))) nin0))
  have f34 := ((((((Ks11.keep Kq13 nin0).keep Kq16 nin0).ext E19).ext E20).ext E22).keep Kq23 (ninS (Nat.ne_of_lt (Nat.lt_of_lt_of_le (Nat.lt_of_lt_of_le Ks11.lt (Nat.le_trans Kq13.1 Kq16.1)) (Nat.le_of_eq g19.symm))) nin0))
  have f35 := (((((Es13.keep Kq16).ext E19).ext E20).ext E22).keep Kq23)
  have f36 := (((((Cs13.keep Kq16 nin0).ext E19).ext E20).ext E22).keep Kq23 (ninS (Nat.ne_of_lt (Nat.lt_of_lt_of_le (Nat.lt_of_lt_of_le lt13 Kq16.1) (Nat.le_of_eq g19.symm))) nin0))
  have f37 := (((((Vs13.keep Kq16 nin0).ext E19).ext E20).ext E22).keep Kq23 (ninS (Nat.ne_of_lt (Nat.lt_of_lt_of_le (Nat.lt_of_lt_of_le lt13 Kq16.1) (Nat.le_of_eq g19.symm))) nin0))
  have f38 := (((((Ks13.keep Kq16 nin0).ext E19).ext E20).ext E22).keep Kq23 (ninS (Nat.ne_of_lt (Nat.lt_of_lt_of_le (Nat.lt_of_lt_of_le Ks13.lt Kq16.1) (Nat.le_of_eq g19.symm))) nin0))
  obtain ⟨cq29, kq29, q29a, q29b, q29c⟩ := isOf hZ22 rfl Er23
  obtain ⟨_, _, ⟨T29, L29, k29, n29⟩, -, X29, ⟨Lc29, hQ29, l29, y29, z29⟩, st29⟩ := X23.virtualBack hx (y := (⟨"com/example/atomize/atomize/http/FieldValueReader", "accept", "(Ljava/lang/String;)Z"⟩ : MethodName)) (z := (⟨"com/example/atomize/atomize/http/FieldValueReader", "accept", "(Ljava/lang/String;)Z"⟩ : MethodName)) hown22 (mvT hZ22 (hw _ (List.mem_of_getElem? (i := 72) rfl))) (mvT hZ22 (hw _ (List.mem_of_getElem? (i := 73) rfl))) (notFace_of_selects (args := #[]) (mvT hZ22 (hw _ (List.mem_of_getElem? (i := 75) rfl)))) (mvT hZ22 (hw _ (List.mem_of_getElem? (i := 75) rfl))) (mvT hZ22 (hw _ (List.mem_of_getElem? (i := 74) rfl))) (by decide) (backOf (W := 0) (rmAP l Z a0 hw [] G1 G3 b19 x11 x13 ((as.drop 0).take n) ((as.drop 0).take 1) 0 1 T23.heap n0 (Nat.le_trans Z0 (Nat.le_trans (Nat.le_trans (Nat.le_trans (Nat.le_trans (Nat.le_trans (Nat.le_trans (Nat.le_trans K1.1 Kq11.1) Kq13.1) Kq16.1) E19.1) E20.1) E22.1) Kq23.1)) EN0 f30 Er23 Ft23 Fp23 g_b19 ⟨bs11, ks11, f31, f32, f33, f34, hps11, hls11⟩ ⟨bs13, ks13, f35, f36, f37, f38, hps13, hls13⟩ (own_pre (by omega) (by omega)) (by rw [own_dl (by omega), hTl]; omega) (by rw [own_dl (by omega)])) hZ22 (hw _ (List.mem_of_getElem? (i := 76) rfl)) (hw _ (List.mem_of_getElem? (i := 42) rfl)) (by decide) (by decide)) q29a q29c (g := (mkF m 221 #[.val (.int p1), .val (.int p2), .val (.int p3), .val (.int p4), .val (.int p5), .val (.ref ar), .val (.int (Int32.ofNat n)), .val (.int (1 : Int32)), .val (.int (1 : Int32)), .val (.int (Int32.ofNat k)), .val (.ref x11), .val (.ref x13), .val (.ref x16), .val (.ref b19), .val (.int (1 : Int32)), .unset, .unset, .unset, .unset] [(.ref x13), (.ref b19)])) rfl (by rw [hml]; rfl) (Steps.refl _) (argsL := [(.ref x13)]) (rest := []) (lenOf pd__Ljava_lang_String__Z rfl) rfl (by show 2 * 0 + _ ≤ _; exact Nat.le_of_eq rfl) (hb hby at_221) (fun _ _ => ⟨rfl, rfl, (by decide : 24 + 0 ≤ _), (by decide : 128 + 0 ≤ _)⟩)
  dsimp only [Pt.U, Pt.locs, Pt.cells, Pt.slots] at X29 l29 y29 z29 st29 hQ29
  subst l29 y29 z29
  obtain ⟨rfl, Nq29, Kq29, Er29, Ft29, Fp29⟩ := hQ29
  have N29 := Fr.app N23 Nq29
  have f40 := (f30.keep Kq29 (allS g_b19 all0))
  have f41 := (f31.keep Kq29)
  have f42 := (f32.keep Kq29 (ninS (Nat.ne_of_lt (Nat.lt_of_lt_of_le (Nat.lt_of_lt_of_le lt11 (Nat.le_trans Kq13.1 Kq16.1)) (Nat.le_of_eq g19.symm))) nin0))
  have f43 := (f33.keep Kq29 (ninS (Nat.ne_of_lt (Nat.lt_of_lt_of_le (Nat.lt_of_lt_of_le lt11 (Nat.le_trans Kq13.1 Kq16.1)) (Nat.le_of_eq g19.symm))) nin0))
  have f44 := (f34.keep Kq29 (ninS (Nat.ne_of_lt (Nat.lt_of_lt_of_le (Nat.lt_of_lt_of_le Ks11.lt (Nat.le_trans Kq13.1 Kq16.1)) (Nat.le_of_eq g19.symm))) nin0))
  obtain ⟨cq39, kq39, q39a, q39b, q39c⟩ := isOf hZ22 rfl Er29
  obtain ⟨_, _, ⟨T39, L39, k39, n39⟩, -, X39, ⟨Lc39, hQ39, l39, y39, z39⟩, st39⟩ := X29.virtualBack hx (y := (⟨"com/example/atomize/atomize/http/FieldValueReader", "nextElement", "()Z"⟩ : MethodName)) (z := (⟨"com/example/atomize/atomize/http/FieldValueReader", "nextElement", "()Z"⟩ : MethodName)) hown22 (mvT hZ22 (hw _ (List.mem_of_getElem? (i := 55) rfl))) (mvT hZ22 (hw _ (List.mem_of_getElem? (i := 56) rfl))) (notFace_of_selects (args := #[]) (mvT hZ22 (hw _ (List.mem_of_getElem? (i := 58) rfl)))) (mvT hZ22 (hw _ (List.mem_of_getElem? (i := 58) rfl))) (mvT hZ22 (hw _ (List.mem_of_getElem? (i := 57) rfl))) (by decide) (backOf (W := 0) (rmNE l Z a0 hw [] G1 G3 b19 x11 ((as.drop 0).take n) 1 k T29.heap n0 (Nat.le_trans Z0 (Nat.le_trans (Nat.le_trans (Nat.le_trans (Nat.le_trans (Nat.le_trans (Nat.le_trans (Nat.le_trans (Nat.le_trans K1.1 Kq11.1) Kq13.1) Kq16.1) E19.1) E20.1) E22.1) Kq23.1) Kq29.1)) EN0 f40 Er29 Ft29 Fp29 g_b19 ⟨bs11, ks11, f41, f42, f43, f44, hps11, hls11⟩ (by rw [hTl]; exact hs) ((own_kk h4 hn hs).trans hk)) hZ22 (hw _ (List.mem_of_getElem? (i := 59) rfl)) (hw _ (List.mem_of_getElem? (i := 42) rfl)) (by decide) (by decide)) q39a q39c (g := (mkF m 228 #[.val (.int p1), .val (.int p2), .val (.int p3), .val (.int p4), .val (.int p5), .val (.ref ar), .val (.int (Int32.ofNat n)), .val (.int (1 : Int32)), .val (.int (1 : Int32)), .val (.int (Int32.ofNat k)), .val (.ref x11), .val (.ref x13), .val (.ref x16), .val (.ref b19), .val (.int (1 : Int32)), .unset, .unset, .unset, .unset] [(.ref b19)])) rfl (by rw [hml]; rfl) (Steps.refl _) (argsL := []) (rest := []) (lenOf pd___Z rfl) rfl (by show 2 * 0 + _ ≤ _; exact Nat.le_of_eq rfl) (hb hby at_228) (fun _ _ => ⟨rfl, rfl, (by decide : 24 + 0 ≤ _), (by decide : 128 + 0 ≤ _)⟩)
  dsimp only [Pt.U, Pt.locs, Pt.cells, Pt.slots] at X39 l39 y39 z39 st39 hQ39
  subst l39 y39 z39
  obtain ⟨rfl, Nq39, Kq39, Er39, Ft39, Fp39⟩ := hQ39
  have N39 := Fr.app N29 Nq39
  have f46 := (f40.keep Kq39 (allS g_b19 all0))
  have f47 := (f41.keep Kq39)
  have f48 := (f42.keep Kq39 (ninS (Nat.ne_of_lt (Nat.lt_of_lt_of_le (Nat.lt_of_lt_of_le lt11 (Nat.le_trans Kq13.1 Kq16.1)) (Nat.le_of_eq g19.symm))) nin0))
  have f49 := (f43.keep Kq39 (ninS (Nat.ne_of_lt (Nat.lt_of_lt_of_le (Nat.lt_of_lt_of_le lt11 (Nat.le_trans Kq13.1 Kq16.1)) (Nat.le_of_eq g19.symm))) nin0))
  have f50 := (f44.keep Kq39 (ninS (Nat.ne_of_lt (Nat.lt_of_lt_of_le (Nat.lt_of_lt_of_le Ks11.lt (Nat.le_trans Kq13.1 Kq16.1)) (Nat.le_of_eq g19.symm))) nin0))
  obtain ⟨cq45, kq45, q45a, q45b, q45c⟩ := isOf hZ22 rfl Er39
  obtain ⟨_, _, ⟨T45, L45, k45, n45⟩, -, X45, ⟨Lc45, hQ45, l45, y45, z45⟩, st45⟩ := X39.virtualBack hx (y := (⟨"com/example/atomize/atomize/http/FieldValueReader", "nextElement", "()Z"⟩ : MethodName)) (z := (⟨"com/example/atomize/atomize/http/FieldValueReader", "nextElement", "()Z"⟩ : MethodName)) hown22 (mvT hZ22 (hw _ (List.mem_of_getElem? (i := 55) rfl))) (mvT hZ22 (hw _ (List.mem_of_getElem? (i := 56) rfl))) (notFace_of_selects (args := #[]) (mvT hZ22 (hw _ (List.mem_of_getElem? (i := 58) rfl)))) (mvT hZ22 (hw _ (List.mem_of_getElem? (i := 58) rfl))) (mvT hZ22 (hw _ (List.mem_of_getElem? (i := 57) rfl))) (by decide) (backOf (W := 0) (rmNE l Z a0 hw [] G1 G3 b19 x11 ((as.drop 0).take n) k k T39.heap n0 (Nat.le_trans Z0 (Nat.le_trans (Nat.le_trans (Nat.le_trans (Nat.le_trans (Nat.le_trans (Nat.le_trans (Nat.le_trans (Nat.le_trans (Nat.le_trans K1.1 Kq11.1) Kq13.1) Kq16.1) E19.1) E20.1) E22.1) Kq23.1) Kq29.1) Kq39.1)) EN0 f46 Er39 Ft39 Fp39 g_b19 ⟨bs11, ks11, f47, f48, f49, f50, hps11, hls11⟩ (by rw [hTl]; exact hkn) (by have e_ := own_kk2 h4 hn hs; rw [hk] at e_; exact e_)) hZ22 (hw _ (List.mem_of_getElem? (i := 59) rfl)) (hw _ (List.mem_of_getElem? (i := 42) rfl)) (by decide) (by decide)) q45a q45c (g := (mkF m 235 #[.val (.int p1), .val (.int p2), .val (.int p3), .val (.int p4), .val (.int p5), .val (.ref ar), .val (.int (Int32.ofNat n)), .val (.int (1 : Int32)), .val (.int (1 : Int32)), .val (.int (Int32.ofNat k)), .val (.ref x11), .val (.ref x13), .val (.ref x16), .val (.ref b19), .val (.int (1 : Int32)), .val (.int (own_f k n)), .unset, .unset, .unset] [(.ref b19)])) rfl (by rw [hml]; rfl) (Steps.refl _) (argsL := []) (rest := []) (lenOf pd___Z rfl) rfl (by show 2 * 0 + _ ≤ _; exact Nat.le_of_eq rfl) (hb hby at_235) (fun _ _ => ⟨rfl, rfl, (by decide : 24 + 0 ≤ _), (by decide : 128 + 0 ≤ _)⟩)
  dsimp only [Pt.U, Pt.locs, Pt.cells, Pt.slots] at X45 l45 y45 z45 st45 hQ45
  subst l45 y45 z45
  obtain ⟨rfl, Nq45, Kq45, Er45, Ft45, Fp45⟩ := hQ45
  have N45 := Fr.app N39 Nq45
  have f52 := (f46.keep Kq45 (allS g_b19 all0))
  have f53 := (f47.keep Kq45)
  have f54 := (f48.keep Kq45 (ninS (Nat.ne_of_lt (Nat.lt_of_lt_of_le (Nat.lt_of_lt_of_le lt11 (Nat.le_trans Kq13.1 Kq16.1)) (Nat.le_of_eq g19.symm))) nin0))
  have f55 := (f49.keep Kq45 (ninS (Nat.ne_of_lt (Nat.lt_of_lt_of_le (Nat.lt_of_lt_of_le lt11 (Nat.le_trans Kq13.1 Kq16.1)) (Nat.le_of_eq g19.symm))) nin0))
  have f56 := (f50.keep Kq45 (ninS (Nat.ne_of_lt (Nat.lt_of_lt_of_le (Nat.lt_of_lt_of_le Ks11.lt (Nat.le_trans Kq13.1 Kq16.1)) (Nat.le_of_eq g19.symm))) nin0))
  have f57 := (((((((Es16.ext E19).ext E20).ext E22).keep Kq23).keep Kq29).keep Kq39).keep Kq45)
  have f58 := (((((((Cs16.ext E19).ext E20).ext E22).keep Kq23 (ninS (Nat.ne_of_lt (Nat.lt_of_lt_of_le lt16 (Nat.le_of_eq g19.symm))) nin0)).keep Kq29 (ninS (Nat.ne_of_lt (Nat.lt_of_lt_of_le lt16 (Nat.le_of_eq g19.symm))) nin0)).keep Kq39 (ninS (Nat.ne_of_lt (Nat.lt_of_lt_of_le lt16 (Nat.le_of_eq g19.symm))) nin0)).keep Kq45 (ninS (Nat.ne_of_lt (Nat.lt_of_lt_of_le lt16 (Nat.le_of_eq g19.symm))) nin0))
  have f59 := (((((((Vs16.ext E19).ext E20).ext E22).keep Kq23 (ninS (Nat.ne_of_lt (Nat.lt_of_lt_of_le lt16 (Nat.le_of_eq g19.symm))) nin0)).keep Kq29 (ninS (Nat.ne_of_lt (Nat.lt_of_lt_of_le lt16 (Nat.le_of_eq g19.symm))) nin0)).keep Kq39 (ninS (Nat.ne_of_lt (Nat.lt_of_lt_of_le lt16 (Nat.le_of_eq g19.symm))) nin0)).keep Kq45 (ninS (Nat.ne_of_lt (Nat.lt_of_lt_of_le lt16 (Nat.le_of_eq g19.symm))) nin0))
  have f60 := (((((((Ks16.ext E19).ext E20).ext E22).keep Kq23 (ninS (Nat.ne_of_lt (Nat.lt_of_lt_of_le Ks16.lt (Nat.le_of_eq g19.symm))) nin0)).keep Kq29 (ninS (Nat.ne_of_lt (Nat.lt_of_lt_of_le Ks16.lt (Nat.le_of_eq g19.symm))) nin0)).keep Kq39 (ninS (Nat.ne_of_lt (Nat.lt_of_lt_of_le Ks16.lt (Nat.le_of_eq g19.symm))) nin0)).keep Kq45 (ninS (Nat.ne_of_lt (Nat.lt_of_lt_of_le Ks16.lt (Nat.le_of_eq g19.symm))) nin0))
  obtain ⟨cq51, kq51, q51a, q51b, q51c⟩ := isOf hZ22 rfl Er45
  obtain ⟨_, _, ⟨T51, L51, k51, n51⟩, -, X51, ⟨Lc51, hQ51, l51, y51, z51⟩, st51⟩ := X45.virtualBack hx (y := (⟨"com/example/atomize/atomize/http/FieldValueReader", "accept", "(Ljava/lang/String;)Z"⟩ : MethodName)) (z := (⟨"com/example/atomize/atomize/http/FieldValueReader", "accept", "(Ljava/lang/String;)Z"⟩ : MethodName)) hown22 (mvT hZ22 (hw _ (List.mem_of_getElem? (i := 72) rfl))) (mvT hZ22 (hw _ (List.mem_of_getElem? (i := 73) rfl))) (notFace_of_selects (args := #[]) (mvT hZ22 (hw _ (List.mem_of_getElem? (i := 75) rfl)))) (mvT hZ22 (hw _ (List.mem_of_getElem? (i := 75) rfl))) (mvT hZ22 (hw _ (List.mem_of_getElem? (i := 74) rfl))) (by decide) (backOf (W := 0) (rmAP l Z a0 hw [] G1 G3 b19 x11 x16 ((as.drop 0).take n) ((as.drop k).take (n - k)) k n T45.heap n0 (Nat.le_trans Z0 (Nat.le_trans (Nat.le_trans (Nat.le_trans (Nat.le_trans (Nat.le_trans (Nat.le_trans (Nat.le_trans (Nat.le_trans (Nat.le_trans (Nat.le_trans K1.1 Kq11.1) Kq13.1) Kq16.1) E19.1) E20.1) E22.1) Kq23.1) Kq29.1) Kq39.1) Kq45.1)) EN0 f52 Er45 Ft45 Fp45 g_b19 ⟨bs11, ks11, f53, f54, f55, f56, hps11, hls11⟩ ⟨bs16, ks16, f57, f58, f59, f60, hps16, hls16⟩ (own_pre (by omega) (by omega)) (by rw [own_dl (by omega), hTl]; omega) (by rw [own_dl (by omega)]; omega)) hZ22 (hw _ (List.mem_of_getElem? (i := 76) rfl)) (hw _ (List.mem_of_getElem? (i := 42) rfl)) (by decide) (by decide)) q51a q51c (g := (mkF m 244 #[.val (.int p1), .val (.int p2), .val (.int p3), .val (.int p4), .val (.int p5), .val (.ref ar), .val (.int (Int32.ofNat n)), .val (.int (1 : Int32)), .val (.int (1 : Int32)), .val (.int (Int32.ofNat k)), .val (.ref x11), .val (.ref x13), .val (.ref x16), .val (.ref b19), .val (.int (1 : Int32)), .val (.int (own_f k n)), .val (.int (own_f k n)), .unset, .unset] [(.ref x16), (.ref b19)])) rfl (by rw [hml]; rfl) (Steps.refl _) (argsL := [(.ref x16)]) (rest := []) (lenOf pd__Ljava_lang_String__Z rfl) rfl (by show 2 * 0 + _ ≤ _; exact Nat.le_of_eq rfl) (hb hby at_244) (fun _ _ => ⟨rfl, rfl, (by decide : 24 + 0 ≤ _), (by decide : 128 + 0 ≤ _)⟩)
  dsimp only [Pt.U, Pt.locs, Pt.cells, Pt.slots] at X51 l51 y51 z51 st51 hQ51
  subst l51 y51 z51
  obtain ⟨rfl, Nq51, Kq51, Er51, Ft51, Fp51⟩ := hQ51
  have N51 := Fr.app N45 Nq51
  have f62 := (f52.keep Kq51 (allS g_b19 all0))
  have f63 := (f53.keep Kq51)
  have f64 := (f54.keep Kq51 (ninS (Nat.ne_of_lt (Nat.lt_of_lt_of_le (Nat.lt_of_lt_of_le lt11 (Nat.le_trans Kq13.1 Kq16.1)) (Nat.le_of_eq g19.symm))) nin0))
  have f65 := (f55.keep Kq51 (ninS (Nat.ne_of_lt (Nat.lt_of_lt_of_le (Nat.lt_of_lt_of_le lt11 (Nat.le_trans Kq13.1 Kq16.1)) (Nat.le_of_eq g19.symm))) nin0))
  have f66 := (f56.keep Kq51 (ninS (Nat.ne_of_lt (Nat.lt_of_lt_of_le (Nat.lt_of_lt_of_le Ks11.lt (Nat.le_trans Kq13.1 Kq16.1)) (Nat.le_of_eq g19.symm))) nin0))
  obtain ⟨cq61, kq61, q61a, q61b, q61c⟩ := isOf hZ22 rfl Er51
  obtain ⟨_, _, ⟨T61, L61, k61, n61⟩, -, X61, ⟨Lc61, hQ61, l61, y61, z61⟩, st61⟩ := X51.virtualBack hx (y := (⟨"com/example/atomize/atomize/http/FieldValueReader", "nextElement", "()Z"⟩ : MethodName)) (z := (⟨"com/example/atomize/atomize/http/FieldValueReader", "nextElement", "()Z"⟩ : MethodName)) hown22 (mvT hZ22 (hw _ (List.mem_of_getElem? (i := 55) rfl))) (mvT hZ22 (hw _ (List.mem_of_getElem? (i := 56) rfl))) (notFace_of_selects (args := #[]) (mvT hZ22 (hw _ (List.mem_of_getElem? (i := 58) rfl)))) (mvT hZ22 (hw _ (List.mem_of_getElem? (i := 58) rfl))) (mvT hZ22 (hw _ (List.mem_of_getElem? (i := 57) rfl))) (by decide) (backOf (W := 0) (rmNE l Z a0 hw [] G1 G3 b19 x11 ((as.drop 0).take n) n n T51.heap n0 (Nat.le_trans Z0 (Nat.le_trans (Nat.le_trans (Nat.le_trans (Nat.le_trans (Nat.le_trans (Nat.le_trans (Nat.le_trans (Nat.le_trans (Nat.le_trans (Nat.le_trans (Nat.le_trans K1.1 Kq11.1) Kq13.1) Kq16.1) E19.1) E20.1) E22.1) Kq23.1) Kq29.1) Kq39.1) Kq45.1) Kq51.1)) EN0 f62 Er51 Ft51 Fp51 g_b19 ⟨bs11, ks11, f63, f64, f65, f66, hps11, hls11⟩ (by rw [hTl]; exact Nat.le_refl _) (own_kn hTl)) hZ22 (hw _ (List.mem_of_getElem? (i := 59) rfl)) (hw _ (List.mem_of_getElem? (i := 42) rfl)) (by decide) (by decide)) q61a q61c (g := (mkF m 251 #[.val (.int p1), .val (.int p2), .val (.int p3), .val (.int p4), .val (.int p5), .val (.ref ar), .val (.int (Int32.ofNat n)), .val (.int (1 : Int32)), .val (.int (1 : Int32)), .val (.int (Int32.ofNat k)), .val (.ref x11), .val (.ref x13), .val (.ref x16), .val (.ref b19), .val (.int (1 : Int32)), .val (.int (own_f k n)), .val (.int (own_f k n)), .val (.int (1 : Int32)), .unset] [(.ref b19)])) rfl (by rw [hml]; rfl) (Steps.refl _) (argsL := []) (rest := []) (lenOf pd___Z rfl) rfl (by show 2 * 0 + _ ≤ _; exact Nat.le_of_eq rfl) (hb hby at_251) (fun _ _ => ⟨rfl, rfl, (by decide : 24 + 0 ≤ _), (by decide : 128 + 0 ≤ _)⟩)
  dsimp only [Pt.U, Pt.locs, Pt.cells, Pt.slots] at X61 l61 y61 z61 st61 hQ61
  subst l61 y61 z61
  obtain ⟨rfl, Nq61, Kq61, Er61, Ft61, Fp61⟩ := hQ61
  have N61 := Fr.app N51 Nq61
  obtain ⟨Tv9, hv9, Lv9, Xv9, ev9, Nv9, Zv9, hhv9, stv9⟩ := cmpC p1 p2 p3 p4 p5 ar n k (1 : Int32) (1 : Int32) x11 x13 x16 b19 (own_f k n) (1 : Int32) (0 : Int32) T61.heap n0 X61 hx hZ22 hw hby hml hown22 rfl N61 (Nat.le_trans Z0 (Nat.le_trans (Nat.le_trans (Nat.le_trans (Nat.le_trans (Nat.le_trans (Nat.le_trans (Nat.le_trans (Nat.le_trans (Nat.le_trans (Nat.le_trans (Nat.le_trans (Nat.le_trans K1.1 Kq11.1) Kq13.1) Kq16.1) E19.1) E20.1) E22.1) Kq23.1) Kq29.1) Kq39.1) Kq45.1) Kq51.1) Kq61.1)) hn hkn
  have ev9b := ev9.trans hhv9
  obtain ⟨fs, hr, hrun, hended, hfin⟩ := Xv9.leaveW hS22 (by rw [ev9b]; exact (Nat.le_trans hk22 (Nat.le_trans (Nat.le_trans (Nat.le_trans (Nat.le_trans (Nat.le_trans Kq23.1 Kq29.1) Kq39.1) Kq45.1) Kq51.1) Kq61.1))) (v := some (.int (1 : Int32))) (fun h => by rw [Bd.returns] at h; cases h)
  refine ⟨_, _, pre0 _ ?_, hrun, hended, _, _, rfl, ?_, hfin.1, hfin.2.1, hfin.2.2.1, hfin.2.2.2.mono (by decide) (by decide)⟩
  · show Steps p.tables e below (s₁.setTop (mkF m 0 #[.val (.int p1), .val (.int p2), .val (.int p3), .val (.int p4), .val (.int p5), .unset, .unset, .unset, .unset, .unset, .unset, .unset, .unset, .unset, .unset, .unset, .unset, .unset, .unset] [])) _
    refine st1 _ ?_
    show Steps p.tables e below (T1.setTop (mkF m 33 #[.val (.int p1), .val (.int p2), .val (.int p3), .val (.int p4), .val (.int p5), .val (.ref ar), .unset, .unset, .unset, .unset, .unset, .unset, .unset, .unset, .unset, .unset, .unset, .unset, .unset] [])) _
    refine XS.iload X1.here hx rfl (hb hby at_33) rfl ?_
    refine XS.iconst X1.here hx rfl (hb hby at_35) ?_
    refine XS.iushr X1.here hx rfl (hb hby at_36) rfl ?_
    refine XS.bipush X1.here hx rfl (hb hby at_37) ?_
    refine XS.iand X1.here hx rfl (hb hby at_39) rfl ?_
    refine XS.iconst X1.here hx rfl (hb hby at_40) ?_
    show Steps p.tables e below (T1.setTop (mkF m 41 #[.val (.int p1), .val (.int p2), .val (.int p3), .val (.int p4), .val (.int p5), .val (.ref ar), .unset, .unset, .unset, .unset, .unset, .unset, .unset, .unset, .unset, .unset, .unset, .unset, .unset] [(.int (5 : Int32)), (.int (((p5.toUInt32 >>> ((1 : Int32) &&& 31).toUInt32).toInt32) &&& (7 : Int32)))])) _
    refine iremM X1 hx (g := (mkF m 41 #[.val (.int p1), .val (.int p2), .val (.int p3), .val (.int p4), .val (.int p5), .val (.ref ar), .unset, .unset, .unset, .unset, .unset, .unset, .unset, .unset, .unset, .unset, .unset, .unset, .unset] [(.int (5 : Int32)), (.int (((p5.toUInt32 >>> ((1 : Int32) &&& 31).toUInt32).toInt32) &&& (7 : Int32)))])) rfl (hb hby at_41) rfl (by decide) ?_
    show Steps p.tables e below (T1.setTop (mkF m 42 #[.val (.int p1), .val (.int p2), .val (.int p3), .val (.int p4), .val (.int p5), .val (.ref ar), .unset, .unset, .unset, .unset, .unset, .unset, .unset, .unset, .unset, .unset, .unset, .unset, .unset] [(.int ((((p5.toUInt32 >>> ((1 : Int32) &&& 31).toUInt32).toInt32) &&& (7 : Int32)) % (5 : Int32)))])) _
    rw [hn5]
    show Steps p.tables e below (T1.setTop (mkF m 42 #[.val (.int p1), .val (.int p2), .val (.int p3), .val (.int p4), .val (.int p5), .val (.ref ar), .unset, .unset, .unset, .unset, .unset, .unset, .unset, .unset, .unset, .unset, .unset, .unset, .unset] [(.int (Int32.ofNat n))])) _
    refine XS.istore X1.here hx rfl (hb hby at_42) rfl (l' := #[.val (.int p1), .val (.int p2), .val (.int p3), .val (.int p4), .val (.int p5), .val (.ref ar), .val (.int (Int32.ofNat n)), .unset, .unset, .unset, .unset, .unset, .unset, .unset, .unset, .unset, .unset, .unset, .unset]) rfl ?_
    refine XS.iload X1.here hx rfl (hb hby at_44) rfl ?_
    refine XS.iconst X1.here hx rfl (hb hby at_46) ?_
    refine XS.iand X1.here hx rfl (hb hby at_47) rfl ?_
    refine XS.ifNo X1.here hx rfl (hb hby at_48) rfl ((if0 _ _).trans (feq hc48).1) ?_
    refine XS.iload X1.here hx rfl (hb hby at_51) rfl ?_
    refine XS.iconst X1.here hx rfl (hb hby at_53) ?_
    refine XS.icmpNo X1.here hx rfl (hb hby at_54) rfl (flt hc54).1 ?_
    refine XS.iconst X1.here hx rfl (hb hby at_57) ?_
    refine XS.goto X1.here hx rfl (pc0 := 58) (pc' := 62) rfl (hb hby at_58) (by decide) (by decide) ?_
    refine XS.istore X1.here hx rfl (hb hby at_62) rfl (l' := #[.val (.int p1), .val (.int p2), .val (.int p3), .val (.int p4), .val (.int p5), .val (.ref ar), .val (.int (Int32.ofNat n)), .val (.int (1 : Int32)), .unset, .unset, .unset, .unset, .unset, .unset, .unset, .unset, .unset, .unset, .unset]) rfl ?_
    show Steps p.tables e below (T1.setTop (mkF m 64 #[.val (.int p1), .val (.int p2), .val (.int p3), .val (.int p4), .val (.int p5), .val (.ref ar), .val (.int (Int32.ofNat n)), .val (.int (1 : Int32)), .unset, .unset, .unset, .unset, .unset, .unset, .unset, .unset, .unset, .unset, .unset] [])) _
    refine XS.iload X1.here hx rfl (hb hby at_64) rfl ?_
    refine XS.ifNo X1.here hx rfl (hb hby at_66) rfl ((if0 _ _).trans (feq (by decide : ¬ ((1 : Int32) = (0 : Int32)))).1) ?_
    refine XS.iconst X1.here hx rfl (hb hby at_69) ?_
    refine XS.goto X1.here hx rfl (pc0 := 70) (pc' := 74) rfl (hb hby at_70) (by decide) (by decide) ?_
    refine XS.istore X1.here hx rfl (hb hby at_74) rfl (l' := #[.val (.int p1), .val (.int p2), .val (.int p3), .val (.int p4), .val (.int p5), .val (.ref ar), .val (.int (Int32.ofNat n)), .val (.int (1 : Int32)), .val (.int (1 : Int32)), .unset, .unset, .unset, .unset, .unset, .unset, .unset, .unset, .unset, .unset]) rfl ?_
    refine XS.iload X1.here hx rfl (hb hby at_76) rfl ?_
    refine XS.istore X1.here hx rfl (hb hby at_78) rfl (l' := #[.val (.int p1), .val (.int p2), .val (.int p3), .val (.int p4), .val (.int p5), .val (.ref ar), .val (.int (Int32.ofNat n)), .val (.int (1 : Int32)), .val (.int (1 : Int32)), .val (.int (1 : Int32)), .unset, .unset, .unset, .unset, .unset, .unset, .unset, .unset, .unset]) rfl ?_
    show Steps p.tables e below (T1.setTop (mkF m 80 #[.val (.int p1), .val (.int p2), .val (.int p3), .val (.int p4), .val (.int p5), .val (.ref ar), .val (.int (Int32.ofNat n)), .val (.int (1 : Int32)), .val (.int (1 : Int32)), .val (.int (Int32.ofNat 1)), .unset, .unset, .unset, .unset, .unset, .unset, .unset, .unset, .unset] [])) _
    show Steps p.tables e below (T1.setTop (mkF m 80 #[.val (.int p1), .val (.int p2), .val (.int p3), .val (.int p4), .val (.int p5), .val (.ref ar), .val (.int (Int32.ofNat n)), .val (.int (1 : Int32)), .val (.int (1 : Int32)), .val (.int (Int32.ofNat 1)), .unset, .unset, .unset, .unset, .unset, .unset, .unset, .unset, .unset] [])) _
    refine stv0 _ ?_
    show Steps p.tables e below (Tv0.setTop (mkF m 101 #[.val (.int p1), .val (.int p2), .val (.int p3), .val (.int p4), .val (.int p5), .val (.ref ar), .val (.int (Int32.ofNat n)), .val (.int (1 : Int32)), .val (.int (1 : Int32)), .val (.int (Int32.ofNat (own_step as n 1))), .unset, .unset, .unset, .unset, .unset, .unset, .unset, .unset, .unset] [])) _
    refine stv1 _ ?_
    show Steps p.tables e below (Tv1.setTop (mkF m 122 #[.val (.int p1), .val (.int p2), .val (.int p3), .val (.int p4), .val (.int p5), .val (.ref ar), .val (.int (Int32.ofNat n)), .val (.int (1 : Int32)), .val (.int (1 : Int32)), .val (.int (Int32.ofNat (own_step as n (own_step as n 1)))), .unset, .unset, .unset, .unset, .unset, .unset, .unset, .unset, .unset] [])) _
    refine stv2 _ ?_
    show Steps p.tables e below (Tv2.setTop (mkF m 143 #[.val (.int p1), .val (.int p2), .val (.int p3), .val (.int p4), .val (.int p5), .val (.ref ar), .val (.int (Int32.ofNat n)), .val (.int (1 : Int32)), .val (.int (1 : Int32)), .val (.int (Int32.ofNat (own_step as n (own_step as n (own_step as n 1))))), .unset, .unset, .unset, .unset, .unset, .unset, .unset, .unset, .unset] [])) _
    refine stv3 _ ?_
    show Steps p.tables e below (Tv3.setTop (mkF m 164 #[.val (.int p1), .val (.int p2), .val (.int p3), .val (.int p4), .val (.int p5), .val (.ref ar), .val (.int (Int32.ofNat n)), .val (.int (1 : Int32)), .val (.int (1 : Int32)), .val (.int (Int32.ofNat (own_step as n (own_step as n (own_step as n (own_step as n 1)))))), .unset, .unset, .unset, .unset, .unset, .unset, .unset, .unset, .unset] [])) _
    rw [(show (own_step as n (own_step as n (own_step as n (own_step as n 1)))) = k from hk)]
    show Steps p.tables e below (Tv3.setTop (mkF m 164 #[.val (.int p1), .val (.int p2), .val (.int p3), .val (.int p4), .val (.int p5), .val (.ref ar), .val (.int (Int32.ofNat n)), .val (.int (1 : Int32)), .val (.int (1 : Int32)), .val (.int (Int32.ofNat k)), .unset, .unset, .unset, .unset, .unset, .unset, .unset, .unset, .unset] [])) _
    show Steps p.tables e below (Tv3.setTop (mkF m 164 #[.val (.int p1), .val (.int p2), .val (.int p3), .val (.int p4), .val (.int p5), .val (.ref ar), .val (.int (Int32.ofNat n)), .val (.int (1 : Int32)), .val (.int (1 : Int32)), .val (.int (Int32.ofNat k)), .unset, .unset, .unset, .unset, .unset, .unset, .unset, .unset, .unset] [])) _
    refine XS.aload Xv3.here hx rfl (hb hby at_164) rfl rfl ?_
    refine XS.iconst Xv3.here hx rfl (hb hby at_166) ?_
    refine XS.iload Xv3.here hx rfl (hb hby at_167) rfl ?_
    show Steps p.tables e below (Tv3.setTop (mkF m 169 #[.val (.int p1), .val (.int p2), .val (.int p3), .val (.int p4), .val (.int p5), .val (.ref ar), .val (.int (Int32.ofNat n)), .val (.int (1 : Int32)), .val (.int (1 : Int32)), .val (.int (Int32.ofNat k)), .unset, .unset, .unset, .unset, .unset, .unset, .unset, .unset, .unset] [(.int (Int32.ofNat n)), (.int (0 : Int32)), (.ref ar)])) _
    refine st11.trans ?_
    show Steps p.tables e below (T11.setTop (mkF m 172 #[.val (.int p1), .val (.int p2), .val (.int p3), .val (.int p4), .val (.int p5), .val (.ref ar), .val (.int (Int32.ofNat n)), .val (.int (1 : Int32)), .val (.int (1 : Int32)), .val (.int (Int32.ofNat k)), .unset, .unset, .unset, .unset, .unset, .unset, .unset, .unset, .unset] [(.ref x11)])) _
    refine XS.astore X11.here hx rfl (hb hby at_172) rfl rfl (l' := #[.val (.int p1), .val (.int p2), .val (.int p3), .val (.int p4), .val (.int p5), .val (.ref ar), .val (.int (Int32.ofNat n)), .val (.int (1 : Int32)), .val (.int (1 : Int32)), .val (.int (Int32.ofNat k)), .val (.ref x11), .unset, .unset, .unset, .unset, .unset, .unset, .unset, .unset]) rfl ?_
    refine XS.aload X11.here hx rfl (hb hby at_174) rfl rfl ?_
    refine XS.iconst X11.here hx rfl (hb hby at_176) ?_
    refine XS.iconst X11.here hx rfl (hb hby at_177) ?_
    show Steps p.tables e below (T11.setTop (mkF m 178 #[.val (.int p1), .val (.int p2), .val (.int p3), .val (.int p4), .val (.int p5), .val (.ref ar), .val (.int (Int32.ofNat n)), .val (.int (1 : Int32)), .val (.int (1 : Int32)), .val (.int (Int32.ofNat k)), .val (.ref x11), .unset, .unset, .unset, .unset, .unset, .unset, .unset, .unset] [(.int (1 : Int32)), (.int (0 : Int32)), (.ref ar)])) _
    refine st13.trans ?_
    show Steps p.tables e below (T13.setTop (mkF m 181 #[.val (.int p1), .val (.int p2), .val (.int p3), .val (.int p4), .val (.int p5), .val (.ref ar), .val (.int (Int32.ofNat n)), .val (.int (1 : Int32)), .val (.int (1 : Int32)), .val (.int (Int32.ofNat k)), .val (.ref x11), .unset, .unset, .unset, .unset, .unset, .unset, .unset, .unset] [(.ref x13)])) _
    refine XS.astore X13.here hx rfl (hb hby at_181) rfl rfl (l' := #[.val (.int p1), .val (.int p2), .val (.int p3), .val (.int p4), .val (.int p5), .val (.ref ar), .val (.int (Int32.ofNat n)), .val (.int (1 : Int32)), .val (.int (1 : Int32)), .val (.int (Int32.ofNat k)), .val (.ref x11), .val (.ref x13), .unset, .unset, .unset, .unset, .unset, .unset, .unset]) rfl ?_
    refine XS.aload X13.here hx rfl (hb hby at_183) rfl rfl ?_
    refine XS.iload X13.here hx rfl (hb hby at_185) rfl ?_
    refine XS.iload X13.here hx rfl (hb hby at_187) rfl ?_
    show Steps p.tables e below (T13.setTop (mkF m 189 #[.val (.int p1), .val (.int p2), .val (.int p3), .val (.int p4), .val (.int p5), .val (.ref ar), .val (.int (Int32.ofNat n)), .val (.int (1 : Int32)), .val (.int (1 : Int32)), .val (.int (Int32.ofNat k)), .val (.ref x11), .val (.ref x13), .unset, .unset, .unset, .unset, .unset, .unset, .unset] [(.int (Int32.ofNat n)), (.int (Int32.ofNat k)), (.ref ar)])) _
    refine st16.trans ?_
    show Steps p.tables e below (T16.setTop (mkF m 192 #[.val (.int p1), .val (.int p2), .val (.int p3), .val (.int p4), .val (.int p5), .val (.ref ar), .val (.int (Int32.ofNat n)), .val (.int (1 : Int32)), .val (.int (1 : Int32)), .val (.int (Int32.ofNat k)), .val (.ref x11), .val (.ref x13), .unset, .unset, .unset, .unset, .unset, .unset, .unset] [(.ref x16)])) _
    refine XS.astore X16.here hx rfl (hb hby at_192) rfl rfl (l' := #[.val (.int p1), .val (.int p2), .val (.int p3), .val (.int p4), .val (.int p5), .val (.ref ar), .val (.int (Int32.ofNat n)), .val (.int (1 : Int32)), .val (.int (1 : Int32)), .val (.int (Int32.ofNat k)), .val (.ref x11), .val (.ref x13), .val (.ref x16), .unset, .unset, .unset, .unset, .unset, .unset]) rfl ?_
    show Steps p.tables e below (T16.setTop (mkF m 194 #[.val (.int p1), .val (.int p2), .val (.int p3), .val (.int p4), .val (.int p5), .val (.ref ar), .val (.int (Int32.ofNat n)), .val (.int (1 : Int32)), .val (.int (1 : Int32)), .val (.int (Int32.ofNat k)), .val (.ref x11), .val (.ref x13), .val (.ref x16), .unset, .unset, .unset, .unset, .unset, .unset] [])) _
    refine st19 _ ?_
    show Steps p.tables e below (T19.setTop (mkF m 197 #[.val (.int p1), .val (.int p2), .val (.int p3), .val (.int p4), .val (.int p5), .val (.ref ar), .val (.int (Int32.ofNat n)), .val (.int (1 : Int32)), .val (.int (1 : Int32)), .val (.int (Int32.ofNat k)), .val (.ref x11), .val (.ref x13), .val (.ref x16), .unset, .unset, .unset, .unset, .unset, .unset] [(.ref b19)])) _
    refine XS.dup X19.here hx rfl (hb hby at_197) rfl rfl ?_
    show Steps p.tables e below (T19.setTop (mkF m 198 #[.val (.int p1), .val (.int p2), .val (.int p3), .val (.int p4), .val (.int p5), .val (.ref ar), .val (.int (Int32.ofNat n)), .val (.int (1 : Int32)), .val (.int (1 : Int32)), .val (.int (Int32.ofNat k)), .val (.ref x11), .val (.ref x13), .val (.ref x16), .unset, .unset, .unset, .unset, .unset, .unset] [(.ref b19), (.ref b19)])) _
    refine st20 _ ?_
    show Steps p.tables e below (T20.setTop (mkF m 200 #[.val (.int p1), .val (.int p2), .val (.int p3), .val (.int p4), .val (.int p5), .val (.ref ar), .val (.int (Int32.ofNat n)), .val (.int (1 : Int32)), .val (.int (1 : Int32)), .val (.int (Int32.ofNat k)), .val (.ref x11), .val (.ref x13), .val (.ref x16), .unset, .unset, .unset, .unset, .unset, .unset] [(.ref b20), (.ref b19), (.ref b19)])) _
    refine XS.aload X20.here hx rfl (hb hby at_200) rfl rfl ?_
    show Steps p.tables e below (T20.setTop (mkF m 202 #[.val (.int p1), .val (.int p2), .val (.int p3), .val (.int p4), .val (.int p5), .val (.ref ar), .val (.int (Int32.ofNat n)), .val (.int (1 : Int32)), .val (.int (1 : Int32)), .val (.int (Int32.ofNat k)), .val (.ref x11), .val (.ref x13), .val (.ref x16), .unset, .unset, .unset, .unset, .unset, .unset] [(.ref x11), (.ref b20), (.ref b19), (.ref b19)])) _
    refine st22 _ ?_
    show Steps p.tables e below (T22.setTop (mkF m 204 #[.val (.int p1), .val (.int p2), .val (.int p3), .val (.int p4), .val (.int p5), .val (.ref ar), .val (.int (Int32.ofNat n)), .val (.int (1 : Int32)), .val (.int (1 : Int32)), .val (.int (Int32.ofNat k)), .val (.ref x11), .val (.ref x13), .val (.ref x16), .unset, .unset, .unset, .unset, .unset, .unset] [(.ref b22), (.ref x11), (.ref b20), (.ref b19), (.ref b19)])) _
    refine st23.trans ?_
    show Steps p.tables e below (T23.setTop (mkF m 207 #[.val (.int p1), .val (.int p2), .val (.int p3), .val (.int p4), .val (.int p5), .val (.ref ar), .val (.int (Int32.ofNat n)), .val (.int (1 : Int32)), .val (.int (1 : Int32)), .val (.int (Int32.ofNat k)), .val (.ref x11), .val (.ref x13), .val (.ref x16), .unset, .unset, .unset, .unset, .unset, .unset] [(.ref b19)])) _
    refine XS.astore X23.here hx rfl (hb hby at_207) rfl rfl (l' := #[.val (.int p1), .val (.int p2), .val (.int p3), .val (.int p4), .val (.int p5), .val (.ref ar), .val (.int (Int32.ofNat n)), .val (.int (1 : Int32)), .val (.int (1 : Int32)), .val (.int (Int32.ofNat k)), .val (.ref x11), .val (.ref x13), .val (.ref x16), .val (.ref b19), .unset, .unset, .unset, .unset, .unset]) rfl ?_
    refine XS.iconst X23.here hx rfl (hb hby at_209) ?_
    refine XS.istore X23.here hx rfl (hb hby at_210) rfl (l' := #[.val (.int p1), .val (.int p2), .val (.int p3), .val (.int p4), .val (.int p5), .val (.ref ar), .val (.int (Int32.ofNat n)), .val (.int (1 : Int32)), .val (.int (1 : Int32)), .val (.int (Int32.ofNat k)), .val (.ref x11), .val (.ref x13), .val (.ref x16), .val (.ref b19), .val (.int (1 : Int32)), .unset, .unset, .unset, .unset]) rfl ?_
    refine XS.iload X23.here hx rfl (hb hby at_212) rfl ?_
    refine XS.ifNo X23.here hx rfl (hb hby at_214) rfl ((if0 _ _).trans (feq (by decide : ¬ ((1 : Int32) = (0 : Int32)))).1) ?_
    refine XS.aload X23.here hx rfl (hb hby at_217) rfl rfl ?_
    refine XS.aload X23.here hx rfl (hb hby at_219) rfl rfl ?_
    show Steps p.tables e below (T23.setTop (mkF m 221 #[.val (.int p1), .val (.int p2), .val (.int p3), .val (.int p4), .val (.int p5), .val (.ref ar), .val (.int (Int32.ofNat n)), .val (.int (1 : Int32)), .val (.int (1 : Int32)), .val (.int (Int32.ofNat k)), .val (.ref x11), .val (.ref x13), .val (.ref x16), .val (.ref b19), .val (.int (1 : Int32)), .unset, .unset, .unset, .unset] [(.ref x13), (.ref b19)])) _
    refine st29.trans ?_
    show Steps p.tables e below (T29.setTop (mkF m 224 #[.val (.int p1), .val (.int p2), .val (.int p3), .val (.int p4), .val (.int p5), .val (.ref ar), .val (.int (Int32.ofNat n)), .val (.int (1 : Int32)), .val (.int (1 : Int32)), .val (.int (Int32.ofNat k)), .val (.ref x11), .val (.ref x13), .val (.ref x16), .val (.ref b19), .val (.int (1 : Int32)), .unset, .unset, .unset, .unset] [(.int (1 : Int32))])) _
    refine XS.istore X29.here hx rfl (hb hby at_224) rfl (l' := #[.val (.int p1), .val (.int p2), .val (.int p3), .val (.int p4), .val (.int p5), .val (.ref ar), .val (.int (Int32.ofNat n)), .val (.int (1 : Int32)), .val (.int (1 : Int32)), .val (.int (Int32.ofNat k)), .val (.ref x11), .val (.ref x13), .val (.ref x16), .val (.ref b19), .val (.int (1 : Int32)), .unset, .unset, .unset, .unset]) rfl ?_
    refine XS.aload X29.here hx rfl (hb hby at_226) rfl rfl ?_
    show Steps p.tables e below (T29.setTop (mkF m 228 #[.val (.int p1), .val (.int p2), .val (.int p3), .val (.int p4), .val (.int p5), .val (.ref ar), .val (.int (Int32.ofNat n)), .val (.int (1 : Int32)), .val (.int (1 : Int32)), .val (.int (Int32.ofNat k)), .val (.ref x11), .val (.ref x13), .val (.ref x16), .val (.ref b19), .val (.int (1 : Int32)), .unset, .unset, .unset, .unset] [(.ref b19)])) _
    refine st39.trans ?_
    show Steps p.tables e below (T39.setTop (mkF m 231 #[.val (.int p1), .val (.int p2), .val (.int p3), .val (.int p4), .val (.int p5), .val (.ref ar), .val (.int (Int32.ofNat n)), .val (.int (1 : Int32)), .val (.int (1 : Int32)), .val (.int (Int32.ofNat k)), .val (.ref x11), .val (.ref x13), .val (.ref x16), .val (.ref b19), .val (.int (1 : Int32)), .unset, .unset, .unset, .unset] [(.int (own_f k ((as.drop 0).take n).length))])) _
    rw [(show own_f k ((as.drop 0).take n).length = own_f k n by rw [hTl])]
    show Steps p.tables e below (T39.setTop (mkF m 231 #[.val (.int p1), .val (.int p2), .val (.int p3), .val (.int p4), .val (.int p5), .val (.ref ar), .val (.int (Int32.ofNat n)), .val (.int (1 : Int32)), .val (.int (1 : Int32)), .val (.int (Int32.ofNat k)), .val (.ref x11), .val (.ref x13), .val (.ref x16), .val (.ref b19), .val (.int (1 : Int32)), .unset, .unset, .unset, .unset] [(.int (own_f k n))])) _
    refine XS.istore X39.here hx rfl (hb hby at_231) rfl (l' := #[.val (.int p1), .val (.int p2), .val (.int p3), .val (.int p4), .val (.int p5), .val (.ref ar), .val (.int (Int32.ofNat n)), .val (.int (1 : Int32)), .val (.int (1 : Int32)), .val (.int (Int32.ofNat k)), .val (.ref x11), .val (.ref x13), .val (.ref x16), .val (.ref b19), .val (.int (1 : Int32)), .val (.int (own_f k n)), .unset, .unset, .unset]) rfl ?_
    refine XS.aload X39.here hx rfl (hb hby at_233) rfl rfl ?_
    show Steps p.tables e below (T39.setTop (mkF m 235 #[.val (.int p1), .val (.int p2), .val (.int p3), .val (.int p4), .val (.int p5), .val (.ref ar), .val (.int (Int32.ofNat n)), .val (.int (1 : Int32)), .val (.int (1 : Int32)), .val (.int (Int32.ofNat k)), .val (.ref x11), .val (.ref x13), .val (.ref x16), .val (.ref b19), .val (.int (1 : Int32)), .val (.int (own_f k n)), .unset, .unset, .unset] [(.ref b19)])) _
    refine st45.trans ?_
    show Steps p.tables e below (T45.setTop (mkF m 238 #[.val (.int p1), .val (.int p2), .val (.int p3), .val (.int p4), .val (.int p5), .val (.ref ar), .val (.int (Int32.ofNat n)), .val (.int (1 : Int32)), .val (.int (1 : Int32)), .val (.int (Int32.ofNat k)), .val (.ref x11), .val (.ref x13), .val (.ref x16), .val (.ref b19), .val (.int (1 : Int32)), .val (.int (own_f k n)), .unset, .unset, .unset] [(.int (own_f k ((as.drop 0).take n).length))])) _
    rw [(show own_f k ((as.drop 0).take n).length = own_f k n by rw [hTl])]
    show Steps p.tables e below (T45.setTop (mkF m 238 #[.val (.int p1), .val (.int p2), .val (.int p3), .val (.int p4), .val (.int p5), .val (.ref ar), .val (.int (Int32.ofNat n)), .val (.int (1 : Int32)), .val (.int (1 : Int32)), .val (.int (Int32.ofNat k)), .val (.ref x11), .val (.ref x13), .val (.ref x16), .val (.ref b19), .val (.int (1 : Int32)), .val (.int (own_f k n)), .unset, .unset, .unset] [(.int (own_f k n))])) _
    refine XS.istore X45.here hx rfl (hb hby at_238) rfl (l' := #[.val (.int p1), .val (.int p2), .val (.int p3), .val (.int p4), .val (.int p5), .val (.ref ar), .val (.int (Int32.ofNat n)), .val (.int (1 : Int32)), .val (.int (1 : Int32)), .val (.int (Int32.ofNat k)), .val (.ref x11), .val (.ref x13), .val (.ref x16), .val (.ref b19), .val (.int (1 : Int32)), .val (.int (own_f k n)), .val (.int (own_f k n)), .unset, .unset]) rfl ?_
    refine XS.aload X45.here hx rfl (hb hby at_240) rfl rfl ?_
    refine XS.aload X45.here hx rfl (hb hby at_242) rfl rfl ?_
    show Steps p.tables e below (T45.setTop (mkF m 244 #[.val (.int p1), .val (.int p2), .val (.int p3), .val (.int p4), .val (.int p5), .val (.ref ar), .val (.int (Int32.ofNat n)), .val (.int (1 : Int32)), .val (.int (1 : Int32)), .val (.int (Int32.ofNat k)), .val (.ref x11), .val (.ref x13), .val (.ref x16), .val (.ref b19), .val (.int (1 : Int32)), .val (.int (own_f k n)), .val (.int (own_f k n)), .unset, .unset] [(.ref x16), (.ref b19)])) _
    refine st51.trans ?_
    show Steps p.tables e below (T51.setTop (mkF m 247 #[.val (.int p1), .val (.int p2), .val (.int p3), .val (.int p4), .val (.int p5), .val (.ref ar), .val (.int (Int32.ofNat n)), .val (.int (1 : Int32)), .val (.int (1 : Int32)), .val (.int (Int32.ofNat k)), .val (.ref x11), .val (.ref x13), .val (.ref x16), .val (.ref b19), .val (.int (1 : Int32)), .val (.int (own_f k n)), .val (.int (own_f k n)), .unset, .unset] [(.int (1 : Int32))])) _
    refine XS.istore X51.here hx rfl (hb hby at_247) rfl (l' := #[.val (.int p1), .val (.int p2), .val (.int p3), .val (.int p4), .val (.int p5), .val (.ref ar), .val (.int (Int32.ofNat n)), .val (.int (1 : Int32)), .val (.int (1 : Int32)), .val (.int (Int32.ofNat k)), .val (.ref x11), .val (.ref x13), .val (.ref x16), .val (.ref b19), .val (.int (1 : Int32)), .val (.int (own_f k n)), .val (.int (own_f k n)), .val (.int (1 : Int32)), .unset]) rfl ?_
    refine XS.aload X51.here hx rfl (hb hby at_249) rfl rfl ?_
    show Steps p.tables e below (T51.setTop (mkF m 251 #[.val (.int p1), .val (.int p2), .val (.int p3), .val (.int p4), .val (.int p5), .val (.ref ar), .val (.int (Int32.ofNat n)), .val (.int (1 : Int32)), .val (.int (1 : Int32)), .val (.int (Int32.ofNat k)), .val (.ref x11), .val (.ref x13), .val (.ref x16), .val (.ref b19), .val (.int (1 : Int32)), .val (.int (own_f k n)), .val (.int (own_f k n)), .val (.int (1 : Int32)), .unset] [(.ref b19)])) _
    refine st61.trans ?_
    show Steps p.tables e below (T61.setTop (mkF m 254 #[.val (.int p1), .val (.int p2), .val (.int p3), .val (.int p4), .val (.int p5), .val (.ref ar), .val (.int (Int32.ofNat n)), .val (.int (1 : Int32)), .val (.int (1 : Int32)), .val (.int (Int32.ofNat k)), .val (.ref x11), .val (.ref x13), .val (.ref x16), .val (.ref b19), .val (.int (1 : Int32)), .val (.int (own_f k n)), .val (.int (own_f k n)), .val (.int (1 : Int32)), .unset] [(.int (own_f n ((as.drop 0).take n).length))])) _
    rw [(show own_f n ((as.drop 0).take n).length = (0 : Int32) by rw [hTl]; exact own_f_self n)]
    show Steps p.tables e below (T61.setTop (mkF m 254 #[.val (.int p1), .val (.int p2), .val (.int p3), .val (.int p4), .val (.int p5), .val (.ref ar), .val (.int (Int32.ofNat n)), .val (.int (1 : Int32)), .val (.int (1 : Int32)), .val (.int (Int32.ofNat k)), .val (.ref x11), .val (.ref x13), .val (.ref x16), .val (.ref b19), .val (.int (1 : Int32)), .val (.int (own_f k n)), .val (.int (own_f k n)), .val (.int (1 : Int32)), .unset] [(.int (0 : Int32))])) _
    refine XS.istore X61.here hx rfl (hb hby at_254) rfl (l' := #[.val (.int p1), .val (.int p2), .val (.int p3), .val (.int p4), .val (.int p5), .val (.ref ar), .val (.int (Int32.ofNat n)), .val (.int (1 : Int32)), .val (.int (1 : Int32)), .val (.int (Int32.ofNat k)), .val (.ref x11), .val (.ref x13), .val (.ref x16), .val (.ref b19), .val (.int (1 : Int32)), .val (.int (own_f k n)), .val (.int (own_f k n)), .val (.int (1 : Int32)), .val (.int (0 : Int32))]) rfl ?_
    show Steps p.tables e below (T61.setTop (mkF m 256 #[.val (.int p1), .val (.int p2), .val (.int p3), .val (.int p4), .val (.int p5), .val (.ref ar), .val (.int (Int32.ofNat n)), .val (.int (1 : Int32)), .val (.int (1 : Int32)), .val (.int (Int32.ofNat k)), .val (.ref x11), .val (.ref x13), .val (.ref x16), .val (.ref b19), .val (.int (1 : Int32)), .val (.int (own_f k n)), .val (.int (own_f k n)), .val (.int (1 : Int32)), .val (.int (0 : Int32))] [])) _
    refine stv9 _ ?_
    show Steps p.tables e below (Tv9.setTop (mkF m 278 #[.val (.int p1), .val (.int p2), .val (.int p3), .val (.int p4), .val (.int p5), .val (.ref ar), .val (.int (Int32.ofNat n)), .val (.int (1 : Int32)), .val (.int (1 : Int32)), .val (.int (Int32.ofNat k)), .val (.ref x11), .val (.ref x13), .val (.ref x16), .val (.ref b19), .val (.int (1 : Int32)), .val (.int (own_f k n)), .val (.int (own_f k n)), .val (.int (1 : Int32)), .val (.int (0 : Int32))] [])) _
    refine XS.iload Xv9.here hx rfl (hb hby at_278) rfl ?_
    refine XS.iload Xv9.here hx rfl (hb hby at_280) rfl ?_
    refine XS.icmpNo Xv9.here hx rfl (hb hby at_282) rfl (teq (rfl : (own_f k n) = (own_f k n))).2 ?_
    refine XS.iload Xv9.here hx rfl (hb hby at_285) rfl ?_
    refine XS.ifNo Xv9.here hx rfl (hb hby at_287) rfl ((if0 _ _).trans (feq (by decide : ¬ ((1 : Int32) = (0 : Int32)))).1) ?_
    refine XS.iload Xv9.here hx rfl (hb hby at_290) rfl ?_
    refine XS.ifNo Xv9.here hx rfl (hb hby at_292) rfl ((if0 _ _).trans (teq (by decide : (0 : Int32) = (0 : Int32))).2) ?_
    refine XS.iconst Xv9.here hx rfl (hb hby at_295) ?_
    refine XS.goto Xv9.here hx rfl (pc0 := 296) (pc' := 300) rfl (hb hby at_296) (by decide) (by decide) ?_
    show Steps p.tables e below (Tv9.setTop (mkF m 300 #[.val (.int p1), .val (.int p2), .val (.int p3), .val (.int p4), .val (.int p5), .val (.ref ar), .val (.int (Int32.ofNat n)), .val (.int (1 : Int32)), .val (.int (1 : Int32)), .val (.int (Int32.ofNat k)), .val (.ref x11), .val (.ref x13), .val (.ref x16), .val (.ref b19), .val (.int (1 : Int32)), .val (.int (own_f k n)), .val (.int (own_f k n)), .val (.int (1 : Int32)), .val (.int (0 : Int32))] [(.int (1 : Int32))])) _
    exact retN Xv9 hx (t := .boolean) Bd.returns (by simp) (hb hby at_300) hr
  · show Q0 Z  h0 n0 _ Tv9.heap _
    rw [ev9b]
    exact ⟨rfl, Nv9⟩
theorem rm0 (l : Launch) (Z : State) (a0 : Array Value) (hw : ∀ d ∈ tables_1, d.before a0 Z = true) (ws : List Jvm.Cond) (G1 : Int32) (G3 : Value) (p1 p2 p3 p4 p5 : Int32) (h0 : Heap) (n0 : Nat) (Z0 : n0 ≤ h0.size) (EN : own_env Z G1 G3) (X00 : Old Z n0 h0) :
    MetFree l x (head1 (Jvm.Cond.code x code maxLocals ret :: ws) room_1) (fun a_ U_ => a_ = #[(.int p1), (.int p2), (.int p3), (.int p4), (.int p5)] ∧ Z.Warmed39 U_.vm ∧ U_.heap = h0 ∧ CHv Z consts_1 U_.vm h0) (fun _ _ _ _ _ => True) (fun _ U_ o_ U1_ => ∃ v_ L_, o_ = .returned v_ ∧ Q0 Z h0 n0 v_ U1_.heap L_ ∧ ReturnedEndW U_ o_ U1_ L_ 40 3264) := by
  obtain ⟨n, hn, hn5⟩ := own_n5 ((p5.toUInt32 >>> ((1 : Int32) &&& 31).toUInt32).toInt32)
  by_cases h1 : (p5 &&& (1 : Int32)) = (0 : Int32)
  · exact rm0_t l Z a0 hw ws G1 G3 p1 p2 p3 p4 p5 n h0 n0 Z0 EN X00 hn5 hn h1
  · by_cases h2 : (Int32.ofNat n) < (1 : Int32)
    · exact rm0_ft l Z a0 hw ws G1 G3 p1 p2 p3 p4 p5 n h0 n0 Z0 EN X00 hn5 hn h1 h2
    · exact rm0_ff l Z a0 hw ws G1 G3 p1 p2 p3 p4 p5 n h0 n0 Z0 EN X00 hn5 hn h1 h2
set_option maxRecDepth 65536 in
set_option maxHeartbeats 40000000 in
theorem comes_1 {Post : Tables → Env → Array Value → State → Outcome → State → Prop} (hpost : ∀ tb e args s v u, (limb_1_1.after args s (.returned v) u = true ∧ limb_1_2.after args s (.returned v) u = true ∧ True) → ReturnedEndW s (.returned v) u (Jvm.fieldLocs frame_1_writes args s ++ Jvm.arrayLocs frame_1_arrays args s ++ Jvm.staticLocs frame_1_statics s) 40 3264 → Post tb e args s (.returned v) u) :
    ArmFor flags0 classFile x code maxLocals ret World_1 tables_1 room_1 Calls_1 rest_1 Pre_1 Post := by
  intro l hfl _ _ p e ha hc hk s m args below hf hA hF happ hP
  obtain ⟨hcalls, hrest, hpre⟩ := hP
  obtain ⟨-, -, -, hnamed, -, -, -, hat⟩ := (Spec.applies_iff hf).mp happ
  obtain ⟨hg, hn⟩ := and_e (Cond.before_iff.mp (show (Jvm.Cond.and given_1 narrow_1).before args s = true from hpre))
  obtain ⟨g1, g2⟩ := and_e hg
  obtain ⟨ga0, gb0⟩ := and_e g2
  obtain ⟨ga1, gb1⟩ := and_e gb0
  obtain ⟨ga2, gb2⟩ := and_e gb1
  obtain ⟨ga3, gb3⟩ := and_e gb2
  obtain ⟨w0, w1, w2, w3, w4, rfl⟩ : ∃ w0 w1 w2 w3 w4 : Value, args = #[w0, w1, w2, w3, w4] := by
    have hs : args.size = 5 := by simpa [Cond.value, given_1] using g1
    obtain ⟨L⟩ := args
    match L, hs with
    | [w0, w1, w2, w3, w4], _ => exact ⟨w0, w1, w2, w3, w4, rfl⟩
  have hw := fun d (hd : d ∈ tables_1) => atoms_spec (ws := Jvm.Cond.code x code maxLocals ret :: tables_1) hat d (List.mem_cons_of_mem _ hd)
  have hfit : Fit s := fun {y c} hc i hi => by
    obtain ⟨ha, rfl⟩ := Array.getElem?_eq_some_iff.mp hc
    have q := List.all_eq_true.mp ((Array.all_eq_true_iff_forall_mem.mp hF) _ (Array.getElem_mem ha)) i (List.mem_range.mpr hi)
    simpa [Array.getElem?_eq_getElem hi] using q
  obtain ⟨hsets, hown0⟩ := atoms_of _ (rest_1_c_eq ▸ (show rest_1_c.before _ s = true from hrest))
  obtain ⟨i0, ei0⟩ := is_v ga0
  obtain rfl : w0 = (.int i0) := Option.some.inj ei0
  obtain ⟨i1, ei1⟩ := is_v ga1
  obtain rfl : w1 = (.int i1) := Option.some.inj ei1
  obtain ⟨i2, ei2⟩ := is_v ga2
  obtain rfl : w2 = (.int i2) := Option.some.inj ei2
  obtain ⟨i3, ei3⟩ := is_v ga3
  obtain rfl : w3 = (.int i3) := Option.some.inj ei3
  obtain ⟨i4, ei4⟩ := is_v gb3
  obtain rfl : w4 = (.int i4) := Option.some.inj ei4
  obtain ⟨G1, eG1⟩ := is_v (Cond.before_iff.mp (hsets _ (List.mem_of_getElem? (i := 1) rfl)))
  have O2 := Sta.start eG1 (Or.inl (hsets _ (List.mem_of_getElem? (i := 0) rfl)))
  have P5 : ¬ (G1 = (0 : Int32)) := gotF (Cond.eq_ints eG1 (Term.int_eval (0))) (not_v (Cond.before_iff.mp (hsets _ (List.mem_of_getElem? (i := 2) rfl))))
  obtain ⟨G3, eG3, rG3⟩ := isR_v (Cond.before_iff.mp (hsets _ (List.mem_of_getElem? (i := 8) rfl)))
  have O4 := Sta.start eG3 (Or.inl (hsets _ (List.mem_of_getElem? (i := 7) rfl)))
  obtain ⟨n, o, h1, h2, h3, _, L, rfl, ⟨rfl, N⟩, hq⟩ := rm0 l s _ hw tables_1 G1 G3 i0 i1 i2 i3 i4 s.heap s.heap.size (Nat.le_refl _) ⟨O2, P5, O4, rG3⟩ (Old.start s) p e ha hc hk s m _ below hf ((Spec.applies_iff_loose hf).mp happ).1 ⟨rfl, State.Warmed39.refl s, rfl, CHv.start (own_EW hw) hcalls.1 (hsets _ (List.mem_of_getElem? (i := 2) rfl)) (hw _ (List.mem_of_getElem? (i := 22) rfl)) (hw _ (List.mem_of_getElem? (i := 9) rfl))⟩ trivial
  refine ⟨n, _, h1, h2, h3, hpost _ _ _ _ _ _ ⟨Cond.after_iff.mpr rfl, Cond.after_iff.mpr (eq_i res_at (Term.int_eval (1)) rfl), trivial⟩ ⟨hq.1, hq.2.1, hq.2.2.1, (hq.2.2.2.sift fun y hy => Or.inr (N y hy)).mono (by decide) (by decide)⟩⟩
theorem main_1_1 : Claimed_1_1 := comes_1 fun _ _ _ _ _ _ h hF => ⟨h.1, hF⟩
theorem main_1_2 : Claimed_1_2 := comes_1 fun _ _ _ _ _ _ h hF => ⟨h.2.1, hF⟩
end Jvm.Pilot.@@N@@
namespace Jvm.Pilot.@@N@@
open Jvm Jvm.ClassFile Sem Op Lib Jvm.Free Jvm.Stand Jvm.Pilot.@@N@@.Jvm.D
/-! MADE BY PROGRAM (witnessworld.py) out of the Statement's table words and the real class files: 18 classes; the members and pool entries that the words name. The judged class is class 1, her method 4. -/
namespace start1
open Jvm.ClassFile
def u (s : String) : CpInfo := .utf8 (stringToUtf16 s)
/-- a pool by its gaps: so many unusable entries, then the entry; so many at the end -/
def gap : Nat → List CpInfo → List CpInfo
  | 0, r => r
  | n + 1, r => .unusable :: gap n r
def poolList (es : List (Nat × CpInfo)) (last : Nat) : List CpInfo := es.foldr (fun e r => gap e.1 (e.2 :: r)) (gap last [])
def pool (es : List (Nat × CpInfo)) (last : Nat) : Array CpInfo := ⟨poolList es last⟩
def fileOf (pool : Array CpInfo) (this : Nat) (attrs : Array Attribute := #[]) (ms : Array MethodInfo := #[]) (fl : Nat := 33) (sup : Nat := 0) (ifs : Array Nat := #[]) (fds : Array FieldInfo := #[]) : ClassFile where
  minorVersion := 0
  majorVersion := 65
  constantPool := pool
  accessFlags := fl
  thisClass := this
  superClass := sup
  interfaces := ifs
  fields := fds
  methods := ms
  attributes := attrs
def plain (name : String) (sup : Option ClassId) : Class where
  name := name
  kind := .ordinary
  loader := none
  accessFlags := 33
  super := sup
  interfaces := #[]
  cf := none
  fields := #[]
  methods := #[]
  instanceTypes := #[]
  staticTypes := #[]
  resolved := #[]
  callSites := []
  init := .initialized
  statics := none
  mirror := none

def pool0 : Array CpInfo := pool [(5, u "<init>"), (0, u "()V"), (1, .class_ 10), (1, u "java/lang/Object")] 113

def k0c0 : Code := { maxStack := 0, maxLocals := 1, code := object_method_1_code, exceptionTable := #[], attributes := #[] }
def k0m0 : Method := { name := "<init>", desc := "()V", sig := { parameters := [], returnType := none }, accessFlags := 1, code := some k0c0 }
/-- java/lang/Object -/
def k0 : Class := { plain "java/lang/Object" none with
  accessFlags := 33
  interfaces := #[]
  cf := some (fileOf pool0 8 #[] #[{ accessFlags := 1, nameIndex := 5, descriptorIndex := 6, attributes := #[] }] 33 0 #[] #[])
  fields := #[]
  methods := #[k0m0]
  instanceTypes := #[]
  staticTypes := #[]
  resolved := Array.replicate 124 none
  statics := none }

def pool1 : Array CpInfo := pool [(2, .class_ 4), (1, u "java/lang/Object"), (0, u "<init>"), (0, u "()V"), (0, .class_ 8), (0, u "java/lang/String"), (0, .methodref 7 10), (0, .nameAndType 5 11), (0, u "([C)V"), (0, .methodref 13 14), (0, .class_ 15), (0, .nameAndType 16 17), (0, u "com/example/atomize/atomize/http/FieldValueReaderNextElementPinLaw"), (0, u "draw"), (0, u "(I)C"), (0, .methodref 13 19), (0, .nameAndType 20 21), (0, u "skippable"), (0, u "(C)Z"), (0, .methodref 13 23), (0, .nameAndType 24 25), (0, u "slice"), (0, u "([CII)Ljava/lang/String;"), (0, .class_ 27), (0, u "com/example/atomize/atomize/http/FieldValueReader"), (0, .string 29), (0, u "Link"), (0, .string 31), (0, u "a list of links"), (0, .methodref 26 33), (0, .nameAndType 5 34), (0, u "(Ljava/lang/String;Ljava/lang/String;Ljava/lang/String;)V"), (0, .methodref 26 36), (0, .nameAndType 37 38), (0, u "accept"), (0, u "(Ljava/lang/String;)Z"), (0, .methodref 26 40), (0, .nameAndType 41 42), (0, u "nextElement"), (0, u "()Z"), (3, u "law"), (0, u "(IIIII)Z")] 4

def k1m0 : Method := { name := "<init>", desc := "()V", sig := { parameters := [], returnType := none }, accessFlags := 1, code := none }
def k1c1 : Code := { maxStack := 2, maxLocals := 2, code := method_2_code, exceptionTable := #[], attributes := #[] }
def k1m1 : Method := { name := "draw", desc := "(I)C", sig := { parameters := [.int], returnType := some .char }, accessFlags := 10, code := some k1c1 }
def k1c2 : Code := { maxStack := 2, maxLocals := 1, code := method_3_code, exceptionTable := #[], attributes := #[] }
def k1m2 : Method := { name := "skippable", desc := "(C)Z", sig := { parameters := [.char], returnType := some .boolean }, accessFlags := 10, code := some k1c2 }
def k1c3 : Code := { maxStack := 8, maxLocals := 4, code := method_4_code, exceptionTable := #[], attributes := #[] }
def k1m3 : Method := { name := "slice", desc := "([CII)Ljava/lang/String;", sig := { parameters := [(.array .char), .int, .int], returnType := some (.object "java/lang/String") }, accessFlags := 10, code := some k1c3 }
def k1c4 : Code := { maxStack := 5, maxLocals := 19, code := code, exceptionTable := #[], attributes := #[] }
def k1m4 : Method := { name := "law", desc := "(IIIII)Z", sig := { parameters := [.int, .int, .int, .int, .int], returnType := some .boolean }, accessFlags := 9, code := some k1c4 }
/-- com/example/atomize/atomize/http/FieldValueReaderNextElementPinLaw -/
def k1 : Class := { plain "com/example/atomize/atomize/http/FieldValueReaderNextElementPinLaw" (some 0) with
  accessFlags := 49
  interfaces := #[]
  cf := some (fileOf pool1 13 #[] #[{ accessFlags := 1, nameIndex := 5, descriptorIndex := 6, attributes := #[] }, { accessFlags := 10, nameIndex := 16, descriptorIndex := 17, attributes := #[] }, { accessFlags := 10, nameIndex := 20, descriptorIndex := 21, attributes := #[] }, { accessFlags := 10, nameIndex := 24, descriptorIndex := 25, attributes := #[] }, { accessFlags := 9, nameIndex := 46, descriptorIndex := 47, attributes := #[] }] 49 2 #[] #[])
  fields := #[]
  methods := #[k1m0, k1m1, k1m2, k1m3, k1m4]
  instanceTypes := #[]
  staticTypes := #[]
  resolved := Array.replicate 52 none
  statics := none }

def pool2 : Array CpInfo := pool [(1, .class_ 2), (0, u "java/io/Serializable"), (0, .class_ 4), (0, u "java/lang/Object")] 2

/-- java/io/Serializable -/
def k2 : Class := { plain "java/io/Serializable" (some 0) with
  accessFlags := 1537
  interfaces := #[]
  cf := some (fileOf pool2 1 #[] #[] 1537 3 #[] #[])
  fields := #[]
  methods := #[]
  instanceTypes := #[]
  staticTypes := #[]
  resolved := Array.replicate 7 none
  statics := none }

def pool3 : Array CpInfo := pool [(1, .class_ 2), (0, u "java/lang/Comparable"), (0, .class_ 4), (0, u "java/lang/Object")] 7

/-- java/lang/Comparable -/
def k3 : Class := { plain "java/lang/Comparable" (some 0) with
  accessFlags := 1537
  interfaces := #[]
  cf := some (fileOf pool3 1 #[] #[] 1537 3 #[] #[])
  fields := #[]
  methods := #[]
  instanceTypes := #[]
  staticTypes := #[]
  resolved := Array.replicate 12 none
  statics := none }

def pool4 : Array CpInfo := pool [(2, .class_ 4), (1, u "java/lang/CharSequence"), (42, .class_ 48), (0, u "java/lang/CharSequence$1CodePointIterator"), (10, .class_ 60), (0, u "java/lang/CharSequence$1CharIterator"), (5, .class_ 67), (0, u "java/lang/Object")] 63

/-- java/lang/CharSequence -/
def k4 : Class := { plain "java/lang/CharSequence" (some 0) with
  accessFlags := 1537
  interfaces := #[]
  cf := some (fileOf pool4 2 #[.nestMembers #[47, 59]] #[] 1537 66 #[] #[])
  fields := #[]
  methods := #[]
  instanceTypes := #[]
  staticTypes := #[]
  resolved := Array.replicate 131 none
  statics := none }

def pool5 : Array CpInfo := pool [(1, .class_ 2), (0, u "java/lang/constant/Constable"), (0, .class_ 4), (0, u "java/lang/Object")] 6

/-- java/lang/constant/Constable -/
def k5 : Class := { plain "java/lang/constant/Constable" (some 0) with
  accessFlags := 1537
  interfaces := #[]
  cf := some (fileOf pool5 1 #[] #[] 1537 3 #[] #[])
  fields := #[]
  methods := #[]
  instanceTypes := #[]
  staticTypes := #[]
  resolved := Array.replicate 11 none
  statics := none }

def pool6 : Array CpInfo := pool [(1, .class_ 2), (0, u "java/lang/constant/ConstantDesc"), (0, .class_ 4), (0, u "java/lang/Object")] 32

/-- java/lang/constant/ConstantDesc -/
def k6 : Class := { plain "java/lang/constant/ConstantDesc" (some 0) with
  accessFlags := 1537
  interfaces := #[]
  cf := some (fileOf pool6 1 #[] #[] 1537 3 #[] #[])
  fields := #[]
  methods := #[]
  instanceTypes := #[]
  staticTypes := #[]
  resolved := Array.replicate 37 none
  statics := none }

def pool7 : Array CpInfo := pool [(1, .methodref 2 3), (0, .class_ 4), (0, .nameAndType 5 6), (0, u "java/lang/Object"), (0, u "<init>"), (0, u "()V"), (0, .string 8), (0, u ""), (0, .fieldref 10 11), (0, .class_ 12), (0, .nameAndType 13 14), (0, u "java/lang/String"), (0, u "value"), (0, u "[B"), (0, .fieldref 10 16), (0, .nameAndType 17 18), (0, u "coder"), (0, u "B"), (2, u "hash"), (0, u "I"), (2, u "hashIsZero"), (0, u "Z"), (0, .methodref 10 28), (0, .nameAndType 5 29), (0, u "([CIILjava/lang/Void;)V"), (8, .fieldref 10 39), (0, .nameAndType 40 26), (0, u "COMPACT_STRINGS"), (1, .class_ 44), (1, u "java/lang/StringUTF16"), (0, u "compress"), (1, .methodref 42 48), (0, .nameAndType 49 50), (0, u "coderFromArrayLen"), (0, u "([BI)B"), (56, .class_ 109), (1, u "java/lang/StringLatin1"), (32, u "()Z"), (34, .methodref 42 178), (0, .nameAndType 45 179), (0, u "([CII)[B"), (154, u "()I"), (0, .methodref 10 336), (0, .nameAndType 17 337), (0, u "()B"), (25, u "([BI)C"), (12, u "([BI[BII)I"), (14, u "(II)V"), (35, u "(I)C"), (64, .methodref 10 493), (0, .nameAndType 494 142), (0, u "isLatin1"), (0, .methodref 107 496), (0, .nameAndType 497 363), (0, u "charAt"), (3, u "checkIndex"), (3, .methodref 10 506), (0, .nameAndType 507 334), (0, u "length"), (51, .class_ 561), (1, u "jdk/internal/util/ArraysSupport"), (0, u "mismatch"), (12, .class_ 576), (0, u "java/lang/CharSequence"), (22, u "CASE_INSENSITIVE_ORDER"), (0, u "Ljava/util/Comparator;"), (6, .methodref 559 608), (0, .nameAndType 562 376), (17, u "startsWith"), (0, u "(Ljava/lang/String;I)Z"), (382, u "([C)V"), (42, .fieldref 1054 1055), (0, .class_ 1056), (0, .nameAndType 1057 1058), (0, u "jdk/internal/util/Preconditions"), (0, u "SIOOBE_FORMATTER"), (0, u "Ljava/util/function/BiFunction;"), (0, .methodref 1054 1060), (0, .nameAndType 501 1061), (0, u "(IILjava/util/function/BiFunction;)I"), (39, u "serialPersistentFields"), (0, u "[Ljava/io/ObjectStreamField;"), (0, .class_ 1104), (0, u "java/lang/String$CaseInsensitiveComparator"), (1, .class_ 1107), (0, u "java/io/Serializable"), (0, .class_ 1109), (0, u "java/lang/Comparable"), (0, .class_ 1111), (0, u "java/lang/constant/Constable"), (0, .class_ 1113), (0, u "java/lang/constant/ConstantDesc"), (2, u "serialVersionUID"), (0, u "J"), (3, u "REPL"), (0, u "C"), (2, u "LATIN1"), (1, u "UTF16")] 323

def k7m0 : Method := { name := "<init>", desc := "()V", sig := { parameters := [], returnType := none }, accessFlags := 1, code := none }
def k7c1 : Code := { maxStack := 5, maxLocals := 2, code := jdk_42_method_3_code, exceptionTable := #[], attributes := #[] }
def k7m1 : Method := { name := "<init>", desc := "([C)V", sig := { parameters := [(.array .char)], returnType := none }, accessFlags := 1, code := some k7c1 }
def k7c2 : Code := { maxStack := 2, maxLocals := 1, code := jdk_42_method_54_code, exceptionTable := #[], attributes := #[] }
def k7m2 : Method := { name := "length", desc := "()I", sig := { parameters := [], returnType := some .int }, accessFlags := 1, code := some k7c2 }
def k7c3 : Code := { maxStack := 2, maxLocals := 2, code := jdk_42_method_56_code, exceptionTable := #[], attributes := #[] }
def k7m3 : Method := { name := "charAt", desc := "(I)C", sig := { parameters := [.int], returnType := some .char }, accessFlags := 1, code := some k7c3 }
def k7c4 : Code := { maxStack := 5, maxLocals := 8, code := jdk_42_method_75_code, exceptionTable := #[], attributes := #[] }
def k7m4 : Method := { name := "startsWith", desc := "(Ljava/lang/String;I)Z", sig := { parameters := [(.object "java/lang/String"), .int], returnType := some .boolean }, accessFlags := 1, code := some k7c4 }
def k7c5 : Code := { maxStack := 4, maxLocals := 6, code := jdk_42_method_149_code, exceptionTable := #[], attributes := #[] }
def k7m5 : Method := { name := "<init>", desc := "([CIILjava/lang/Void;)V", sig := { parameters := [(.array .char), .int, .int, (.object "java/lang/Void")], returnType := none }, accessFlags := 2, code := some k7c5 }
def k7c6 : Code := { maxStack := 1, maxLocals := 1, code := jdk_42_method_152_code, exceptionTable := #[], attributes := #[] }
def k7m6 : Method := { name := "coder", desc := "()B", sig := { parameters := [], returnType := some .byte }, accessFlags := 0, code := some k7c6 }
def k7c7 : Code := { maxStack := 1, maxLocals := 1, code := jdk_42_method_154_code, exceptionTable := #[], attributes := #[] }
def k7m7 : Method := { name := "isLatin1", desc := "()Z", sig := { parameters := [], returnType := some .boolean }, accessFlags := 0, code := some k7c7 }
def k7c8 : Code := { maxStack := 3, maxLocals := 2, code := jdk_42_method_155_code, exceptionTable := #[], attributes := #[] }
def k7m8 : Method := { name := "checkIndex", desc := "(II)V", sig := { parameters := [.int, .int], returnType := none }, accessFlags := 8, code := some k7c8 }
/-- java/lang/String -/
def k7 : Class := { plain "java/lang/String" (some 0) with
  accessFlags := 49
  interfaces := #[2, 3, 4, 5, 6]
  cf := some (fileOf pool7 10 #[.nestMembers #[1103]] #[{ accessFlags := 1, nameIndex := 5, descriptorIndex := 6, attributes := #[] }, { accessFlags := 1, nameIndex := 5, descriptorIndex := 1010, attributes := #[] }, { accessFlags := 1, nameIndex := 507, descriptorIndex := 334, attributes := #[] }, { accessFlags := 1, nameIndex := 497, descriptorIndex := 427, attributes := #[] }, { accessFlags := 1, nameIndex := 626, descriptorIndex := 627, attributes := #[] }, { accessFlags := 2, nameIndex := 5, descriptorIndex := 29, attributes := #[] }, { accessFlags := 0, nameIndex := 17, descriptorIndex := 337, attributes := #[] }, { accessFlags := 0, nameIndex := 494, descriptorIndex := 142, attributes := #[] }, { accessFlags := 8, nameIndex := 501, descriptorIndex := 391, attributes := #[] }] 49 2 #[1106, 1108, 575, 1110, 1112] #[{ accessFlags := 18, nameIndex := 13, descriptorIndex := 14, attributes := #[] }, { accessFlags := 18, nameIndex := 17, descriptorIndex := 18, attributes := #[] }, { accessFlags := 2, nameIndex := 21, descriptorIndex := 22, attributes := #[] }, { accessFlags := 2, nameIndex := 25, descriptorIndex := 26, attributes := #[] }, { accessFlags := 26, nameIndex := 1116, descriptorIndex := 1117, attributes := #[] }, { accessFlags := 24, nameIndex := 40, descriptorIndex := 26, attributes := #[] }, { accessFlags := 26, nameIndex := 1101, descriptorIndex := 1102, attributes := #[] }, { accessFlags := 26, nameIndex := 1121, descriptorIndex := 1122, attributes := #[] }, { accessFlags := 25, nameIndex := 599, descriptorIndex := 600, attributes := #[] }, { accessFlags := 24, nameIndex := 1125, descriptorIndex := 18, attributes := #[] }, { accessFlags := 24, nameIndex := 1127, descriptorIndex := 18, attributes := #[] }])
  fields := #[{ name := "value", type := (.array .byte), accessFlags := 18, slot := 0, constantValue := 0 }, { name := "coder", type := .byte, accessFlags := 18, slot := 1, constantValue := 0 }, { name := "hash", type := .int, accessFlags := 2, slot := 2, constantValue := 0 }, { name := "hashIsZero", type := .boolean, accessFlags := 2, slot := 3, constantValue := 0 }, { name := "serialVersionUID", type := .long, accessFlags := 26, slot := 0, constantValue := 0 }, { name := "COMPACT_STRINGS", type := .boolean, accessFlags := 24, slot := 1, constantValue := 0 }, { name := "serialPersistentFields", type := (.array (.object "java/io/ObjectStreamField")), accessFlags := 26, slot := 2, constantValue := 0 }, { name := "REPL", type := .char, accessFlags := 26, slot := 3, constantValue := 0 }, { name := "CASE_INSENSITIVE_ORDER", type := (.object "java/util/Comparator"), accessFlags := 25, slot := 4, constantValue := 0 }, { name := "LATIN1", type := .byte, accessFlags := 24, slot := 5, constantValue := 0 }, { name := "UTF16", type := .byte, accessFlags := 24, slot := 6, constantValue := 0 }]
  methods := #[k7m0, k7m1, k7m2, k7m3, k7m4, k7m5, k7m6, k7m7, k7m8]
  instanceTypes := #[(.array .byte), .byte, .int, .boolean]
  staticTypes := #[.long, .boolean, (.array (.object "java/io/ObjectStreamField")), .char, (.object "java/util/Comparator"), .byte, .byte]
  resolved := Array.replicate 1451 none
  statics := some 0 }

def pool8 : Array CpInfo := pool [(6, .class_ 8), (1, u "java/lang/Object"), (0, u "<init>"), (0, u "()V"), (1, .class_ 14), (1, u "java/lang/StringUTF16"), (31, u "$assertionsDisabled"), (0, u "Z"), (13, u "HI_BYTE_SHIFT"), (0, u "I"), (2, u "LO_BYTE_SHIFT"), (49, .methodref 12 116), (0, .nameAndType 117 118), (0, u "compress"), (0, u "([CI[BII)I"), (3, u "([CII)[B"), (138, u "coderFromArrayLen"), (0, u "([BI)B"), (106, .class_ 371), (1, u "java/lang/StringUTF16$LinesSpliterator"), (58, u "MAX_LENGTH"), (196, .class_ 628), (0, u "java/lang/StringUTF16$CodePointsSpliterator"), (0, .class_ 630), (0, u "java/lang/StringUTF16$CharsSpliterator")] 4

def k8m0 : Method := { name := "<init>", desc := "()V", sig := { parameters := [], returnType := none }, accessFlags := 0, code := none }
def k8c1 : Code := { maxStack := 2, maxLocals := 2, code := jdk_52_method_15_code, exceptionTable := #[], attributes := #[] }
def k8m1 : Method := { name := "coderFromArrayLen", desc := "([BI)B", sig := { parameters := [(.array .byte), .int], returnType := some .byte }, accessFlags := 8, code := some k8c1 }
def k8c2 : Code := { maxStack := 5, maxLocals := 6, code := jdk_52_method_16_code, exceptionTable := #[], attributes := #[] }
def k8m2 : Method := { name := "compress", desc := "([CII)[B", sig := { parameters := [(.array .char), .int, .int], returnType := some (.array .byte) }, accessFlags := 9, code := some k8c2 }
def k8c3 : Code := { maxStack := 3, maxLocals := 7, code := jdk_52_method_21_code, exceptionTable := #[], attributes := #[] }
def k8m3 : Method := { name := "compress", desc := "([CI[BII)I", sig := { parameters := [(.array .char), .int, (.array .byte), .int, .int], returnType := some .int }, accessFlags := 9, code := some k8c3 }
/-- java/lang/StringUTF16 -/
def k8 : Class := { plain "java/lang/StringUTF16" (some 0) with
  accessFlags := 48
  interfaces := #[]
  cf := some (fileOf pool8 12 #[.nestMembers #[627, 629, 369]] #[{ accessFlags := 0, nameIndex := 9, descriptorIndex := 10, attributes := #[] }, { accessFlags := 8, nameIndex := 261, descriptorIndex := 262, attributes := #[] }, { accessFlags := 9, nameIndex := 117, descriptorIndex := 122, attributes := #[] }, { accessFlags := 9, nameIndex := 117, descriptorIndex := 118, attributes := #[] }] 48 6 #[] #[{ accessFlags := 26, nameIndex := 61, descriptorIndex := 62, attributes := #[] }, { accessFlags := 26, nameIndex := 65, descriptorIndex := 62, attributes := #[] }, { accessFlags := 24, nameIndex := 430, descriptorIndex := 62, attributes := #[] }, { accessFlags := 4120, nameIndex := 46, descriptorIndex := 47, attributes := #[] }])
  fields := #[{ name := "HI_BYTE_SHIFT", type := .int, accessFlags := 26, slot := 0, constantValue := 0 }, { name := "LO_BYTE_SHIFT", type := .int, accessFlags := 26, slot := 1, constantValue := 0 }, { name := "MAX_LENGTH", type := .int, accessFlags := 24, slot := 2, constantValue := 0 }, { name := "$assertionsDisabled", type := .boolean, accessFlags := 4120, slot := 3, constantValue := 0 }]
  methods := #[k8m0, k8m1, k8m2, k8m3]
  instanceTypes := #[]
  staticTypes := #[.int, .int, .int, .boolean]
  resolved := Array.replicate 635 none
  statics := none }

def pool9 : Array CpInfo := pool [(1, .methodref 2 3), (0, .class_ 4), (0, .nameAndType 5 6), (0, u "java/lang/Object"), (0, u "<init>"), (0, u "()V"), (0, .fieldref 8 9), (0, .class_ 10), (0, .nameAndType 11 12), (0, u "com/example/atomize/atomize/http/FieldValueReader"), (0, u "name"), (0, u "Ljava/lang/String;"), (0, .fieldref 8 14), (0, .nameAndType 15 12), (0, u "text"), (0, .fieldref 8 17), (0, .nameAndType 18 12), (0, u "grammar"), (0, .fieldref 8 20), (0, .nameAndType 21 22), (0, u "position"), (0, u "I"), (0, .methodref 24 25), (0, .class_ 26), (0, .nameAndType 27 28), (0, u "java/lang/String"), (0, u "length"), (0, u "()I"), (0, .methodref 24 30), (0, .nameAndType 31 32), (0, u "charAt"), (0, u "(I)C"), (0, .methodref 8 34), (0, .nameAndType 35 36), (0, u "isSpace"), (0, u "(C)Z"), (8, .methodref 24 46), (0, .nameAndType 47 48), (0, u "startsWith"), (0, u "(Ljava/lang/String;I)Z"), (32, .class_ 82), (0, u "com/example/atomize/atomize/http/FieldValueReader$Parameter"), (55, u "TOKEN_SYMBOLS"), (1, u "(Ljava/lang/String;Ljava/lang/String;Ljava/lang/String;)V"), (2, u "nextElement"), (0, u "()Z"), (1, u "accept"), (0, u "(Ljava/lang/String;)Z")] 28

def k9c0 : Code := { maxStack := 2, maxLocals := 4, code := prog_5_method_1_code, exceptionTable := #[], attributes := #[] }
def k9m0 : Method := { name := "<init>", desc := "(Ljava/lang/String;Ljava/lang/String;Ljava/lang/String;)V", sig := { parameters := [(.object "java/lang/String"), (.object "java/lang/String"), (.object "java/lang/String")], returnType := none }, accessFlags := 0, code := some k9c0 }
def k9c1 : Code := { maxStack := 3, maxLocals := 1, code := prog_5_method_2_code, exceptionTable := #[], attributes := #[] }
def k9m1 : Method := { name := "nextElement", desc := "()Z", sig := { parameters := [], returnType := some .boolean }, accessFlags := 0, code := some k9c1 }
def k9c2 : Code := { maxStack := 3, maxLocals := 3, code := prog_5_method_4_code, exceptionTable := #[], attributes := #[] }
def k9m2 : Method := { name := "accept", desc := "(Ljava/lang/String;)Z", sig := { parameters := [(.object "java/lang/String")], returnType := some .boolean }, accessFlags := 0, code := some k9c2 }
def k9c3 : Code := { maxStack := 2, maxLocals := 1, code := prog_5_method_13_code, exceptionTable := #[], attributes := #[] }
def k9m3 : Method := { name := "isSpace", desc := "(C)Z", sig := { parameters := [.char], returnType := some .boolean }, accessFlags := 10, code := some k9c3 }
/-- com/example/atomize/atomize/http/FieldValueReader -/
def k9 : Class := { plain "com/example/atomize/atomize/http/FieldValueReader" (some 0) with
  accessFlags := 48
  interfaces := #[]
  cf := some (fileOf pool9 8 #[.nestMembers #[81]] #[{ accessFlags := 0, nameIndex := 5, descriptorIndex := 140, attributes := #[] }, { accessFlags := 0, nameIndex := 143, descriptorIndex := 144, attributes := #[] }, { accessFlags := 0, nameIndex := 146, descriptorIndex := 147, attributes := #[] }, { accessFlags := 10, nameIndex := 35, descriptorIndex := 36, attributes := #[] }] 48 2 #[] #[{ accessFlags := 26, nameIndex := 138, descriptorIndex := 12, attributes := #[] }, { accessFlags := 18, nameIndex := 11, descriptorIndex := 12, attributes := #[] }, { accessFlags := 18, nameIndex := 15, descriptorIndex := 12, attributes := #[] }, { accessFlags := 18, nameIndex := 18, descriptorIndex := 12, attributes := #[] }, { accessFlags := 2, nameIndex := 21, descriptorIndex := 22, attributes := #[] }])
  fields := #[{ name := "TOKEN_SYMBOLS", type := (.object "java/lang/String"), accessFlags := 26, slot := 0, constantValue := 0 }, { name := "name", type := (.object "java/lang/String"), accessFlags := 18, slot := 0, constantValue := 0 }, { name := "text", type := (.object "java/lang/String"), accessFlags := 18, slot := 1, constantValue := 0 }, { name := "grammar", type := (.object "java/lang/String"), accessFlags := 18, slot := 2, constantValue := 0 }, { name := "position", type := .int, accessFlags := 2, slot := 3, constantValue := 0 }]
  methods := #[k9m0, k9m1, k9m2, k9m3]
  instanceTypes := #[(.object "java/lang/String"), (.object "java/lang/String"), (.object "java/lang/String"), .int]
  staticTypes := #[(.object "java/lang/String")]
  resolved := Array.replicate 176 none
  statics := none }

def pool10 : Array CpInfo := pool [(9, u "<init>"), (6, .class_ 18), (1, u "java/lang/Object"), (0, u "()V"), (1, .class_ 23), (1, u "jdk/internal/util/ArraysSupport"), (0, u "LOG2_ARRAY_LONG_INDEX_SCALE"), (0, u "I"), (2, u "U"), (0, u "Ljdk/internal/misc/Unsafe;"), (8, u "BIG_ENDIAN"), (0, u "Z"), (8, u "LOG2_BYTE_BIT_SIZE"), (4, u "LOG2_ARRAY_INT_INDEX_SCALE"), (54, u "JLA"), (0, u "Ljdk/internal/access/JavaLangAccess;"), (11, u "LOG2_ARRAY_BOOLEAN_INDEX_SCALE"), (9, u "LOG2_ARRAY_BYTE_INDEX_SCALE"), (5, u "LOG2_ARRAY_CHAR_INDEX_SCALE"), (5, u "LOG2_ARRAY_SHORT_INDEX_SCALE"), (5, u "mismatch"), (12, u "LOG2_ARRAY_FLOAT_INDEX_SCALE"), (24, u "LOG2_ARRAY_DOUBLE_INDEX_SCALE"), (89, u "T_BOOLEAN"), (2, u "T_CHAR"), (1, u "T_FLOAT"), (1, u "T_DOUBLE"), (1, u "T_BYTE"), (1, u "T_SHORT"), (1, u "T_INT"), (1, u "T_LONG"), (1, u "SOFT_MAX_ARRAY_LENGTH"), (42, u "([BI[BII)I")] 40

def k10m0 : Method := { name := "<init>", desc := "()V", sig := { parameters := [], returnType := none }, accessFlags := 2, code := none }
def k10c1 : Code := { maxStack := 8, maxLocals := 8, code := jdk_48_method_14_code, exceptionTable := #[], attributes := #[] }
def k10m1 : Method := { name := "mismatch", desc := "([BI[BII)I", sig := { parameters := [(.array .byte), .int, (.array .byte), .int, .int], returnType := some .int }, accessFlags := 9, code := some k10c1 }
/-- jdk/internal/util/ArraysSupport -/
def k10 : Class := { plain "jdk/internal/util/ArraysSupport" (some 0) with
  accessFlags := 33
  interfaces := #[]
  cf := some (fileOf pool10 21 #[] #[{ accessFlags := 2, nameIndex := 9, descriptorIndex := 19, attributes := #[] }, { accessFlags := 9, nameIndex := 149, descriptorIndex := 337, attributes := #[] }] 33 16 #[] #[{ accessFlags := 24, nameIndex := 28, descriptorIndex := 29, attributes := #[] }, { accessFlags := 26, nameIndex := 38, descriptorIndex := 39, attributes := #[] }, { accessFlags := 25, nameIndex := 121, descriptorIndex := 25, attributes := #[] }, { accessFlags := 25, nameIndex := 131, descriptorIndex := 25, attributes := #[] }, { accessFlags := 25, nameIndex := 137, descriptorIndex := 25, attributes := #[] }, { accessFlags := 25, nameIndex := 143, descriptorIndex := 25, attributes := #[] }, { accessFlags := 25, nameIndex := 53, descriptorIndex := 25, attributes := #[] }, { accessFlags := 25, nameIndex := 24, descriptorIndex := 25, attributes := #[] }, { accessFlags := 25, nameIndex := 162, descriptorIndex := 25, attributes := #[] }, { accessFlags := 25, nameIndex := 187, descriptorIndex := 25, attributes := #[] }, { accessFlags := 26, nameIndex := 48, descriptorIndex := 25, attributes := #[] }, { accessFlags := 25, nameIndex := 277, descriptorIndex := 25, attributes := #[] }, { accessFlags := 25, nameIndex := 280, descriptorIndex := 25, attributes := #[] }, { accessFlags := 25, nameIndex := 282, descriptorIndex := 25, attributes := #[] }, { accessFlags := 25, nameIndex := 284, descriptorIndex := 25, attributes := #[] }, { accessFlags := 25, nameIndex := 286, descriptorIndex := 25, attributes := #[] }, { accessFlags := 25, nameIndex := 288, descriptorIndex := 25, attributes := #[] }, { accessFlags := 25, nameIndex := 290, descriptorIndex := 25, attributes := #[] }, { accessFlags := 25, nameIndex := 292, descriptorIndex := 25, attributes := #[] }, { accessFlags := 26, nameIndex := 108, descriptorIndex := 109, attributes := #[] }, { accessFlags := 25, nameIndex := 294, descriptorIndex := 25, attributes := #[] }])
  fields := #[{ name := "U", type := (.object "jdk/internal/misc/Unsafe"), accessFlags := 24, slot := 0, constantValue := 0 }, { name := "BIG_ENDIAN", type := .boolean, accessFlags := 26, slot := 1, constantValue := 0 }, { name := "LOG2_ARRAY_BOOLEAN_INDEX_SCALE", type := .int, accessFlags := 25, slot := 2, constantValue := 0 }, { name := "LOG2_ARRAY_BYTE_INDEX_SCALE", type := .int, accessFlags := 25, slot := 3, constantValue := 0 }, { name := "LOG2_ARRAY_CHAR_INDEX_SCALE", type := .int, accessFlags := 25, slot := 4, constantValue := 0 }, { name := "LOG2_ARRAY_SHORT_INDEX_SCALE", type := .int, accessFlags := 25, slot := 5, constantValue := 0 }, { name := "LOG2_ARRAY_INT_INDEX_SCALE", type := .int, accessFlags := 25, slot := 6, constantValue := 0 }, { name := "LOG2_ARRAY_LONG_INDEX_SCALE", type := .int, accessFlags := 25, slot := 7, constantValue := 0 }, { name := "LOG2_ARRAY_FLOAT_INDEX_SCALE", type := .int, accessFlags := 25, slot := 8, constantValue := 0 }, { name := "LOG2_ARRAY_DOUBLE_INDEX_SCALE", type := .int, accessFlags := 25, slot := 9, constantValue := 0 }, { name := "LOG2_BYTE_BIT_SIZE", type := .int, accessFlags := 26, slot := 10, constantValue := 0 }, { name := "T_BOOLEAN", type := .int, accessFlags := 25, slot := 11, constantValue := 0 }, { name := "T_CHAR", type := .int, accessFlags := 25, slot := 12, constantValue := 0 }, { name := "T_FLOAT", type := .int, accessFlags := 25, slot := 13, constantValue := 0 }, { name := "T_DOUBLE", type := .int, accessFlags := 25, slot := 14, constantValue := 0 }, { name := "T_BYTE", type := .int, accessFlags := 25, slot := 15, constantValue := 0 }, { name := "T_SHORT", type := .int, accessFlags := 25, slot := 16, constantValue := 0 }, { name := "T_INT", type := .int, accessFlags := 25, slot := 17, constantValue := 0 }, { name := "T_LONG", type := .int, accessFlags := 25, slot := 18, constantValue := 0 }, { name := "JLA", type := (.object "jdk/internal/access/JavaLangAccess"), accessFlags := 26, slot := 19, constantValue := 0 }, { name := "SOFT_MAX_ARRAY_LENGTH", type := .int, accessFlags := 25, slot := 20, constantValue := 0 }]
  methods := #[k10m0, k10m1]
  instanceTypes := #[]
  staticTypes := #[(.object "jdk/internal/misc/Unsafe"), .boolean, .int, .int, .int, .int, .int, .int, .int, .int, .int, .int, .int, .int, .int, .int, .int, .int, .int, (.object "jdk/internal/access/JavaLangAccess"), .int]
  resolved := Array.replicate 378 none
  statics := none }

def pool11 : Array CpInfo := pool [(1, .class_ 2), (0, u "java/lang/String"), (1, .class_ 6), (1, u "java/lang/Object"), (0, u "<init>"), (0, u "()V"), (0, .methodref 1 10), (0, .nameAndType 11 12), (0, u "checkIndex"), (0, u "(II)V"), (1, .class_ 16), (1, u "java/lang/StringLatin1"), (36, u "([BI)C"), (67, u "$assertionsDisabled"), (0, u "Z"), (98, .class_ 223), (1, u "java/lang/StringLatin1$LinesSpliterator"), (28, u "charAt"), (137, .class_ 391), (0, u "java/lang/StringLatin1$CharsSpliterator")] 3

def k11m0 : Method := { name := "<init>", desc := "()V", sig := { parameters := [], returnType := none }, accessFlags := 0, code := none }
def k11c1 : Code := { maxStack := 2, maxLocals := 2, code := jdk_43_method_2_code, exceptionTable := #[], attributes := #[] }
def k11m1 : Method := { name := "charAt", desc := "([BI)C", sig := { parameters := [(.array .byte), .int], returnType := some .char }, accessFlags := 9, code := some k11c1 }
/-- java/lang/StringLatin1 -/
def k11 : Class := { plain "java/lang/StringLatin1" (some 0) with
  accessFlags := 48
  interfaces := #[]
  cf := some (fileOf pool11 14 #[.nestMembers #[390, 221]] #[{ accessFlags := 0, nameIndex := 7, descriptorIndex := 8, attributes := #[] }, { accessFlags := 9, nameIndex := 252, descriptorIndex := 53, attributes := #[] }] 48 4 #[] #[{ accessFlags := 4120, nameIndex := 121, descriptorIndex := 122, attributes := #[] }])
  fields := #[{ name := "$assertionsDisabled", type := .boolean, accessFlags := 4120, slot := 0, constantValue := 0 }]
  methods := #[k11m0, k11m1]
  instanceTypes := #[]
  staticTypes := #[.boolean]
  resolved := Array.replicate 395 none
  statics := none }

def pool12 : Array CpInfo := pool [(2, .class_ 4), (1, u "java/lang/Object"), (0, u "<init>"), (0, u "()V"), (17, .class_ 26), (1, u "jdk/internal/util/Preconditions"), (6, u "checkIndex"), (21, .class_ 56), (0, u "jdk/internal/util/Preconditions$4"), (57, .class_ 115), (0, u "jdk/internal/util/Preconditions$1"), (7, u "SIOOBE_FORMATTER"), (0, u "Ljava/util/function/BiFunction;"), (0, .class_ 126), (0, u "jdk/internal/util/Preconditions$2"), (3, u "AIOOBE_FORMATTER"), (0, .class_ 132), (0, u "jdk/internal/util/Preconditions$3"), (3, u "IOOBE_FORMATTER"), (41, u "(IILjava/util/function/BiFunction;)I")] 15

def k12m0 : Method := { name := "<init>", desc := "()V", sig := { parameters := [], returnType := none }, accessFlags := 1, code := none }
def k12c1 : Code := { maxStack := 3, maxLocals := 3, code := jdk_41_method_11_code, exceptionTable := #[], attributes := #[] }
def k12m1 : Method := { name := "checkIndex", desc := "(IILjava/util/function/BiFunction;)I", sig := { parameters := [.int, .int, (.object "java/util/function/BiFunction")], returnType := some .int }, accessFlags := 9, code := some k12c1 }
/-- jdk/internal/util/Preconditions -/
def k12 : Class := { plain "jdk/internal/util/Preconditions" (some 0) with
  accessFlags := 33
  interfaces := #[]
  cf := some (fileOf pool12 24 #[.nestMembers #[55, 131, 125, 114]] #[{ accessFlags := 1, nameIndex := 5, descriptorIndex := 6, attributes := #[] }, { accessFlags := 9, nameIndex := 33, descriptorIndex := 178, attributes := #[] }] 33 2 #[] #[{ accessFlags := 25, nameIndex := 123, descriptorIndex := 124, attributes := #[] }, { accessFlags := 25, nameIndex := 130, descriptorIndex := 124, attributes := #[] }, { accessFlags := 25, nameIndex := 136, descriptorIndex := 124, attributes := #[] }])
  fields := #[{ name := "SIOOBE_FORMATTER", type := (.object "java/util/function/BiFunction"), accessFlags := 25, slot := 0, constantValue := 0 }, { name := "AIOOBE_FORMATTER", type := (.object "java/util/function/BiFunction"), accessFlags := 25, slot := 1, constantValue := 0 }, { name := "IOOBE_FORMATTER", type := (.object "java/util/function/BiFunction"), accessFlags := 25, slot := 2, constantValue := 0 }]
  methods := #[k12m0, k12m1]
  instanceTypes := #[]
  staticTypes := #[(.object "java/util/function/BiFunction"), (.object "java/util/function/BiFunction"), (.object "java/util/function/BiFunction")]
  resolved := Array.replicate 194 none
  statics := some 1 }

def pool13 : Array CpInfo := pool [(1, u "java/lang/Cloneable"), (0, .class_ 1), (0, u "java/lang/Object"), (0, .class_ 3)] 3

/-- java/lang/Cloneable -/
def k13 : Class := { plain "java/lang/Cloneable" (some 0) with
  accessFlags := 1537
  interfaces := #[]
  cf := some (fileOf pool13 2 #[] #[] 1537 4 #[] #[])
  fields := #[]
  methods := #[]
  instanceTypes := #[]
  staticTypes := #[]
  resolved := Array.replicate 8 none
  statics := none }

/-- the primitive byte -/
def k14 : Class := { plain "byte" none with kind := .primitive 'B', accessFlags := 0x411 }
/-- [B -/
def k15 : Class := { plain "[B" (some 0) with kind := .array 14 .byte, interfaces := #[13, 2], accessFlags := 1041 }

/-- the primitive char -/
def k16 : Class := { plain "char" none with kind := .primitive 'C', accessFlags := 0x411 }
/-- [C -/
def k17 : Class := { plain "[C" (some 0) with kind := .array 16 .char, interfaces := #[13, 2], accessFlags := 1041 }

def heap : Heap := #[{ cls := 7, slots := #[.long 0, .int 1, .null, .int 0, .null, .int 0, .int 0], vm := .statics 7 },
  { cls := 12, slots := #[.null, .null, .null], vm := .statics 12 }]
def classes : Array Class := #[k0, k1, k2, k3, k4, k5, k6, k7, k8, k9, k10, k11, k12, k13, k14, k15, k16, k17]
def interned : List (Array UInt16 × Addr) := []
def slotsUsed : Nat := 10
def theMethod : MethodId := ⟨1, 4⟩
def args0 : Array Value := #[.int 5, .int 6, .int 7, .int 300, .int 9]
def aboutOver (below : List Frame) : State where
  vm := { classes := classes, interned := interned.toArray }
  heap := heap
  slotsUsed := slotsUsed
  threads := #[{ frames := .invoking theMethod args0 :: below }]
def below0 : List Frame := [.native { method := ⟨0, 0⟩, args := #[] }]
def about1 : State := aboutOver below0
def p0 : Program := .bare "" "" ""
def e0 : Env := launch0.env 0 0 0
theorem w_frames : about1.frames = Frame.invoking theMethod args0 :: below0 := rfl
set_option maxRecDepth 65536 in
theorem w_args : argsFit about1.vm theMethod args0 = true := by decide +kernel
set_option maxRecDepth 65536 in
theorem w_heap : heapFits about1 = true := by decide +kernel
set_option maxRecDepth 65536 in
theorem w_runnable : about1.curStatus? = some .runnable := by decide +kernel
set_option maxRecDepth 65536 in
theorem w_alone : about1.alone = true := by decide +kernel
set_option maxRecDepth 65536 in
theorem w_named : about1.methodNamed? x = some theMethod := by decide +kernel
set_option maxRecDepth 65536 in
theorem w_hears : about1.hears theMethod below0 = true := by decide +kernel
set_option maxRecDepth 65536 in
theorem w_ripe : about1.ripe theMethod args0 below0 = true := by decide +kernel
theorem w_running : about1.status = .running := rfl
set_option maxRecDepth 65536 in
theorem w_room : about1.hasRoom e0.platform room_1 = true :=
  launch0.hasRoom_least _ room_1 (by decide +kernel) (by decide +kernel) (by decide +kernel) (by decide +kernel) (by decide +kernel) (by decide +kernel)
theorem allAtoms_all (ts : List Jvm.Cond) (a : Array Jvm.Value) (st : Jvm.State) : (allAtoms ts).before a st = ts.all (fun c => c.before a st) := by
  induction ts with
  | nil => rfl
  | cons c t ih =>
    show (Jvm.Cond.and c (allAtoms t)).before a st = _
    rw [Jvm.Cond.before_and, ih, List.all_cons]
def words1 : List Jvm.Cond := Jvm.Cond.code x code maxLocals ret :: tables_1
/-- a 'code' word, met by the world's own term for the bytes: nothing is compared byte by byte -/
theorem code_word {y : MethodName} {bytes : ByteArray} {mx : Nat} {rt : Option FieldType} {a : Array Value} {s : State} {m : MethodId} {meth : Method} {c : Code} (h1 : s.methodNamed? y = some m) (h2 : s.vm.method? m = some meth) (h3 : meth.code = some c) (h4 : c.code = bytes)
    (h5 : (c.maxLocals == mx && c.exceptionTable.isEmpty && decide (c.maxStack ≤ mostOperands) && decide (meth.sig.returnType = rt) && !meth.locks && decide (parseMethodDescriptor y.desc = some meth.sig)) = true) : (Jvm.Cond.code y bytes mx rt).before a s = true := by
  simp only [Bool.and_eq_true, beq_iff_eq, Bool.not_eq_true', decide_eq_true_eq] at h5
  obtain ⟨⟨⟨⟨⟨g1, g2⟩, g3⟩, g4⟩, g5⟩, g6⟩ := h5
  simp [Cond.before, Cond.holds, Cond.value, h1, h2, h3, h4, g1, g2, g3, g4, g5, g6]
def isCode : Jvm.Cond → Bool
  | .code _ _ _ _ => true
  | _ => false
theorem all_split {L : List Jvm.Cond} {P : Jvm.Cond → Bool} (h1 : L.all (fun c => isCode c || P c) = true) (h2 : ∀ c ∈ L.filter isCode, P c = true) : L.all P = true := by
  refine List.all_eq_true.mpr fun c hc => ?_
  have h := List.all_eq_true.mp h1 c hc
  rcases Bool.eq_false_or_eq_true (isCode c) with hi | hi
  · exact h2 c (List.mem_filter.mpr ⟨hc, hi⟩)
  · simpa [hi] using h
set_option maxRecDepth 65536 in
theorem w_c0 : (Jvm.Cond.code x code maxLocals ret).before args0 about1 = true := code_word (m := ⟨1, 4⟩) (meth := k1m4) (c := k1c4) (by decide +kernel) rfl rfl rfl (by decide +kernel)
set_option maxRecDepth 65536 in
theorem w_c1 : (Jvm.Cond.code ({ cls := "com/example/atomize/atomize/http/FieldValueReaderNextElementPinLaw", name := "draw", desc := "(I)C" } : Jvm.MethodName) method_2_code (2 : Nat) (Option.some Jvm.ClassFile.FieldType.char)).before args0 about1 = true := code_word (m := ⟨1, 1⟩) (meth := k1m1) (c := k1c1) (by decide +kernel) rfl rfl rfl (by decide +kernel)
set_option maxRecDepth 65536 in
theorem w_c2 : (Jvm.Cond.code ({ cls := "com/example/atomize/atomize/http/FieldValueReaderNextElementPinLaw", name := "slice", desc := "([CII)Ljava/lang/String;" } : Jvm.MethodName) method_4_code (4 : Nat) (Option.some (Jvm.ClassFile.FieldType.object "java/lang/String"))).before args0 about1 = true := code_word (m := ⟨1, 3⟩) (meth := k1m3) (c := k1c3) (by decide +kernel) rfl rfl rfl (by decide +kernel)
set_option maxRecDepth 65536 in
theorem w_c3 : (Jvm.Cond.code ({ cls := "java/lang/String", name := "<init>", desc := "([C)V" } : Jvm.MethodName) jdk_42_method_3_code (2 : Nat) (Option.none : Option Jvm.ClassFile.FieldType)).before args0 about1 = true := code_word (m := ⟨7, 1⟩) (meth := k7m1) (c := k7c1) (by decide +kernel) rfl rfl rfl (by decide +kernel)
set_option maxRecDepth 65536 in
theorem w_c4 : (Jvm.Cond.code ({ cls := "java/lang/String", name := "<init>", desc := "([CIILjava/lang/Void;)V" } : Jvm.MethodName) jdk_42_method_149_code (6 : Nat) (Option.none : Option Jvm.ClassFile.FieldType)).before args0 about1 = true := code_word (m := ⟨7, 5⟩) (meth := k7m5) (c := k7c5) (by decide +kernel) rfl rfl rfl (by decide +kernel)
set_option maxRecDepth 65536 in
theorem w_c5 : (Jvm.Cond.code ({ cls := "java/lang/Object", name := "<init>", desc := "()V" } : Jvm.MethodName) object_method_1_code (1 : Nat) (Option.none : Option Jvm.ClassFile.FieldType)).before args0 about1 = true := code_word (m := ⟨0, 0⟩) (meth := k0m0) (c := k0c0) (by decide +kernel) rfl rfl rfl (by decide +kernel)
set_option maxRecDepth 65536 in
theorem w_c6 : (Jvm.Cond.code ({ cls := "java/lang/StringUTF16", name := "compress", desc := "([CII)[B" } : Jvm.MethodName) jdk_52_method_16_code (6 : Nat) (Option.some (Jvm.ClassFile.FieldType.array Jvm.ClassFile.FieldType.byte))).before args0 about1 = true := code_word (m := ⟨8, 2⟩) (meth := k8m2) (c := k8c2) (by decide +kernel) rfl rfl rfl (by decide +kernel)
set_option maxRecDepth 65536 in
theorem w_c7 : (Jvm.Cond.code ({ cls := "java/lang/StringUTF16", name := "compress", desc := "([CI[BII)I" } : Jvm.MethodName) jdk_52_method_21_code (7 : Nat) (Option.some Jvm.ClassFile.FieldType.int)).before args0 about1 = true := code_word (m := ⟨8, 3⟩) (meth := k8m3) (c := k8c3) (by decide +kernel) rfl rfl rfl (by decide +kernel)
set_option maxRecDepth 65536 in
theorem w_c8 : (Jvm.Cond.code ({ cls := "java/lang/StringUTF16", name := "coderFromArrayLen", desc := "([BI)B" } : Jvm.MethodName) jdk_52_method_15_code (2 : Nat) (Option.some Jvm.ClassFile.FieldType.byte)).before args0 about1 = true := code_word (m := ⟨8, 1⟩) (meth := k8m1) (c := k8c1) (by decide +kernel) rfl rfl rfl (by decide +kernel)
set_option maxRecDepth 65536 in
theorem w_c9 : (Jvm.Cond.code ({ cls := "com/example/atomize/atomize/http/FieldValueReader", name := "<init>", desc := "(Ljava/lang/String;Ljava/lang/String;Ljava/lang/String;)V" } : Jvm.MethodName) prog_5_method_1_code (4 : Nat) (Option.none : Option Jvm.ClassFile.FieldType)).before args0 about1 = true := code_word (m := ⟨9, 0⟩) (meth := k9m0) (c := k9c0) (by decide +kernel) rfl rfl rfl (by decide +kernel)
set_option maxRecDepth 65536 in
theorem w_c10 : (Jvm.Cond.code ({ cls := "com/example/atomize/atomize/http/FieldValueReader", name := "nextElement", desc := "()Z" } : Jvm.MethodName) prog_5_method_2_code (1 : Nat) (Option.some Jvm.ClassFile.FieldType.boolean)).before args0 about1 = true := code_word (m := ⟨9, 1⟩) (meth := k9m1) (c := k9c1) (by decide +kernel) rfl rfl rfl (by decide +kernel)
set_option maxRecDepth 65536 in
theorem w_c11 : (Jvm.Cond.code ({ cls := "java/lang/String", name := "length", desc := "()I" } : Jvm.MethodName) jdk_42_method_54_code (1 : Nat) (Option.some Jvm.ClassFile.FieldType.int)).before args0 about1 = true := code_word (m := ⟨7, 2⟩) (meth := k7m2) (c := k7c2) (by decide +kernel) rfl rfl rfl (by decide +kernel)
set_option maxRecDepth 65536 in
theorem w_c12 : (Jvm.Cond.code ({ cls := "java/lang/String", name := "coder", desc := "()B" } : Jvm.MethodName) jdk_42_method_152_code (1 : Nat) (Option.some Jvm.ClassFile.FieldType.byte)).before args0 about1 = true := code_word (m := ⟨7, 6⟩) (meth := k7m6) (c := k7c6) (by decide +kernel) rfl rfl rfl (by decide +kernel)
set_option maxRecDepth 65536 in
theorem w_c13 : (Jvm.Cond.code ({ cls := "com/example/atomize/atomize/http/FieldValueReader", name := "accept", desc := "(Ljava/lang/String;)Z" } : Jvm.MethodName) prog_5_method_4_code (3 : Nat) (Option.some Jvm.ClassFile.FieldType.boolean)).before args0 about1 = true := code_word (m := ⟨9, 2⟩) (meth := k9m2) (c := k9c2) (by decide +kernel) rfl rfl rfl (by decide +kernel)
set_option maxRecDepth 65536 in
theorem w_c14 : (Jvm.Cond.code ({ cls := "java/lang/String", name := "startsWith", desc := "(Ljava/lang/String;I)Z" } : Jvm.MethodName) jdk_42_method_75_code (8 : Nat) (Option.some Jvm.ClassFile.FieldType.boolean)).before args0 about1 = true := code_word (m := ⟨7, 4⟩) (meth := k7m4) (c := k7c4) (by decide +kernel) rfl rfl rfl (by decide +kernel)
set_option maxRecDepth 65536 in
theorem w_c15 : (Jvm.Cond.code ({ cls := "jdk/internal/util/ArraysSupport", name := "mismatch", desc := "([BI[BII)I" } : Jvm.MethodName) jdk_48_method_14_code (8 : Nat) (Option.some Jvm.ClassFile.FieldType.int)).before args0 about1 = true := code_word (m := ⟨10, 1⟩) (meth := k10m1) (c := k10c1) (by decide +kernel) rfl rfl rfl (by decide +kernel)
set_option maxRecDepth 65536 in
theorem w_c16 : (Jvm.Cond.code ({ cls := "com/example/atomize/atomize/http/FieldValueReaderNextElementPinLaw", name := "skippable", desc := "(C)Z" } : Jvm.MethodName) method_3_code (1 : Nat) (Option.some Jvm.ClassFile.FieldType.boolean)).before args0 about1 = true := code_word (m := ⟨1, 2⟩) (meth := k1m2) (c := k1c2) (by decide +kernel) rfl rfl rfl (by decide +kernel)
set_option maxRecDepth 65536 in
theorem w_c17 : (Jvm.Cond.code ({ cls := "java/lang/String", name := "charAt", desc := "(I)C" } : Jvm.MethodName) jdk_42_method_56_code (2 : Nat) (Option.some Jvm.ClassFile.FieldType.char)).before args0 about1 = true := code_word (m := ⟨7, 3⟩) (meth := k7m3) (c := k7c3) (by decide +kernel) rfl rfl rfl (by decide +kernel)
set_option maxRecDepth 65536 in
theorem w_c18 : (Jvm.Cond.code ({ cls := "java/lang/String", name := "isLatin1", desc := "()Z" } : Jvm.MethodName) jdk_42_method_154_code (1 : Nat) (Option.some Jvm.ClassFile.FieldType.boolean)).before args0 about1 = true := code_word (m := ⟨7, 7⟩) (meth := k7m7) (c := k7c7) (by decide +kernel) rfl rfl rfl (by decide +kernel)
set_option maxRecDepth 65536 in
theorem w_c19 : (Jvm.Cond.code ({ cls := "java/lang/StringLatin1", name := "charAt", desc := "([BI)C" } : Jvm.MethodName) jdk_43_method_2_code (2 : Nat) (Option.some Jvm.ClassFile.FieldType.char)).before args0 about1 = true := code_word (m := ⟨11, 1⟩) (meth := k11m1) (c := k11c1) (by decide +kernel) rfl rfl rfl (by decide +kernel)
set_option maxRecDepth 65536 in
theorem w_c20 : (Jvm.Cond.code ({ cls := "java/lang/String", name := "checkIndex", desc := "(II)V" } : Jvm.MethodName) jdk_42_method_155_code (2 : Nat) (Option.none : Option Jvm.ClassFile.FieldType)).before args0 about1 = true := code_word (m := ⟨7, 8⟩) (meth := k7m8) (c := k7c8) (by decide +kernel) rfl rfl rfl (by decide +kernel)
set_option maxRecDepth 65536 in
theorem w_c21 : (Jvm.Cond.code ({ cls := "jdk/internal/util/Preconditions", name := "checkIndex", desc := "(IILjava/util/function/BiFunction;)I" } : Jvm.MethodName) jdk_41_method_11_code (3 : Nat) (Option.some Jvm.ClassFile.FieldType.int)).before args0 about1 = true := code_word (m := ⟨12, 1⟩) (meth := k12m1) (c := k12c1) (by decide +kernel) rfl rfl rfl (by decide +kernel)
set_option maxRecDepth 65536 in
theorem w_c22 : (Jvm.Cond.code ({ cls := "com/example/atomize/atomize/http/FieldValueReader", name := "isSpace", desc := "(C)Z" } : Jvm.MethodName) prog_5_method_13_code (1 : Nat) (Option.some Jvm.ClassFile.FieldType.boolean)).before args0 about1 = true := code_word (m := ⟨9, 3⟩) (meth := k9m3) (c := k9c3) (by decide +kernel) rfl rfl rfl (by decide +kernel)
def codes1 : List Jvm.Cond := [Jvm.Cond.code x code maxLocals ret, Jvm.Cond.code ({ cls := "com/example/atomize/atomize/http/FieldValueReaderNextElementPinLaw", name := "draw", desc := "(I)C" } : Jvm.MethodName) method_2_code (2 : Nat) (Option.some Jvm.ClassFile.FieldType.char), Jvm.Cond.code ({ cls := "com/example/atomize/atomize/http/FieldValueReaderNextElementPinLaw", name := "slice", desc := "([CII)Ljava/lang/String;" } : Jvm.MethodName) method_4_code (4 : Nat) (Option.some (Jvm.ClassFile.FieldType.object "java/lang/String")), Jvm.Cond.code ({ cls := "java/lang/String", name := "<init>", desc := "([C)V" } : Jvm.MethodName) jdk_42_method_3_code (2 : Nat) (Option.none : Option Jvm.ClassFile.FieldType), Jvm.Cond.code ({ cls := "java/lang/String", name := "<init>", desc := "([CIILjava/lang/Void;)V" } : Jvm.MethodName) jdk_42_method_149_code (6 : Nat) (Option.none : Option Jvm.ClassFile.FieldType), Jvm.Cond.code ({ cls := "java/lang/Object", name := "<init>", desc := "()V" } : Jvm.MethodName) object_method_1_code (1 : Nat) (Option.none : Option Jvm.ClassFile.FieldType), Jvm.Cond.code ({ cls := "java/lang/StringUTF16", name := "compress", desc := "([CII)[B" } : Jvm.MethodName) jdk_52_method_16_code (6 : Nat) (Option.some (Jvm.ClassFile.FieldType.array Jvm.ClassFile.FieldType.byte)), Jvm.Cond.code ({ cls := "java/lang/StringUTF16", name := "compress", desc := "([CI[BII)I" } : Jvm.MethodName) jdk_52_method_21_code (7 : Nat) (Option.some Jvm.ClassFile.FieldType.int), Jvm.Cond.code ({ cls := "java/lang/StringUTF16", name := "coderFromArrayLen", desc := "([BI)B" } : Jvm.MethodName) jdk_52_method_15_code (2 : Nat) (Option.some Jvm.ClassFile.FieldType.byte), Jvm.Cond.code ({ cls := "com/example/atomize/atomize/http/FieldValueReader", name := "<init>", desc := "(Ljava/lang/String;Ljava/lang/String;Ljava/lang/String;)V" } : Jvm.MethodName) prog_5_method_1_code (4 : Nat) (Option.none : Option Jvm.ClassFile.FieldType), Jvm.Cond.code ({ cls := "com/example/atomize/atomize/http/FieldValueReader", name := "nextElement", desc := "()Z" } : Jvm.MethodName) prog_5_method_2_code (1 : Nat) (Option.some Jvm.ClassFile.FieldType.boolean), Jvm.Cond.code ({ cls := "java/lang/String", name := "length", desc := "()I" } : Jvm.MethodName) jdk_42_method_54_code (1 : Nat) (Option.some Jvm.ClassFile.FieldType.int), Jvm.Cond.code ({ cls := "java/lang/String", name := "coder", desc := "()B" } : Jvm.MethodName) jdk_42_method_152_code (1 : Nat) (Option.some Jvm.ClassFile.FieldType.byte), Jvm.Cond.code ({ cls := "com/example/atomize/atomize/http/FieldValueReader", name := "accept", desc := "(Ljava/lang/String;)Z" } : Jvm.MethodName) prog_5_method_4_code (3 : Nat) (Option.some Jvm.ClassFile.FieldType.boolean), Jvm.Cond.code ({ cls := "java/lang/String", name := "startsWith", desc := "(Ljava/lang/String;I)Z" } : Jvm.MethodName) jdk_42_method_75_code (8 : Nat) (Option.some Jvm.ClassFile.FieldType.boolean), Jvm.Cond.code ({ cls := "jdk/internal/util/ArraysSupport", name := "mismatch", desc := "([BI[BII)I" } : Jvm.MethodName) jdk_48_method_14_code (8 : Nat) (Option.some Jvm.ClassFile.FieldType.int), Jvm.Cond.code ({ cls := "com/example/atomize/atomize/http/FieldValueReaderNextElementPinLaw", name := "skippable", desc := "(C)Z" } : Jvm.MethodName) method_3_code (1 : Nat) (Option.some Jvm.ClassFile.FieldType.boolean), Jvm.Cond.code ({ cls := "java/lang/String", name := "charAt", desc := "(I)C" } : Jvm.MethodName) jdk_42_method_56_code (2 : Nat) (Option.some Jvm.ClassFile.FieldType.char), Jvm.Cond.code ({ cls := "java/lang/String", name := "isLatin1", desc := "()Z" } : Jvm.MethodName) jdk_42_method_154_code (1 : Nat) (Option.some Jvm.ClassFile.FieldType.boolean), Jvm.Cond.code ({ cls := "java/lang/StringLatin1", name := "charAt", desc := "([BI)C" } : Jvm.MethodName) jdk_43_method_2_code (2 : Nat) (Option.some Jvm.ClassFile.FieldType.char), Jvm.Cond.code ({ cls := "java/lang/String", name := "checkIndex", desc := "(II)V" } : Jvm.MethodName) jdk_42_method_155_code (2 : Nat) (Option.none : Option Jvm.ClassFile.FieldType), Jvm.Cond.code ({ cls := "jdk/internal/util/Preconditions", name := "checkIndex", desc := "(IILjava/util/function/BiFunction;)I" } : Jvm.MethodName) jdk_41_method_11_code (3 : Nat) (Option.some Jvm.ClassFile.FieldType.int), Jvm.Cond.code ({ cls := "com/example/atomize/atomize/http/FieldValueReader", name := "isSpace", desc := "(C)Z" } : Jvm.MethodName) prog_5_method_13_code (1 : Nat) (Option.some Jvm.ClassFile.FieldType.boolean)]
set_option maxRecDepth 65536 in
theorem codes_eq : words1.filter isCode = codes1 := rfl
theorem w_codes : ∀ c ∈ words1.filter isCode, c.before args0 about1 = true := by
  rw [codes_eq]
  intro c hc
  simp only [codes1, List.mem_cons, List.not_mem_nil, or_false] at hc
  rcases hc with rfl | rfl | rfl | rfl | rfl | rfl | rfl | rfl | rfl | rfl | rfl | rfl | rfl | rfl | rfl | rfl | rfl | rfl | rfl | rfl | rfl | rfl | rfl
  · exact w_c0
  · exact w_c1
  · exact w_c2
  · exact w_c3
  · exact w_c4
  · exact w_c5
  · exact w_c6
  · exact w_c7
  · exact w_c8
  · exact w_c9
  · exact w_c10
  · exact w_c11
  · exact w_c12
  · exact w_c13
  · exact w_c14
  · exact w_c15
  · exact w_c16
  · exact w_c17
  · exact w_c18
  · exact w_c19
  · exact w_c20
  · exact w_c21
  · exact w_c22
set_option maxRecDepth 65536 in
theorem w_t1 : (words1.take 24).all (fun c => isCode c || c.before args0 about1) = true := by decide +kernel
set_option maxRecDepth 65536 in
theorem w_t2 : ((words1.drop 24).take 24).all (fun c => isCode c || c.before args0 about1) = true := by decide +kernel
set_option maxRecDepth 65536 in
theorem w_t3 : (((words1.drop 24).drop 24).take 24).all (fun c => isCode c || c.before args0 about1) = true := by decide +kernel
set_option maxRecDepth 65536 in
theorem w_t4 : ((((words1.drop 24).drop 24).drop 24).take 24).all (fun c => isCode c || c.before args0 about1) = true := by decide +kernel
set_option maxRecDepth 65536 in
theorem w_t5 : ((((words1.drop 24).drop 24).drop 24).drop 24).all (fun c => isCode c || c.before args0 about1) = true := by decide +kernel
theorem w_tables : (allAtoms (Jvm.Cond.code x code maxLocals ret :: tables_1)).before args0 about1 = true := by
  rw [allAtoms_all]
  show words1.all (fun c => c.before args0 about1) = true
  refine all_split ?_ w_codes
  rw [← List.take_append_drop 24 words1, List.all_append, w_t1, ← List.take_append_drop 24 (words1.drop 24), List.all_append, w_t2, ← List.take_append_drop 24 ((words1.drop 24).drop 24), List.all_append, w_t3, ← List.take_append_drop 24 (((words1.drop 24).drop 24).drop 24), List.all_append, w_t4, w_t5]
  rfl
set_option maxRecDepth 65536 in
theorem w_rest : rest_1_c.before args0 about1 = true := by decide +kernel
set_option maxRecDepth 65536 in
theorem w_case : (Jvm.Cond.and given_1 narrow_1).before args0 about1 = true := by decide +kernel
set_option maxRecDepth 65536 in
theorem w_consts : constsHeld consts_1 about1 := Jvm.Lit.constsHeldB_iff.mp (by decide +kernel)
theorem w_applies : (headSpec (Jvm.Cond.code x code maxLocals ret :: tables_1) room_1).applies x e0.platform about1 = true :=
  (Spec.applies_iff w_frames).mpr ⟨w_running, w_runnable, w_alone, w_named, w_hears, w_ripe, w_room, w_tables⟩
theorem atStart : AtStart classFile x code maxLocals ret World_1 tables_1 room_1 Calls_1 rest_1 Pre_1 launch0 p0 e0 about1 theMethod args0 below0 :=
  ⟨lists_1, trivial, launch0.admits_env _ _ _, launch0.least_env, fairChoices_fair.cas, fairChoices_fair.clock, w_frames, w_args, w_heap, w_applies, ⟨w_consts, trivial⟩, w_rest, w_case⟩
end start1
theorem witness_1 : WitnessClaimed_1 := ⟨start1.p0, start1.e0, start1.about1, start1.theMethod, start1.args0, start1.below0, start1.atStart⟩
end Jvm.Pilot.@@N@@
